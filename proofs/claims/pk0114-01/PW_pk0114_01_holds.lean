import PyProof.Rows.All
import Wide.All
import OpenK.AllK
import Wide.FinOn
import Lean
import PySem.Challenge.RW_pk0114_01
open PySem PySem.W PyProof.Rows PySem.Calls PySem.Spec
set_option Elab.async false
set_option linter.all false
set_option genSizeOf false
set_option genInjectivity false
set_option genCtorIdx false
set_option bootstrap.genMatcherCode false
set_option tactic.hygienic false
namespace Mine
set_option maxRecDepth 100000 in
set_option maxHeartbeats 8000000 in
open_top hd for (PySem.Challenge.rw_pk0114_01).row
set_option maxHeartbeats 4000000
set_option maxRecDepth 100000
open List (append_assoc mem_singleton map_cons length_map mem_map mem_append append_nil map_nil mem_cons map_map map_append nil_append length_cons drop_zero filter_cons cons_append)
open Str (ofString)
open _root_.Nat renaming le_trans->Pq, le_refl->PJ, lt_of_lt_of_le->PY, succ_le_succ->Rb, le_add_right->Rd, zero_le->Rj, le_succ_of_le->Ru, lt_of_le_of_lt->RI, le_of_succ_le->RL, add_le_add->RP, ne_of_lt->RQ, lt_succ_self->RU, add_le_add_right->RX, ne_of_gt->RZ, not_lt->Sh, add_le_add_left->So, lt_irrefl->Sq, sub_self->Ss, add_sub_cancel_left->T7, le_of_lt->Tf, le_of_eq->TA, mul_le_mul_left->TJ, min_le_left->TY, le_succ->U4, lt_add_of_pos_right->U6, le_add_left->Uu, add_comm->UB, lt_trichotomy->UT, add_assoc->A5, le_of_not_lt->A8, mod_lt->Ap, not_lt_zero->Au, le_of_sub_eq_zero->AC, mul_le_mul->AM, casesOn->AN, mul_le_mul_right->af, pos_of_ne_zero->aM, lt_trans->b5, succ_ne_self->bz, min_le_right->bE, le_antisymm->bL, lt_one_iff->c7
open _root_.PySem renaming sizeLine->Pr, Value->Pu, Shared->Py, Addr->PD, strKind->PN, Heap->PO, wpAny->PP, World->Rk, Around->RE, wpAny_mono->RG, bindArgs->RW, Builtin->Sb, Stmt->Sf, wpAny_Constant_str->Sj, NameKind->Sm, starEach->Sr, typeIs_str->Sw, sliceBounds->Sy, keywordEach->SA, Keyword->SD, builtinLookup_eq_fast->SM, sysModules->SZ, call_meets->T1, methodCallForm->T4, backTo->Tc, callWith->Ti, ExceptHandler->Tl, isSubtype->To, wpAny_dictEntries->Tq, wpAny_assign_Name->Tr, backToKw->Tu, methodCall->Tv, assignEach->Tw, codeAny->TB, callWith_type->TO, Comprehension->TQ, typeLookup_type->TV, wpAny_specialOf->TW, Builtin->TX, wpAny_Constant_int->U1, IsItemIter->U3, strIterType->U5, Model->U8, PyData->U9, bootBuiltins->Ua, wpAny_pyNext_list_item->Uc, wpAny_pyNext_list_end->Ug, Const->Ul, Scope->Um, wpAny_field->Un, evalArgs->Uo, JoinOk->Ur, letOwnedTupleGo->Ut, CmpOp->Uv, codeAny_forLoop_any->Uw, seqIndex?->UD, FuncData->UG, cameBackBy->UJ, slot_list_getitem->UU, wpAny_of_eq->UV, wpAny_pyIter_list->UW, BoolOp->UY, assign->A3, binaryOp->A6, wpAny_list_append_plain->A7, Flow->A9, exec->Ac, slot_list_setitem->Ae, sliceRange->Af, wpAny_call->Ak, spliced->Am, codeAny_of_tree->Av, pushCells_keeps->Aw, wpAny_execs_nil->Ax, codeAny_call_function->Az, Operator->AH, constantsAlone->AI, wpAny_loadName_local->AK, wpAny_seqItems->AR, rawInt->AS, wpAny_alloc->AT, mergedKeywords->AU, unpackItems->AX, wpAny_listPart->AY, wpAny_bindName->AZ, unbindBehindTheSuite->a9, UnaryOp->ag, wpAny_loadName_cell->al, length_partsBetween->ar, wpAny_Constant_none->av, wpAny_Constant_bool->aw, foldedForSure->aD, evalPart_none->aF, wpAny_onRaise->aG, comprehension->aJ, wpAny_rule->aP, Reads->b4, valueAt->b8, setItem->bf, truthy->bm, strValues->bo, pushCells->bx, ExcStrFacts->bJ, limitOf->bV, wpAny_load->c8, keywordsIn->cc, pyNext->cf, closureFor->cg, handleBy->ci, cLine->cj, typeOf->cr, pyIter->ct
open _root_.PySem.Txt renaming lower->Pt, join->PU, strip->RT, swapcase->Sk, replace->Sz, split->SE, upper->Tk, splitMax->Tz, contains->Uy, slice->UC, rstripChars->Ar, mul->aZ, stripBy->bH
open _root_.PySem.Str renaming ofString->Pv, empty->PE, length_append->PL, length->Sa, mk->T6
open _root_.List renaming mem_singleton->Pw, length_append->PB, casesOn->PC, append_assoc->PF, length_map->PH, append_nil->PQ, all_eq_true->PS, mem_append->PT, getElem?_eq_getElem->PW, getElem?_eq_some_iff->R0, mem_append_right->Ra, isEmpty_iff->Rf, mem_map->Ri, map->Rm, getElem?_append_right->Rn, mem_append_left->Ro, mem_cons->Rq, mem_of_getElem?->Rr, map_append->Rt, replicate->Rw, getElem_mem->Rx, lookup_cons->Ry, getElem?_append_left->RB, getElem?_eq_none->RC, forall_mem_cons->RH, mem_filter->RM, map_cons->RO, contains_iff_mem->RR, mem_map_of_mem->RS, size_toArray->RV, length_filter_le->RY, getD_eq_getElem?_getD->S7, drop_eq_getElem_cons->S9, lookup->Sg, length->Sp, map_map->Su, forIn_cons->SI, map_congr_left->SJ, filter_append->SL, set_append_right->SP, getElem?_eq_none_iff->SS, getElem?_map->SV, length_cons->SW, take_succ_eq_append_getElem->SX, map_eq_nil_iff->T3, forIn_nil->T5, length_take->T8, take_append_of_le_length->Ta, take_of_length_le->Tg, singleton_append->Tp, flatMap_cons->Ts, dropWhile_cons_of_pos->Tx, mem_reverse->TC, drop_length->TD, replicate_succ->TG, reverse_append->TP, any_cons->TR, filterMap_cons_some->TS, sum_cons->TT, nil_append->U2, length_range->Ue, mem_range->Uf, mem_flatMap->Ui, all_cons->Uj, reverse_reverse->Up, nodup_cons->Us, mem_filterMap->UF, nodup_nil->UL, range->UM, dropWhile_cons_of_neg->UN, extract_eq_take_drop->UR, nodup_append->US, filter_congr->UX, drop_zero->Ad, getElem?_set_self->Ai, map_nil->Al, any_map->An, filter_eq_nil_iff->Aq, find?_cons->As, pairwise_reverse->AA, dropWhile_append->AF, dropWhile_suffix->AG, getElem?_set_ne->AL, cons_append->AW, dropWhile->ae, getElem_of_mem->ak, filterMap_cons->ao, filter_sublist->au, filter_eq_self->ax, takeWhile_cons->ay, dropWhile_cons->az, filter_flatMap->aA, length_reverse->aC, zip_nil_right->aT, forIn_toArray->aW, findIdx?_cons->aX, filter_filter->aY, flatten_cons->b7, reverse_cons->bb, any_eq_false->bj, foldl_append->bl, mem_toArray->bq, map_fst_zip->br, isEmpty_map->bB, take_length->bC, append_inj'->bF, range_succ->bM, sum_append->bO, filter_map->bP, any_append->bQ, foldl->bY, take->cq
open _root_.PySem.PyData renaming strOk->Pz, depthAll->Rz, canLayAll0->RD, eqv->Sn, list->SU, eqvAll->TU, tuple->Ag, str->Ao
open _root_.Option renaming bind_some->PK, isSome_iff_exists->Se, map_eq_some_iff->Sv, isSome_none->Td, isNone_iff_eq_none->TE, map_some->Ay, none->AV, getD_none->bD
open _root_.PySem.Expr renaming casesOn->PZ
open _root_.Bool renaming false_eq_true->R7, and_eq_true->Rl, not_eq_true'->S8, false_ne_true->Te, or_eq_true->Tj, or_false->A1, false_and->c6
open _root_.PySem.Heap renaming get?_push_size->Rg, lt_size->RJ, SameBut->RK, size_push->SK, get?_update_self->SO, get?_push_of_some->Ah, get?_update_other->Aj, NewExc->bG, NotedW->bI
open _root_.Prod renaming snd->Rh, fst->RN, ext->cu
open _root_.PySem.Unicode renaming isSpace->Rp
open _root_.Except renaming ok->Rs
open _root_.Int renaming toNat->RA, ofNat_lt->SY, toNat_natCast->Ud, toNat_of_nonneg->Ux, natCast_nonneg->UI, fmod->bX
open _root_.PySem.Sre.M renaming runFor->Sl, step->aO
open _root_.PySem.W renaming emptyDict->SF, instObj->Uz, findIn->bu
open _root_.ForInStep renaming yield->SH
open _root_.Ne renaming symm->SN
open _root_.PySem.StrLaws renaming glued_eq_join->SQ, occ_length_le_len->UO
open _root_.Int.ofNat renaming inj->T2
open _root_.PySem.Calls renaming spliced_nil->T9, Name_function_global->AJ, evalArgs_plain->AP
open _root_.PySem.Stmt renaming casesOn->Tb
open _root_.PySem.Value renaming isStrOf->Tn, isStrOf_shape->TM, none->U0, ref->ai, type->ce, str->cn
open _root_.Array renaming getElem?_eq_some_iff->Tt, length_toList->TK, ext'->UE, getElem?_toList->AE, toList_extract->aa, getD->aN, all_eq_true->bh, all_toList->bA
open _root_.PySem.Heap.SameBut renaming update->TH
open _root_.PySem.Builtin.Str renaming strKind->TI, tooLong->am
open _root_.True renaming intro->TZ
open _root_.PySem.CmpOp renaming NotIn->U7
open _root_.PySem.Sre renaming M->Ub, Seen->AQ, ops->ah, inSet->ck
open _root_.PUnit renaming unit->Uh
open _root_.PySem.NameKind renaming free->Uk, cell->aH
open _root_.PySem.Challenge renaming rw_pk0114_01->Uq
open _root_.PySem.Builtin.List renaming listSubscript?->UA, listTooLong->UZ, listSameRef->A4
open _root_.PyProof.Rows renaming assignInOrder_cons->UH, tail_any->AO, subscriptTail->aE, isTrue_plain->bc, IntsAre->bU
open _root_.PySem.F renaming called_str->UK, excStr_ValueError->UP, excStr_IndexError->UQ, slot_dict_items->Ab
open _root_.PySem.Expr.UnaryOp renaming sizeOf_spec->A0
open _root_.PySem.Expr.BoolOp renaming sizeOf_spec->Aa
open _root_.List.cons renaming sizeOf_spec->AD, inj->aK
open _root_.PySem.Manifest renaming find?->a8
open _root_.PySem.Flow renaming next->aj
open _root_.PySem.P renaming getItem_str->aq
open _root_.PySem.Obj renaming data_mapFields->aQ, mapSeq->bZ
open _root_.PySem.Heap.IsSliceOf renaming new->aU
open _root_.ForIn renaming forIn->ba
open _root_.ToString renaming toString->bg
open _root_.List.Sublist renaming map->bp
open _root_.LawfulMonad renaming pure_bind->bv
open _root_.SizeOf renaming sizeOf->c9
noncomputable abbrev prog : Program := Uq.row.toRowW.prog
set_option genCtorIdx true in
inductive PV where
 | none | bool (b : Bool) | int (i : Int) | str (s : Str) | tup (l : List PV) | loc (n : Nat) | val (v : Pu) | il (l : List Int)
inductive q8 where
 | list (l : List PV)
 | dict (l : List (Str × PV))
 | inst (d : Nat)
 | kw (l : List (Str × PV))
abbrev q4 := List q8
abbrev Loc := List (Str × PV)
abbrev Ps := List (Str × Str)
structure LE where
 sc : List (Str × Sm)
 vs : Loc
mutual
inductive Rv (hT : PO) (ρ : List PD) (h : PO) : Pu -> PV -> Prop where
 | none : Rv hT ρ h .none .none
 | bool (b : Bool) : Rv hT ρ h (.bool b) (.bool b)
 | int (i : Int) (t : Tok) : Rv hT ρ h (.int i t) (.int i)
 | str (s : Str) (t : Tok) : s.length <= Pr -> Rv hT ρ h (.str s t) (.str s)
 | tup {a : PD} {vs : List Pu} {l : List PV} : h.IsTuple a vs.toArray -> RvL hT ρ h vs l -> Rv hT ρ h (.ref a) (.tup l)
 | loc {n : Nat} {a : PD} : ρ[n]? = some a -> Rv hT ρ h (.ref a) (.loc n)
 | val (v : Pu) : Rv hT ρ h v (.val v)
 | il {a : PD} {vs : List Pu} {l : List Int} : hT.IsList a vs.toArray -> bU vs l -> Rv hT ρ h (.ref a) (.il l)
inductive RvL (hT : PO) (ρ : List PD) (h : PO) : List Pu -> List PV -> Prop where
 | nil : RvL hT ρ h [] []
 | cons {v : Pu} {p : PV} {vs : List Pu} {ps : List PV} : Rv hT ρ h v p -> RvL hT ρ h vs ps -> RvL hT ρ h (v :: vs) (p :: ps)
end
inductive RvD (hT : PO) (ρ : List PD) (h : PO) : List (Str × Pu) -> Loc -> Prop where
 | nil : RvD hT ρ h [] []
 | cons {k : Str} {v : Pu} {p : PV} {vs : List (Str × Pu)} {ps : Loc} : Rv hT ρ h v p -> RvD hT ρ h vs ps -> RvD hT ρ h ((k, v) :: vs) ((k, p) :: ps)
def Rc (w : Rk) (hT : PO) (ρ : List PD) (h : PO) (a : PD) : q8 -> Prop
 | .list l => l.length <= Pr + 1 /\ ∃ vs : List Pu, h.PlainList a vs.toArray /\ RvL hT ρ h vs l
 | .dict l => ∃ kvs : List (Str × Pu), h.DictOf (strKind prog w) a kvs /\ RvD hT ρ h kvs l
 | .inst d => ∃ x, ρ[d]? = some x /\ h.get? a = some { cls := .ref 187, dict := some x, data := .plain }
 | .kw l => ∃ kvs : List (Str × Pu), h.DictAt (strKind prog w) a kvs l.length /\ RvD hT ρ h kvs l
def Kp (own ρ : List PD) (h h' : PO) : Prop :=
 ∀ b o, h.get? b = some o -> b ∉ ρ -> b ∉ own -> ∃ sl, h'.get? b = some { o with slots := sl }
structure Le (own ρ : List PD) (h : PO) (ρ' : List PD) (h' : PO) : Prop where
 ext : ∃ more, ρ' = ρ ++ more /\ ∀ a ∈ more, h.get? a = none
 kp : Kp own ρ h h'
 st : ∀ b o, h.get? b = some o -> ∃ o', h'.get? b = some o'
 ex : ∀ b o, h.get? b = some o -> b ∉ ρ -> b ∉ own -> (∀ es ep, o.data ≠ .dict es ep) -> h'.get? b = some o
structure SR (w : Rk) (hT : PO) (ρ : List PD) (μ : q4) (h : PO) : Prop where
 top : ∀ b o, hT.get? b = some o -> h.get? b = some o
 nodup : ρ.Nodup
 len : ρ.length = μ.length
 notop : ∀ a ∈ ρ, hT.get? a = none
 low : (∃ b o, SZ < b /\ hT.get? b = some o) /\ ∀ a ∈ ρ, SZ < a
 cells : ∀ (n : Nat) a c, ρ[n]? = some a -> μ[n]? = some c -> Rc w hT ρ h a c
theorem Kp.refl (own ρ : List PD) (h : PO) : Kp own ρ h h := fun zz o e zz zz => ⟨o.slots, e⟩
theorem Kp.of_keeps {own ρ : List PD} {h h' : PO} (k : ∀ b o, b ∉ own -> h.get? b = some o -> h'.get? b = some o) : Kp own ρ h h' := fun b o e zz hb => ⟨o.slots, k b o hb e⟩
theorem Le.refl (own ρ : List PD) (h : PO) : Le own ρ h ρ h := ⟨⟨[], by simp, by simp⟩, Kp.refl own ρ h, fun zz o e => ⟨o, e⟩, fun zz zz e zz zz zz => e⟩
theorem Le.of_keeps {own ρ : List PD} {h h' : PO} (k : ∀ b o, h.get? b = some o -> h'.get? b = some o) : Le own ρ h ρ h' := ⟨⟨[], by simp, by simp⟩, Kp.of_keeps fun b o zz => k b o, fun b o e => ⟨o, k b o e⟩, fun b o e zz zz zz => k b o e⟩
theorem Le.weaken {own own' ρ ρ' : List PD} {h h' : PO} (x : Le own ρ h ρ' h') (hs : ∀ b o, h.get? b = some o -> b ∈ own -> b ∈ own') : Le own' ρ h ρ' h' :=
 ⟨x.ext, fun b o e hn ho => x.kp b o e hn fun q => ho (hs b o e q), x.st, fun b o e hn ho hd => x.ex b o e hn (fun q => ho (hs b o e q)) hd⟩
theorem Le.out {own ρ ρ' : List PD} {h h' : PO} (x : Le own ρ h ρ' h') {b : PD} {o : Obj} (hb : h.get? b = some o) (hn : b ∉ ρ) : b ∉ ρ' := by
 obtain ⟨m, e, f⟩ := x.ext
 rw [e]
 intro hm
 rcases PT.mp hm with q | q
 ·exact hn q
 ·rw [f b q] at hb; cases hb
theorem Le.trans {own ρ ρ' ρ'' : List PD} {h h' h'' : PO} (x : Le own ρ h ρ' h') (y : Le own ρ' h' ρ'' h'') : Le own ρ h ρ'' h'' := by
 obtain ⟨m, e, f⟩ := x.ext
 obtain ⟨m', e', f'⟩ := y.ext
 refine ⟨⟨m ++ m', by rw [e', e, PF], fun a ha => ?_⟩, fun b o hb hn ho => ?_, fun b o hb => ?_, fun b o hb hn ho hd => y.ex b o (x.ex b o hb hn ho hd) (x.out hb hn) ho hd⟩
 ·rcases PT.mp ha with q | q
  ·exact f a q
  ·induction hq : h.get? a with
   | none => rfl
   | some o => obtain ⟨o', ho'⟩ := x.st a o hq; rw [f' a q] at ho'; cases ho'
 ·obtain ⟨sl, hs⟩ := x.kp b o hb hn ho
  obtain ⟨sl', hs'⟩ := y.kp b _ hs (x.out hb hn) ho
  exact ⟨sl', hs'⟩
 ·obtain ⟨o', ho'⟩ := x.st b o hb
  exact y.st b o' ho'
theorem Le.any {own ρ ρ' : List PD} {h h' : PO} (x : Le [] ρ h ρ' h') : Le own ρ h ρ' h' := x.weaken fun zz zz zz q => nomatch q
theorem jo {ρ ρ' : List PD} {n : Nat} {a : PD} (h : ∃ more, ρ' = ρ ++ more) (e : ρ[n]? = some a) : ρ'[n]? = some a := by
 obtain ⟨m, rfl⟩ := h
 rw [RB (R0.mp e).1]; exact e
def Kv (h h' : PO) : Prop := ∀ b o, h.get? b = some o -> (o.cls = .type "tuple" /\ ∃ vs n, o.data = .seq vs n) -> ∃ sl, h'.get? b = some { o with slots := sl }
theorem G2 {h h' : PO} (k : Kv h h') {a : PD} {vs : Array Pu} (t : h.IsTuple a vs) : h'.IsTuple a vs := by
 obtain ⟨o, ho, hc, n, hd⟩ := t
 obtain ⟨sl, hs⟩ := k _ o ho ⟨hc, _, n, hd⟩
 exact ⟨_, hs, hc, n, hd⟩
theorem Rv.mono {hT : PO} {ρ ρ' : List PD} {h h' : PO} (hx : ∃ more, ρ' = ρ ++ more) (k : Kv h h') {v : Pu} {p : PV} (r : Rv hT ρ h v p) : Rv hT ρ' h' v p :=
 Rv.rec (motive_1 := fun v p zz => Rv hT ρ' h' v p) (motive_2 := fun vs ps zz => RvL hT ρ' h' vs ps) .none .bool .int .str (fun t zz ih => .tup (G2 k t) ih) (fun hn => .loc (jo hx hn)) .val .il .nil (fun zz zz a b => .cons a b) r
theorem RvL.mono {hT : PO} {ρ ρ' : List PD} {h h' : PO} (hx : ∃ more, ρ' = ρ ++ more) (k : Kv h h') {vs : List Pu} {ps : List PV} (r : RvL hT ρ h vs ps) : RvL hT ρ' h' vs ps :=
 RvL.rec (motive_1 := fun v p zz => Rv hT ρ' h' v p) (motive_2 := fun vs ps zz => RvL hT ρ' h' vs ps) .none .bool .int .str (fun t zz ih => .tup (G2 k t) ih) (fun hn => .loc (jo hx hn)) .val .il .nil (fun zz zz a b => .cons a b) r
theorem RvD.mono {hT : PO} {ρ ρ' : List PD} {h h' : PO} (hx : ∃ more, ρ' = ρ ++ more) (k : Kv h h') {vs : List (Str × Pu)} {ps : Loc} (x : RvD hT ρ h vs ps) : RvD hT ρ' h' vs ps := by
 induction x with
 | nil => exact .nil
 | cons a _ ih => exact .cons (a.mono hx k) ih
theorem ZA {P : Prop} (h : ∀ G : Prop, (P -> G) -> G) : P := h P id
theorem SR.data {w : Rk} {hT : PO} {ρ : List PD} {μ : q4} {h : PO} (S : SR w hT ρ μ h) {b : PD} (hm : b ∈ ρ) : ∃ o, h.get? b = some o /\ o.cls ≠ .type "tuple" /\ (∀ vs, o.data ≠ .fields vs) /\ o.cls ≠ .type "frame" := by
 obtain ⟨n, hlt, hn⟩ := ak hm
 have hn' : ρ[n]? = some b := by rw [PW hlt, hn]
 have hμ : n < μ.length := S.len ▸ hlt
 have hc' := S.cells n b μ[n] hn' (PW hμ)
 induction hcell : μ[n] with
 | list l =>
   rw [hcell] at hc'
   obtain ⟨_, vs, ⟨m, hp⟩, _⟩ := hc'
   exact ⟨_, hp, by simp, by simp, by simp⟩
 | dict l =>
   rw [hcell] at hc'
   obtain ⟨kvs, ⟨o', es, ep, ho, hx, hd, _⟩, _⟩ := hc'
   exact ⟨_, ho, by rw [hx.1]; simp, by rw [hd]; simp, by rw [hx.1]; simp⟩
 | inst d =>
   rw [hcell] at hc'
   obtain ⟨x, _, hp⟩ := hc'
   exact ⟨_, hp, by simp, by simp, by simp⟩
 | kw l =>
   rw [hcell] at hc'
   obtain ⟨kvs, ⟨o', es, ho, hx, hd, _⟩, _⟩ := hc'
   exact ⟨_, ho, by rw [hx.1]; simp, by rw [hd]; simp, by rw [hx.1]; simp⟩
def gS (own : List PD) (h : PO) : Prop := ∀ b ∈ own, ∀ o, h.get? b = some o -> (∃ es ep, o.data = .dict es ep) \/ ∃ v, o.data = .cell v
theorem gS.nil (h : PO) : gS [] h := fun zz hb => nomatch hb
theorem SR.kv {w : Rk} {hT : PO} {own ρ ρ' : List PD} {μ : q4} {h h' : PO} (S : SR w hT ρ μ h) (O : gS own h) (x : Le own ρ h ρ' h') : Kv h h' := by
 intro b o hb hc
 have hn : b ∉ ρ := by
  intro hm
  obtain ⟨o', ho', h1, h2, _⟩ := S.data hm
  rw [hb] at ho'; cases ho'
  exact h1 hc.1
 have ho : b ∉ own := by
  intro hm
  obtain ⟨_, vs, n, q⟩ := hc
  rcases O b hm o hb with ⟨es, ep, hd⟩ | ⟨v, hd⟩ <;> (rw [hd] at q; cases q)
 obtain ⟨sl, hs⟩ := x.kp b o hb hn ho
 exact ⟨sl, hs⟩
theorem Le.pre {own ρ ρ' : List PD} {h h' : PO} (x : Le own ρ h ρ' h') : ∃ more, ρ' = ρ ++ more := let ⟨m, e, _⟩ := x.ext; ⟨m, e⟩
theorem Rv.le {w : Rk} {hT : PO} {ρ ρ' : List PD} {μ : q4} {h h' : PO} {v : Pu} {p : PV} (r : Rv hT ρ h v p) (S : SR w hT ρ μ h) (x : Le [] ρ h ρ' h') : Rv hT ρ' h' v p := r.mono x.pre (S.kv (gS.nil h) x)
theorem RvL.le {w : Rk} {hT : PO} {ρ ρ' : List PD} {μ : q4} {h h' : PO} {v : List Pu} {p : List PV} (r : RvL hT ρ h v p) (S : SR w hT ρ μ h) (x : Le [] ρ h ρ' h') : RvL hT ρ' h' v p := r.mono x.pre (S.kv (gS.nil h) x)
structure qN (hT : PO) (ρ : List PD) (h : PO) (env : Env) (σ : LE) : Prop where
 kind : env.scope.kind = .function
 names : env.scope.names = σ.sc
 glob : env.globals = mainGlobals
 blt : env.builtins = builtinsNs
 loc : env.locals ∉ ρ
 ns : ∃ m, h.Ns env.locals m /\ ∀ x p, σ.vs.lookup x = some p -> σ.sc.lookup x = some .local -> ∃ v, m x = some v /\ Rv hT ρ h v p
 cel : ∀ x p, σ.vs.lookup x = some p -> σ.sc.lookup x = some .cell -> ∃ c v, env.cells.lookup x = some c /\ h.IsCell c (some v) /\ Rv hT ρ h v p
 cells : ∀ q ∈ env.cells, q.2 ∉ ρ /\ q.2 ≠ env.locals /\ ∃ v, h.IsCell q.2 v
 sep : ∀ q ∈ env.cells, ∀ q' ∈ env.cells, q.2 = q'.2 -> q.1 = q'.1
 has : ∀ x, σ.sc.lookup x = some .cell -> ∃ c, env.cells.lookup x = some c
theorem Kp.ns {own ρ : List PD} {h h' : PO} (k : Kp own ρ h h') {a : PD} {m : Str -> Option Pu} (hn : h.Ns a m) (ha : a ∉ ρ) (hb : a ∉ own) : h'.Ns a m := by
 obtain ⟨o, es, ep, ho, hd, r⟩ := hn
 obtain ⟨sl, hs⟩ := k a o ho ha hb
 exact ⟨_, es, ep, hs, hd, r⟩
theorem Kp.isCell {own ρ : List PD} {h h' : PO} (k : Kp own ρ h h') {a : PD} {v : Option Pu} (hn : h.IsCell a v) (ha : a ∉ ρ) (hb : a ∉ own) : h'.IsCell a v := by
 obtain ⟨o, ho, hd⟩ := hn
 obtain ⟨sl, hs⟩ := k a o ho ha hb
 exact ⟨_, hs, hd⟩
theorem qN.le {w : Rk} {hT : PO} {ρ ρ' : List PD} {μ : q4} {h h' : PO} {env : Env} {σ : LE} (R : qN hT ρ h env σ) (S : SR w hT ρ μ h) (x : Le [] ρ h ρ' h') : qN hT ρ' h' env σ := by
 obtain ⟨m, hm, hv⟩ := R.ns
 have hloc : env.locals ∉ ρ' := by
  obtain ⟨o, _, _, ho, _⟩ := hm
  exact x.out ho R.loc
 refine ⟨R.kind, R.names, R.glob, R.blt, hloc, ⟨m, x.kp.ns hm R.loc (by simp), fun y p hy hk => ?_⟩, fun y p hy hk => ?_, fun q hq => ?_, R.sep, R.has⟩
 ·obtain ⟨v, h1, h2⟩ := hv y p hy hk
  exact ⟨v, h1, h2.le S x⟩
 ·obtain ⟨c, v, hc, hi, hr⟩ := R.cel y p hy hk
  exact ⟨c, v, hc, x.kp.isCell hi (R.cells _ (mem_of_lookup hc)).1 (by simp), hr.le S x⟩
 ·obtain ⟨h1, h2, v, h3⟩ := R.cells q hq
  refine ⟨?_, h2, v, x.kp.isCell h3 h1 (by simp)⟩
  obtain ⟨o, ho, _⟩ := h3
  exact x.out ho h1
structure Stk (hT : PO) (A : RE) (ρ : List PD) (h : PO) (l : List Env) : Prop where
 fr : A.frames = some l
 ff : h.FunFrames hT l
 out : ∀ env ∈ l, ∀ L, env.frame = some L -> L ∉ ρ /\ ∃ o, h.get? L = some o /\ ∃ es ep, o.data = .dict es ep
theorem yk {hT : PO} {own ρ : List PD} {h h' : PO} (k : Kp own ρ h h') {l : List Env} : h.FunFrames hT l -> (∀ env ∈ l, ∀ L, env.frame = some L -> L ∉ ρ /\ L ∉ own) -> h'.FunFrames hT l := by
 induction l with
 | nil => exact fun zz zz => trivial
 | cons env l ih =>
   rintro ⟨hk, ⟨L, o, hf, hn, ho, hd⟩, hr⟩ hout
   have q := hout env (.head _) L hf
   obtain ⟨sl, hs⟩ := k L o ho q.1 q.2
   exact ⟨hk, ⟨L, _, hf, hn, hs, hd⟩, ih hr fun e he => hout e (.tail _ he)⟩
theorem Stk.le {hT : PO} {A : RE} {ρ ρ' : List PD} {h h' : PO} {l : List Env} (K : Stk hT A ρ h l) (x : Le [] ρ h ρ' h') : Stk hT A ρ' h' l := by
 refine ⟨K.fr, yk x.kp K.ff fun e he L hf => ⟨(K.out e he L hf).1, by simp⟩, fun e he L hf => ?_⟩
 obtain ⟨h1, o, ho, hd⟩ := K.out e he L hf
 obtain ⟨sl, hs⟩ := x.kp L o ho h1 (by simp)
 exact ⟨x.out ho h1, _, hs, hd⟩
noncomputable def qy (env : Env) : List PD := env.locals :: env.cells.map (·.2)
theorem qN.ownOK {hT : PO} {ρ : List PD} {h : PO} {env : Env} {σ : LE} (R : qN hT ρ h env σ) : gS (qy env) h := by
 intro b hb o ho
 rcases Rq.mp hb with rfl | hb
 ·obtain ⟨m, ⟨o', es, ep, ho', hd, _⟩, _⟩ := R.ns
  rw [ho] at ho'; cases ho'
  exact .inl ⟨es, ep, hd⟩
 ·obtain ⟨q, hq, rfl⟩ := Ri.mp hb
  obtain ⟨_, _, v, o', ho', hd⟩ := R.cells q hq
  rw [ho] at ho'; cases ho'
  exact .inr ⟨v, hd⟩
theorem qN.out {hT : PO} {ρ : List PD} {h : PO} {env : Env} {σ : LE} (R : qN hT ρ h env σ) {b : PD} (hb : b ∈ qy env) : b ∉ ρ := by
 rcases Rq.mp hb with rfl | hb
 ·exact R.loc
 ·obtain ⟨q, hq, rfl⟩ := Ri.mp hb
  exact (R.cells q hq).1
structure Exn where
 cls : String
 msg : Option Str
 here : Bool
abbrev PR (α : Type) := Option (Except Exn α × q4)
abbrev PM (α : Type) := q4 -> PR α
noncomputable def pret {α : Type} (a : α) : PM α := fun μ => some (.ok a, μ)
noncomputable def qa {α β : Type} (m : PR α) (f : α -> PM β) : PR β := match m with
 | none => none
 | some (.error x, μ) => some (.error x, μ)
 | some (.ok a, μ) => f a μ
noncomputable def G1 {α : Type} (x : Exn) : PM α := fun μ => some (.error x, μ)
theorem wG {α β : Type} {m : PR α} {f : α -> PM β} {r : Except Exn β} {μ' : q4} (h : qa m f = some (r, μ')) :
 (∃ x, m = some (.error x, μ') /\ r = .error x) \/ (∃ a μ₁, m = some (.ok a, μ₁) /\ f a μ₁ = some (r, μ')) := by
 match m, h with
 | some (.error x, μ), h => cases h; exact .inl ⟨_, rfl, rfl⟩
 | some (.ok a, μ), h => exact .inr ⟨a, μ, rfl, h⟩
noncomputable abbrev MM (w : Rk) : U8 := model prog w
structure ExB (h₀ h : PO) (e : PD) (x : Exn) (oe : Obj) (vs : Array Pu) (a0 : Pu) : Prop where
 g : h.get? e = some oe
 c : oe.cls = .type x.cls
 d : oe.data = .fields vs
 a : vs[0]? = some a0
 m : ∀ m, x.msg = some m -> ∃ t tk, a0 = .ref t /\ h.TupAt t [.str m tk]
 f : h₀.get? e = none
structure NtA (h₀ h : PO) (e : PD) (vs : Array Pu) (fl : Pu) (T : PD) (oT : Obj) (ts : Array Pu) : Prop where
 r : vs[1]? = some (.ref T)
 n : T ≠ e
 g : h.get? T = some oT
 d : oT.data = .fields ts
 q : ts[3]? = some fl
 f : h₀.get? T = none
def wu (h₀ h' : PO) (e : PD) (x : Exn) : Prop :=
 ∃ oe vs a0, ExB h₀ h' e x oe vs a0 /\ (if x.here = true then vs[1]? = some .none else ∃ T oT ts, NtA h₀ h' e vs .none T oT ts)
theorem wY {own ρ ρ' : List PD} {h h' : PO} (x : Le own ρ h ρ' h') {b : PD} (e : h'.get? b = none) : h.get? b = none := by
 induction hq : h.get? b with
 | none => rfl
 | some o => obtain ⟨o', ho'⟩ := x.st b o hq; rw [e] at ho'; cases ho'
theorem ExB.le {own ρ ρ' : List PD} {h₀ h h' : PO} {e : PD} {x : Exn} {oe : Obj} {vs : Array Pu} {a0 : Pu} (y : Le own ρ h₀ ρ' h) (q : ExB h h' e x oe vs a0) : ExB h₀ h' e x oe vs a0 := ⟨q.g, q.c, q.d, q.a, q.m, wY y q.f⟩
theorem NtA.le {own ρ ρ' : List PD} {h₀ h h' : PO} {e T : PD} {oT : Obj} {vs ts : Array Pu} {fl : Pu} (y : Le own ρ h₀ ρ' h) (q : NtA h h' e vs fl T oT ts) : NtA h₀ h' e vs fl T oT ts := ⟨q.r, q.n, q.g, q.d, q.q, wY y q.f⟩
set_option tactic.hygienic true in
theorem wu.le {own ρ ρ' : List PD} {h₀ h h' : PO} {e : PD} {x : Exn} (y : Le own ρ h₀ ρ' h) (q : wu h h' e x) : wu h₀ h' e x := by
 obtain ⟨oe, vs, t, b, h7⟩ := q
 refine ⟨oe, vs, t, b.le y, ?_⟩
 split
 ·rename_i hh; rw [if_pos hh] at h7; exact h7
 ·rename_i hh
  rw [if_neg hh] at h7
  exact h7.imp fun T h => h.imp fun o h => h.imp fun ts h => h.le y
structure xI {α β : Type} (w : Rk) (hT : PO) (rel : List PD -> PO -> α -> β -> Prop) (ρ : List PD) (s : Py) (r : Except Exn β) (μ' : q4) (Q : α -> Py -> Prop) (E : Pu -> Py -> Prop) : Prop where
 ok : ∀ a h' tk ρ' b, r = .ok b -> Le [] ρ s.heap ρ' h' -> SR w hT ρ' μ' h' -> rel ρ' h' a b -> 1 <= tk -> Q a { s with heap := h', toks := tk }
 err : ∀ e h' tk ρ' x, r = .error x -> Le [] ρ s.heap ρ' h' -> SR w hT ρ' μ' h' -> wu s.heap h' e x -> 1 <= tk -> E (.ref e) { s with heap := h', toks := tk }
structure xX {α β : Type} (w : Rk) (hT : PO) (rel : List PD -> PO -> α -> β -> Prop) (ρ : List PD) (s : Py) (r : Except Exn β) (μ' : q4) (Q : α -> Py -> Prop) (E : Pu -> Py -> Prop) : Prop where
 ok : ∀ a h' tk ρ' b, r = .ok b -> Le [] ρ s.heap ρ' h' -> SR w hT ρ' μ' h' -> rel ρ' h' a b -> Q a { s with heap := h', toks := tk }
 err : ∀ e h' tk ρ' x, r = .error x -> Le [] ρ s.heap ρ' h' -> SR w hT ρ' μ' h' -> wu s.heap h' e x -> E (.ref e) { s with heap := h', toks := tk }
def Sim {α β : Type} (w : Rk) (hT : PO) (A : RE) (rel : List PD -> PO -> α -> β -> Prop) (ρ : List PD) (s : Py) (t : Sem α) (m : PR β) : Prop :=
 1 <= s.toks -> ∀ r μ', m = some (r, μ') -> ∀ (Q : α -> Py -> Prop) (E : Pu -> Py -> Prop), xI w hT rel ρ s r μ' Q E -> PP (MM w) A t Q E s
theorem jj {α : Type} {M : U8} {A : RE} {t : Sem α} {Q : α -> Py -> Prop} {E : Pu -> Py -> Prop} {s : Py} (h1 : 1 <= s.toks)
 (h : PP M A t (fun a s' => 1 <= s'.toks -> Q a s') (fun e s' => 1 <= s'.toks -> E e s') s) : PP M A t Q E s :=
 RG (wpAny_toks_of h1 h) (fun zz zz q => q.2 q.1) (fun zz zz q => q.2 q.1)
theorem Sim.of0 {α β : Type} {w : Rk} {hT : PO} {A : RE} {rel : List PD -> PO -> α -> β -> Prop} {ρ : List PD} {s : Py} {t : Sem α} {m : PR β}
 (h : ∀ r μ', m = some (r, μ') -> ∀ (Q : α -> Py -> Prop) (E : Pu -> Py -> Prop), xX w hT rel ρ s r μ' Q E -> PP (MM w) A t Q E s) : Sim w hT A rel ρ s t m :=
 fun h1 r μ' hm Q E P => jj h1 (h r μ' hm _ _ ⟨fun a h' tk ρ' b e1 e2 e3 e4 ht => P.ok a h' tk ρ' b e1 e2 e3 e4 ht, fun e h' tk ρ' x e1 e2 e3 e4 ht => P.err e h' tk ρ' x e1 e2 e3 e4 ht⟩)
theorem Sim.of1 {α β : Type} {w : Rk} {hT : PO} {A : RE} {rel : List PD -> PO -> α -> β -> Prop} {ρ : List PD} {s : Py} {t : Sem α} {m : PR β}
 (h : 1 <= s.toks -> ∀ r μ', m = some (r, μ') -> ∀ (Q : α -> Py -> Prop) (E : Pu -> Py -> Prop), xX w hT rel ρ s r μ' Q E -> PP (MM w) A t Q E s) : Sim w hT A rel ρ s t m :=
 fun h1 r μ' hm Q E P => jj h1 (h h1 r μ' hm _ _ ⟨fun a h' tk ρ' b e1 e2 e3 e4 ht => P.ok a h' tk ρ' b e1 e2 e3 e4 ht, fun e h' tk ρ' x e1 e2 e3 e4 ht => P.err e h' tk ρ' x e1 e2 e3 e4 ht⟩)
section
variable {α β γ δ : Type} {w : Rk} {hT : PO} {A : RE} {rel : List PD -> PO -> α -> β -> Prop} {rel' : List PD -> PO -> γ -> δ -> Prop} {ρ ρ' : List PD} {s : Py} {h' : PO} {tk : Nat} {t : Sem α} {m : PR β}
 {r : Except Exn δ} {μ' : q4} {Q : γ -> Py -> Prop} {Q' : α -> Py -> Prop} {E : Pu -> Py -> Prop} {g : β -> PM δ}
theorem xI.le (P : xI w hT rel' ρ s r μ' Q E) (x : Le [] ρ s.heap ρ' h') : xI w hT rel' ρ' { s with heap := h', toks := tk } r μ' Q E :=
 ⟨fun a h₂ tk₂ ρ₂ b e y z q => P.ok a h₂ tk₂ ρ₂ b e (x.trans y) z q, fun e h₂ tk₂ ρ₂ b e' y z q => P.err e h₂ tk₂ ρ₂ b e' (x.trans y) z (q.le x)⟩
theorem Sim.andThen (S : Sim w hT A rel ρ s t m) (h1 : 1 <= s.toks) (hm : qa m g = some (r, μ')) (P : xI w hT rel' ρ s r μ' Q E)
 (k : ∀ a h' tk ρ' b μ₁, Le [] ρ s.heap ρ' h' -> SR w hT ρ' μ₁ h' -> rel ρ' h' a b -> 1 <= tk -> g b μ₁ = some (r, μ') -> xI w hT rel' ρ' { s with heap := h', toks := tk } r μ' Q E -> Q' a { s with heap := h', toks := tk }) :
 PP (MM w) A t Q' E s := by
 rcases wG hm with ⟨x, hm', hr⟩ | ⟨a, μ₁, hm', hg⟩
 ·refine S h1 _ _ hm' Q' E ⟨fun a h' tk ρ' b e => (nomatch e), fun e h' tk ρ' y hy le sr ex => ?_⟩
  cases hy
  exact P.err e h' tk ρ' x hr le sr ex
 ·refine S h1 _ _ hm' Q' E ⟨fun a' h' tk ρ' b hb le sr rv ht => ?_, fun e h' tk ρ' y hy => (nomatch hy)⟩
  cases hb
  exact k a' h' tk ρ' a μ₁ le sr rv ht hg (P.le le)
end
theorem xI.now {α β : Type} {w : Rk} {hT : PO} {rel : List PD -> PO -> α -> β -> Prop} {ρ : List PD} {s : Py} {b : β} {μ μ' : q4} {r : Except Exn β} {Q : α -> Py -> Prop} {E : Pu -> Py -> Prop} {a : α} {tk : Nat}
 (P : xI w hT rel ρ s r μ' Q E) (hm : pret b μ = some (r, μ')) (S : SR w hT ρ μ s.heap) (rv : rel ρ s.heap a b) : 1 <= tk -> Q a { s with toks := tk } := by
 cases hm
 exact P.ok a s.heap tk ρ b rfl (Le.refl _ _ _) S rv
def jW (A : RE) (n : Nat) : Prop := A.handled = none /\ A.depth + n + 20 < recursionLimit /\ A.units + 20 * n + 200 < cj
theorem jW.mono {A : RE} {n m : Nat} (r : jW A n) (h : m <= n) : jW A m := ⟨r.1, by have := r.2.1; lia, by have := r.2.2; lia⟩
structure Act (w : Rk) (hT : PO) (A : RE) (l : List Env) (env : Env) (σ : LE) (ρ : List PD) (μ : q4) (h : PO) (n : Nat) : Prop where
 sr : SR w hT ρ μ h
 er : qN hT ρ h env σ
 sk : Stk hT A ρ h l
 rm : jW A n
theorem Act.le {w : Rk} {hT : PO} {A : RE} {l : List Env} {env : Env} {σ : LE} {ρ ρ' : List PD} {μ μ' : q4} {h h' : PO} {n : Nat} (X : Act w hT A l env σ ρ μ h n) (x : Le [] ρ h ρ' h') (S : SR w hT ρ' μ' h') : Act w hT A l env σ ρ' μ' h' n :=
 ⟨S, X.er.le X.sr x, X.sk.le x, X.rm⟩
set_option genCtorIdx true in
inductive j9 where
 | next | cont | brk | ret (p : PV)
noncomputable abbrev KK (w : Rk) : Frag := Mine.hd.heap_1 w.params
noncomputable def upd (σ : Loc) (x : Str) (p : PV) : Loc := match σ with
 | [] => [(x, p)]
 | (y, q) :: r => if y == x then (y, p) :: r else (y, q) :: upd r x p
noncomputable def xC : Option Sm -> Bool
 | some .local | some .cell => true
 | _ => false
noncomputable def LE.get (σ : LE) (x : Str) : Option PV := if xC (σ.sc.lookup x) then σ.vs.lookup x else none
noncomputable def LE.put (σ : LE) (x : Str) (p : PV) : Option LE := if xC (σ.sc.lookup x) then some { σ with vs := upd σ.vs x p } else none
noncomputable def LE.isG (σ : LE) (x : Str) : Bool := σ.sc.lookup x == some .globalImplicit
noncomputable def LE.comp (σ : LE) (sc : List (Str × Sm)) : LE :=
 { sc := sc.map fun nk => if (nk.2 == .free && σ.sc.lookup nk.1 == some .cell) then (nk.1, .cell) else nk, vs := σ.vs.filter fun kv => sc.lookup kv.1 == some .free }
noncomputable def yr (e : Expr) : Bool := by
 induction e using PZ with
 | Set => exact true
 | _ => exact false
noncomputable def vk (e : Expr) : Bool := by
 induction e using PZ with
 | Slice => exact true
 | _ => exact false
noncomputable def zo (e : Expr) : Bool := by
 induction e using PZ with
 | Tuple => exact true
 | _ => exact false
noncomputable def qf (e : Expr) : Bool := by
 induction e using PZ with
 | Starred => exact true
 | _ => exact false
noncomputable def gl (e : Expr) : Bool := by
 induction e using PZ with
 | SetComp => exact true
 | DictComp => exact true
 | _ => exact false
noncomputable def Z9 (e : Expr) : Bool := by
 induction e using PZ with
 | ListComp => exact true
 | SetComp => exact true
 | DictComp => exact true
 | _ => exact false
noncomputable def wh (e : Expr) : Option (Str × Pos) := by
 induction e using PZ with
 | Name x p => exact some (x, p)
 | _ => exact none
noncomputable def qW (e : Expr) : Option Str := (wh e).map fun q => q.1
noncomputable def vd (e : Expr) : Option Ul := by
 induction e using PZ with
 | Constant c _ _ => exact some c
 | _ => exact none
noncomputable def vG (e : Expr) : Option (Expr × Str × Pos) := by
 induction e using PZ with
 | Attribute o m p => exact some (o, m, p)
 | _ => exact none
noncomputable def fq (e : Expr) : Option (Expr × List Expr × List SD × Pos) := by
 induction e using PZ with
 | Call f a k p => exact some (f, a, k, p)
 | _ => exact none
noncomputable def one {α : Type} : List α -> Option α
 | a :: r => if r.isEmpty then some a else none
 | [] => none
noncomputable def xA (e : Expr) : Option (Expr × Str × Pos × Pos) := (fq e).bind fun c => (vG c.1).bind fun a => if c.2.1.isEmpty && c.2.2.1.isEmpty then some (a.1, a.2.1, a.2.2, c.2.2.2) else none
noncomputable def yb (e : Expr) : Option (Str × Expr) := (fq e).bind fun c => (qW c.1).bind fun f => (one c.2.1).bind fun x => if c.2.2.1.isEmpty then some (f, x) else none
noncomputable def qT (e : Expr) : Bool := match fq e with
 | some c => !((qW c.1).isSome && c.2.1.isEmpty && c.2.2.1.isEmpty)
 | none => true
noncomputable def Wb : PV -> Bool
 | .val _ => true
 | _ => false
noncomputable def vC : PV -> Bool
 | .none | .bool _ | .int _ | .str _ => true
 | _ => false
noncomputable def qx : PV -> Option Str
 | .str x => some x
 | _ => none
noncomputable def zx : PV -> Option Int
 | .int x => some x
 | _ => none
noncomputable def jr : PV -> Option Nat
 | .loc x => some x
 | _ => none
noncomputable def wB : PV -> Option (List PV)
 | .tup x => some x
 | _ => none
noncomputable def E2 : PV -> Option (List Int)
 | .il x => some x
 | _ => none
noncomputable def WI : PV -> Option Pu
 | .val x => some x
 | _ => none
noncomputable def Qc (p : PV) : Option String := (WI p).bind fun v => match v with
 | .type x => some x
 | _ => none
noncomputable def Wx (p : PV) : Option PD := (WI p).bind fun v => match v with
 | .ref x => some x
 | _ => none
noncomputable def Zc (c : q8) : PM PV := fun μ => some (.ok (.loc μ.length), μ ++ [c])
noncomputable def jp (l : List PV) : PM PV := if l.length <= Pr then Zc (.list l) else fun zz => none
noncomputable def yx (x : Str) : PM PV := if x.length <= Pr then pret (.str x) else fun zz => none
noncomputable def kB : q8 -> Option (List PV)
 | .list l => some l
 | _ => none
noncomputable def wD : q8 -> Option (Loc)
 | .dict l => some l
 | _ => none
noncomputable def cKw : q8 -> Option (Loc)
 | .kw l => some l
 | _ => none
noncomputable def xz : q8 -> Option Nat
 | .inst d => some d
 | _ => none
noncomputable def q5 (μ : q4) (n : Nat) : Option (List PV) := (μ[n]?).bind kB
noncomputable def qe (μ : q4) (n : Nat) : Option (Loc) := (μ[n]?).bind wD
noncomputable def zj (μ : q4) (n : Nat) : Option (Loc) := (μ[n]?).bind cKw
noncomputable def zZ (μ : q4) (n : Nat) : Option Nat := (μ[n]?).bind xz
noncomputable def qj (μ : q4) (n : Nat) (c : q8) : q4 := μ.set n c
noncomputable def j2 (μ : q4) (p : PV) : Option (List PV) := (jr p).bind (q5 μ)
noncomputable def qv (μ : q4) (p : PV) : Option Nat := (jr p).bind (zZ μ)
noncomputable def wR : Ul -> Option PV
 | .none => some .none
 | .bool b => some (.bool b)
 | .int i => some (.int i)
 | .str x => if x.length <= 1000 then some (.str x) else none
 | _ => none
noncomputable def jk (f : PV -> Option U9) : List PV -> Option (List U9)
 | [] => some []
 | p :: r => (f p).bind fun d => (jk f r).map fun ds => d :: ds
noncomputable def jK (μ : q4) : Nat -> PV -> Option U9
 | 0, _ => none
 | n + 1, p => match p with
   | .none => some .none
   | .bool b => some (.bool b)
   | .int i => some (.int i)
   | .str x => some (.str x)
   | .tup l => (jk (jK μ n) l).map .tuple
   | .loc a => (q5 μ a).bind fun l => (jk (jK μ n) l).map .list
   | _ => none
noncomputable def Iw : Nat := 8
noncomputable def jd (μ : q4) (p : PV) : Option U9 := (jK μ Iw p).bind fun d => if d.canLay0 && decide (d.depth <= 64) then some d else none
noncomputable def peq (μ : q4) (a b : PV) : Option Bool := (jd μ a).bind fun x => (jd μ b).map fun y => Sn x y
noncomputable def pin (μ : q4) (a b : PV) : Option Bool := (jd μ a).bind fun d => (jd μ b).bind fun e => match e with
 | .list xs => some (xs.any fun y => Sn y d)
 | .tuple xs => some (xs.any fun y => Sn y d)
 | .str y => (match d with
   | .str x => some (Uy y x)
   | _ => none)
 | _ => none
noncomputable def M5 (μ : q4) : PV -> Option Bool
 | .none => some false
 | .bool b => some b
 | .int i => some (decide (i ≠ 0))
 | .str x => some (decide (x.length ≠ 0))
 | .loc n => (q5 μ n).map fun l => decide (l.length ≠ 0)
 | _ => none
noncomputable def FM : Str := ⟨#[37, 115, 58, 32, 37, 115]⟩
noncomputable def Js : Str := ⟨#[58, 32]⟩
noncomputable def vX : List PV -> Option (List Str)
 | [] => some []
 | p :: r => (qx p).bind fun x => (vX r).map fun t => x :: t
noncomputable def two {α : Type} : List α -> Option (α × α)
 | a :: r => (match r with
   | b :: q => if q.isEmpty then some (a, b) else none
   | [] => none)
 | [] => none
noncomputable def Hw (a b : PV) : PM PV := fun μ => match qx a with
 | some x => (qx b).bind fun y => yx (x ++ y) μ
 | none => (j2 μ a).bind fun l => (j2 μ b).bind fun m => jp (l ++ m) μ
noncomputable def HZ (x : Str) (b : PV) : PM PV := fun μ => (wB b).bind fun l => (two l).bind fun q => (qx q.1).bind fun a => (qx q.2).bind fun b =>
 if x == FM && decide (a.length <= 1000000) && decide (b.length <= 1000000) then yx ((a ++ Js) ++ b) μ else none
noncomputable def LK (a b : PV) : PM PV := fun μ => match qx a with
 | some x => HZ x b μ
 | none => (zx a).bind fun x => (zx b).bind fun y => if y = 0 then none else pret (.int (bX x y)) μ
noncomputable def EN (a b : PV) : PM PV := fun μ => (zx b).bind fun y => match qx a with
 | some x => if 2 <= y /\ y <= 100 /\ x.length <= 100 /\ x.length ≠ 0 then yx (aZ x y) μ else none
 | none => (j2 μ a).bind fun l => if 0 <= y /\ y < 2 ^ 62 /\ l.length * y.toNat <= Pr then Zc (.list (Rw y.toNat l).flatten) μ else none
noncomputable def kZ (op : AH) (a b : PV) : PM PV := fun μ => match op with
 | .Add => Hw a b μ
 | .Mod => LK a b μ
 | .FloorDiv => (zx a).bind fun x => (zx b).bind fun y => if y = 0 \/ 2 ^ 60 <= y.natAbs then none else pret (.int (Int.fdiv x y)) μ
 | .Sub => (zx a).bind fun x => (zx b).bind fun y => pret (.int (x - y)) μ
 | .Mult => EN a b μ
 | _ => none
noncomputable def isNone : PV -> Option Bool
 | .none => some true
 | .bool _ | .int _ | .str _ | .tup _ | .loc _ => some false
 | .val _ | .il _ => none
noncomputable def zy (p : PV) : Bool := (qx p).isSome
noncomputable def pis (a b : PV) : Option Bool := match Qc b with
 | some y => (Qc a).map fun x => decide (x = y)
 | none => if (isNone b).any fun t => t then isNone a else none
noncomputable def qZ (op : Uv) (a b : PV) : PM PV := fun μ => match op with
 | .Eq => (peq μ a b).map fun r => (.ok (.bool r), μ)
 | .NotEq => (peq μ a b).map fun r => (.ok (.bool (!r)), μ)
 | .Lt => (zx a).bind fun x => (zx b).bind fun y => pret (.bool (decide (x < y))) μ
 | .Gt => (zx a).bind fun x => (zx b).bind fun y => pret (.bool (decide (x > y))) μ
 | .Is => (pis a b).map fun r => (.ok (.bool r), μ)
 | .IsNot => (pis a b).map fun r => (.ok (.bool (!r)), μ)
 | .In => (pin μ a b).map fun r => (.ok (.bool r), μ)
 | .NotIn => if zy b then none else (pin μ a b).map fun r => (.ok (.bool (!r)), μ)
 | _ => none
noncomputable def xH : Exn := { cls := "IndexError", msg := none, here := true }
noncomputable def wT : Exn := { cls := "ValueError", msg := none, here := true }
noncomputable def gL : Exn := { cls := "ValueError", msg := some (Pv "Control characters not allowed in headers"), here := true }
noncomputable def x8 (l : Loc) (k : Str) : Option PV := (l.find? fun kv => kv.1 = k).map (·.2)
noncomputable def qU (l : Loc) (k : Str) (v : PV) : Loc := if l.any (fun kv => kv.1 = k) then l.map (fun kv => if kv.1 = k then (kv.1, v) else kv) else l ++ [(k, v)]
noncomputable def W0 (x : Str) (i : Int) : PM PV := fun μ =>
 if i = 0 then (if x.length = 0 then G1 xH μ else pret (.str ⟨#[x.cps.getD 0 0]⟩) μ)
 else if i = -1 then (if x.length = 0 then G1 xH μ else pret (.str ⟨#[x.cps.getD (x.length - 1) 0]⟩) μ) else none
noncomputable def HR (a : PV) (i : Int) : PM PV := fun μ => match qx a with
 | some x => W0 x i μ
 | none => match wB a with
   | some l => if 0 <= i /\ i < 1000 then (l[i.toNat]?).map fun v => (.ok v, μ) else none
   | none => (j2 μ a).bind fun l => if 0 <= i then (l[i.toNat]?).map fun v => (.ok v, μ) else if i = -1 then (l.getLast?).map fun v => (.ok v, μ) else none
noncomputable def zb (a b : PV) : PM PV := fun μ => match zx b with
 | some i => HR a i μ
 | none => (qx b).bind fun k => (jr a).bind fun n => (qe μ n).bind fun l => (x8 l k).map fun v => (.ok v, μ)
noncomputable def gx (l : List PV) (lo hi : Option Int) : List PV :=
 (Af (Sy lo hi none l.length).1 (Sy lo hi none l.length).2.1 (Sy lo hi none l.length).2.2).filterMap (l[·]?)
noncomputable def wM (a : PV) (lo hi : Option PV) : PM PV := fun μ => (hi.bind zx).bind fun j => match lo with
 | some p => (zx p).bind fun i => (qx a).bind fun x => yx (UC x (some i) (some j)) μ
 | none => match E2 a with
   | some l => if l.length <= Pr then jp (gx (l.map .int) none (some j)) μ else none
   | none => (j2 μ a).bind fun l => if l.length <= Pr then jp (gx l none (some j)) μ else none
noncomputable def fns : List (Str × PD) := [("parse_keqv_list", 38), ("parse_http_list", 43), ("_formatparam", 66), ("_law_step", 196), ("_law_items", 201), ("_law_whole", 208), ("_law_read", 215), ("_law_write", 220), ("_law_proxy", 225), ("_law_play", 230), ("_law_back", 235), ("_law_due", 240), ("_law_dict", 245)]
noncomputable def vm : List (Str × PD) := [("_convert_string_type", 88), ("get_all", 126), ("get", 134), ("setdefault", 177), ("add_header", 184)]
noncomputable def Qk (a : PD) : List PV := if a = 66 then [.none, .int 1] else if a = 81 \/ a = 134 then [.none] else []
noncomputable def Hk : Loc := [("tspecials", .val (.ref 48)), ("_name_disallowed_re", .val (.ref 53)), ("_value_disallowed_re", .val (.ref 58)), ("str", .val (.type "str")), ("list", .val (.type "list"))]
structure Fn where
 names : List Str
 kwonly : List Str
 kwarg : Option Str
 sc : List (Str × Sm)
 body : List Sf
abbrev FT := PD -> Option Fn
structure Ev where
 ev : LE -> Expr -> PM PV
 ex : LE -> List Sf -> q4 -> Option (Except Exn j9 × LE × q4)
 call : PD -> List PV -> Loc -> PM PV
noncomputable def xy (c : Nat) : Bool := [32, 40, 41, 60, 62, 64, 44, 59, 58, 92, 34, 47, 91, 93, 63, 61].contains c
noncomputable def Xq (c : Nat) : Bool := c <= 31 || c == 127
noncomputable def QD (c : Nat) : Bool := (c <= 31 && c != 9) || c == 127
noncomputable def WX (p : PD) : Option (Nat -> Bool) := if p = 48 then some xy else if p = 53 then some Xq else if p = 58 then some QD else none
noncomputable def F9 (p : PV) : Bool := ((Wx p).bind WX).isSome
noncomputable def vo (a v : PV) : PM Bool := fun μ => ((Wx a).bind WX).bind fun f => (qx v).bind fun x => pret (x.cps.toList.any f) μ
noncomputable def tru (c : PV) : PM Bool := fun μ => (M5 μ c).map fun t => (.ok t, μ)
noncomputable def ZX : UY -> Bool
 | .And => true
 | .Or => false
noncomputable def C8 : Uv -> Bool
 | .In => true
 | _ => false
section
variable (ft : FT) (r : Ev)
noncomputable def evL (σ : LE) : List Expr -> PM (List PV)
 | [] => pret []
 | e :: es => fun μ => qa (r.ev σ e μ) fun v μ => qa (evL σ es μ) fun vs => pret (v :: vs)
noncomputable def Lw (σ : LE) (l : Expr) (ops : List Uv) (xs : List Expr) : PM Bool := fun μ => match ops, xs with
 | [op], [x] => if yr x then none else qa (r.ev σ l μ) fun a μ => qa (r.ev σ x μ) fun b μ => qa (qZ op a b μ) tru
 | _, _ => none
noncomputable def WK (σ : LE) (f : Expr) (args : List Expr) (kws : List SD) (pos : Pos) : PM Bool := fun μ => (vG f).bind fun a => match args with
 | [e] => if a.2.1 == ("search" : Str) && kws.isEmpty && qT a.1 && a.2.2.endLine == pos.line && !qf e then qa (r.ev σ a.1 μ) fun p μ => if F9 p then qa (r.ev σ e μ) fun v => vo p v else none else none
 | _ => none
mutual
noncomputable def xh (σ : LE) : Expr -> PM Bool
 | .UnaryOp op x _ => match op with
   | .Not => fun μ => qa (xh σ x μ) fun b => pret (!b)
   | _ => fun zz => none
 | .BoolOp op es _ => evTests σ (ZX op) es
 | .Compare l ops xs _ => Lw r σ l ops xs
 | .Call f args kws pos => WK r σ f args kws pos
 | .Name x p => fun μ => qa (r.ev σ (.Name x p) μ) tru
 | .Constant x k p => fun μ => qa (r.ev σ (.Constant x k p) μ) tru
 | _ => fun zz => none
noncomputable def evTests (σ : LE) (t : Bool) : List Expr -> PM Bool
 | [] => pret t
 | e :: es => fun μ => qa (xh σ e μ) fun b => if b == t then evTests σ t es else pret b
end
noncomputable def vR (σ : LE) : List Expr -> List PV -> Option LE
 | [], vs => if vs.isEmpty then some σ else none
 | t :: ts, vs => match vs with
   | v :: vs => (qW t).bind fun x => (σ.put x v).bind fun σ' => vR σ' ts vs
   | [] => none
noncomputable def qt (σ : LE) (t : Expr) (v : PV) : Option LE := by
 induction t using PZ with
 | Name x _ => exact σ.put x v
 | Tuple ts _ _ => exact (wB v).bind fun l => vR σ ts l
 | _ => exact none
set_option genCtorIdx true in
inductive Src where
 | list (n : Nat)
 | str (x : Str)
 | enum (n : Nat)
noncomputable def xq : Src -> Nat -> q4 -> Option (Option PV)
 | .list n, i, μ => (q5 μ n).map fun l => l[i]?
 | .str x, i, _ => some ((x.cps[i]?).map fun c => .str ⟨#[c]⟩)
 | .enum n, i, μ => (q5 μ n).map fun l => (l[i]?).map fun v => .tup [.int i, v]
noncomputable def zW (v : PV) (μ : q4) : Option (Src × Nat) := match qx v with
 | some x => some (.str x, x.length + 1)
 | none => (jr v).bind fun n => (q5 μ n).map fun l => (.list n, l.length + 1)
noncomputable def zY (σ : LE) (ifs : List Expr) : PM Bool := match ifs with
 | [] => pret true
 | c :: cs => if cs.isEmpty then xh r σ c else fun zz => none
noncomputable def zV (src : Src) (target : Expr) (ifs : List Expr) (elt : Expr) : Nat -> Nat -> LE -> PM (List PV)
 | 0, _, _ => fun zz => none
 | k + 1, i, σ => fun μ => (xq src i μ).bind fun o => match o with
   | none => some (.ok [], μ)
   | some v => (qt σ target v).bind fun σ' => qa (zY r σ' ifs μ) fun b μ =>
      if b then qa (r.ev σ' elt μ) fun y μ => qa (zV src target ifs elt k (i + 1) σ' μ) fun ys => pret (y :: ys)
      else zV src target ifs elt k (i + 1) σ' μ
noncomputable def vZ (σ : LE) (sc : Um) : Bool := sc.kind == .function && decide ((sc.names.map (·.1)).Nodup) && sc.names.all fun nk => !(nk.2 == .free) || σ.sc.lookup nk.1 == some .cell
noncomputable def vV (e : Expr) : List Str := by
 induction e using PZ with
 | Name x _ => exact [x]
 | Tuple ts _ _ => exact ts.filterMap qW
 | _ => exact []
noncomputable def jD (t : Expr) : Bool := zo t || (qW t).isSome
noncomputable def Bt (target : Expr) (sc : Um) : Bool := jD target && (vV target).all fun x => !(sc.names.lookup x == some .free)
noncomputable def qG (σ : LE) (elt target : Expr) (ifs : List Expr) (sk : Src × Nat) : PM PV := fun μ => match zV r sk.1 target ifs elt sk.2 0 σ μ with
 | some (.ok ys, μ') => jp ys μ'
 | _ => none
noncomputable def vn (σ : LE) (target iter : Expr) : PM (Src × Nat) := fun μ => match (yb iter).filter (fun q => q.1 == ("enumerate" : Str)) with
 | some q => if σ.isG q.1 && !qf q.2 && zo target then qa (r.ev σ q.2 μ) fun v μ => (jr v).bind fun n => (q5 μ n).map fun l => (.ok (.enum n, l.length + 1), μ) else none
 | none => qa (r.ev σ iter μ) fun v μ => (zW v μ).map fun q => (.ok q, μ)
noncomputable def Y7 (σ : LE) (elt target iter : Expr) (ifs : List Expr) (sc : Um) : PM PV := fun μ =>
 if yr iter || !vZ σ sc || !Bt target sc then none else qa (vn r σ target iter μ) fun q => qG r (σ.comp sc.names) elt target ifs q
noncomputable def Yl : List (Str × (Str -> Str)) := [("lower", Pt), ("upper", Tk), ("swapcase", Sk), ("strip", RT)]
noncomputable def Hf (x : Str) (v : PV) : PM PV := fun μ => (j2 μ v).bind fun l => (vX l).bind fun ts => if Ur x ts && decide ((PU x ts).length <= Pr) then pret (.str (PU x ts)) μ else none
noncomputable def ye (n : Nat) (v : PV) : PM PV := fun μ => (q5 μ n).bind fun l => if l.length + 1 <= Pr then some (.ok .none, qj μ n (.list (l ++ [v]))) else none
noncomputable def Jq (n : Nat) (v : PV) : PM PV := fun μ => (q5 μ n).bind fun l => (jr v).bind fun m => if n = m then none else (q5 μ m).bind fun k => if l.length + k.length <= Pr then some (.ok .none, qj μ n (.list (l ++ k))) else none
noncomputable def j0 (a : PV) (name : Str) (args : List PV) : PM PV := fun μ => match qx a with
 | some x => if args.isEmpty then (Yl.lookup name).bind fun f => yx (f x) μ else (one args).bind fun v => if name == ("join" : Str) then Hf x v μ else none
 | none => (jr a).bind fun n => (one args).bind fun v => if name == ("append" : Str) then ye n v μ else if name == ("extend" : Str) then Jq n v μ else none
noncomputable def DH : Ul -> Option Str
 | .str x => some x
 | _ => none
noncomputable def Ez : Ul -> Option Int
 | .int x => some x
 | _ => none
noncomputable def jV (x : Str) (name : Str) (args : List Ul) : PM PV := fun μ => match args with
 | [] => none
 | c :: cs => (DH c).bind fun y => if y.length = 0 || 1000 < y.length || 16000000 < x.length then none else match cs with
   | [] => if name == ("split" : Str) then jp ((SE x y).map .str) μ else if name == ("rstrip" : Str) then pret (.str (Ar x y)) μ else none
   | d :: ds => if !ds.isEmpty then none else match Ez d with
     | some k => if name == ("split" : Str) && decide (k = 1) then jp ((Tz x y 1).map .str) μ else none
     | none => (DH d).bind fun z => if name == ("replace" : Str) && !(y == z) && decide (y.length = 1) && decide (z.length <= 14) && decide (x.length <= 1048576) then pret (.str (Sz x y z)) μ else none
noncomputable def jq : List Expr -> Option (List Ul)
 | [] => some []
 | e :: r => (vd e).bind fun c => (jq r).map fun cs => c :: cs
noncomputable def vS : List (Str × String) := [("lower", "str.lower"), ("upper", "str.upper"), ("swapcase", "str.swapcase"), ("strip", "str.strip"), ("join", "str.join"), ("replace", "str.replace"), ("split", "str.split"), ("rstrip", "str.rstrip")]
noncomputable def gu : List (Str × String) := [("append", "list.append"), ("extend", "list.extend")]
noncomputable def Z2 (p : PV) (name : Str) : Option String := match qx p with
 | some _ => vS.lookup name
 | none => (jr p).bind fun zz => gu.lookup name
noncomputable def ql (μ : q4) (d : Nat) (name : Str) : Bool := (qe μ d).any fun l => l.all fun kv => !(kv.1 == name)
noncomputable def fO (f : PD) (vs : List PV) (n : Nat) (dv : PV) : PM PV := fun μ => (jr dv).bind fun m => if m = n then none else (qe μ n).bind fun l => (qe μ m).bind fun l' => if l.isEmpty then (one l').bind fun kv => r.call f vs [kv] (qj μ n (.dict [kv])) else none
noncomputable def Md (σ : LE) (f : PD) (a : PV) (args : List Expr) (kws : List SD) : PM PV := match kws with
 | [] => fun μ => qa (evL r σ args μ) fun vs => r.call f (a :: vs) []
 | k :: ks => fun μ => if !ks.isEmpty then none else qa (evL r σ args μ) fun vs μ => match k.arg with
   | some x => qa (r.ev σ k.value μ) fun v => r.call f (a :: vs) [(x, v)]
   | none => qa (r.ev σ k.value (μ ++ [.dict []])) fun dv => fO r f (a :: vs) μ.length dv
noncomputable def Wd (σ : LE) (a : PV) (name : Str) (args : List Expr) : PM PV := fun μ => match qx a with
 | some x => (match jq args with
   | some cs => if cs.isEmpty then j0 a name [] μ else jV x name cs μ
   | none => qa (evL r σ args μ) fun vs => j0 a name vs)
 | none => (j2 μ a).bind fun zz => qa (evL r σ args μ) fun vs => j0 a name vs
noncomputable def Jz (σ : LE) (o : Expr) (name : Str) (apos pos : Pos) (args : List Expr) (kws : List SD) : PM PV := fun μ =>
 if qT o && apos.endLine == pos.line && args.all (!qf ·) && decide (args.length < 10) then qa (r.ev σ o μ) fun a μ => match qv μ a with
  | some d => if ql μ d name then (vm.lookup name).bind fun f => Md r σ f a args kws μ else none
  | none => if kws.isEmpty && (Z2 a name).isSome then Wd r σ a name args μ else none
 else none
noncomputable def Bo (v : PV) : PM PV := fun μ => match qx v with
 | some x => pret (.int x.length) μ
 | none => (j2 μ v).bind fun l => pret (.int l.length) μ
noncomputable def ZQ (v : PV) : PM PV := fun μ => match qx v with
 | some _ => pret (.val (.type "str")) μ
 | none => (j2 μ v).bind fun zz => pret (.val (.type "list")) μ
noncomputable def HL (v : PV) : PM PV := fun μ => (qx v).bind fun x => if x.length = 1 then pret (.int (x.cps.getD 0 0)) μ else none
noncomputable def LT (v : PV) : PM PV := fun μ => (zx v).bind fun i => if 0 <= i /\ i < 1000 then pret (.str ⟨#[i.toNat]⟩) μ else none
noncomputable def Hj (v : PV) : PM PV := fun μ => (qv μ v).bind fun zz => qa (r.call 163 [v] [] μ) fun v => if zy v then pret v else fun zz => none
noncomputable def pB1 (f : Str) : Option (PV -> PM PV) :=
 if f == ("len" : Str) then some Bo else if f == ("type" : Str) then some ZQ else if f == ("ord" : Str) then some HL else if f == ("chr" : Str) then some LT else if f == ("str" : Str) then some (Hj r) else none
noncomputable def Zy : PD := 81
noncomputable def WO : PV -> Bool
 | .none => true
 | _ => false
noncomputable def QY (vs : List PV) : PM PV := fun μ => qa (r.call Zy (.loc (μ.length + 1) :: vs) [] (μ ++ [.dict [], .inst μ.length])) fun v => if WO v then pret (.loc (μ.length + 1)) else fun zz => none
noncomputable def JH (v : PV) : PM PV := fun μ => (jr v).bind fun n => (qe μ n).bind fun l => if l.all fun kv => decide (kv.1.length <= Pr) then jp (l.map fun kv => .tup [.str kv.1, kv.2]) μ else none
noncomputable def Jr (σ : LE) (args : List Expr) : PM PV := fun μ => (one args).bind fun e => (xA e).bind fun q => if q.2.1 == ("items" : Str) && qT q.1 && q.2.2.1.endLine == q.2.2.2.line then qa (r.ev σ q.1 μ) JH else none
noncomputable def JO (σ : LE) (f : Str) (args : List Expr) : PM PV := fun μ => if σ.isG f && args.all (!qf ·) && decide (args.length < 10) then match fns.lookup f with
 | some a => qa (evL r σ args μ) fun vs => r.call a vs []
 | none => if f == ("Headers" : Str) then qa (evL r σ args μ) (QY r) else if f == ("list" : Str) then Jr r σ args μ
   else (pB1 r f).bind fun g => qa (evL r σ args μ) fun vs μ => (one vs).bind fun v => g v μ
 else none
noncomputable def WC (σ : LE) : Option Expr -> PM (Option PV)
 | none => pret none
 | some e => fun μ => qa (r.ev σ e μ) fun v => pret (some v)
noncomputable def gi (σ : LE) : List (Option Expr) -> List Expr -> PM (Loc)
 | [], vs => if vs.isEmpty then pret [] else fun zz => none
 | k :: ks, vs => fun μ => k.bind fun k => match vs with
   | v :: vs => qa (r.ev σ k μ) fun a μ => qa (r.ev σ v μ) fun b μ => qa (gi σ ks vs μ) fun l μ => (qx a).bind fun x => some (.ok ((x, b) :: l), μ)
   | [] => none
noncomputable def QZ (e : Expr) : Option Str := (vd e).bind DH
noncomputable def Gm (e : Expr) : Option Expr := by
 induction e using PZ with
 | FormattedValue e c s _ => exact if c = 115 /\ s.isNone then some e else none
 | _ => exact none
noncomputable def VA (out x : Str) : Option Str := if out.length + x.length <= Pr then some (out ++ x) else none
noncomputable def zR (σ : LE) (out : Str) : List Expr -> PM PV
 | [] => yx out
 | e :: es => match QZ e with
   | some x => fun μ => (VA out x).bind fun out => zR σ out es μ
   | none => fun μ => (Gm e).bind fun e => qa (r.ev σ e μ) fun v μ => (qx v).bind fun x => (VA out x).bind fun out => zR σ out es μ
noncomputable def Q4 (σ : LE) (x : Str) : PM PV := fun μ => if x == ("__debug__" : Str) then pret (.bool true) μ else match σ.get x with
 | some p => pret p μ
 | none => if σ.isG x then (Hk.lookup x).map fun p => (.ok p, μ) else none
noncomputable def Fg (σ : LE) (es : List Expr) : PM PV := fun μ => if es.any qf then none else qa (evL r σ es μ) fun vs μ => if vs.length <= Pr then pret (.tup vs) μ else none
noncomputable def H6 (σ : LE) (es : List Expr) : PM PV := fun μ => if es.any qf then none else qa (evL r σ es μ) jp
noncomputable def FZ (σ : LE) (ks : List (Option Expr)) (vs : List Expr) : PM PV := fun μ => if ks.length < 10 /\ ks.length = vs.length /\ ks.all (·.isSome) = true then
 qa (gi r σ ks vs (μ ++ [.dict []])) fun l μ₁ => if (l.map (·.1)).Nodup /\ (qe μ₁ μ.length).any (·.isEmpty) = true then some (.ok (.loc μ.length), qj μ₁ μ.length (.dict l)) else none else none
noncomputable def eUn (op : ag) (x : Expr) : PM PV := fun μ => match op with
 | .USub => ((vd x).bind Ez).bind fun i => pret (.int (-i)) μ
 | _ => none
noncomputable def Fx (σ : LE) (op : UY) (es : List Expr) : PM PV := fun μ => if ZX op then none else (two es).bind fun q => qa (r.ev σ q.1 μ) fun a μ => qa (tru a μ) fun t => if t then pret a else r.ev σ q.2
noncomputable def Wa (op : Uv) (a b : PV) : PM PV := fun μ => match if C8 op && zy a then qv μ b else none with
 | some _ => qa (r.call 121 [b, a] [] μ) fun c μ => qa (tru c μ) fun t => pret (.bool t)
 | none => qZ op a b μ
noncomputable def LP (σ : LE) (l : Expr) (ops : List Uv) (xs : List Expr) : PM PV := fun μ => match ops, xs with
 | [op], [x] => if yr x then none else qa (r.ev σ l μ) fun a μ => qa (r.ev σ x μ) fun b => Wa r op a b
 | _, _ => none
noncomputable def YG (σ : LE) (v : Expr) (lo hi st : Option Expr) : PM PV := fun μ => if st.isNone then qa (r.ev σ v μ) fun a μ => qa (WC r σ lo μ) fun l μ => qa (WC r σ hi μ) fun h => wM a l h else none
noncomputable def LN (σ : LE) (v i : Expr) : PM PV := match i with
 | .Slice lo hi st _ => YG r σ v lo hi st
 | i => fun μ => qa (r.ev σ v μ) fun a μ => qa (r.ev σ i μ) fun b => zb a b
noncomputable def FS (σ : LE) (o : Expr) (name : Str) : PM PV := fun μ => if qT o && name == ("_headers" : Str) then qa (r.ev σ o μ) fun a μ => (qv μ a).bind fun d => (qe μ d).bind fun l => (x8 l name).bind fun v => if Wb v then none else some (.ok v, μ) else none
noncomputable def Hr (σ : LE) (f : Expr) (args : List Expr) (kws : List SD) (pos : Pos) : PM PV := by
 induction f using PZ with
 | Attribute o name apos => exact Jz r σ o name apos pos args kws
 | Name f _ => exact if kws.isEmpty then JO r σ f args else fun zz => none
 | _ => exact (fun zz => none)
noncomputable def eLC (σ : LE) (elt : Expr) (gens : List TQ) (sc : Um) : PM PV := fun μ => (one gens).bind fun g => if g.is_async = 0 then Y7 r σ elt g.target g.iter g.ifs sc μ else none
noncomputable def Jn (σ : LE) (e : Expr) : PM PV := by
 induction e using PZ with
 | BoolOp op es _ => exact Fx r σ op es
 | BinOp l op x _ => exact fun μ => qa (r.ev σ l μ) fun a μ => qa (r.ev σ x μ) fun b => kZ op a b
 | UnaryOp op x _ => exact eUn op x
 | IfExp t b o _ => exact fun μ => qa (xh r σ t μ) fun c => if c then r.ev σ b else r.ev σ o
 | Dict ks vs _ => exact FZ r σ ks vs
 | ListComp elt gens sc _ => exact eLC r σ elt gens sc
 | Compare l ops xs _ => exact LP r σ l ops xs
 | Call f args kws pos => exact Hr r σ f args kws pos
 | JoinedStr es _ => exact if 2 <= es.length then zR r σ PE es else fun zz => none
 | Constant c _ _ => exact fun μ => (wR c).map fun p => (.ok p, μ)
 | Attribute o name _ => exact FS r σ o name
 | Subscript v i _ => exact LN r σ v i
 | Name x _ => exact Q4 σ x
 | List es _ => exact H6 r σ es
 | Tuple es _ _ => exact Fg r σ es
 | _ => exact (fun zz => none)
noncomputable def Za (σ : LE) (ts : List Expr) (v : PV) (μ : q4) : Option (Except Exn LE × q4) := match wB v with
 | some l => if l.length = ts.length then (vR σ ts l).map fun σ' => (.ok σ', μ) else none
 | none => (j2 μ v).bind fun l => if l.length = 1 /\ ts.length = 2 then some (.error wT, μ) else if l.length = ts.length then (vR σ ts l).map fun σ' => (.ok σ', μ) else none
abbrev SR' := Option (Except Exn j9 × LE × q4)
noncomputable def qC {α : Type} (σ : LE) (m : PR α) (f : α -> q4 -> SR') : SR' := match m with
 | none => none
 | some (.error x, μ) => some (.error x, σ, μ)
 | some (.ok a, μ) => f a μ
noncomputable def zg (σ : LE) (f : j9) (μ : q4) : SR' := some (.ok f, σ, μ)
noncomputable def zJ (src : Src) (target : Expr) (body : List Sf) : Nat -> Nat -> LE -> q4 -> SR'
 | 0, _, _, _ => none
 | k + 1, i, σ, μ => (xq src i μ).bind fun o => match o with
   | none => zg σ .next μ
   | some v => (qt σ target v).bind fun σ' => match r.ex σ' body μ with
      | some (.ok .next, σ₁, μ₁) => zJ src target body k (i + 1) σ₁ μ₁
      | some (.ok .cont, σ₁, μ₁) => zJ src target body k (i + 1) σ₁ μ₁
      | some (.ok .brk, _, _) => none
      | o => o
noncomputable def J6 (c : Str) (x : Exn) : Bool := (c == ("ValueError" : Str) || c == ("IndexError" : Str)) && (x.cls == "ValueError" || x.cls == "IndexError")
noncomputable def EP (s : Sf) : Option Expr := by
 induction s using Tb with
 | Return e _ => exact e
 | _ => exact none
noncomputable def JT (b : List Sf) : Option Ul := (one b).bind fun s => (EP s).bind vd
noncomputable def G9 (s : Sf) : Option Expr := by
 induction s using Tb with
 | Expr e _ => exact some e
 | _ => exact none
noncomputable def Qa (b : List Sf) : Option (Str × Str × Pos × Str × Str × Pos) := (one b).bind fun s => (G9 s).bind fun e => (fq e).bind fun c => (vG c.1).bind fun a => (qW a.1).bind fun y =>
 (one c.2.1).bind fun z => (yb z).bind fun q => (qW q.2).bind fun f => if c.2.2.1.isEmpty then some (y, a.2.1, a.2.2, q.1, f, c.2.2.2) else none
noncomputable def M3 (σ : LE) (x : Exn) (c f : Str) (q : Str × Str × Pos × Str × Str × Pos) (μ : q4) : SR' :=
 if J6 c x && c == (x.cls : Str) && σ.isG c && σ.isG q.2.2.2.1 && σ.sc.lookup f == some .local && q.2.1 == ("append" : Str) && q.2.2.2.1 == ("str" : Str) && f == q.2.2.2.2.1 && !(f == q.1) && (σ.vs.lookup f).isNone && q.2.2.1.endLine == q.2.2.2.2.2.line && !(f == ("__debug__" : Str)) && !(q.1 == ("__debug__" : Str)) then
  (σ.get q.1).bind fun p => (jr p).bind fun n => x.msg.bind fun t => (q5 μ n).bind fun l => if l.length + 1 <= Pr /\ t.length <= Pr then zg σ .next (qj μ n (.list (l ++ [.str t]))) else none
 else none
noncomputable def yO (σ : LE) (x : Exn) : List Tl -> q4 -> SR'
 | [], _ => none
 | .ExceptHandler t f b _ :: rest, μ => (t.bind qW).bind fun c => match f with
   | none => (JT b).bind fun k => if σ.isG c && J6 c x then (if c == (x.cls : Str) then (wR k).bind fun p => zg σ (.ret p) μ else yO σ x rest μ) else none
   | some f => (Qa b).bind fun q => M3 σ x c f q μ
noncomputable def kQ (σ : LE) (x : Str) (v : PV) (μ : q4) : SR' := (σ.put x v).bind fun σ' => zg σ' .next μ
noncomputable def F0 (σ : LE) (ts es : List Expr) (μ : q4) : SR' := (two ts).bind fun t => (two es).bind fun q => (wh t.1).bind fun x => (wh t.2).bind fun y =>
 if σ.sc.lookup x.1 == some .local && σ.sc.lookup y.1 == some .local && x.2.line == y.2.line && !(x.1 == y.1) && !(es.all (aD 8)) && !(es.all (AI 8)) && !qf q.1 && !qf q.2 then
  qC σ (r.ev σ q.1 μ) fun v μ => qC σ (r.ev σ q.2 μ) fun u μ => (σ.put y.1 u).bind fun σ => kQ σ x.1 v μ
 else none
noncomputable def xv (σ : LE) (ts : List Expr) (v : PV) (μ : q4) : SR' := match Za σ ts v μ with
 | some (.ok σ', μ) => zg σ' .next μ
 | some (.error x, μ) => some (.error x, σ, μ)
 | none => none
noncomputable def Bp (σ : LE) (ts : List Expr) (e : Expr) (μ : q4) : SR' := match e with
 | .Tuple es _ _ => F0 r σ ts es μ
 | e => if ts.any qf then none else qC σ (r.ev σ e μ) (xv σ ts)
noncomputable def Ve (σ : LE) (y name : Str) (e : Expr) (μ : q4) : SR' := if name == ("_headers" : Str) && !(y == ("__debug__" : Str)) then qC σ (r.ev σ e μ) fun v μ => (σ.get y).bind fun p => (qv μ p).bind fun d => (qe μ d).bind fun l =>
 if l.isEmpty then zg σ .next (qj μ d (.dict [(name, v)])) else none else none
noncomputable def ga (σ : LE) (a v : PV) (μ : q4) : SR' := (jr a).bind fun n => (jr v).bind fun m => (q5 μ n).bind fun l₀ => (q5 μ m).bind fun l => if n = m \/ Pr < l₀.length + l.length then none else zg σ .next (qj μ n (.list l))
noncomputable def Z0 (σ : LE) (o e : Expr) (μ : q4) : SR' := qC σ (r.ev σ e μ) fun v μ => qC σ (r.ev σ o μ) fun a => ga σ a v
noncomputable def Gq (σ : LE) (a k v : PV) (μ : q4) : SR' := (qx k).bind fun x => match qv μ a with
 | some _ => qC σ (r.call 102 [a, k, v] [] μ) fun zz => zg σ .next
 | none => (jr a).bind fun n => (qe μ n).bind fun l => if l.length + 1 <= Pr then zg σ .next (qj μ n (.dict (qU l x v))) else none
noncomputable def FO (σ : LE) (o i e : Expr) (μ : q4) : SR' := qC σ (r.ev σ e μ) fun v μ => qC σ (r.ev σ o μ) fun a μ => qC σ (r.ev σ i μ) fun k => Gq r σ a k v
noncomputable def MU (σ : LE) (o i e : Expr) (μ : q4) : SR' := match i with
 | .Slice lo hi st _ => if lo.isNone && hi.isNone && st.isNone then Z0 r σ o e μ else none
 | i => FO r σ o i e μ
noncomputable def XD (σ : LE) (t e : Expr) (μ : q4) : SR' := by
 induction t using PZ with
 | Attribute o name _ => exact (qW o).bind fun y => Ve r σ y name e μ
 | Subscript o i _ => exact MU r σ o i e μ
 | Name x _ => exact if gl e then none else qC σ (r.ev σ e μ) (kQ σ x)
 | Tuple ts _ _ => exact Bp r σ ts e μ
 | _ => exact none
noncomputable def I3 (σ : LE) (ts : List Expr) (e : Expr) (μ : q4) : SR' := match ts with
 | [] => none
 | t :: ts => (match ts with
   | [] => XD r σ t e μ
   | u :: us => if us.isEmpty then (qW t).bind fun x => (qW u).bind fun y => qC σ (r.ev σ e μ) fun v μ => (σ.put x v).bind fun σ => kQ σ y v μ else none)
noncomputable def EJ (σ : LE) (a k : PV) (μ : q4) : SR' := (qv μ a).bind fun zz => if zy k then qC σ (r.call 107 [a, k] [] μ) fun zz => zg σ .next else none
noncomputable def Im (σ : LE) (ts : List Expr) (μ : q4) : SR' := (one ts).bind fun t => by
 induction t using PZ with
 | Subscript o i _ => exact qC σ (r.ev σ o μ) fun a μ => qC σ (r.ev σ i μ) fun k => EJ r σ a k
 | _ => exact none
noncomputable def Hn : AH -> Bool
 | .Add => true
 | _ => false
noncomputable def Nf (σ : LE) (t : Expr) (op : AH) (e : Expr) (μ : q4) : SR' := (qW t).bind fun x => (σ.get x).bind fun old => qC σ (r.ev σ e μ) fun v μ => if Hn op then (qx old).bind fun a => (qx v).bind fun b => qC σ (yx (a ++ b) μ) (kQ σ x) else none
noncomputable def y7 (σ : LE) (target : Expr) (body : List Sf) (v : PV) (μ : q4) : SR' := (jr v).bind fun n => (zj μ n).bind fun l => match l with
 | [] => zg σ .next μ
 | kp :: l => if l.isEmpty && decide (kp.1.length <= Pr) then (qt σ target (.tup [.str kp.1, kp.2])).bind fun σ' => match r.ex σ' body μ with
    | some (.ok .next, σ₁, μ₁) => ((zj μ₁ n).bind one).bind fun zz => zg σ₁ .next μ₁
    | some (.error x, σ₁, μ₁) => some (.error x, σ₁, μ₁)
    | _ => none
   else none
noncomputable def F8 (σ : LE) (target iter : Expr) (body : List Sf) (μ : q4) : SR' := match xA iter with
 | some q => if q.2.1 == ("items" : Str) && qT q.1 && q.2.2.1.endLine == q.2.2.2.line && zo target then qC σ (r.ev σ q.1 μ) (y7 r σ target body) else none
 | none => if yr iter || !jD target then none else qC σ (r.ev σ iter μ) fun v μ => (zW v μ).bind fun q => zJ r q.1 target body q.2 0 σ μ
noncomputable def FV (e : Expr) : Option (Str × Str) := (yb e).bind fun q => (QZ q.2).bind fun m => some (q.1, m)
noncomputable def YO (σ : LE) (e c : Option Expr) (μ : q4) : SR' := if c.isNone then (e.bind FV).bind fun q => if q.1 == ("ValueError" : Str) && σ.isG q.1 then some (.error { cls := "ValueError", msg := some q.2, here := true }, σ, μ) else none else none
noncomputable def Kf (σ : LE) (body : List Sf) (hs : List Tl) (μ : q4) : SR' := match r.ex σ body μ with
 | some (.error x, σ₁, μ₁) => if x.here then none else yO σ₁ x hs μ₁
 | o => o
noncomputable def wI (σ : LE) (st : Sf) (μ : q4) : SR' := by
 induction st using Tb with
 | Return e _ => exact e.bind fun e => qC σ (r.ev σ e μ) fun v => zg σ (.ret v)
 | Delete ts _ => exact Im r σ ts μ
 | Assign ts e _ => exact I3 r σ ts e μ
 | AugAssign t op e _ => exact Nf r σ t op e μ
 | For target iter body o _ => exact if o.isEmpty then F8 r σ target iter body μ else none
 | If t b o _ => exact qC σ (xh r σ t μ) fun c μ => if c then r.ex σ b μ else r.ex σ o μ
 | Raise e c _ => exact YO σ e c μ
 | Try body hs o f _ => exact if !hs.isEmpty && o.isEmpty && f.isEmpty then Kf r σ body hs μ else none
 | Expr e _ => exact if Z9 e then none else qC σ (r.ev σ e μ) fun v μ => if vC v then zg σ .next μ else none
 | Continue => exact zg σ .cont μ
 | _ => exact none
noncomputable def zw (σ : LE) : List Sf -> q4 -> SR'
 | [], μ => zg σ .next μ
 | st :: rest, μ => match wI r σ st μ with
   | some (.ok .next, σ₁, μ₁) => zw σ₁ rest μ₁
   | o => o
noncomputable def yi : List Str := ["k", "K", "a_b\\"]
noncomputable def jG (a : PD) (f : Fn) (vs : List PV) (kw : Loc) (μ : q4) : Option (LE × q4) :=
 if f.names.length < vs.length || (Qk a).length < f.names.length - vs.length then none else
  let pos := f.names.zip (vs ++ (Qk a).drop ((Qk a).length - (f.names.length - vs.length)))
  match f.kwarg with
  | some x => if f.kwonly.isEmpty && kw.length <= 1 && kw.all (fun kv => yi.contains kv.1) then some (⟨f.sc, pos ++ [(x, .loc μ.length)]⟩, μ ++ [.kw kw]) else none
  | none => (match f.kwonly with
    | [] => if kw.isEmpty then some (⟨f.sc, pos⟩, μ) else none
    | k :: ks => if ks.isEmpty then (one kw).bind fun q => if k == q.1 then some (⟨f.sc, pos ++ [(k, q.2)]⟩, μ) else none else none)
noncomputable def zX (m : SR') : PR PV := m.bind fun q => match q.1 with
 | .ok f => (match f with
   | .ret p => some (.ok p, q.2.2)
   | .next => some (.ok .none, q.2.2)
   | _ => none)
 | .error x => some (.error { x with here := false }, q.2.2)
noncomputable def yt (a : PD) (vs : List PV) (kw : Loc) : PM PV := fun μ => (ft a).bind fun f => (jG a f vs kw μ).bind fun b => zX (r.ex b.1 f.body b.2)
end
noncomputable def Go (ft : FT) (r : Ev) : Ev := { ev := Jn r, ex := zw r, call := yt ft r }
noncomputable def evN (ft : FT) : Nat -> Ev
 | 0 => { ev := fun zz zz zz => none, ex := fun zz zz zz => none, call := fun zz zz zz zz => none }
 | n + 1 => Go ft (evN ft n)
theorem no {α : Type} {a : α} {p : Prop} (h : (none : Option α) = some a) : p := nomatch h
theorem noB {p : Prop} (h : false = true) : p := nomatch h
theorem bnd {α β : Type} {o : Option α} {f : α -> Option β} {y : β} (h : o.bind f = some y) : ∃ x, o = some x /\ f x = some y := Option.bind_eq_some_iff.mp h
theorem mp' {α β : Type} {o : Option α} {f : α -> β} {y : β} (h : o.map f = some y) : ∃ x, o = some x /\ some (f x) = some y := let ⟨x, a, b⟩ := Sv.mp h; ⟨x, a, congrArg some b⟩
theorem ifT {α : Type} {c : Prop} [Decidable c] {x : Option α} {y : α} (h : (if c then x else none) = some y) : c /\ x = some y := by
 by_cases hc : c
 ·exact ⟨hc, by rwa [if_pos hc] at h⟩
 ·rw [if_neg hc] at h; exact no h
theorem ifF {α : Type} {c : Prop} [Decidable c] {x : Option α} {y : α} (h : (if c then none else x) = some y) : ¬ c /\ x = some y := by
 by_cases hc : c
 ·rw [if_pos hc] at h; exact no h
 ·exact ⟨hc, by rwa [if_neg hc] at h⟩
theorem ifB {α : Type} {b : Bool} {x : Option α} {y : α} (h : (if b = true then none else x) = some y) : b = false /\ x = some y := by
 cases b
 ·exact ⟨rfl, h⟩
 ·exact no h
theorem bK {α β : Type} {o : Option α} {f : α -> Option β} {y : β} {G : Prop} (h : o.bind f = some y) (k : ∀ x, o = some x -> f x = some y -> G) : G := let ⟨x, a, b⟩ := bnd h; k x a b
theorem mK {α β : Type} {o : Option α} {f : α -> β} {y : β} {G : Prop} (h : o.map f = some y) (k : ∀ x, o = some x -> some (f x) = some y -> G) : G := let ⟨x, a, b⟩ := mp' h; k x a b
theorem iT {α : Type} {c : Prop} [Decidable c] {x : Option α} {y : α} {G : Prop} (h : (if c then x else none) = some y) (k : c -> x = some y -> G) : G := let ⟨a, b⟩ := ifT h; k a b
theorem iB {α : Type} {b : Bool} {x : Option α} {y : α} {G : Prop} (h : (if b = true then none else x) = some y) (k : b = false -> x = some y -> G) : G := let ⟨a, b⟩ := ifB h; k a b
theorem qk {α : Type} {a b : α} (h : some a = some b) : a = b := by cases h; rfl
theorem wS {α β : Type} {a a' : α} {b b' : β} (h : some (a, b) = some (a', b')) : a' = a /\ b' = b := ⟨(congrArg RN (qk h)).symm, (congrArg Rh (qk h)).symm⟩
theorem No {α β γ : Type} {a a' : α} {b b' : β} {c c' : γ} (h : some (a, b, c) = some (a', b', c')) : a' = a /\ b' = b /\ c' = c := ⟨(congrArg RN (qk h)).symm, wS (congrArg some (congrArg Rh (qk h)))⟩
theorem fin {α : Type} {o : Option α} {P : α -> Prop} {q : α} (h : o.elim True P) (e : o = some q) : P q := (e ▸ h : (some q).elim True P)
theorem OO {b : Bool} {P : Prop} (h : b = true /\ P \/ b = false) (e : b = true) : P := h.elim (·.2) fun q => nomatch e.symm.trans q
theorem OA {α : Type} {c : Prop} [Decidable c] {x : α} {P : α -> Prop} (h : c -> P x) : (if c then some x else none : Option α).elim True P := by
 by_cases hc : c
 ·rw [if_pos hc]; exact h hc
 ·rw [if_neg hc]; exact trivial
theorem an {a b : Bool} (h : (a && b) = true) : a = true /\ b = true := by induction a <;> induction b <;> first | exact ⟨rfl, rfl⟩ | exact noB h
theorem orF {a b : Bool} (h : (a || b) = false) : a = false /\ b = false := by induction a <;> induction b <;> first | exact ⟨rfl, rfl⟩ | cases h
theorem nt {a : Bool} (h : (!a) = true) : a = false := by induction a <;> first | rfl | cases h
theorem qb {x y : Str} (h : (x == y) = true) : x = y := eq_of_beq h
theorem GO : Pr = 16777216 := by decide
theorem kg {p : PV} {x : Str} (h : qx p = some x) : p = .str x := by induction p using PV.casesOn <;> first | exact no h | exact congrArg _ (qk h)
theorem Km {p : PV} {x : Int} (h : zx p = some x) : p = .int x := by induction p using PV.casesOn <;> first | exact no h | exact congrArg _ (qk h)
theorem jI {p : PV} {x : Nat} (h : jr p = some x) : p = .loc x := by induction p using PV.casesOn <;> first | exact no h | exact congrArg _ (qk h)
theorem QN {p : PV} {x : List PV} (h : wB p = some x) : p = .tup x := by induction p using PV.casesOn <;> first | exact no h | exact congrArg _ (qk h)
theorem Bx {p : PV} {x : List Int} (h : E2 p = some x) : p = .il x := by induction p using PV.casesOn <;> first | exact no h | exact congrArg _ (qk h)
theorem vL {p : PV} {x : Pu} (h : WI p = some x) : p = .val x := by induction p using PV.casesOn <;> first | exact no h | exact congrArg _ (qk h)
theorem Ye {p : PV} {x : String} (h : Qc p = some x) : p = .val (.type x) := by
 obtain ⟨v, h1, h2⟩ := bnd h
 induction v <;> first | exact no h2 | exact (vL h1).trans (congrArg (fun y => PV.val (.type y)) (qk h2))
theorem VY {p : PV} {x : PD} (h : Wx p = some x) : p = .val (.ref x) := by
 obtain ⟨v, h1, h2⟩ := bnd h
 induction v <;> first | exact no h2 | exact (vL h1).trans (congrArg (fun y => PV.val (.ref y)) (qk h2))
section
variable {hT : PO} {ρ : List PD} {h : PO} {v : Pu} {p : PV}
def RvI (hT : PO) (ρ : List PD) (h : PO) (v : Pu) (p : PV) : Prop := match p with
 | .none => v = .none
 | .bool b => v = .bool b
 | .int i => ∃ t, v = .int i t
 | .str x => ∃ t, v = .str x t /\ x.length <= Pr
 | .tup l => ∃ a vs, v = .ref a /\ h.IsTuple a vs.toArray /\ RvL hT ρ h vs l
 | .loc n => ∃ a, v = .ref a /\ ρ[n]? = some a
 | .val u => v = u
 | .il l => ∃ a vs, v = .ref a /\ hT.IsList a vs.toArray /\ bU vs l
theorem Rv.inv (r : Rv hT ρ h v p) : RvI hT ρ h v p := by
 cases r with
 | none => exact rfl
 | bool b => exact rfl
 | int i t => exact ⟨t, rfl⟩
 | str x t hx => exact ⟨t, rfl, hx⟩
 | tup a b => exact ⟨_, _, rfl, a, b⟩
 | loc hn => exact ⟨_, rfl, hn⟩
 | val u => exact rfl
 | il a b => exact ⟨_, _, rfl, a, b⟩
theorem Rv.sI {x : Str} (r : Rv hT ρ h v p) (e : qx p = some x) : ∃ t, v = .str x t /\ x.length <= Pr := by have := kg e; subst this; exact r.inv
theorem Rv.iI {x : Int} (r : Rv hT ρ h v p) (e : zx p = some x) : ∃ t, v = .int x t := by have := Km e; subst this; exact r.inv
theorem Rv.lI {n : Nat} (r : Rv hT ρ h v p) (e : jr p = some n) : ∃ a, v = .ref a /\ ρ[n]? = some a := by have := jI e; subst this; exact r.inv
theorem Rv.tI {l : List PV} (r : Rv hT ρ h v p) (e : wB p = some l) : ∃ a vs, v = .ref a /\ h.IsTuple a vs.toArray /\ RvL hT ρ h vs l := by have := QN e; subst this; exact r.inv
theorem Rv.ilI {l : List Int} (r : Rv hT ρ h v p) (e : E2 p = some l) : ∃ a vs, v = .ref a /\ hT.IsList a vs.toArray /\ bU vs l := by have := Bx e; subst this; exact r.inv
theorem Rv.yI {x : String} (r : Rv hT ρ h v p) (e : Qc p = some x) : v = .type x := by have := Ye e; subst this; exact r.inv
theorem Rv.rI {x : PD} (r : Rv hT ρ h v p) (e : Wx p = some x) : v = .ref x := by have := VY e; subst this; exact r.inv
theorem Rv.nI (r : Rv hT ρ h v p) (e : isNone p = some true) : v = .none := by induction p using PV.casesOn <;> first | exact r.inv | exact absurd e (by simp [isNone])
end
theorem Ku {c : q8} {l : List PV} (h : kB c = some l) : c = .list l := by induction c <;> first | exact no h | exact congrArg _ (qk h)
theorem VW {c : q8} {l : Loc} (h : wD c = some l) : c = .dict l := by induction c <;> first | exact no h | exact congrArg _ (qk h)
theorem CQ {c : q8} {l : Loc} (h : cKw c = some l) : c = .kw l := by induction c <;> first | exact no h | exact congrArg _ (qk h)
theorem KJ {c : q8} {d : Nat} (h : xz c = some d) : c = .inst d := by induction c <;> first | exact no h | exact congrArg _ (qk h)
theorem Jj {μ : q4} {n : Nat} {l : List PV} (h : q5 μ n = some l) : μ[n]? = some (.list l) := by
 obtain ⟨c, h1, h2⟩ := bnd h
 rw [h1, Ku h2]
theorem JJ {μ : q4} {n : Nat} {l : Loc} (h : qe μ n = some l) : μ[n]? = some (.dict l) := by
 obtain ⟨c, h1, h2⟩ := bnd h
 rw [h1, VW h2]
theorem YW {μ : q4} {n : Nat} {l : Loc} (h : zj μ n = some l) : μ[n]? = some (.kw l) := by
 obtain ⟨c, h1, h2⟩ := bnd h
 rw [h1, CQ h2]
theorem vt {μ : q4} {n : Nat} {l : Nat} (h : zZ μ n = some l) : μ[n]? = some (.inst l) := by
 obtain ⟨c, h1, h2⟩ := bnd h
 rw [h1, KJ h2]
theorem jN {α : Type} {l : List α} {a : α} (h : one l = some a) : l = [a] := by
 induction l using PC with
 | nil => exact no h
 | cons b r =>
   obtain ⟨h1, h2⟩ := ifT h
   rw [Rf.mp h1, qk h2]
theorem g9 {α : Type} {l : List α} {q : α × α} (h : two l = some q) : l = [q.1, q.2] := by
 induction l using PC with
 | nil => exact no h
 | cons a r =>
   induction r using PC with
   | nil => exact no h
   | cons b r =>
     obtain ⟨h1, h2⟩ := ifT h
     rw [Rf.mp h1, <- qk h2]
theorem yT {e : Expr} {q : Str × Pos} (h : wh e = some q) : e = .Name q.1 q.2 := fin (P := fun q => e = .Name q.1 q.2) (by clear h; induction e using PZ <;> first | exact TZ | exact rfl) h
theorem jc {e : Expr} {x : Str} (h : qW e = some x) : ∃ p, e = .Name x p := by
 obtain ⟨q, h1, h2⟩ := mp' h
 exact ⟨q.2, by rw [<- qk h2]; exact yT h1⟩
theorem xB {e : Expr} {x : Ul} (h : vd e = some x) : ∃ k p, e = .Constant x k p := fin (P := fun x => ∃ k p, e = .Constant x k p) (by clear h; induction e using PZ <;> first | exact TZ | exact ⟨_, _, rfl⟩) h
theorem wQ {e : Expr} {q : Expr × Str × Pos} (h : vG e = some q) : e = .Attribute q.1 q.2.1 q.2.2 := fin (P := fun q => e = .Attribute q.1 q.2.1 q.2.2) (by clear h; induction e using PZ <;> first | exact TZ | exact rfl) h
theorem wK {e : Expr} {q : Expr × List Expr × List SD × Pos} (h : fq e = some q) : e = .Call q.1 q.2.1 q.2.2.1 q.2.2.2 := fin (P := fun q => e = .Call q.1 q.2.1 q.2.2.1 q.2.2.2) (by clear h; induction e using PZ <;> first | exact TZ | exact rfl) h
theorem xS {e : Expr} (h : zo e = true) : ∃ ts k p, e = .Tuple ts k p := OO (by clear h; induction e using PZ <;> first | exact .inr (Eq.refl false) | exact .inl ⟨rfl, _, _, _, rfl⟩) h
theorem kI {e : Expr} {q : Expr × Str × Pos × Pos} (h : xA e = some q) : e = .Call (.Attribute q.1 q.2.1 q.2.2.1) [] [] q.2.2.2 := by
 obtain ⟨c, h1, h⟩ := bnd h
 obtain ⟨a, h2, h⟩ := bnd h
 obtain ⟨h3, h⟩ := ifT h
 rw [wK h1, wQ h2, Rf.mp (an h3).1, Rf.mp (an h3).2, <- qk h]
theorem yH {e : Expr} {q : Str × Expr} (h : yb e = some q) : ∃ p pos, e = .Call (.Name q.1 p) [q.2] [] pos := by
 obtain ⟨c, h1, h⟩ := bnd h
 obtain ⟨f, h2, h⟩ := bnd h
 obtain ⟨x, h3, h⟩ := bnd h
 obtain ⟨h4, h⟩ := ifT h
 obtain ⟨p, h2⟩ := jc h2
 exact ⟨p, c.2.2.2, by rw [wK h1, h2, jN h3, Rf.mp h4, <- qk h]⟩
theorem gK {c : Ul} {x : Str} (h : DH c = some x) : c = .str x := by induction c <;> first | exact no h | exact congrArg _ (qk h)
theorem Xg {c : Ul} {x : Int} (h : Ez c = some x) : c = .int x := by induction c <;> first | exact no h | exact congrArg _ (qk h)
theorem Qz {e : Expr} {x : Str} (h : QZ e = some x) : ∃ k p, e = .Constant (.str x) k p := by
 obtain ⟨c, h1, h2⟩ := bnd h
 obtain ⟨k, p, h1⟩ := xB h1
 exact ⟨k, p, by rw [h1, gK h2]⟩
theorem Vq {e v : Expr} (h : Gm e = some v) : ∃ p, e = .FormattedValue v 115 none p := fin (P := fun v => ∃ p, e = .FormattedValue v 115 none p) (by
 clear h; induction e using PZ <;> first
 | exact TZ
 | exact OA fun q => ⟨_, by rw [q.1, TE.mp q.2]⟩) h
theorem xE {o : Option Sm} (h : xC o = true) : o = some .local \/ o = some .cell := by
 induction o with
 | none => exact noB h
 | some k => induction k <;> first | exact noB h | exact .inl rfl | exact .inr rfl
noncomputable abbrev LS : List Str := [Pv "tspecials", Pv "_name_disallowed_re", Pv "_value_disallowed_re", Pv "_formatparam"]
def GF (w : Rk) (hT : PO) : Prop := (KK w).In hT /\ ∃ mean mg mb, Top Mine.hd.view_1 (looseW Mine.hd.view_1 LS) mean mg mb hT
section
variable {w : Rk} {hT : PO} {A : RE} {l : List Env} {env : Env} {σ : LE} {ρ : List PD} {μ : q4} {s : Py} {n : Nat} {Q : Pu -> Py -> Prop} {E : Pu -> Py -> Prop}
theorem qN.kindOf (R : qN hT ρ s.heap env σ) (x : Str) : env.kindOf x = σ.sc.lookup x := congrArg (Sg x) R.names
theorem kc {x : Str} {v : Pu} {pos : Pos} (G : GF w hT) (R : qN hT ρ s.heap env σ) (S : SR w hT ρ μ s.heap) (hg : σ.isG x = true) (e : nsIn (KK w) mainGlobals x = some (some v)) (hd : (x == ("__debug__" : Str)) = false)
 (h : Q v s) : PP (MM w) A (eval (.Name x pos) env) Q E s := by
 obtain ⟨X, _, mg, mb, T⟩ := G
 exact AJ R.kind ((R.kindOf x).trans (eq_of_beq hg)) (loadGlobal_global (R.glob ▸ T.g.keeps S.top) (mg_of X T.g e) h) hd
theorem zP {x : Str} {v : Pu} {pos : Pos} (G : GF w hT) (R : qN hT ρ s.heap env σ) (S : SR w hT ρ μ s.heap) (hg : σ.isG x = true) (e : nsIn (KK w) mainGlobals x = some none) (hv : Ua x = some v) (hn : x ≠ "__name__")
 (hd : (x == ("__debug__" : Str)) = false) (h : Q v s) : PP (MM w) A (eval (.Name x pos) env) Q E s := by
 obtain ⟨X, _, mg, mb, T⟩ := G
 exact AJ R.kind ((R.kindOf x).trans (eq_of_beq hg)) (loadGlobal_builtin (R.glob ▸ T.g.keeps S.top) (mg_none_of X T.g e) (R.blt ▸ T.b.keeps S.top) ((T.builtins x hn).trans hv) h) hd
theorem vw {x : Str} {p : PV} {pos : Pos} (R : qN hT ρ s.heap env σ) (hx : σ.get x = some p) (hd : (x == ("__debug__" : Str)) = false)
 (h : ∀ v, Rv hT ρ s.heap v p -> Q v s) : PP (MM w) A (eval (.Name x pos) env) Q E s := by
 have hk := R.kindOf x
 obtain ⟨hs, hx⟩ := ifT hx
 rcases xE hs with hs | hs
 ·obtain ⟨m, hm, hv⟩ := R.ns
  obtain ⟨v, hv, hr⟩ := hv x p hx hs
  exact wpAny_Name (AK R.kind (hk.trans hs) hm hv (h v hr)) hd
 ·obtain ⟨c, v, h1, h2, h3⟩ := R.cel x p hx hs
  exact wpAny_Name (al R.kind (hk.trans hs) h1 h2 (h v h3)) hd
end
section
variable {w : Rk} {hT : PO} {ρ : List PD} {μ : q4} {h : PO}
theorem SR.listAt (S : SR w hT ρ μ h) {n : Nat} {a : PD} {l : List PV} (hn : ρ[n]? = some a) (hl : q5 μ n = some l) : l.length <= Pr + 1 /\ ∃ vs : List Pu, h.PlainList a vs.toArray /\ RvL hT ρ h vs l := S.cells n a _ hn (Jj hl)
theorem SR.dictAt (S : SR w hT ρ μ h) {n : Nat} {a : PD} {l : Loc} (hn : ρ[n]? = some a) (hl : qe μ n = some l) : ∃ kvs : List (Str × Pu), h.DictOf (strKind prog w) a kvs /\ RvD hT ρ h kvs l := S.cells n a _ hn (JJ hl)
theorem RvL.length {vs : List Pu} : ∀ {ps : List PV}, RvL hT ρ h vs ps -> vs.length = ps.length := by
 induction vs with
 | nil => intro ps r; cases r; rfl
 | cons v vs ih => intro ps r; cases r with | cons _ r => exact congrArg (· + 1) (ih r)
theorem PlainList.isList {a : PD} {vs : Array Pu} (x : h.PlainList a vs) : h.IsList a vs := let ⟨n, e⟩ := x; ⟨_, e, rfl, n, rfl⟩
theorem Rv.list {v : Pu} {p : PV} {l : List PV} (r : Rv hT ρ h v p) (S : SR w hT ρ μ h) (e : j2 μ p = some l) : ∃ a n vs, p = .loc n /\ ρ[n]? = some a /\ v = .ref a /\ h.PlainList a vs.toArray /\ RvL hT ρ h vs l /\ vs.length = l.length /\ l.length <= 16777217 := by
 obtain ⟨n, h1, h2⟩ := bnd e
 obtain ⟨a, h3, h4⟩ := r.lI h1
 obtain ⟨h5, vs, h6, h7⟩ := S.listAt h4 h2
 exact ⟨a, n, vs, jI h1, h4, h3, h6, h7, h7.length, h5⟩
theorem QK {f : PV -> Option U9} (F : ∀ v p d, Rv hT ρ h v p -> f p = some d -> ∃ as, b4 h v d as) (vs : List Pu) : ∀ {ps : List PV} {ds : List U9}, RvL hT ρ h vs ps -> jk f ps = some ds -> ∃ as, ReadsAll h vs ds as := by
 induction vs with
 | nil => intro ps ds r e; cases r; exact ⟨[], qk e ▸ .nil⟩
 | cons v vs ih =>
   intro ps ds r e
   cases r with | cons a r =>
   obtain ⟨d, h1, e⟩ := bnd e
   obtain ⟨ds', h2, e⟩ := mp' e
   obtain ⟨as, ra⟩ := F _ _ _ a h1
   obtain ⟨bs, rb⟩ := ih r h2
   exact ⟨as ++ bs, qk e ▸ .cons ra rb⟩
theorem KV (S : SR w hT ρ μ h) (n : Nat) : ∀ (v : Pu) (p : PV) (d : U9), Rv hT ρ h v p -> jK μ n p = some d -> ∃ as, b4 h v d as := by
 induction n with
 | zero => exact fun zz zz zz zz e => no e
 | succ n ih =>
   intro v p d r e
   have r := r.inv
   induction p using PV.casesOn with
   | none => exact ⟨[], r ▸ qk e ▸ .none⟩
   | bool b => exact ⟨[], r ▸ qk e ▸ .bool b⟩
   | int i => obtain ⟨t, r⟩ := r; exact ⟨[], r ▸ qk e ▸ .int i t⟩
   | str x => obtain ⟨t, r, _⟩ := r; exact ⟨[], r ▸ qk e ▸ .str x t⟩
   | tup l =>
     obtain ⟨a, vs, r, ⟨o, ho, hc, k, hd⟩, hl⟩ := r
     obtain ⟨ds, h1, h2⟩ := mp' e
     obtain ⟨as, ra⟩ := QK ih vs hl h1
     exact ⟨as, r ▸ qk h2 ▸ .tuple ho hc hd ra⟩
   | loc m =>
     obtain ⟨a, r, hn⟩ := r
     obtain ⟨l, hl, e⟩ := bnd e
     obtain ⟨ds, h1, h2⟩ := mp' e
     obtain ⟨_, vs, hp, hv⟩ := S.listAt hn hl
     obtain ⟨as, ra⟩ := QK ih vs hv h1
     obtain ⟨o, ho, hc, k, hd⟩ := PlainList.isList hp
     exact ⟨a :: as, by rw [r, <- qk h2]; exact .list ho hc hd ra⟩
   | val v => exact no e
   | il => exact no e
theorem wZ (S : SR w hT ρ μ h) {v : Pu} {p : PV} {d : U9} (r : Rv hT ρ h v p) (e : jd μ p = some d) : (∃ as, b4 h v d as) /\ d.canLay0 = true /\ d.depth <= 64 := by
 obtain ⟨d', h1, e⟩ := bnd e
 obtain ⟨hc, e⟩ := ifT e
 rw [<- qk e]
 exact ⟨KV S _ _ _ _ r h1, (an hc).1, of_decide_eq_true (an hc).2⟩
end
section
variable {w : Rk} {hT : PO} {A : RE} {ρ : List PD} {μ : q4} {s : Py} {n : Nat}
theorem xX.pret {α β : Type} {rel : List PD -> PO -> α -> β -> Prop} {b : β} {μ' : q4} {r : Except Exn β} {Q : α -> Py -> Prop} {E : Pu -> Py -> Prop} {a : α} {tk : Nat}
 (P : xX w hT rel ρ s r μ' Q E) (hm : some ((.ok b : Except Exn β), μ) = some (r, μ')) (S : SR w hT ρ μ s.heap) (rv : rel ρ s.heap a b) : Q a { s with toks := tk } := by
 cases hm
 exact P.ok a s.heap tk ρ b rfl (Le.refl _ _ _) S rv
theorem xX.of {α β : Type} {rel : List PD -> PO -> α -> β -> Prop} {r r' : Except Exn β} {μ₁ μ' : q4} {Q : α -> Py -> Prop} {E : Pu -> Py -> Prop} (P : xX w hT rel ρ s r μ' Q E) (hm : some (r', μ₁) = some (r, μ')) : xX w hT rel ρ s r' μ₁ Q E := by
 cases hm; exact P
theorem xI.of {α β : Type} {rel : List PD -> PO -> α -> β -> Prop} {r r' : Except Exn β} {μ₁ μ' : q4} {Q : α -> Py -> Prop} {E : Pu -> Py -> Prop} (P : xI w hT rel ρ s r μ' Q E) (hm : some (r', μ₁) = some (r, μ')) : xI w hT rel ρ s r' μ₁ Q E := by
 cases hm; exact P
theorem gR (R : jW A n) : A.units + 200 < cj := RI (by lia) R.2.2
theorem JP : typeLookup (.type "re.Match") "__bool__" = pure none := by rw [TV, SM]; kernel_rfl
theorem ZS : typeLookup (.type "re.Match") "__len__" = pure none := by rw [TV, SM]; kernel_rfl
theorem Jd {M : U8} {a : PD} {o : Obj} {Q : Bool -> Py -> Prop} {E : Pu -> Py -> Prop} (ho : s.heap.get? a = some o) (hc : o.cls = .type "re.Match") (h : Q true s) : PP M A (bm (.ref a)) Q E s := by
 have hT : s.TypeIs (.ref a) "re.Match" := ⟨o, ho, hc⟩
 unfold bm
 refine wpAny_bind (m := callSpecial? (.ref a) (Pv "__bool__")) ?_
 unfold callSpecial?
 refine wpAny_bind (TW (name := Pv "__bool__") hT JP (wpAny_pure ?_))
 refine wpAny_bind (TW (name := Pv "__len__") hT ZS ?_)
 exact wpAny_pure h
theorem big : Pr < 2 ^ 63 := by decide
theorem MQ : 16777217 < 2 ^ 63 := by decide
theorem H7 {n : Nat} (h : n < 2 ^ 63) : ¬ ((n : Int) ≥ 2 ^ 63) := by lia
theorem H1 {n : Nat} (h : n < 2 ^ 63) : (n : Int) < 2 ^ 63 := by omega
theorem ID {n : Nat} : ((n : Int) != 0) = decide (n ≠ 0) := by by_cases hi : n = 0 <;> simp [hi]
theorem wm {v : Pu} {p : PV} (S : SR w hT ρ μ s.heap) (rv : Rv hT ρ s.heap v p) : Sim w hT A (fun zz zz a b => a = b) ρ s (bm v) (tru p μ) := by
 refine Sim.of0 fun r μ' hm Q E P => ?_
 have ri := rv.inv
 induction p using PV.casesOn with
 | none => exact ri ▸ truthy_none (P.pret (tk := s.toks) hm S rfl)
 | bool b => exact ri ▸ wpAny_truthy_bool (P.pret (tk := s.toks) hm S rfl)
 | int i =>
   obtain ⟨t, ri⟩ := ri
   refine ri ▸ truthy_int (P.pret (tk := s.toks) hm S ?_)
   show (i != 0) = decide (i ≠ 0)
   by_cases hi : i = 0 <;> simp [hi]
 | str x =>
   obtain ⟨t, ri, hx⟩ := ri
   exact ri ▸ PySem.P.truthy_str (H7 (RI hx big)) (P.pret hm S ID)
 | loc m =>
   obtain ⟨t, ht, hm⟩ := mp' hm
   obtain ⟨l, hl, e⟩ := mp' (show (q5 μ m).map _ = some t from ht)
   obtain ⟨a, _, vs, _, _, e2, hp, hv, hlv, hb⟩ := rv.list S (show j2 μ (.loc m) = some l from hl)
   refine e2 ▸ wpAny_truthy_list (PlainList.isList hp) (H1 (RI (TA hlv) (RI hb MQ)))  (P.pret hm S ?_)
   rw [<- qk e, <- hlv]
   induction vs <;> rfl
 | tup => exact no hm
 | val => exact no hm
 | il => exact no hm
theorem Vc {a b : Pu} {p q : PV} {f : Bool -> Bool} {r : Except Exn PV} {μ' : q4} (S : SR w hT ρ μ s.heap) (ra : Rv hT ρ s.heap a p) (rb : Rv hT ρ s.heap b q) (hm : ((peq μ p q).map fun r => ((.ok (.bool (f r)) : Except Exn PV), μ)) = some (r, μ')) :
 ∃ x y as bs, b4 s.heap a x as /\ b4 s.heap b y bs /\ x.canLay0 = true /\ y.canLay0 = true /\ x.depth <= 64 /\ some ((.ok (.bool (f (Sn x y))) : Except Exn PV), μ) = some (r, μ') := by
 obtain ⟨t, ht, hm⟩ := mp' hm
 obtain ⟨x, hx, ht⟩ := bnd ht
 obtain ⟨y, hy, ht⟩ := mp' ht
 obtain ⟨⟨as, r1⟩, c1, d1⟩ := wZ S ra hx
 obtain ⟨⟨bs, r2⟩, c2, _⟩ := wZ S rb hy
 exact ⟨x, y, as, bs, r1, r2, c1, c2, d1, qk ht ▸ hm⟩
theorem Qg {p : PV} {y : Str} (h : jd μ p = some (.str y)) : zy p = true := by
 obtain ⟨d, h1, h⟩ := bnd h
 obtain ⟨_, h⟩ := ifT h
 have h := qk h
 subst h
 induction p using PV.casesOn <;> first | rfl | exact no h1 | (cases qk h1; done) | (obtain ⟨_, _, e⟩ := mp' h1; cases qk e; done) | skip
 obtain ⟨_, _, e⟩ := bnd h1
 obtain ⟨_, _, e⟩ := mp' e
 cases qk e
theorem Wv {a b : Pu} {p q : PV} {f : Bool -> Bool} {r : Except Exn PV} {μ' : q4} (S : SR w hT ρ μ s.heap) (ra : Rv hT ρ s.heap a p) (rb : Rv hT ρ s.heap b q) (hm : ((pin μ p q).map fun r => ((.ok (.bool (f r)) : Except Exn PV), μ)) = some (r, μ')) :
 (∃ x ys as bs, b4 s.heap a x as /\ x.canLay0 = true /\ x.depth <= 64 /\ ((b4 s.heap b (.list ys) bs /\ (SU ys).canLay0 = true /\ (SU ys).depth <= 64) \/ (b4 s.heap b (.tuple ys) bs /\ (Ag ys).canLay0 = true /\ (Ag ys).depth <= 64)) /\ some ((.ok (.bool (f (ys.any fun y => Sn y x))) : Except Exn PV), μ) = some (r, μ')) \/
 (∃ x y as bs, zy q = true /\ b4 s.heap a (.str x) as /\ b4 s.heap b (.str y) bs /\ some ((.ok (.bool (f (Uy y x))) : Except Exn PV), μ) = some (r, μ')) := by
 obtain ⟨t, ht, hm⟩ := mp' hm
 obtain ⟨x, hx, ht⟩ := bnd ht
 obtain ⟨y, hy, ht⟩ := bnd ht
 obtain ⟨⟨as, r1⟩, c1, d1⟩ := wZ S ra hx
 obtain ⟨⟨bs, r2⟩, c2, d2⟩ := wZ S rb hy
 cases y <;> first | exact no ht | skip
 ·cases x <;> first | exact no ht | exact .inr ⟨_, _, as, bs, Qg hy, r1, r2, qk ht ▸ hm⟩
 ·exact .inl ⟨x, _, as, bs, r1, c1, d1, .inl ⟨r2, c2, d2⟩, qk ht ▸ hm⟩
 ·exact .inl ⟨x, _, as, bs, r1, c1, d1, .inr ⟨r2, c2, d2⟩, qk ht ▸ hm⟩
theorem JU {v : Pu} {p : PV} {t : Bool} (r : Rv hT ρ s.heap v p) (e : isNone p = some t) : PySem.plainIs v U0 = true /\ (v == U0) = t := by
 have r := r.inv
 induction p using PV.casesOn with
 | none => subst r; exact ⟨rfl, qk e⟩
 | bool => subst r; exact ⟨rfl, qk e⟩
 | int => obtain ⟨_, rfl⟩ := r; exact ⟨rfl, qk e⟩
 | str => obtain ⟨_, rfl, _⟩ := r; exact ⟨rfl, qk e⟩
 | tup => obtain ⟨_, _, rfl, _⟩ := r; exact ⟨rfl, qk e⟩
 | loc => obtain ⟨_, rfl, _⟩ := r; exact ⟨rfl, qk e⟩
 | val => exact no e
 | il => exact no e
theorem WF {a b : Pu} {p q : PV} {t : Bool} (ra : Rv hT ρ s.heap a p) (rb : Rv hT ρ s.heap b q) (h : pis p q = some t) : PySem.plainIs a b = true /\ (a == b) = t := by
 unfold pis at h
 induction hb : Qc q with
 | some y =>
   rw [hb] at h
   obtain ⟨x, ha, h⟩ := mp' h
   rw [ra.yI ha, rb.yI hb, <- qk h]
   exact ⟨rfl, by by_cases e : x = y <;> simp [e]⟩
 | none =>
   rw [hb] at h
   obtain ⟨hn, h⟩ := ifT h
   have : isNone q = some true := by
    induction hq : isNone q with
    | none => rw [hq] at hn; exact noB hn
    | some t => rw [hq] at hn; exact congrArg some hn
   rw [rb.nI this]
   exact JU ra h
theorem WP {op : Uv} {a b : Pu} {p q : PV} (S : SR w hT ρ μ s.heap) (R : jW A n) (ra : Rv hT ρ s.heap a p) (rb : Rv hT ρ s.heap b q) : Sim w hT A (Rv hT) ρ s (compareOp op a b) (qZ op p q μ) := by
 refine Sim.of0 fun r μ' hm Q E P => ?_
 have hu := gR R
 have hu' : ∀ {d : Nat}, d <= 64 -> A.units + d < cj := fun h => RI (So (Pq h (by decide)) _) hu
 have key : ∀ {t : Bool}, some ((.ok (.bool t) : Except Exn PV), μ) = some (r, μ') -> Q (.bool t) s := fun {t} hm2 => P.pret (tk := s.toks) hm2 S (.bool t)
 induction op with
 | Eq =>
   obtain ⟨x, y, as, bs, r1, r2, c1, c2, d1, hm⟩ := Vc (f := id) S ra rb hm
   exact PySem.SeqAt.compareEq_reads r1 r2 c1 c2 (by lia) (key hm)
 | NotEq =>
   obtain ⟨x, y, as, bs, r1, r2, c1, c2, d1, hm⟩ := Vc (f := not) S ra rb hm
   exact PySem.SeqAt.compareNe_reads r1 r2 c1 c2 (by lia) (key hm)
 | Lt =>
   obtain ⟨x, hx, hm⟩ := bnd hm
   obtain ⟨y, hy, hm⟩ := bnd hm
   obtain ⟨t, rfl⟩ := ra.iI hx
   obtain ⟨u, rfl⟩ := rb.iI hy
   exact lt_int (key hm)
 | Gt =>
   obtain ⟨x, hx, hm⟩ := bnd hm
   obtain ⟨y, hy, hm⟩ := bnd hm
   obtain ⟨t, rfl⟩ := ra.iI hx
   obtain ⟨u, rfl⟩ := rb.iI hy
   exact gt_int (key hm)
 | Is =>
   obtain ⟨t, ht, hm⟩ := mp' hm
   obtain ⟨h1, h2⟩ := WF ra rb ht
   exact wpAny_is_plain h1 (key (h2 ▸ hm))
 | IsNot =>
   obtain ⟨t, ht, hm⟩ := mp' hm
   obtain ⟨h1, h2⟩ := WF ra rb ht
   exact wpAny_isNot_plain h1 (key (h2 ▸ hm))
 | In =>
   rcases Wv (f := id) S ra rb hm with ⟨x, ys, as, bs, r1, c1, d1, ⟨r2, c2, d2⟩ | ⟨r2, c2, d2⟩, hm⟩ | ⟨x, y, as, bs, hs, r1, r2, hm⟩
   ·exact PySem.SeqAt.in_list_reads r2 r1 c2 c1 (by lia) (key hm)
   ·exact PySem.SeqAt.in_tuple_reads r2 r1 c2 c1 (by lia) (key hm)
   ·cases r1; cases r2
    exact PySem.P.in_str (key hm)
 | NotIn =>
   obtain ⟨hn, hm⟩ := ifB hm
   rcases Wv (f := not) S ra rb hm with ⟨x, ys, as, bs, r1, c1, d1, ⟨r2, c2, d2⟩ | ⟨r2, c2, d2⟩, hm⟩ | ⟨x, y, as, bs, hs, r1, r2, hm⟩
   ·exact PySem.SeqAt.notIn_list_reads r2 r1 c2 c1 (by lia) (key hm)
   ·exact PySem.SeqAt.notIn_tuple_reads r2 r1 c2 c1 (by lia) (key hm)
   ·exact noB (hn.symm.trans hs)
 | _ => exact no hm
end
section
variable {w : Rk} {hT : PO} {ρ : List PD} {μ : q4} {h h' : PO}
theorem Kv.of_keeps (k : ∀ b o, h.get? b = some o -> h'.get? b = some o) : Kv h h' := fun b o e zz => ⟨o.slots, k b o e⟩
theorem Rc.keeps {more : List PD} {a : PD} {c : q8} (k : ∀ b o, h.get? b = some o -> h'.get? b = some o) (x : Rc w hT ρ h a c) : Rc w hT (ρ ++ more) h' a c := by
 have hx : ∃ m, ρ ++ more = ρ ++ m := ⟨more, rfl⟩
 induction c with
 | list l =>
   obtain ⟨hl, vs, ⟨n, hp⟩, hv⟩ := x
   exact ⟨hl, vs, ⟨n, k _ _ hp⟩, hv.mono hx (Kv.of_keeps k)⟩
 | dict l =>
   obtain ⟨kvs, ⟨o, es, ep, ho, r⟩, hv⟩ := x
   exact ⟨kvs, ⟨o, es, ep, k _ _ ho, r⟩, hv.mono hx (Kv.of_keeps k)⟩
 | inst d =>
   obtain ⟨y, hy, ho⟩ := x
   exact ⟨y, jo hx hy, k _ _ ho⟩
 | kw l =>
   obtain ⟨kvs, ⟨o, es, ho, r⟩, hv⟩ := x
   exact ⟨kvs, ⟨o, es, k _ _ ho, r⟩, hv.mono hx (Kv.of_keeps k)⟩
theorem SR.keeps (S : SR w hT ρ μ h) (k : ∀ b o, h.get? b = some o -> h'.get? b = some o) : SR w hT ρ μ h' :=
 ⟨fun b o e => k _ _ (S.top b o e), S.nodup, S.len, S.notop, S.low, fun n a c h1 h2 => by simpa using (Rc.keeps (more := []) k (S.cells n a c h1 h2))⟩
theorem SR.lt (S : SR w hT ρ μ h) {a : PD} (ha : a ∈ ρ) : a < h.objs.size := by
 obtain ⟨o, ho, _⟩ := S.data ha
 exact RJ ho
theorem qg (h : PO) (o : Obj) : ∀ b o', h.get? b = some o' -> (h.push o).get? b = some o' := fun zz zz e => Ah _ e
theorem XG (h : PO) : h.get? h.objs.size = none := by
 induction q : h.get? h.objs.size with
 | none => rfl
 | some o => exact absurd (RJ q) (Sq _)
theorem SR.cell (S : SR w hT ρ μ h) {o : Obj} {c : q8} (hc : Rc w hT (ρ ++ [h.objs.size]) (h.push o) h.objs.size c) : SR w hT (ρ ++ [h.objs.size]) (μ ++ [c]) (h.push o) := by
 have k := qg h o
 have hbig : SZ < h.objs.size := by
  obtain ⟨⟨b, o, hb, ho⟩, _⟩ := S.low
  exact b5 hb (RJ (S.top _ _ ho))
 refine ⟨fun b o e => k _ _ (S.top b o e), ?_, by simp [S.len], fun a ha => ?_, ⟨S.low.1, fun a ha => ?_⟩, fun n a d h1 h2 => ?_⟩
 ·refine US.mpr ⟨S.nodup, by simp, fun a ha b hb => ?_⟩
  rw [Pw.mp hb]
  exact RQ (S.lt ha)
 ·rcases PT.mp ha with q | q
  ·exact S.notop a q
  ·rw [Pw.mp q]
   induction q' : hT.get? h.objs.size with
   | none => rfl
   | some o' => exact absurd (RJ (S.top _ _ q')) (Sq _)
 ·rcases PT.mp ha with q | q
  ·exact S.low.2 a q
  ·rw [Pw.mp q]; exact hbig
 ·by_cases hn : n < ρ.length
  ·rw [RB hn] at h1
   rw [RB (S.len ▸ hn)] at h2
   exact Rc.keeps k (S.cells n a d h1 h2)
  ·have hn' : n = ρ.length := by
    have := (R0.mp h1).1
    simp at this; lia
   subst hn'
   rw [Rn (PJ _), Ss] at h1
   rw [S.len, Rn (PJ _), Ss] at h2
   cases h1; cases h2
   exact hc
theorem Le.cell (o : Obj) : Le [] ρ h (ρ ++ [h.objs.size]) (h.push o) :=
 ⟨⟨[h.objs.size], rfl, fun a ha => by rw [Pw.mp ha]; exact XG h⟩, Kp.of_keeps fun b o zz => qg h _ b o, fun b o e => ⟨o, qg h _ b o e⟩, fun b o e zz zz zz => qg h _ b o e⟩
theorem jH {a : PD} (S : SR w hT ρ μ h) : (ρ ++ [a])[μ.length]? = some a := by
 rw [<- S.len, Rn (PJ _), Ss]; rfl
theorem vW {l : List PD} (h : l.Nodup) {i j : Nat} {a : PD} (h1 : l[i]? = some a) (h2 : l[j]? = some a) : i = j := by
 have p := List.pairwise_iff_getElem.mp h
 obtain ⟨l1, e1⟩ := R0.mp h1
 obtain ⟨l2, e2⟩ := R0.mp h2
 rcases UT i j with q | q | q
 ·exact absurd (e1.trans e2.symm) (p i j l1 l2 q)
 ·exact q
 ·exact absurd (e2.trans e1.symm) (p j i l2 l1 q)
theorem SR.set (S : SR w hT ρ μ h) {n : Nat} {a : PD} {c : q8} (hn : ρ[n]? = some a) (hs : RK a h h') (hc : Rc w hT ρ h' a c) : SR w hT ρ (qj μ n c) h' := by
 have ha : a ∈ ρ := Rr hn
 have hne : ∀ b o, hT.get? b = some o -> b ≠ a := fun b o e q => by rw [q, S.notop a ha] at e; cases e
 have kv : Kv h h' := by
  intro b o hb hk
  have : b ≠ a := by
   intro q; subst q
   obtain ⟨o', ho', h1, h2, _⟩ := S.data ha
   rw [hb] at ho'; cases ho'
   exact h1 hk.1
  exact ⟨o.slots, (hs.2 b this).trans hb⟩
 refine ⟨fun b o e => (hs.2 b (hne b o e)).trans (S.top b o e), S.nodup, by simp [qj, S.len], S.notop, S.low, fun m b d h1 h2 => ?_⟩
 unfold qj at h2
 by_cases hm : m = n
 ·subst hm
  rw [hn] at h1; cases h1
  rw [Ai (by rw [<- S.len]; exact (R0.mp hn).1)] at h2
  cases h2
  exact hc
 ·rw [AL (SN hm)] at h2
  have hb : b ≠ a := by
   intro q; subst q
   exact hm (vW S.nodup h1 hn)
  have x := S.cells m b d h1 h2
  have hx : ∃ more, ρ = ρ ++ more := ⟨[], by simp⟩
  induction d with
  | list l =>
    obtain ⟨hl, vs, ⟨k, hp⟩, hv⟩ := x
    exact ⟨hl, vs, ⟨k, (hs.2 b hb).trans hp⟩, hv.mono hx kv⟩
  | dict l =>
    obtain ⟨kvs, ⟨o, es, ep, ho, r⟩, hv⟩ := x
    exact ⟨kvs, ⟨o, es, ep, (hs.2 b hb).trans ho, r⟩, hv.mono hx kv⟩
  | inst d =>
    obtain ⟨y, hy, ho⟩ := x
    exact ⟨y, hy, (hs.2 b hb).trans ho⟩
  | kw l =>
    obtain ⟨kvs, ⟨o, es, ho, r⟩, hv⟩ := x
    exact ⟨kvs, ⟨o, es, (hs.2 b hb).trans ho, r⟩, hv.mono hx kv⟩
theorem Le.set {a : PD} (ha : a ∈ ρ) (hs : RK a h h') (h1 : ∃ o, h'.get? a = some o) : Le [] ρ h ρ h' := by
 refine ⟨⟨[], by simp, by simp⟩, fun b o e hn zz => ⟨o.slots, (hs.2 b fun q => hn (q ▸ ha)).trans e⟩, fun b o e => ?_, fun b o e hn zz zz => (hs.2 b fun q => hn (q ▸ ha)).trans e⟩
 by_cases hb : b = a
 ·subst hb; exact h1
 ·exact ⟨o, (hs.2 b hb).trans e⟩
theorem SR.kvSet (S : SR w hT ρ μ h) {a : PD} (ha : a ∈ ρ) (hs : RK a h h') : Kv h h' := by
 intro b o hb hk
 have : b ≠ a := by
  intro q; subst q
  obtain ⟨o', ho', h1, h2, _⟩ := S.data ha
  rw [hb] at ho'; cases ho'
  exact h1 hk.1
 exact ⟨o.slots, (hs.2 b this).trans hb⟩
theorem RvL.append {vs ws : List Pu} {ps qs : List PV} (r : RvL hT ρ h vs ps) (b : RvL hT ρ h ws qs) : RvL hT ρ h (vs ++ ws) (ps ++ qs) := by
 induction vs generalizing ps with
 | nil => cases r; exact b
 | cons v vs ih => cases r with | cons a r => exact .cons a (ih r)
end
section
variable {w : Rk} {hT : PO} {A : RE} {ρ : List PD} {μ : q4} {s : Py} {n : Nat}
theorem xf {vs : List Pu} {l : List PV} {r : Except Exn PV} {μ' : q4} {Q : Pu -> Py -> Prop} {E : Pu -> Py -> Prop} (S : SR w hT ρ μ s.heap) (hv : RvL hT ρ s.heap vs l) (hlen : l.length <= Pr)
 (hm : Zc (.list l) μ = some (r, μ')) (P : xX w hT (Rv hT) ρ s r μ' Q E) {tk : Nat} {k : Nat} :
 Q (.ref s.heap.objs.size) { s with heap := s.heap.push { cls := .type "list", data := .seq vs.toArray k }, toks := tk } := by
 cases hm
 refine P.ok _ _ _ _ _ rfl (Le.cell _) (S.cell ⟨by lia, vs, ⟨k, Rg _ rfl⟩, hv.mono ⟨_, rfl⟩ (Kv.of_keeps (qg _ _))⟩) (.loc (jH S))
theorem ZW {l b : PD} {vs ws : List Pu} {Q : Pu -> Py -> Prop} {E : Pu -> Py -> Prop} (hl : s.heap.IsList l vs.toArray) (hb : s.heap.IsList b ws.toArray)
 (h : Q (.ref s.heap.objs.size) { s with heap := s.heap.push { cls := .type "list", data := .seq (vs ++ ws).toArray } }) (hsz : vs.length + ws.length <= Pr) :
 PP (MM w) A (A6 .Add (.ref l) (.ref b)) Q E s := by
 obtain ⟨⟨cls, dd, data, sl⟩, ho, hc, n, hd⟩ := id hl
 obtain ⟨⟨cls2, dd2, data2, sl2⟩, ho2, hc2, n2, hd2⟩ := id hb
 simp only at hc hd hc2 hd2
 subst hc hd hc2 hd2
 have e : vs.toArray ++ ws.toArray = (vs ++ ws).toArray := by simp
 refine concat_meets ⟨_, ho, rfl⟩ ⟨_, ho2, rfl⟩ noFill_list_add seq_list_add PySem.F.slot_list_add PySem.F.entry_list_add (PySem.F.args_list_add_2 _ _) (list_addW l b vs.toArray ws.toArray n n2 dd dd2 sl sl2 (by simpa using hsz)) ⟨ho, ho2, ?_⟩
 rw [e]; exact h
theorem Yu {l : PD} {items : Array Pu} {k : Nat} {x : Int} {u : Tok} {Q : Pu -> Py -> Prop} {E : Pu -> Py -> Prop}
 (hl : s.heap.get? l = some { cls := .type "list", dict := none, data := .seq items k, slots := #[] })
 (hlo : -(2 ^ 63 : Int) <= x) (hhi : x < 2 ^ 63) (hsz : items.size * x.toNat <= 2 ^ 24)
 (h : Q (.ref s.heap.objs.size) { s with heap := s.heap.push { cls := .type "list", data := .seq (bY (fun x1 x2 => x1 ++ x2) #[] (Rw (if items.isEmpty = true then 0 else x.toNat) items)) } }) :
 PP (MM w) A (A6 .Mult (.ref l) (.int x u)) Q E s :=
 wpAny_binaryOp_repeat_ref (T := "list") (U := "int") (by decide) ⟨_, hl, rfl⟩ (fun s' => typeIs_int s' x u) noFill_list_mul F.fills_int_mul F.slot_int_rmul repeat_list F.slot_int_index.lookup
  (T1 F.slot_int_rmul (typeIs_int s x u) F.entry_int_rmul (F.args_int_rmul_2 _ _) (int___rmul___int_list x u l items k)
    ⟨hl, rfl, ⟨_, hl, rfl⟩, T1 F.slot_list_mul ⟨_, hl, rfl⟩ F.entry_list_mul (F.args_list_mul_2 _ _)
      (AutoListH.list___mul___list_int_3 l items k x u (by simp [TX.List.listFitsIndex]; lia) (by lia) (by simp [UZ, Pr]; lia))
      ⟨hl, h⟩⟩)
theorem wq (k : Nat) (items acc : Array Pu) : (bY (fun x1 x2 => x1 ++ x2) acc (Rw k items)).toList = acc.toList ++ (Rw k items.toList).flatten := by
 induction k generalizing acc with
 | zero => simp
 | succ k ih => rw [TG, List.foldl_cons, ih]; simp [TG]
theorem RvL.rep {h : PO} {vs : List Pu} {ps : List PV} (r : RvL hT ρ h vs ps) : ∀ k : Nat, RvL hT ρ h (Rw k vs).flatten (Rw k ps).flatten
 | 0 => .nil
 | k + 1 => by rw [TG, TG, b7, b7]; exact r.append (r.rep k)
theorem wf {x : Str} {r : Except Exn PV} {μ' : q4} (hm : yx x μ = some (r, μ')) : x.length <= Pr /\ some ((.ok (.str x) : Except Exn PV), μ) = some (r, μ') := by
 unfold yx at hm
 by_cases h : x.length <= Pr
 ·rw [if_pos h] at hm; exact ⟨h, hm⟩
 ·rw [if_neg h] at hm; exact no hm
theorem zI {l : List PV} {r : Except Exn PV} {μ' : q4} (hm : jp l μ = some (r, μ')) : l.length <= Pr /\ Zc (.list l) μ = some (r, μ') := by
 unfold jp at hm
 by_cases h : l.length <= Pr
 ·rw [if_pos h] at hm; exact ⟨h, hm⟩
 ·rw [if_neg h] at hm; exact no hm
theorem Kn {h : PO} {vs : List Pu} : ∀ {ps : List PV} {ts : List Str}, RvL hT ρ h vs ps -> vX ps = some ts -> ∃ l : List (Str × Tok), vs = bo l /\ l.map (·.1) = ts /\ ∀ y ∈ ts, y.length <= Pr := by
 induction vs with
 | nil => intro ps ts r e; cases r; cases e; exact ⟨[], rfl, rfl, by simp⟩
 | cons v vs ih =>
   intro ps ts r e
   cases r with | cons a r =>
   obtain ⟨x, h1, e⟩ := bnd e
   obtain ⟨ts', h2, e⟩ := mp' e
   obtain ⟨t, rfl, hx⟩ := a.sI h1
   obtain ⟨l, rfl, h3, h4⟩ := ih r h2
   exact ⟨(x, t) :: l, rfl, by rw [<- qk e, <- h3]; rfl, fun y hy => by rw [<- qk e] at hy; rcases Rq.mp hy with rfl | q; exact hx; exact h4 y q⟩
theorem CS {a b : Pu} {p q : PV} (S : SR w hT ρ μ s.heap) (ra : Rv hT ρ s.heap a p) (rb : Rv hT ρ s.heap b q) : Sim w hT A (Rv hT) ρ s (A6 .Add a b) (Hw p q μ) := by
 refine Sim.of0 fun r μ' hm Q E P => ?_
 unfold Hw at hm
 induction hp : qx p with
 | some x =>
   rw [hp] at hm
   obtain ⟨y, hy, hm⟩ := bnd hm
   obtain ⟨h1, hm⟩ := wf hm
   obtain ⟨t, rfl, _⟩ := ra.sI hp
   obtain ⟨u, rfl, _⟩ := rb.sI hy
   exact add_str (fun t' tk => P.pret hm S (.str _ _ h1)) (by simpa [PL] using h1)
 | none =>
   rw [hp] at hm
   obtain ⟨l, hl, hm⟩ := bnd hm
   obtain ⟨m, hl2, hm⟩ := bnd hm
   obtain ⟨hlen, hm⟩ := zI hm
   obtain ⟨a, _, vs, _, _, rfl, hp, hv, h1, _⟩ := ra.list S hl
   obtain ⟨b, _, ws, _, _, rfl, hp2, hv2, h2, _⟩ := rb.list S hl2
   exact ZW (PlainList.isList hp) (PlainList.isList hp2) (xf S (hv.append hv2) hlen hm P (tk := s.toks)) (by rw [h1, h2]; simpa using hlen)
theorem Du {x : Nat} {y : Int} (g1 : 2 <= y) (g2 : y <= 100) (g3 : x <= 100) : (x : Int) <= (2 ^ 63 - 1) / y /\ x * y.toNat <= 10000 := by
 have h5 : (x : Int) * y <= 100 * 100 := Int.mul_le_mul (by lia) (by lia) (by lia) (by lia)
 have h6 : x * y.toNat <= 100 * 100 := AM g3 (by lia)
 exact ⟨(Int.le_ediv_iff_mul_le (by lia)).mpr (by lia), h6⟩
theorem Ba {a b : Pu} {p q : PV} (S : SR w hT ρ μ s.heap) (ra : Rv hT ρ s.heap a p) (rb : Rv hT ρ s.heap b q) : Sim w hT A (Rv hT) ρ s (A6 .Mult a b) (EN p q μ) := by
 refine Sim.of0 fun r μ' hm Q E P => ?_
 obtain ⟨y, hy, hm⟩ := bnd hm
 obtain ⟨t, rfl⟩ := rb.iI hy
 induction hp : qx p with
 | some x =>
   rw [hp] at hm
   obtain ⟨⟨g1, g2, g3, g4⟩, hm⟩ := ifT hm
   obtain ⟨h1, hm⟩ := wf hm
   obtain ⟨u, rfl, _⟩ := ra.sI hp
   obtain ⟨g5, g6⟩ := Du g1 g2 g3
   have e24 := GO
   refine SB.mul ⟨by simp; lia, fun zz zz => ?_, fun zz zz => ?_⟩ fun t' k => P.pret hm S (.str _ _ h1)
   ·lia
   ·unfold am
    simp only [decide_eq_false_iff_not]
    lia
 | none =>
   rw [hp] at hm
   obtain ⟨l, hl, hm⟩ := bnd hm
   obtain ⟨⟨g1, g2, g3⟩, hm⟩ := ifT hm
   obtain ⟨a, _, vs, _, _, rfl, ⟨k, hp⟩, hv, h1, _⟩ := ra.list S hl
   refine Yu hp (by lia) (by lia) (by simp only [RV, h1]; rw [GO] at g3; exact g3) ?_
   have hlen : ((Rw y.toNat l).flatten).length <= Pr := by simp; rw [Nat.mul_comm]; exact g3
   have e2 : bY (fun x1 x2 => x1 ++ x2) #[] (Rw (if vs.toArray.isEmpty = true then 0 else y.toNat) vs.toArray) = ((Rw y.toNat vs).flatten).toArray := by
    apply UE
    rw [wq]
    induction vs <;> simp
   rw [e2]
   exact xf S (hv.rep y.toNat) hlen hm P (tk := s.toks)
theorem X6 {y : Int} (h : ¬ (y = 0 \/ 2 ^ 60 <= y.natAbs)) : y ≠ 0 /\ y.natAbs.log2 < 60 := by
 have hy : y.natAbs ≠ 0 := by lia
 exact ⟨by lia, (Nat.log2_lt hy).mpr (by lia)⟩
theorem DU {op : AH} {a b : Pu} {p q : PV} (S : SR w hT ρ μ s.heap) (ra : Rv hT ρ s.heap a p) (rb : Rv hT ρ s.heap b q)
 (hmod : ∀ x t, a = .str x t -> p = .str x -> x.length <= Pr -> Sim w hT A (Rv hT) ρ s (A6 .Mod a b) (HZ x q μ)) : Sim w hT A (Rv hT) ρ s (A6 op a b) (kZ op p q μ) := by
 induction op with
 | Add => exact CS S ra rb
 | Mult => exact Ba S ra rb
 | Mod =>
   show Sim w hT A (Rv hT) ρ s _ (LK p q μ)
   unfold LK
   induction hp : qx p with
   | some x => obtain ⟨t, e, hx⟩ := ra.sI hp; exact hmod x t e (kg hp) hx
   | none =>
     refine Sim.of0 fun r μ' hm Q E P => ?_
     obtain ⟨x, hx, hm⟩ := bnd hm
     obtain ⟨y, hy, hm⟩ := bnd hm
     obtain ⟨h0, hm⟩ := ifF hm
     obtain ⟨t, rfl⟩ := ra.iI hx
     obtain ⟨u, rfl⟩ := rb.iI hy
     exact mod_int h0 (P.pret hm S (.int _ _))
 | FloorDiv =>
   refine Sim.of0 fun r μ' hm Q E P => ?_
   obtain ⟨x, hx, hm⟩ := bnd hm
   obtain ⟨y, hy, hm⟩ := bnd hm
   obtain ⟨h0, hm⟩ := ifF hm
   obtain ⟨t, rfl⟩ := ra.iI hx
   obtain ⟨u, rfl⟩ := rb.iI hy
   exact floordiv_int (X6 h0).1 (P.pret hm S (.int _ _)) (.inl (PyProof.noPylong_of_log2 (PY (X6 h0).2 (by decide))))
 | Sub =>
   refine Sim.of0 fun r μ' hm Q E P => ?_
   obtain ⟨x, hx, hm⟩ := bnd hm
   obtain ⟨y, hy, hm⟩ := bnd hm
   obtain ⟨t, rfl⟩ := ra.iI hx
   obtain ⟨u, rfl⟩ := rb.iI hy
   exact sub_int (P.pret hm S (.int _ _))
 | _ => exact Sim.of0 fun r μ' hm Q E P => no hm
theorem RvL.get {h : PO} {vs : List Pu} : ∀ {ps : List PV} {i : Nat} {p : PV}, RvL hT ρ h vs ps -> ps[i]? = some p -> ∃ v, vs[i]? = some v /\ Rv hT ρ h v p := by
 induction vs with
 | nil => intro ps i p r e; cases r; exact no e
 | cons v vs ih =>
   intro ps i p r e
   cases r with | cons a r =>
   induction i using AN with
   | zero => exact ⟨v, rfl, qk e ▸ a⟩
   | succ i => exact ih r e
theorem RvL.pick {h : PO} {vs : List Pu} {ps : List PV} (r : RvL hT ρ h vs ps) : ∀ (is : List Nat), RvL hT ρ h (is.filterMap (vs[·]?)) (is.filterMap (ps[·]?))
 | [] => .nil
 | i :: is => by
   have hl := r.length
   induction hp : ps[i]? with
   | none =>
     have : vs[i]? = none := by
      rw [SS] at hp ⊢; lia
     simp only [ao, hp, this]
     exact r.pick is
   | some p =>
     obtain ⟨v, hv, hr⟩ := r.get hp
     simp only [ao, hp, hv]
     exact .cons hr (r.pick is)
theorem kK {x : Str} {t u : Tok} {i : Int} {Q E : Pu -> Py -> Prop} (hh : A.handled = none) (hr : (decide (i < -(2 ^ 63 : Int)) || decide (i ≥ 2 ^ 63)) = false) (hc : (UD i x.length).bind (x.cps[·]?) = none)
 (h : ∀ h' tk e, bG s.heap h' e "IndexError" -> E (.ref e) { s with heap := h', toks := tk }) : PP (MM w) A (getItem (.str x t) (.int i u)) Q E s := by
 refine getItem_meets (S := raisesNew "IndexError") (Sw s x t) (by decide) F.slot_str_getitem F.entry_str_getitem (F.args_str_getitem_2 _ _) ?_ ⟨hh, h⟩
 show Meets (if (decide (i < -(2 ^ 63 : Int)) || decide (i ≥ 2 ^ 63)) = true then _ else
  match (UD i x.length).bind (x.cps[·]?) with
  | some c => PySem.retStr ⟨#[c]⟩
  | none => _) _
 rw [hr, hc]
 exact .rule (.raises rfl plainExc_IndexError)
theorem wu.ofNew {h h' : PO} {e : PD} {cls : String} (x : bG h h' e cls) : wu h h' e { cls := cls, msg := none, here := true } := by
 obtain ⟨k, nw, ob, t, h1, h2, h3⟩ := x
 exact ⟨ob, _, t, ⟨h1, h2, h3, rfl, fun m hm => (nomatch hm), nw⟩, rfl⟩
theorem zq {slice : Expr} {o i : Pu} (h : vk slice = false) : subscripted slice false o i = operate [o, i] (getItem o i) := by
 induction slice using PZ <;> first | rfl | cases h
theorem fi {h : PO} {k : Str} {kvs : List (Str × Pu)} {l : Loc} {p : PV} (r : RvD hT ρ h kvs l) : x8 l k = some p -> ∃ v, b8 kvs k = some v /\ Rv hT ρ h v p := by
 unfold x8 b8
 induction r with
 | nil => exact fun e => no e
 | @cons k' v p' vs ps a r ih =>
   rw [As, As]
   induction (decide (k' = k)) with
   | true => exact fun e => ⟨v, rfl, qk e ▸ a⟩
   | false => exact ih
theorem j8 (k : Str) (t : Tok) : Tn k (.str k t) = true := by simp [Tn]
theorem GC {c : Nat} : (⟨#[c]⟩ : Str).length <= Pr := (by decide : 1 <= Pr)
theorem Jw {slice value : Expr} {a b : Pu} {x : Str} {t u : Tok} {i : Int} (S : SR w hT ρ μ s.heap) (R : jW A n) (hs : vk slice = false) : Sim w hT A (Rv hT) ρ s (aE value slice (.str x t) (.int i u)) (W0 x i μ) := by
 refine Sim.of0 fun r μ' hm Q E P => ?_
 refine AO (Sw s x t) F.slot_str_getitem.lookup ?_ (zq hs)
 have out : x.length = 0 -> (i = 0 \/ i = -1) -> G1 xH μ = some (r, μ') -> PP (MM w) A (getItem (.str x t) (.int i u)) Q E s := by
  intro h0 hi hm
  refine kK R.1 (by rcases hi with rfl | rfl <;> rfl) ?_ fun h' tk e hn => (P.of hm).err e h' tk ρ _ rfl (Le.of_keeps hn.keeps) (S.keeps hn.keeps) (wu.ofNew hn)
  rcases hi with rfl | rfl <;> simp [UD, h0]
 unfold W0 at hm
 by_cases hi : i = 0
 ·rw [if_pos hi] at hm
  by_cases h0 : x.length = 0
  ·rw [if_pos h0] at hm; exact out h0 (.inl hi) hm
  ·rw [if_neg h0] at hm
   subst hi
   have hlt : 0 < x.cps.size := aM h0
   refine aq (c := x.cps.getD 0 0) rfl ?_ (P.pret hm S (.str _ _ GC))
   have : UD 0 x.length = some 0 := by unfold UD; simp [Sa, hlt]
   rw [this]; simp [aN, hlt]
 ·rw [if_neg hi] at hm
  obtain ⟨hi, hm1⟩ := ifT hm
  clear hm
  by_cases h0 : x.length = 0
  ·rw [if_pos h0] at hm1; exact out h0 (.inr hi) hm1
  ·rw [if_neg h0] at hm1
   subst hi
   refine aq (c := x.cps.getD (x.length - 1) 0) rfl ?_ (P.pret hm1 S (.str _ _ GC))
   have h2 : x.length - 1 < x.cps.size := Nat.sub_lt (aM h0) Nat.one_pos
   have : UD (-1) x.length = some (x.length - 1) := by
    rw [seqIndex_neg (by lia) (by simp only [Sa]; lia)]
    congr 1; simp only [Sa]; lia
   rw [this]
   simp [aN, h2]
theorem Br {value slice : Expr} {a b : Pu} {p q : PV} (S : SR w hT ρ μ s.heap) (R : jW A n) (hs : vk slice = false) (ra : Rv hT ρ s.heap a p) (rb : Rv hT ρ s.heap b q) :
 Sim w hT A (Rv hT) ρ s (aE value slice a b) (zb p q μ) := by
 unfold zb
 induction hq : zx q with
 | none =>
   refine Sim.of0 fun r μ' hm Q E P => ?_
   obtain ⟨k, hk, hm⟩ := bnd hm
   obtain ⟨m, h1, hm⟩ := bnd hm
   obtain ⟨l, h2, hm⟩ := bnd hm
   obtain ⟨v, hv, hm⟩ := mp' hm
   obtain ⟨t, rfl, _⟩ := rb.sI hk
   obtain ⟨a, rfl, hn⟩ := ra.lI h1
   obtain ⟨kvs, hd, hr⟩ := S.dictAt hn h2
   obtain ⟨u, hu, hru⟩ := fi hr hv
   exact AO hd.mapOf.typeIs slot_dict_getitem.lookup (wpAny_getItem_of (knd := strKind prog w) (k := k) (j8 k t) hd.mapOf hu (P.pret hm S hru)) (zq hs)
 | some i =>
   obtain ⟨u, rfl⟩ := rb.iI hq
   show Sim w hT A (Rv hT) ρ s _ (HR p i μ)
   unfold HR
   induction hp : qx p with
   | some x => obtain ⟨t, rfl, _⟩ := ra.sI hp; exact Jw (b := .none) (a := .none) S R hs
   | none =>
     refine Sim.of0 fun r μ' hm Q E P => ?_
     induction ht : wB p with
     | some l =>
       rw [ht] at hm
       obtain ⟨hi, hm⟩ := ifT hm
       obtain ⟨v, hv, hm⟩ := mp' hm
       obtain ⟨a, vs, rfl, hta, hl⟩ := ra.tI ht
       obtain ⟨y, hu, hr⟩ := hl.get hv
       have hlt := (R0.mp hu).1
       refine item_tupleT hta (by lia) (by lia) (j := i.toNat) ?_ hu (P.pret (tk := s.toks) hm S hr) (zq hs)
       unfold UD
       rw [if_neg (show ¬ i < 0 by lia), if_pos (by simp only [Rl, decide_eq_true_eq]; lia)]
     | none =>
       rw [ht] at hm
       obtain ⟨l, hl, hm⟩ := bnd hm
       obtain ⟨a, m, vs, _, hn, rfl, hp, hv, hlv, hlen⟩ := ra.list S hl
       refine AO (PlainList.isList hp).typeIs UU.lookup ?_ (zq hs)
       by_cases hi : 0 <= i
       ·rw [if_pos hi] at hm
        obtain ⟨v, hv', hm⟩ := mp' hm
        obtain ⟨y, hu, hr⟩ := hv.get hv'
        have hlt := (R0.mp hu).1
        exact wpAny_getItem_list (PlainList.isList hp) hi (by lia) (by simpa using hu) (P.pret (tk := s.toks) hm S hr)
       ·rw [if_neg hi] at hm
        obtain ⟨hi, hm1⟩ := ifT hm
        obtain ⟨v, hv', hm1⟩ := mp' hm1
        clear hm
        subst hi
        rw [List.getLast?_eq_getElem?] at hv'
        obtain ⟨y, hu, hr⟩ := hv.get hv'
        have hlt := (R0.mp hu).1
        refine wpAny_getItem_list_neg (PlainList.isList hp) (by lia) (by simp only [RV]; lia) (by lia) ?_ (P.pret (tk := s.toks) hm1 S hr)
        rw [show ((-1 : Int) + (vs.toArray.size : Int)).toNat = l.length - 1 by simp only [RV]; lia]; simpa using hu
def RvO (hT : PO) (ρ : List PD) (h : PO) : Pu -> Option PV -> Prop
 | v, none => v = .none
 | v, some p => Rv hT ρ h v p
theorem zd {l sl : PD} {vs : List Pu} {ps : List PV} {i : Int} {t : Tok} {r : Except Exn PV} {μ' : q4} {Q E : Pu -> Py -> Prop} (S : SR w hT ρ μ s.heap) (hl : s.heap.IsList l vs.toArray) (hv : RvL hT ρ s.heap vs ps) (hlen : ps.length <= Pr)
 (hs : s.heap.IsSliceOf sl .none (.int i t) .none) (hm : jp (gx ps none (some i)) μ = some (r, μ')) (P : xX w hT (Rv hT) ρ s r μ' Q E) : PP (MM w) A (getItem (.ref l) (.ref sl)) Q E s := by
 obtain ⟨hlen2, hm⟩ := zI hm
 have hlv := RvL.length hv
 refine wpAny_getItem_list_slice hl hs .none (.int i t) .none (by simp) ?_ (by simp only [RV]; lia)
 have e2 : slicePick vs.toArray none (some i) none = ((Af (Sy none (some i) none ps.length).1 (Sy none (some i) none ps.length).2.1 (Sy none (some i) none ps.length).2.2).filterMap (vs[·]?)).toArray := by
  unfold slicePick
  simp only [RV, hlv, List.getElem?_toArray]
 rw [e2]
 exact xf S (hv.pick _) hlen2 hm P (tk := s.toks)
theorem KX {h : PO} : ∀ {vs : List Pu} {l : List Int}, bU vs l -> RvL hT ρ h vs (l.map .int) := by
 intro vs l hi
 induction hi with
 | nil => exact .nil
 | cons => exact .cons (.int _ _) (by assumption)
theorem VQ {value : Expr} {lower upper : Option Expr} {pos : Pos} {sl : PD} {a vl vu : Pu} {p : PV} {lo hi : Option PV} (S : SR w hT ρ μ s.heap) (ra : Rv hT ρ s.heap a p) (rl : RvO hT ρ s.heap vl lo) (ru : RvO hT ρ s.heap vu hi)
 (hsl : s.heap.IsSliceOf sl vl vu .none) : Sim w hT A (Rv hT) ρ s (aE value (.Slice lower upper none pos) a (.ref sl)) (wM p lo hi μ) := by
 refine Sim.of0 fun r μ' hm Q E P => ?_
 obtain ⟨j, hj, hm1⟩ := bnd hm
 clear hm
 obtain ⟨q, rfl, hj⟩ := bnd hj
 obtain ⟨u', rfl⟩ := Rv.iI ru hj
 induction lo with
 | some pl =>
   obtain ⟨i, hi, hm⟩ := bnd hm1
   obtain ⟨x, hx, hm⟩ := bnd hm
   obtain ⟨u, rfl⟩ := Rv.iI rl hi
   obtain ⟨t, rfl, _⟩ := ra.sI hx
   obtain ⟨h1, hm⟩ := wf hm
   exact AO (Sw s x t) F.slot_str_getitem.lookup (wpAny_getItem_str_slice (l := some (i, u)) (u := some (j, u')) (st := none) hsl rfl (post_val_or_str ⟨h1, fun t' k => P.pret hm S (.str _ _ h1)⟩)) rfl
 | none =>
   cases (show vl = U0 from rl)
   dsimp only at hm1
   induction hp : E2 p with
   | some l =>
     rw [hp] at hm1
     obtain ⟨hlen, hm⟩ := ifT hm1
     obtain ⟨a, vs, rfl, hl, hi⟩ := ra.ilI hp
     have hl' : s.heap.IsList _ _ := let ⟨o, ho, x⟩ := hl; ⟨o, S.top _ _ ho, x⟩
     exact AO hl'.typeIs UU.lookup (zd S hl' (KX hi) (by simpa using hlen) hsl hm P) rfl
   | none =>
     rw [hp] at hm1
     obtain ⟨l, hl, hm⟩ := bnd hm1
     obtain ⟨hlen, hm⟩ := ifT hm
     obtain ⟨a, m, vs, _, hn, rfl, hp, hv, _, _⟩ := ra.list S hl
     exact AO (PlainList.isList hp).typeIs UU.lookup (zd S (PlainList.isList hp) hv hlen hsl hm P) rfl
end
section
open PySem.Builtin PySem.Builtin.Str
section
variable {w : Rk} {hT : PO} {A : RE} {ρ : List PD} {μ : q4} {s : Py} {n : Nat}
theorem vF {n : Nat} (h : n <= Pr) : tooLong n = false := by
 unfold tooLong; rw [sizeLine_eq] at *; exact decide_eq_false (by lia)
theorem RvL.strs {h : PO} {l : List (Str × Tok)} (hh : ∀ y ∈ l.map (·.1), y.length <= Pr) : RvL hT ρ h (bo l) ((l.map (·.1)).map .str) := by
 induction l with
 | nil => exact .nil
 | cons q l ih => exact .cons (.str q.1 q.2 (hh q.1 (.head _))) (ih fun y hy => hh y (.tail _ hy))
def Q9 (s : Py) (v : Pu) (name : Str) (id : String) : Prop :=
 ∃ T, PlainAttrs T /\ Slot T name id /\ cr (.builtin id) = pure (.type "method_descriptor") /\ s.TypeIs v T /\ (∀ a, v = .ref a -> ∃ ob, s.heap.get? a = some ob /\ ob.dict = none)
theorem Mk {p : Str × String -> Prop} {a b : Str × String} (h1 : p a) (h2 : p b) : ∀ q ∈ [a, b], p q := RH.mpr ⟨h1, RH.mpr ⟨h2, fun zz h => nomatch h⟩⟩
theorem KW : ∀ q ∈ vS, Slot "str" q.1 q.2 /\ cr (.builtin q.2) = pure (.type "method_descriptor") :=
 RH.mpr ⟨⟨F.slot_str_lower, F.type_str_lower⟩, RH.mpr ⟨⟨F.slot_str_upper, F.type_str_upper⟩, RH.mpr ⟨⟨F.slot_str_swapcase, F.type_str_swapcase⟩, RH.mpr ⟨⟨F.slot_str_strip, F.type_str_strip⟩, RH.mpr ⟨⟨F.slot_str_join, F.type_str_join⟩, RH.mpr ⟨⟨F.slot_str_replace, F.type_str_replace⟩, Mk ⟨F.slot_str_split, F.type_str_split⟩ ⟨F.slot_str_rstrip, F.type_str_rstrip⟩⟩⟩⟩⟩⟩⟩
theorem KR : ∀ q ∈ gu, Slot "list" q.1 q.2 /\ cr (.builtin q.2) = pure (.type "method_descriptor") := Mk ⟨F.slot_list_append, F.type_list_append⟩ ⟨F.slot_list_extend, F.type_list_extend⟩
theorem wx {x : Str} {t : Tok} {name : Str} {id : String} (h : vS.lookup name = some id) : Q9 s (.str x t) name id :=
 have q := KW _ (mem_of_lookup h)
 ⟨"str", F.plainAttrs_str, q.1, q.2, Sw _ _ _, fun zz e => nomatch e⟩
theorem yL {a : PD} {vs : Array Pu} {name : Str} {id : String} (hp : s.heap.PlainList a vs) (h : gu.lookup name = some id) : Q9 s (.ref a) name id :=
 have q := KR _ (mem_of_lookup h)
 let ⟨_, hp⟩ := hp
 ⟨"list", F.plainAttrs_list, q.1, q.2, ⟨_, hp, rfl⟩, fun b e => by injection e with e; subst e; exact ⟨_, hp, rfl⟩⟩
theorem kr (its its2 : Array Pu) (n : Nat) :
 bZ (fun x => x ++ its2) { cls := .type "list", data := .seq its n } = { cls := .type "list", data := .seq (its ++ its2) (if (its ++ its2).size == its.size then n else n + 1) } := rfl
theorem Qo {x : Str} {t : Tok} {name : Str} {id : String} {vs : List Pu} {ps : List PV} (hx : x.length <= Pr) (S : SR w hT ρ μ s.heap) (rvs : RvL hT ρ s.heap vs ps) (h : vS.lookup name = some id) :
 Sim w hT A (Rv hT) ρ s (call (.builtin id) (.str x t :: vs)) (j0 (.str x) name ps μ) := by
 refine Sim.of0 fun r μ' (hm : (if ps.isEmpty then (Yl.lookup name).bind fun f => yx (f x) μ else (one ps).bind fun v => if name == ("join" : Str) then Hf x v μ else none) = some (r, μ')) Q E P => ?_
 cases rvs with
 | nil =>
   obtain ⟨f, hf, hm⟩ := bnd hm
   obtain ⟨h1, hm⟩ := wf hm
   have key : ∀ q ∈ Yl, vS.lookup q.1 = some id -> q.2 x = f x -> PP (MM w) A (call (.builtin id) [.str x t]) Q E s :=
    RH.mpr ⟨fun e q => qk (show some "str.lower" = some id from e) ▸ SC.lower (vF (by rw [show Pt x = f x from q]; exact h1)) (P.pret hm S (by rw [show Pt x = f x from q]; exact .str _ _ h1)),
     RH.mpr ⟨fun e q => qk (show some "str.upper" = some id from e) ▸ SC.upper (vF (by rw [show Tk x = f x from q]; exact h1)) (P.pret hm S (by rw [show Tk x = f x from q]; exact .str _ _ h1)),
     RH.mpr ⟨fun e q => qk (show some "str.swapcase" = some id from e) ▸ SC.swapcase (vF (by rw [show Sk x = f x from q]; exact h1)) (P.pret hm S (by rw [show Sk x = f x from q]; exact .str _ _ h1)),
     RH.mpr ⟨fun e q => qk (show some "str.strip" = some id from e) ▸ SC.strip (fun t' k => P.pret hm S (by rw [show RT x = f x from q]; exact .str _ _ h1)) hx, fun zz h => nomatch h⟩⟩⟩⟩
   exact key (name, f) (mem_of_lookup hf) h rfl
 | @cons v p vs ps r1 r2 =>
   obtain ⟨p', hp, hm⟩ := bnd (o := one (p :: ps)) hm
   cases jN hp
   cases r2
   obtain ⟨e, hm⟩ := ifT hm
   obtain ⟨l, hl, hm⟩ := bnd hm
   obtain ⟨ts, hts, hm⟩ := bnd hm
   obtain ⟨hg, hm⟩ := ifT hm
   rw [qb e] at h; cases h
   obtain ⟨a, _, us, _, _, rfl, hp, hv, _⟩ := r1.list S hl
   obtain ⟨k, rfl, h2, _⟩ := Kn hv hts
   exact SC.join (PlainList.isList hp) h2 (an hg).1 fun t' k => P.pret hm S (.str _ _ (of_decide_eq_true (an hg).2))
theorem QB {a : PD} {m : Nat} {h' : PO} {ws : List Pu} {l : List PV} {r : Except Exn PV} {μ' : q4} {Q E : Pu -> Py -> Prop} (P : xX w hT (Rv hT) ρ s r μ' Q E) (S : SR w hT ρ μ s.heap) (hn : ρ[m]? = some a) (hs : RK a s.heap h') (hp : h'.PlainList a ws.toArray)
 (hv : Kv s.heap h' -> RvL hT ρ h' ws l) (hl : l.length <= Pr + 1) (hm : some ((.ok .none : Except Exn PV), qj μ m (.list l)) = some (r, μ')) : Q .none { s with heap := h' } :=
 have ha : a ∈ ρ := Rr hn
 (P.of hm).ok .none h' s.toks ρ .none rfl (Le.set ha hs (let ⟨_, q⟩ := hp; ⟨_, q⟩)) (S.set hn hs ⟨hl, ws, hp, hv (S.kvSet ha hs)⟩) .none
theorem Q5 {m : Nat} {a : PD} {v : Pu} {p : PV} (hn : ρ[m]? = some a) (S : SR w hT ρ μ s.heap) (r1 : Rv hT ρ s.heap v p) : Sim w hT A (Rv hT) ρ s (call (.builtin "list.append") [.ref a, v]) (ye m p μ) := by
 refine Sim.of0 fun r μ' hm Q E P => ?_
 obtain ⟨l, hl, hm⟩ := bnd hm
 obtain ⟨hlen, hm⟩ := ifT hm
 obtain ⟨_, us, hp, hv⟩ := S.listAt hn hl
 refine A7 hp (fun h' hp' hs' => ?_) (by rw [RV, hv.length]; exact RL hlen)
 rw [show us.toArray.push v = (us ++ [v]).toArray by simp] at hp'
 exact QB P S hn hs' hp' (fun kv => (hv.mono ⟨[], (PQ _).symm⟩ kv).append (.cons (r1.mono ⟨[], (PQ _).symm⟩ kv) .nil)) (by rw [PB]; exact Ru hlen) hm
theorem YV {m : Nat} {a : PD} {v : Pu} {p : PV} (hn : ρ[m]? = some a) (S : SR w hT ρ μ s.heap) (r1 : Rv hT ρ s.heap v p) : Sim w hT A (Rv hT) ρ s (call (.builtin "list.extend") [.ref a, v]) (Jq m p μ) := by
 refine Sim.of0 fun r μ' hm Q E P => ?_
 obtain ⟨l, hl, hm⟩ := bnd hm
 obtain ⟨j, hj, hm⟩ := bnd hm
 obtain ⟨_, hm⟩ := ifF hm
 obtain ⟨k, hk, hm⟩ := bnd hm
 obtain ⟨hlen, hm⟩ := ifT hm
 obtain ⟨b, rfl, hn2⟩ := r1.lI hj
 obtain ⟨_, us, ⟨c, hp⟩, hv⟩ := S.listAt hn hl
 obtain ⟨_, us2, ⟨c2, hp2⟩, hv2⟩ := S.listAt hn2 hk
 have hsz : us.toArray.size + us2.toArray.size <= Pr := by rw [RV, RV, hv.length, hv2.length]; exact hlen
 have e24 := GO
 refine T1 F.slot_list_extend ⟨_, hp, rfl⟩ F.entry_list_extend (F.args_list_extend_2 _ _) (AutoSeq1.list_extend_list_list_0 a us.toArray c b us2.toArray c2 (extend_door hsz) (by lia) (by lia)) ⟨hp, hp2, ?_⟩
 have ho' : (s.heap.update a (bZ fun x => x ++ us2.toArray)).get? a = some { cls := .type "list", data := .seq (us ++ us2).toArray (if (us.toArray ++ us2.toArray).size == us.toArray.size then c else c + 1) } := by
  rw [SO _ hp (by rw [kr]; rfl), kr, List.append_toArray]
 exact QB P S hn (TH ..) ⟨_, ho'⟩ (fun kv => (hv.mono ⟨[], (PQ _).symm⟩ kv).append (hv2.mono ⟨[], (PQ _).symm⟩ kv)) (by rw [PB]; exact Ru hlen) hm
theorem gC {m : Nat} {a : PD} {name : Str} {id : String} {vs : List Pu} {ps : List PV} (hn : ρ[m]? = some a) (S : SR w hT ρ μ s.heap) (rvs : RvL hT ρ s.heap vs ps) (h : gu.lookup name = some id) :
 Sim w hT A (Rv hT) ρ s (call (.builtin id) (.ref a :: vs)) (j0 (.loc m) name ps μ) := by
 intro ht r μ' (hm : ((one ps).bind fun v => if name == ("append" : Str) then ye m v μ else if name == ("extend" : Str) then Jq m v μ else none) = some (r, μ')) Q E P
 obtain ⟨p, hp, hm⟩ := bnd hm
 cases jN hp
 cases rvs with | cons r1 r2 =>
 cases r2
 cases e : (name == ("append" : Str)) with
 | true =>
   rw [e] at hm
   rw [qb e] at h; cases h
   exact Q5 hn S r1 ht _ _ hm Q E P
 | false =>
   rw [e] at hm
   obtain ⟨e, hm⟩ := ifT hm
   rw [qb e] at h; cases h
   exact YV hn S r1 ht _ _ hm Q E P
theorem Cd {x y : Str} {t u : Tok} {Q E : Pu -> Py -> Prop} (hy : (y.length == 0) = false) (hsz : x.length + 2 <= Pr)
 (h : ∀ l tk, l.map (·.1) = SE x y -> Q (.ref s.heap.objs.size) { s with heap := s.heap.push { cls := .type "list", data := .seq (bo l).toArray }, toks := tk }) :
 PP (MM w) A (call (.builtin "str.split") [.str x t, .str y u]) Q E s := by
 have hn : (partsBetween x (occurrences x y 0 x.length (x.length + 1)) y.length).length <= Pr := by
  have e1 := UO x y 0 x.length (x.length + 1)
  rw [ar]; lia
 cases h1 : (decide (x.length < y.length) || decide (TI x < TI y))
 ·cases hf : (occurrences x y 0 x.length (x.length + 1)).isEmpty
  ·refine T1 F.slot_str_split (Sw _ _ _) F.entry_str_split (F.args_str_split_2 _ _) (meets_str_split_sep x y t u h1 hy hf (by lia) hn) ?_
   show wants Q E _ { s with toks := _, heap := s.heap.push { cls := .type "list", data := .seq (strsFrom s.toks (partsBetween x (occurrences x y 0 x.length (x.length + 1)) y.length)).toArray } }
   rw [strsFrom_eq]
   exact h (numbered s.toks _) _ ((numbered_texts _ _).trans ((if_neg (ne_true_of_eq_false h1)).trans (if_neg (ne_true_of_eq_false hf))).symm)
  ·exact T1 F.slot_str_split (Sw _ _ _) F.entry_str_split (F.args_str_split_2 _ _) (meets_str_split_not_found x y t u h1 hy hf)
    (h [(x, t)] s.toks ((if_neg (ne_true_of_eq_false h1)).trans (if_pos hf)).symm)
 ·exact T1 F.slot_str_split (Sw _ _ _) F.entry_str_split (F.args_str_split_2 _ _) (meets_str_split_cannot_occur x y t u h1)
   (h [(x, t)] s.toks (if_pos h1).symm)
theorem XW {x y : Str} {t u v : Tok} {k : Int} {Q E : Pu -> Py -> Prop} (hy : (y.length == 0) = false) (hsz : x.length + 2 <= Pr) (hk : (decide (k < -(2 ^ 63 : Int)) || decide (k ≥ 2 ^ 63)) = false)
 (h : ∀ l tk, l.map (·.1) = Tz x y k -> Q (.ref s.heap.objs.size) { s with heap := s.heap.push { cls := .type "list", data := .seq (bo l).toArray }, toks := tk }) :
 PP (MM w) A (call (.builtin "str.split") [.str x t, .str y u, .int k v]) Q E s := by
 have hn : (partsBetween x (occurrences x y 0 x.length (bV x k)) y.length).length <= Pr := by
  have e1 := UO x y 0 x.length (bV x k)
  rw [ar]; lia
 cases h1 : (decide (x.length < y.length) || decide (TI x < TI y))
 ·cases hf : (occurrences x y 0 x.length (bV x k)).isEmpty
  ·refine T1 F.slot_str_split (Sw _ _ _) F.entry_str_split (F.args_str_split_3 _ _ _) (meets_str_split_sep_max x y k t u v hk h1 hy hf (by lia) hn) ?_
   show wants Q E _ { s with toks := _, heap := s.heap.push { cls := .type "list", data := .seq (strsFrom s.toks (partsBetween x (occurrences x y 0 x.length (bV x k)) y.length)).toArray } }
   rw [strsFrom_eq]
   exact h (numbered s.toks _) _ ((numbered_texts _ _).trans ((if_neg (ne_true_of_eq_false h1)).trans (if_neg (ne_true_of_eq_false hf))).symm)
  ·exact T1 F.slot_str_split (Sw _ _ _) F.entry_str_split (F.args_str_split_3 _ _ _) (meets_str_split_max_not_found x y k t u v hk h1 hy hf)
    (h [(x, t)] s.toks ((if_neg (ne_true_of_eq_false h1)).trans (if_pos hf)).symm)
 ·exact T1 F.slot_str_split (Sw _ _ _) F.entry_str_split (F.args_str_split_3 _ _ _) (meets_str_split_max_cannot_occur x y k t u v hk h1)
   (h [(x, t)] s.toks (if_pos h1).symm)
theorem JL {env : Env} {e : Expr} {es : List Expr} (h : qf e = false) : Sr (e :: es) env = (false, eval e env) :: Sr es env := by induction e using PZ <;> first | rfl | cases h
theorem fo {env : Env} {args : List Expr} (h : args.all (!qf ·) = true) : Sr args env = args.map fun e => (false, eval e env) := by
 induction args with
 | nil => rfl
 | cons e es ih => rw [JL (nt (an h).1), ih (an h).2]; rfl
theorem q9 {env : Env} {pos : Pos} {args : List Expr} (h : args.all (!qf ·) = true) : Tc pos (Sr args env) = args.map fun e => (false, eval e env) := by
 rw [fo h]
 unfold Tc
 rw [Su]
 rfl
theorem yC {M : U8} {pos : Pos} {id : String} {first : List Pu} {x : Sem Pu} {Q E : Pu -> Py -> Prop} (h : PP M A x (fun v s₁ => PP M A (call (.builtin id) (first ++ [v])) Q E s₁) E s) : PP M A (Ti pos (.builtin id) first [(false, x)] []) Q E s :=
 callWith_builtin rfl (AP (spliced_cons (RG h (fun zz zz h₁ => T9 h₁) fun zz zz e => e)))
theorem kx {M : U8} {pos : Pos} {id : String} {first : List Pu} {x y : Sem Pu} {Q E : Pu -> Py -> Prop} (h : PP M A x (fun v s₁ => PP M A y (fun u s₂ => PP M A (call (.builtin id) (first ++ [v, u])) Q E s₂) E s₁) E s) : PP M A (Ti pos (.builtin id) first [(false, x), (false, y)] []) Q E s :=
 callWith_builtin rfl (AP (spliced_cons (RG h (fun zz zz h₁ => spliced_cons (RG h₁ (fun zz zz h₂ => T9 h₂) fun zz zz e => e)) fun zz zz e => e)))
theorem xG {e : Expr} {es : List Expr} {cs : List Ul} (h : jq (e :: es) = some cs) : ∃ c k p cs', e = .Constant c k p /\ jq es = some cs' /\ cs = c :: cs' := by
 obtain ⟨c, h1, h⟩ := bnd h
 obtain ⟨cs', h2, h⟩ := mp' h
 obtain ⟨k, p, h1⟩ := xB h1
 exact ⟨c, k, p, cs', h1, h2, (qk h).symm⟩
theorem vb {es : List Expr} (h : jq es = some []) : es = [] := by
 induction es using PC with
 | nil => rfl
 | cons e es => obtain ⟨_, _, _, _, _, _, h⟩ := xG h; cases h
theorem WE {es : List Expr} {c : Ul} (h : jq es = some [c]) : ∃ k p, es = [.Constant c k p] := by
 induction es using PC with
 | nil => cases h
 | cons e es =>
   obtain ⟨c, k, p, cs, rfl, h2, h3⟩ := xG h
   cases h3
   cases vb h2
   exact ⟨k, p, rfl⟩
theorem DR {es : List Expr} {c d : Ul} (h : jq es = some [c, d]) : ∃ k p k' p', es = [.Constant c k p, .Constant d k' p'] := by
 induction es using PC with
 | nil => cases h
 | cons e es =>
   obtain ⟨c, k, p, cs, rfl, h2, h3⟩ := xG h
   cases h3
   obtain ⟨k', p', rfl⟩ := WE h2
   exact ⟨k, p, k', p', rfl⟩
theorem GG {x z : Nat} (h : x <= 1048576) (h3 : z <= 14) : x + (x + 1) * z <= 16777216 := by
 have : (x + 1) * z <= (x + 1) * 14 := TJ _ h3
 lia
theorem le2 {x : Nat} (h : x <= 16000000) : x + 2 <= Pr := by rw [GO]; lia
theorem le0 {x y : Nat} (h : x <= 16000000) (h' : y <= x) : y <= Pr := by rw [GO]; lia
theorem Yd {x : Str} {t : Tok} {name : Str} {id : String} {args : List Expr} {cs : List Ul} {pos : Pos} {env : Env} (hx : x.length <= Pr) (S : SR w hT ρ μ s.heap) (hc : jq args = some cs) (h : vS.lookup name = some id) :
 Sim w hT A (Rv hT) ρ s (Ti pos (.builtin id) [.str x t] (Tc pos (Sr args env)) []) (jV x name cs μ) := by
 refine Sim.of1 fun ht1 r μ' hm Q E P => ?_
 induction cs using PC with
 | nil => exact no hm
 | cons c cs =>
 obtain ⟨y, hy, hm1⟩ := bnd hm
 clear hm
 obtain ⟨hg, hm⟩ := ifB hm1
 cases gK hy
 have g1 := of_decide_eq_false (orF (orF hg).1).1
 have g3 := Sh.mp (of_decide_eq_false (orF hg).2)
 have g1' : (y.length == 0) = false := beq_eq_false_iff_ne.mpr g1
 induction cs using PC with
 | nil =>
   clear hm1
   obtain ⟨_, _, rfl⟩ := WE hc
   rw [q9 rfl]
   cases hn : (name == ("split" : Str)) with
   | true =>
     rw [qb hn] at h; cases h
     rw [hn] at hm
     obtain ⟨hlen, hm⟩ := zI hm
     exact yC (Sj (Cd g1' (le2 g3) fun l tk hl => xf (k := 0) S (RvL.strs (l := l) fun y hy => le0 g3 (part_short (hl ▸ hy))) (by rw [hl]; exact hlen) (by rw [hl]; exact hm) P))
   | false =>
     rw [hn] at hm
     obtain ⟨hn, hm⟩ := ifT hm
     rw [qb hn] at h; cases h
     refine yC (Sj (SC.rstripChars (fun t' k => P.pret hm S (.str _ _ ?_)) hx))
     unfold Ar bH
     by_cases hc : (y.length == 0) = true
     ·rw [g1'] at hc; exact noB hc
     ·split
      ·exact hx
      ·exact fits_stripped _ _ _ hx
 | cons d ds =>
   clear hm1
   obtain ⟨hds, hm1⟩ := ifB hm
   clear hm
   cases Rf.mp (show ds.isEmpty = true by cases q : ds.isEmpty <;> simp [q] at hds ⊢)
   obtain ⟨_, _, _, _, rfl⟩ := DR hc
   rw [q9 rfl]
   induction hd : Ez d with
   | some k =>
     rw [hd] at hm1
     obtain ⟨hg, hm⟩ := ifT hm1
     cases Xg hd
     rw [qb (an hg).1] at h; cases h
     cases of_decide_eq_true (an hg).2
     obtain ⟨hlen, hm⟩ := zI hm
     exact kx (Sj (U1 (XW g1' (le2 g3) rfl fun l tk hl => xf (k := 0) S (RvL.strs (l := l) fun y hy => le0 g3 (partMax_short (hl ▸ hy))) (by rw [hl]; exact hlen) (by rw [hl]; exact hm) P)))
   | none =>
     rw [hd] at hm1
     obtain ⟨z, hz, hm⟩ := bnd hm1
     obtain ⟨hg, hm⟩ := ifT hm
     cases gK hz
     have h4 := an hg
     have h3 := an h4.1
     have h1 := an h3.1
     rw [qb (an h1.1).1] at h; cases h
     have hb := GG (of_decide_eq_true h4.2) (of_decide_eq_true h3.2)
     refine kx (Sj (Sj (SC.replace (RZ ht1) (Nat.succ_ne_zero _) (RQ (RU _)) (nt (an h1.1).2) hb fun t' k => P.pret hm S (.str _ _ ?_))))
     unfold Sz
     split
     ·exact hx
     ·exact fits_replaced y hb
end
end
section
open PySem.Builtin
theorem kn : Slot "re.Pattern" "search" "re.Pattern.search" :=
 .of (owner := "re.Pattern") (n := "search") (by rw [TV, SM]; kernel_rfl) (by decide +kernel) (by decide +kernel) (by decide +kernel)
  (by first | exact .inl (by decide +kernel) | exact .inr (by decide +kernel)) (by rw [isSubtype_type]; kernel_rfl)
theorem XK : cr (.builtin "re.Pattern.search") = pure (.type "method_descriptor") := by show builtinType _ = _; rw [builtinType_eq_fast]; kernel_rfl
theorem Zb : entryFor table "re.Pattern.search" = some TX.«re.Pattern.search» := entryFor_of_tree (by kernel_rfl)
theorem XA (a b : Pu) : argsOk "re.Pattern.search" ⟨[a, b], []⟩ := by
 unfold argsOk; kernel_rfl
theorem wU : PlainAttrs "re.Pattern" :=
 ⟨⟨"object.__getattribute__", by rw [TV, SM]; kernel_rfl, by decide +kernel⟩, by rw [TV, SM]; kernel_rfl⟩
theorem Yq (x : Str) (t : Tok) : Re.reNamed "re.Pattern.search" "search" ["string", "pos", "endpos"] 1 [.str x t] [] = pure [some (.str x t), none, none] := rfl
structure xK (code : Array Nat) (body : Nat) (f : Nat -> Bool) : Prop where
 info : ah[code.getD 0 0]? = some .INFO
 flag : code.getD 2 0 = 4
 least : code.getD 3 0 = 1
 hdr : 1 + code.getD 1 0 = body
 first : ∀ c seen, ∃ seen', ck code c code.size 5 true seen = .ok (f c, seen')
 inop : ah[code.getD body 0]? = some .IN
 second : ∀ c seen, ∃ seen', ck code c code.size (body + 2) true seen = .ok (f c, seen')
 succ : ah[code.getD (body + (1 + code.getD (body + 1) 0)) 0]? = some .SUCCESS
 lt1 : body < code.size
 lt2 : body + (1 + code.getD (body + 1) 0) < code.size
theorem kE {code : Array Nat} {body : Nat} {f : Nat -> Bool} (O : xK code body f) (m : Ub) (hc : m.code = code) : ∀ (fuel s : Nat) (sn : AQ), m.lim < s + fuel ->
 (∃ seen', m.admitted fuel s sn = .ok (none, seen') /\ ∀ i, s <= i -> i < m.lim -> f (m.text.getD i 0) = false) \/
 (∃ k seen', m.admitted fuel s sn = .ok (some k, seen') /\ s <= k /\ k < m.lim /\ f (m.text.getD k 0) = true)
 | 0, s, sn, h => .inl ⟨sn, rfl, fun i h1 h2 => absurd h (by lia)⟩
 | fuel + 1, s, sn, h => by
   unfold Ub.admitted
   by_cases hs : s ≥ m.lim
   ·rw [if_pos hs]
    exact .inl ⟨sn, rfl, fun i h1 h2 => absurd h1 (by lia)⟩
   ·rw [if_neg hs, hc]
    obtain ⟨seen', e⟩ := O.first (m.text.getD s 0) sn
    rw [e]
    induction hf : f (m.text.getD s 0) with
    | true => exact .inr ⟨s, seen', rfl, PJ _, by lia, hf⟩
    | false =>
      rcases kE O m hc fuel (s + 1) seen' (by lia) with ⟨q, e2, h2⟩ | ⟨k, q, e2, h2, h3, h4⟩
      ·refine .inl ⟨q, e2, fun i h1 h3 => ?_⟩
       by_cases hi : i = s
       ·rw [hi]; exact hf
       ·exact h2 i (by lia) h3
      ·exact .inr ⟨k, q, e2, by lia, h3, h4⟩
theorem DY {m : Ub} {sn : AQ} (ho : m.outcome = none) (ha : m.answer = none) (hpc : m.pc < m.code.size) (hop : ah[m.code.getD m.pc 0]? = some .IN) (hlt : m.pos < m.lim)
 (hin : ck m.code (m.text.getD m.pos 0) m.code.size (m.pc + 2) true (m.seen.add (m.code.getD m.pc 0)) = .ok (true, sn)) :
 m.step = { m with seen := sn, pc := m.pc + (1 + m.code.getD (m.pc + 1) 0), pos := m.pos + 1 } := by
 have h1 : m.step = m.exec := by
  unfold aO
  rw [ho, ha]
  simp only [Td, R7, if_false, hpc, if_true]
 rw [h1]
 unfold Ub.exec
 have h2 : ah[m.word 0]? = some .IN := hop
 rw [h2]
 have h3 : ¬ (m.pos ≥ m.lim) := by lia
 have h4 : Sre.accepts m.code m.pc (m.text.getD m.pos 0) (m.seen.add (m.word 0)) = .ok (true, sn) := by
  unfold Sre.accepts
  simp only [hop]
  exact hin
 simp only [h3, if_false, h4]
 unfold Sre.itemWidth
 simp only [hop]
theorem Jl {m : Ub} (ho : m.outcome = none) (ha : m.answer = none) (hpc : m.pc < m.code.size) (hop : ah[m.code.getD m.pc 0]? = some .SUCCESS) (hw : m.wholeText = false) (hm : m.mustAdvance = false) :
 m.step = { m with seen := m.seen.add (m.code.getD m.pc 0), handed := m.pos, answer := some true } := by
 have h1 : m.step = m.exec := by
  unfold aO
  rw [ho, ha]
  simp only [Td, R7, if_false, hpc, if_true]
 rw [h1]
 unfold Ub.exec
 have h2 : ah[m.word 0]? = some .SUCCESS := hop
 rw [h2]
 simp only [hw, hm, c6, Bool.or_self, Bool.and_false, R7, if_false]
 rfl
theorem VE {m : Ub} {f : Sre.Frame} (ho : m.outcome = none) (ha : m.answer = some true) (hf : m.frames = [f]) (hw : f.wait = .nextStart) :
 ∃ m', m.step = m' /\ m'.outcome = none /\ m'.answer = some true /\ m'.frames = [] := by
 unfold aO
 rw [ho, ha, hf]
 unfold Ub.resume
 simp only [Td, R7, if_false, hw, if_true]
 exact ⟨_, rfl, rfl, rfl, rfl⟩
theorem gN {m : Ub} {b : Bool} (ho : m.outcome = none) (ha : m.answer = some b) (hf : m.frames = []) : m.step.outcome = some (if b then .matched else .failed) := by
 unfold aO
 rw [ho, ha, hf]
 rfl
theorem zK {n : Nat} {m : Ub} (ho : m.outcome = none) : Sl (n + 1) m = Sl n m.step := by
 show (if m.outcome.isSome then m else Sl n m.step) = _
 rw [ho]; rfl
theorem Xv {n : Nat} {m : Ub} {o : Sre.Outcome} (ho : m.outcome = some o) : Sl n m = m := by
 induction n using AN with
 | zero => rfl
 | succ n =>
   show (if m.outcome.isSome then m else Sl n m.step) = _
   rw [ho]; rfl
theorem fv {code : Array Nat} {body : Nat} {f : Nat -> Bool} (O : xK code body f) {m : Ub} {s : Nat} (hc : m.code = code) (hp : m.pc = body) (hs : s < m.lim) (hf : f (m.text.getD s 0) = true)
 (hw : m.weight = 0) (hfr : m.frames = []) (ha : m.answer = none) (ho : m.outcome = none) (hm : m.mustAdvance = false) (hwt : m.wholeText = false) :
 (Sl 4 (m.attemptAt s true)).outcome = some .matched := by
 have e1 : m.attemptAt s true = { m with start := s, pos := s, lastmark := -1, lastindex := -1, frames := [{ wait := .nextStart, pc := m.pc, pos := s, outermost := true }], weight := 1, handed := s, outermost := true } := by
  unfold Ub.attemptAt Ub.attempt
  simp only [hw, hfr]
  rfl
 rw [e1]
 obtain ⟨sn, e⟩ := O.second (m.text.getD s 0) (m.seen.add (m.code.getD m.pc 0))
 rw [hf] at e
 subst hc hp
 rw [zK, DY (sn := sn), zK, Jl, zK]
 ·obtain ⟨m', e3, h1, h2, h3⟩ := VE (m := { m with start := s, pos := s + 1, lastmark := -1, lastindex := -1, frames := [{ wait := .nextStart, pc := m.pc, pos := s, outermost := true }], weight := 1, handed := s + 1, outermost := true, pc := m.pc + (1 + m.code.getD (m.pc + 1) 0), seen := sn.add (m.code.getD (m.pc + (1 + m.code.getD (m.pc + 1) 0)) 0), answer := some true }) ho rfl rfl rfl
  rw [e3, zK h1]
  exact gN h1 h2 h3
 ·exact ho
 ·exact ho
 ·exact ha
 ·exact O.lt2
 ·exact O.succ
 ·exact hwt
 ·exact hm
 ·exact ho
 ·exact ho
 ·exact ha
 ·exact O.lt1
 ·exact O.inop
 ·exact hs
 ·exact e
 ·exact ho
theorem wC {m : Ub} (ho : m.outcome = none) (ha : m.answer = some false) (hf : m.frames = []) : (Sl 4 m).outcome = some .failed := by
 rw [zK ho, Xv (gN ho ha hf)]
 exact gN ho ha hf
theorem kT {code : Array Nat} {body : Nat} {f : Nat -> Bool} (O : xK code body f) {m : Ub} (hc : m.code = code) (hp : m.pc = body) (hl : m.lim = m.text.size)
 (hw : m.weight = 0) (hfr : m.frames = []) (ha : m.answer = none) (ho : m.outcome = none) (hwt : m.wholeText = false) :
 (Sl 4 (m.attemptFrom 0 true)).outcome = some (if m.text.toList.any f then .matched else .failed) := by
 unfold Ub.attemptFrom
 have hset : m.hasFirstSet = true := by
  unfold Ub.hasFirstSet
  rw [hc, O.info, O.flag]; rfl
 rw [hset]
 simp only [Bool.not_true, R7, if_false]
 have hany : ∀ b : Bool, (m.text.toList.any f = b) ↔ ((∃ i, i < m.text.size /\ f (m.text.getD i 0) = true) ↔ b = true) := by
  intro b
  have h1 : m.text.toList.any f = true ↔ ∃ i, i < m.text.size /\ f (m.text.getD i 0) = true := by
   rw [List.any_eq_true]
   constructor
   ·rintro ⟨x, hx, hf⟩
    obtain ⟨i, hi, rfl⟩ := ak hx
    refine ⟨i, by simpa using hi, ?_⟩
    simp only [TK] at hi
    simpa [aN, hi] using hf
   ·rintro ⟨i, hi, hf⟩
    refine ⟨m.text.toList[i]'(by simpa using hi), Rx _, ?_⟩
    simpa [aN, hi] using hf
  rw [<- h1]
  cases m.text.toList.any f <;> cases b <;> simp
 rcases kE O m hc (m.lim + 1 - 0) 0 m.seen (by lia) with ⟨sn, e, h1⟩ | ⟨k, sn, e, _, h2, h3⟩
 ·rw [e]
  have : m.text.toList.any f = false := by
   rw [hany]
   simp only [R7, iff_false]
   rintro ⟨i, hi, hf⟩
   rw [h1 i (Rj _) (by lia)] at hf
   cases hf
  rw [this]
  exact wC ho rfl hfr
 ·rw [e]
  have : m.text.toList.any f = true := by
   rw [hany]
   simp only [iff_true]
   exact ⟨k, by lia, h3⟩
  rw [this]
  exact fv O (m := { m with mustAdvance := false, seen := sn }) hc hp h2 h3 hw hfr ha ho rfl hwt
theorem Yn {code : Array Nat} {body : Nat} {f : Nat -> Bool} (O : xK code body f) (text : Array Nat) :
 (Sl 4 (Sre.forSearch code text 0 0 text.size false)).outcome = some (if text.toList.any f then .matched else .failed) := by
 unfold Sre.forSearch
 have hh : Sre.header code = (1, body) := by
  unfold Sre.header
  rw [O.info]
  simp only [O.least, O.hdr]
 rw [hh]
 simp only [Au, decide_false, Bool.false_or, Nat.sub_zero, O.flag]
 by_cases h0 : text.size < 1
 ·have he : text = #[] := by
   apply Array.eq_empty_of_size_eq_zero; lia
  subst he
  simp only [Array.size_empty, c7, decide_true, if_true, gt_iff_lt, Sq, decide_false]
  rw [wC] <;> rfl
 ·simp only [h0, decide_false, gt_iff_lt, R7, if_false]
  exact kT O rfl (congrArg Rh hh) rfl rfl rfl rfl rfl rfl
theorem yM {M : U8} {A : RE} {E : Pu -> Py -> Prop} {s : Py} {Q : PUnit -> Py -> Prop} {p : Nat -> Bool} {nm : Nat -> String} (h : Q ⟨⟩ s) :
 ∀ l : List Nat, PP M A (ba l Uh fun i zz => if p i = true then (do rule (nm i); pure (SH Uh)) else pure (SH Uh) : Sem PUnit) Q E s
 | [] => wpAny_pure h
 | i :: l => by
   rw [SI]
   refine wpAny_bind ?_
   split
   ·exact wpAny_bind (aP (wpAny_pure (yM h l)))
   ·exact wpAny_pure (yM h l)
theorem gY {M : U8} {A : RE} {E : Pu -> Py -> Prop} {s : Py} {Q : Option Ub -> Py -> Prop} {m : Ub} {b : Bool} (hm : (Sl 4 m).outcome = some (if b then .matched else .failed))
 (h : Q (if b then some (Sl 4 m) else none) s) : PP M A (Re.reRunToEnd m) Q E s := by
 unfold Re.reRunToEnd
 have e : Re.reDrive (2 ^ 64) m = pure (Sl 4 m) := by
  have : (2 : Nat) ^ 64 = 18446744073709551615 + 1 := rfl
  rw [this]
  show (if (Sl 4 m).outcome.isSome then pure (Sl 4 m) else _) = _
  rw [hm]; rfl
 rw [e]
 refine wpAny_bind (wpAny_pure ?_)
 refine wpAny_bind ?_
 refine yM ?_ _
 rw [hm]
 cases b
 ·exact wpAny_pure h
 ·exact wpAny_pure h
theorem Jv {p c : PD} {x : Str} {t : Tok} {v0 v1 v3 v4 : Pu} {k0 : Tok} {codes : Array Pu} {n : Nat} {f : Nat -> Bool} {body : Nat} (hx : x.length <= Pr) (O : xK ((codes.map Re.reRawOf).map (·.toNat)) body f) :
 Meets («re.Pattern.search» ⟨[.ref p, .str x t], []⟩) (fun zz R s => s.heap.get? p = some { cls := .type "re.Pattern", data := .fields #[v0, v1, .int 0 k0, v3, v4, .ref c, .int 0 k0] } /\ s.heap.get? c = some { cls := .type "tuple", data := .seq codes n } /\
  if x.cps.toList.any f then ∀ tup o, o.cls = .type "re.Match" -> o.dict = none -> (∃ vs, o.data = .fields vs) -> R (.ok (.ret (.ref ((s.heap.push tup).objs.size)))) { s with heap := (s.heap.push tup).push o } else R (.ok (.ret .none)) s) :=
 .of_wp fun prog w A R s h => by
  obtain ⟨hp, hc, h⟩ := h
  unfold «re.Pattern.search» Re.reTarget
  refine wpAny_bind ?_
  show PP _ _ (Re.reNamed "re.Pattern.search" "search" ["string", "pos", "endpos"] 1 [.str x t] [] >>= _) _ _ s
  rw [Yq]
  refine wpAny_bind (wpAny_pure ?_)
  refine wpAny_bind (wpAny_pure ?_)
  refine wpAny_bind (wpAny_pure ?_)
  refine wpAny_bind (wpAny_fieldsOf hp rfl ?_)
  refine wpAny_bind (m := Re.reTextOf (.str x t)) (UV (a := (x.cps, 0)) rfl ?_)
  show PP _ _ (Re.reRawItems (.ref c) >>= _) _ _ s
  refine wpAny_bind ?_
  unfold Re.reRawItems
  refine wpAny_bind (AR hc rfl (wpAny_pure ?_))
  refine wpAny_pure ?_
  have e24 : Pr = 16777216 := by decide
  have hx' : x.cps.size <= 16777216 := by rw [<- e24]; exact hx
  have hl : min (((2 : Int) ^ 63 - 1).toNat) x.cps.size = x.cps.size := Nat.min_eq_right (Pq hx' (by decide))
  have h00 : min ((0 : Int).toNat) x.cps.size = 0 := Nat.zero_min _
  simp only [hl, h00]
  unfold Re.reAnswer
  have hr := Yn O x.cps
  refine wpAny_bind (gY (b := x.cps.toList.any f) hr ?_)
  induction hb : x.cps.toList.any f with
  | false =>
    rw [hb] at h
    simp only [R7, if_false] at h ⊢
    exact wpAny_pure ⟨_, rfl, h⟩
  | true =>
    rw [hb] at h
    simp only [if_true] at h ⊢
    refine wpAny_bind ?_
    unfold Re.reNewMatch
    show PP _ _ (newTuple _ >>= fun q => newFields "re.Match" [_, _, _, _, _, q]) _ _ s
    refine wpAny_bind (wpAny_newTuple ?_ (by show 2 <= Pr; decide))
    unfold newFields
    refine wpAny_newObj_type (wpAny_pure ⟨_, rfl, ?_⟩)
    exact h _ _ rfl rfl ⟨_, rfl⟩
noncomputable def xu (l : List Nat) : Array Pu := (l.map fun (n : Nat) => Pu.int n 0).toArray
theorem Zu (l : List Nat) : ((xu l).map Re.reRawOf).map (·.toNat) = l.toArray := by
 unfold xu
 apply UE
 simp only [Array.toList_map, Su]
 induction l with
 | nil => rfl
 | cons a l ih => simp only [RO, ih]; rfl
noncomputable def JX : List Nat := [14, 14, 4, 1, 1, 9, 0, 4227896069, 939524097, 0, 0, 0, 0, 0, 0, 13, 11, 9, 0, 4227896069, 939524097, 0, 0, 0, 0, 0, 0, 1]
noncomputable def Gp : List Nat := [14, 10, 4, 1, 1, 22, 0, 31, 16, 127, 0, 13, 7, 22, 0, 31, 16, 127, 0, 1]
noncomputable def Zh : List Nat := [14, 14, 4, 1, 1, 9, 4294966783, 0, 0, 2147483648, 0, 0, 0, 0, 0, 13, 11, 9, 4294966783, 0, 0, 2147483648, 0, 0, 0, 0, 0, 1]
theorem Wq {r : Except String (Bool × AQ)} {b v : Bool} {s1 s2 : AQ} (hv : b = v) (h : r = if b = true then .ok (true, s1) else .ok (false, s2)) : ∃ sn', r = .ok (v, sn') := by
 rw [h, hv]
 exact v.rec ⟨_, rfl⟩ ⟨_, rfl⟩
theorem Va {g : Nat -> Nat} {f : Nat -> Bool} (hf : ∀ c, c < 256 -> (g (c / 32)).testBit (c % 32) = f c) (hb : ∀ c, 256 <= c -> f c = false) (c : Nat) : (decide (c < 256) && (g (c / 32)).testBit (c % 32)) = f c := by
 by_cases hc : c < 256
 ·rw [hf c hc, decide_eq_true hc]; rfl
 ·rw [hb c (A8 hc), decide_eq_false hc]; rfl
theorem XF {l : List Nat} {c : Nat} (h : (l.all fun x => decide (x < 256)) = true) (hc : 256 <= c) : l.contains c = false := by
 induction q : l.contains c with
 | false => rfl
 | true => exact absurd (of_decide_eq_true (PS.mp h c (RR.mp q))) (Sh.mpr hc)
theorem H5 {c : Nat} (hc : 256 <= c) : QD c = false := by simp [QD]; lia
theorem Nr : xK JX.toArray 15 xy where
 info := rfl
 flag := rfl
 least := rfl
 hdr := rfl
 first := fun c sn => Wq (s1 := sn.add 9) (s2 := (sn.add 9).add 0) (Va (g := fun n => JX.toArray.getD (5 + (1 + n)) 0) (by decide +kernel) (fun c hc => XF rfl hc) c) (by kernel_rfl)
 inop := rfl
 second := fun c sn => Wq (s1 := sn.add 9) (s2 := (sn.add 9).add 0) (Va (g := fun n => JX.toArray.getD (17 + (1 + n)) 0) (by decide +kernel) (fun c hc => XF rfl hc) c) (by kernel_rfl)
 succ := rfl
 lt1 := by decide
 lt2 := by decide
theorem Mw : xK Zh.toArray 15 QD where
 info := rfl
 flag := rfl
 least := rfl
 hdr := rfl
 first := fun c sn => Wq (s1 := sn.add 9) (s2 := (sn.add 9).add 0) (Va (g := fun n => Zh.toArray.getD (5 + (1 + n)) 0) (by decide +kernel) (fun c hc => H5 hc) c) (by kernel_rfl)
 inop := rfl
 second := fun c sn => Wq (s1 := sn.add 9) (s2 := (sn.add 9).add 0) (Va (g := fun n => Zh.toArray.getD (17 + (1 + n)) 0) (by decide +kernel) (fun c hc => H5 hc) c) (by kernel_rfl)
 succ := rfl
 lt1 := by decide
 lt2 := by decide
theorem H4 {r : Except String (Bool × AQ)} {c : Nat} {s1 s2 s3 : AQ} (h : r = if (decide (0 <= c) && decide (c <= 31)) = true then .ok (true, s1) else if (c == 127) = true then .ok (true, s2) else .ok (false, s3)) : ∃ sn', r = .ok (Xq c, sn') := by
 rw [h, decide_eq_true (Rj c), Bool.true_and]
 unfold Xq
 induction decide (c <= 31) with
 | true => exact ⟨_, rfl⟩
 | false => induction c == 127 with
   | true => exact ⟨_, rfl⟩
   | false => exact ⟨_, rfl⟩
theorem NI : xK Gp.toArray 11 Xq where
 info := rfl
 flag := rfl
 least := rfl
 hdr := rfl
 first := fun c sn => H4 (s1 := sn.add 22) (s2 := (sn.add 22).add 16) (s3 := ((sn.add 22).add 16).add 0) (by kernel_rfl)
 inop := rfl
 second := fun c sn => H4 (s1 := sn.add 22) (s2 := (sn.add 22).add 16) (s3 := ((sn.add 22).add 16).add 0) (by kernel_rfl)
 succ := rfl
 lt1 := by decide
 lt2 := by decide
section
variable {w : Rk} {hT : PO} {A : RE} {ρ : List PD} {μ : q4} {s : Py} {n : Nat}
theorem X8 {p c : PD} {x : Str} {t : Tok} {v0 v1 v3 v4 : Pu} {k0 : Tok} {cs : List Nat} {k : Nat} {f : Nat -> Bool} {body : Nat} {r : Except Exn Bool} {μ' : q4} {Q : Bool -> Py -> Prop} {E : Pu -> Py -> Prop} (hx : x.length <= Pr) (O : xK cs.toArray body f)
 (hp : s.heap.get? p = some { cls := .type "re.Pattern", data := .fields #[v0, v1, .int 0 k0, v3, v4, .ref c, .int 0 k0] }) (hc : s.heap.get? c = some { cls := .type "tuple", data := .seq (xu cs) k })
 (S : SR w hT ρ μ s.heap) (hm : pret (x.cps.toList.any f) μ = some (r, μ')) (P : xX w hT (fun zz zz a b => a = b) ρ s r μ' Q E) :
 PP (MM w) A (call (.builtin "re.Pattern.search") [.ref p, .str x t]) (fun v s₁ => PP (MM w) A (bm v) Q E s₁) E s := by
 refine T1 kn ⟨_, hp, rfl⟩ Zb (XA _ _) (Jv (codes := xu cs) (n := k) (f := f) (body := body) (p := p) (c := c) hx (by rw [Zu]; exact O)) ⟨hp, hc, ?_⟩
 induction hb : x.cps.toList.any f with
 | false =>
   rw [hb] at hm
   simp only [R7, if_false]
   exact truthy_none (P.pret (tk := s.toks) hm S rfl)
 | true =>
   rw [hb] at hm
   simp only [if_true]
   intro tup o h1 h2 h3
   cases hm
   have hk : ∀ b ob, s.heap.get? b = some ob -> ((s.heap.push tup).push o).get? b = some ob := fun b ob e => qg _ _ _ _ (qg _ _ _ _ e)
   have hnf : o.isFreed = false := by
    obtain ⟨vs, hd⟩ := h3
    obtain ⟨c, d, dt, sl⟩ := o
    cases hd
    rfl
   exact Jd (s := { s with heap := (s.heap.push tup).push o }) (Rg _ hnf) h1 (P.ok _ _ s.toks ρ _ rfl (Le.of_keeps hk) (S.keeps hk) rfl)
theorem EX (G : GF w hT) (S : SR w hT ρ μ s.heap) : s.heap.get? 48 = some { cls := .type "re.Pattern", data := .fields #[.str ⟨#[91, 32, 92, 40, 92, 41, 60, 62, 64, 44, 59, 58, 92, 92, 34, 47, 92, 91, 92, 93, 92, 63, 61, 93]⟩ 304, .int 32 335, .int 0 0, .none, .none, .ref 47, .int 0 0] } /\ s.heap.get? 47 = some { cls := .type "tuple", data := .seq (xu JX) 0 } :=
 ⟨S.top _ _ (G.1 48 _ (by kernel_rfl)), S.top _ _ (G.1 47 _ (by kernel_rfl))⟩
theorem H0 (G : GF w hT) (S : SR w hT ρ μ s.heap) : s.heap.get? 53 = some { cls := .type "re.Pattern", data := .fields #[.str ⟨#[91, 92, 120, 48, 48, 45, 92, 120, 49, 70, 92, 120, 55, 70, 93]⟩ 338, .int 32 361, .int 0 0, .none, .none, .ref 52, .int 0 0] } /\ s.heap.get? 52 = some { cls := .type "tuple", data := .seq (xu Gp) 0 } :=
 ⟨S.top _ _ (G.1 53 _ (by kernel_rfl)), S.top _ _ (G.1 52 _ (by kernel_rfl))⟩
theorem ED (G : GF w hT) (S : SR w hT ρ μ s.heap) : s.heap.get? 58 = some { cls := .type "re.Pattern", data := .fields #[.str ⟨#[91, 92, 120, 48, 48, 45, 92, 120, 48, 56, 92, 120, 48, 65, 45, 92, 120, 49, 70, 92, 120, 55, 70, 93]⟩ 364, .int 32 395, .int 0 0, .none, .none, .ref 57, .int 0 0] } /\ s.heap.get? 57 = some { cls := .type "tuple", data := .seq (xu Zh) 0 } :=
 ⟨S.top _ _ (G.1 58 _ (by kernel_rfl)), S.top _ _ (G.1 57 _ (by kernel_rfl))⟩
theorem FG {p : PD} {f : Nat -> Bool} (G : GF w hT) (S : SR w hT ρ μ s.heap) (h : WX p = some f) : ∃ c v0 v1 v3 v4 k0 k cs body, xK (List.toArray cs) body f /\ s.heap.get? p = some { cls := .type "re.Pattern", data := .fields #[v0, v1, .int 0 k0, v3, v4, .ref c, .int 0 k0] } /\ s.heap.get? c = some { cls := .type "tuple", data := .seq (xu cs) k } := by
 unfold WX at h
 by_cases e : p = 48
 ·rw [if_pos e] at h
  rw [e, <- qk h]
  exact ⟨_, _, _, _, _, _, _, _, _, Nr, (EX G S).1, (EX G S).2⟩
 ·rw [if_neg e] at h
  by_cases e : p = 53
  ·rw [if_pos e] at h
   rw [e, <- qk h]
   exact ⟨_, _, _, _, _, _, _, _, _, NI, (H0 G S).1, (H0 G S).2⟩
  ·rw [if_neg e] at h
   obtain ⟨e, h⟩ := ifT h
   rw [e, <- qk h]
   exact ⟨_, _, _, _, _, _, _, _, _, Mw, (ED G S).1, (ED G S).2⟩
theorem Qu {p : PV} {v : Pu} (G : GF w hT) (S : SR w hT ρ μ s.heap) (rv : Rv hT ρ s.heap v p) (h : F9 p = true) : Q9 s v "search" "re.Pattern.search" := by
 obtain ⟨f, h⟩ := Se.mp h
 obtain ⟨a, ha, h⟩ := bnd h
 obtain ⟨c, v0, v1, v3, v4, k0, k, cs, body, _, ho, _⟩ := FG G S h
 rw [rv.rI ha]
 exact ⟨"re.Pattern", wU, kn, XK, ⟨_, ho, rfl⟩, fun b e => by injection e with e; subst e; exact ⟨_, ho, rfl⟩⟩
theorem YR {p q : PV} {u v : Pu} (G : GF w hT) (S : SR w hT ρ μ s.heap) (ru : Rv hT ρ s.heap u p) (rv : Rv hT ρ s.heap v q) :
 ∀ r μ', vo p q μ = some (r, μ') -> ∀ (Q : Bool -> Py -> Prop) (E : Pu -> Py -> Prop), xX w hT (fun zz zz a b => a = b) ρ s r μ' Q E ->
  PP (MM w) A (call (.builtin "re.Pattern.search") [u, v]) (fun v s₁ => PP (MM w) A (bm v) Q E s₁) E s := by
 intro r μ' hm Q E P
 obtain ⟨f, h, hm⟩ := bnd hm
 obtain ⟨x, hx, hm⟩ := bnd hm
 obtain ⟨a, ha, h⟩ := bnd h
 obtain ⟨c, v0, v1, v3, v4, k0, k, cs, body, O, ho, hc⟩ := FG G S h
 obtain ⟨t, rfl, hl⟩ := rv.sI hx
 rw [ru.rI ha]
 exact X8 hl O ho hc S hm P
end
end
noncomputable def LR (h : PO) (a : PD) : PO := h.update a fun o => { o with data := .freed }
theorem B8 (h : PO) (a b : PD) : (LR h a).get? b = if b = a then none else h.get? b := by
 by_cases e : b = a
 ·subst e
  rw [if_pos rfl]
  unfold LR
  cases h
  simp only [PO.update, PO.get?, Array.getElem?_modify, if_true]
  cases (‹Array Obj›)[b]? <;> rfl
 ·rw [if_neg e]
  exact Aj h _ (SN e)
noncomputable def x7 (h : PO) : List PD -> PO
 | [] => h
 | a :: l => LR (x7 h l) a
theorem w2 (h : PO) (b : PD) : ∀ l : List PD, (x7 h l).get? b = if b ∈ l then none else h.get? b
 | [] => by simp [x7]
 | a :: l => by
   unfold x7
   rw [B8, w2 h b l]
   by_cases e : b = a
   ·simp [e]
   ·by_cases q : b ∈ l <;> simp [e, q]
theorem wz (h : PO) (l : List PD) : (x7 h l).StaysIn h := fun b o e => by
 rw [w2] at e
 split at e
 ·cases e
 ·exact e
theorem yQ {h hT base : PO} : ∀ {l : List Env}, h.FunFrames hT l -> (∀ b ∈ l.filterMap (·.frame), base.get? b = none) -> h.FunFrames base l
 | [], _, _ => trivial
 | env :: l, ⟨hk, ⟨L, o, hf, _, ho, hd⟩, hr⟩, hb =>
   ⟨hk, ⟨L, o, hf, hb L (by simp [hf]), ho, hd⟩, yQ hr fun b q => hb b (by
     rw [UF] at q ⊢
     obtain ⟨e, he, hh⟩ := q
     exact ⟨e, .tail _ he, hh⟩)⟩
section
variable {w : Rk} {hT : PO} {A : RE} {ρ ρ₀ : List PD} {μ : q4} {s : Py} {n : Nat}
def Wr (hT : PO) (ρ : List PD) (h₀ h h' : PO) : Prop := ∀ b o, h.get? b = some o -> ((∀ vs, o.data ≠ .fields vs) \/ h₀.get? b ≠ none) -> h'.get? b = some o \/ ((hT.get? b = none /\ ∃ es ep, o.data = .dict es ep) /\ b ∉ ρ /\ ∃ sl, h'.get? b = some { o with slots := sl })
def kY (L : PD) (h₀ h : PO) (e : PD) (x : Exn) : Prop :=
 ∃ oe vs a0, ExB h₀ h e x oe vs a0 /\ (vs[1]? = some .none \/ ∃ T oT ts fl, NtA h₀ h e vs fl T oT ts /\ (fl = .none \/ fl = AS L))
def vj (fl : Pu) (h₀ h : PO) (e : PD) (x : Exn) : Prop :=
 ∃ oe vs a0, ExB h₀ h e x oe vs a0 /\ ∃ T oT ts, NtA h₀ h e vs fl T oT ts
theorem wu.toS {L : PD} {h₀ h : PO} {e : PD} {x : Exn} (X : wu h₀ h e x) : kY L h₀ h e x := by
 obtain ⟨oe, vs, a0, b, h7⟩ := X
 refine ⟨oe, vs, a0, b, ?_⟩
 by_cases hh : x.here = true
 ·rw [if_pos hh] at h7; exact .inl h7
 ·rw [if_neg hh] at h7
  exact .inr (h7.imp fun T h => h.imp fun o h => h.imp fun ts h => ⟨_, h, .inl rfl⟩)
theorem vj.toS {L : PD} {h₀ h : PO} {e : PD} {x : Exn} (X : vj (AS L) h₀ h e x) : kY L h₀ h e x :=
 X.imp fun oe h => h.imp fun vs h => h.imp fun a0 h => ⟨h.1, .inr (h.2.imp fun T h => h.imp fun o h => h.imp fun ts h => ⟨_, h, .inr rfl⟩)⟩
theorem vj.toR {h₀ h : PO} {e : PD} {x : Exn} (X : vj .none h₀ h e x) : wu h₀ h e { x with here := false } :=
 X.imp fun oe h => h.imp fun vs h => h.imp fun a0 h => ⟨⟨h.1.g, h.1.c, h.1.d, h.1.a, h.1.m, h.1.f⟩, (if_neg (show ¬ (false = true) from Te)).mpr h.2⟩
theorem Wr.tup {h₀ h h' : PO} (W : Wr hT ρ h₀ h h') {t : PD} {vs : List Pu} (e2 : h.TupAt t vs) : h'.TupAt t vs := by
 obtain ⟨o, n, e2, hc2, hd2⟩ := e2
 rcases W t o e2 (.inl fun vs q => by rw [hd2] at q; cases q) with q | ⟨_, _, sl, q⟩
 ·exact ⟨o, n, q, hc2, hd2⟩
 ·exact ⟨_, n, q, hc2, hd2⟩
theorem Wr.refl (h₀ h : PO) : Wr hT ρ h₀ h h := fun zz zz e zz => .inl e
theorem Wr.trans {h₀ h h' h'' : PO} (W : Wr hT ρ h₀ h h') (W' : Wr hT ρ h₀ h' h'') : Wr hT ρ h₀ h h'' := fun b o hb hc => by
 rcases W b o hb hc with q | ⟨q1, q2, sl, q3⟩
 ·exact W' b o q hc
 ·rcases W' b _ q3 hc with z | ⟨_, _, sl', z⟩
  ·exact .inr ⟨q1, q2, sl, z⟩
  ·exact .inr ⟨q1, q2, sl', z⟩
structure Frm (hT : PO) (ρ : List PD) (h : PO) (b : PD) (o : Obj) : Prop where
 t : hT.get? b = none
 r : b ∉ ρ
 g : h.get? b = some o
 n : ∀ vs, o.data ≠ .fields vs
 d : ∃ es ep, o.data = .dict es ep
theorem HX {l : List Env} {h : PO} (K : Stk hT A ρ h l) {b : PD} (hb : b ∈ l.filterMap (·.frame)) : ∃ o, Frm hT ρ h b o := by
 obtain ⟨env', he', hb'⟩ := UF.mp hb
 obtain ⟨z, o, ho, hdd⟩ := K.out env' he' b hb'
 obtain ⟨q, o', ho', hd'⟩ := K.ff.mem hb
 have e := qk (ho.symm.trans ho')
 exact ⟨o, q, z, ho, e ▸ hd', hdd⟩
def Dq (h₀ h : PO) (e : PD) (T0 : List PD) : Prop := ∀ T ∈ T0, h₀.get? T = none /\ T ≠ e /\ ∃ o ts, h.get? T = some o /\ o.data = .fields ts
theorem DD {h₀ h h' base : PO} {fs T0 : List PD} {l : List Env} {e : PD} {x : Exn} {oe : Obj} {vs : Array Pu} {a0 fl : Pu} (X : ExB h₀ h e x oe vs a0) (hF : ∀ b ∈ fs, ∃ o, Frm hT ρ h b o) (hT0 : Dq h₀ h e T0) (hget : ∀ b, base.get? b = if b ∈ fs ++ e :: T0 then none else h.get? b) (N : bI base l e oe.cls a0 fl h h') : Wr hT ρ h₀ h h' := fun b o hb hc => by
 by_cases hm : b ∈ fs
 ·obtain ⟨o', F⟩ := hF b hm
  have e := qk (F.g.symm.trans hb)
  exact .inr ⟨⟨F.t, e ▸ F.d⟩, F.r, N.2.2.2 b o hb (e ▸ F.n)⟩
 ·have hne : b ≠ e := fun z => by
   have q := qk ((X.g.symm.trans (z ▸ hb)))
   exact hc.elim (fun y => y vs (q ▸ X.d)) fun y => y (z ▸ X.f)
  have hnT : b ∉ T0 := fun q => by
   obtain ⟨q1, _, oT, ts, q2, q3⟩ := hT0 b q
   have z := qk (q2.symm.trans hb)
   exact hc.elim (fun y => y ts (z ▸ q3)) fun y => y q1
  refine .inl (N.1 b o ((hget b).trans ((if_neg fun q => ?_).trans hb)))
  exact (PT.mp q).elim hm fun q => (Rq.mp q).elim hne hnT
theorem LJ {h₀ h h' base : PO} {fs T0 : List PD} {l : List Env} {e : PD} {x : Exn} {oe : Obj} {vs : Array Pu} {a0 fl : Pu} (X : ExB h₀ h e x oe vs a0) (hF : ∀ b ∈ fs, ∃ o, Frm hT ρ h b o) (hT0 : Dq h₀ h e T0) (hget : ∀ b, base.get? b = if b ∈ fs ++ e :: T0 then none else h.get? b)
 (Y : ∀ b, h₀.get? b ≠ none -> h.get? b ≠ none) (W : Wr hT ρ h₀ h h') (N : bI base l e oe.cls a0 fl h h') : vj fl h₀ h' e x := by
 obtain ⟨k1, k2, ⟨oe', vs', T, oT, ts, he, ⟨hc, h0⟩, hd, q1, hnT, hTe, hT', hdT, q3⟩, k4⟩ := N
 refine ⟨oe', vs', a0, ⟨he, hc.trans X.c, hd, h0, fun m hm => ?_, X.f⟩, T, oT, ts, q1, hTe, hT', hdT, q3, ?_⟩
 ·obtain ⟨t, tk, e1, e2⟩ := X.m m hm
  exact ⟨t, tk, e1, W.tup e2⟩
 ·refine Classical.byContradiction fun hz => ?_
  rw [hget] at hnT
  by_cases hm : T ∈ fs ++ e :: T0
  ·rcases PT.mp hm with hm | hm
   ·obtain ⟨o', F⟩ := hF T hm
    obtain ⟨sl, z⟩ := k4 T o' F.g F.n
    rw [hT'] at z; cases z
    exact F.n ts hdT
   ·exact (Rq.mp hm).elim hTe fun hm => hz (hT0 T hm).1
  ·rw [if_neg hm] at hnT
   exact Y T hz hnT
theorem Y1 {M : U8} {env : Env} {outer : List Env} {L e : PD} {x : Exn} {h₀ : PO} {Q : Unit -> Py -> Prop} {E : Pu -> Py -> Prop} (K : Stk hT A ρ s.heap (env :: outer)) (hL : env.frame = some L)
 (X : kY L h₀ s.heap e x) (Y : ∀ b, h₀.get? b ≠ none -> s.heap.get? b ≠ none)
 (h : ∀ h', Wr hT ρ h₀ s.heap h' -> vj (AS L) h₀ h' e x -> Q () { s with heap := h' }) : PP M A (noteFrame (.ref e) env) Q E s := by
 refine X.elim fun oe X => X.elim fun vs X => X.elim fun a0 X => ?_
 obtain ⟨X, h7⟩ := X
 have hF : ∀ b ∈ (env :: outer).filterMap (·.frame), ∃ o, Frm hT ρ s.heap b o := fun b hb => HX K hb
 have hget := fun (T0 : List PD) b => w2 s.heap b ((env :: outer).filterMap (·.frame) ++ e :: T0)
 have hen : ∀ T0, (x7 s.heap ((env :: outer).filterMap (·.frame) ++ e :: T0)).get? e = none := fun T0 => (hget T0 e).trans (if_pos (Ra _ (.head _)))
 have hl : ∀ T0, s.heap.FunFrames (x7 s.heap ((env :: outer).filterMap (·.frame) ++ e :: T0)) (env :: outer) := fun T0 => yQ K.ff fun b hb => (hget T0 b).trans (if_pos (Ro _ hb))
 have fin : ∀ T0, Dq h₀ s.heap e T0 -> ∀ h', bI (x7 s.heap ((env :: outer).filterMap (·.frame) ++ e :: T0)) (env :: outer) e oe.cls a0 (AS L) s.heap h' -> Q () { s with heap := h' } := fun T0 hT0 h' N =>
  have W := DD X hF hT0 (hget T0) N
  h h' W (LJ X hF hT0 (hget T0) Y W N)
 rcases h7 with hh | ⟨T, oT, ts, fl, t, t7⟩
 ·unfold noteFrame
  rw [hL]
  refine wpAny_bind (Un X.g X.d hh ?_)
  rw [if_neg (by decide)]
  exact wpAny_entryW K.fr (hl []) hL X.g (wz _ _) (hen []) X.d (Tt.mp hh).1 X.a (fin [] fun T q => nomatch q)
 ·have hT0 : Dq h₀ s.heap e [T] := fun T' q => by rw [Pw.mp q]; exact ⟨t.f, t.n, oT, ts, t.g, t.d⟩
  have hbT : (x7 s.heap ((env :: outer).filterMap (·.frame) ++ e :: [T])).get? T = none := (hget [T] T).trans (if_pos (Ra _ (.tail _ (.head _))))
  rcases t7 with e1 | e1
  ·exact wpAny_noteFrame_onW K.fr (hl [T]) hL ⟨oe, vs, T, oT, ts, X.g, ⟨rfl, X.a⟩, X.d, t.r, hbT, t.n, t.g, t.d, e1 ▸ t.q⟩ (wz _ _) (hen [T]) (fin [T] hT0)
  ·have tq : ts[3]? = some (AS L) := e1 ▸ t.q
   refine wpAny_noteFrame_againW hL ⟨oe, vs, T, oT, ts, X.g, ⟨X.c, X.a⟩, X.d, t.r, hbT, t.n, t.g, t.d, tq⟩ ?_
   exact h s.heap (Wr.refl _ _) ⟨oe, vs, a0, X, T, oT, ts, t.r, t.n, t.g, t.d, tq, t.f⟩
theorem yZ {M : U8} {e : PD} {x : Exn} {fl : Pu} {f : Option PD} {h₀ : PO} {Q : Unit -> Py -> Prop} {E : Pu -> Py -> Prop} (X : vj fl h₀ s.heap e x)
 (h : ∀ h', Wr hT ρ h₀ s.heap h' -> vj (f.elim .none fun f => AS f) h₀ h' e x -> Q () { s with heap := h' }) : PP M A (setFlight (.ref e) f) Q E s := by
 refine X.elim fun oe X => X.elim fun vs X => X.elim fun a0 X => X.2.elim fun T t => t.elim fun oT t => t.elim fun ts t => ?_
 have X := X.1
 unfold setFlight
 refine wpAny_bind (Un X.g X.d t.r ?_)
 rw [if_pos (show (ai T != U0) = true from by simp)]
 have hsz : 3 < ts.size := (Tt.mp t.q).1
 refine wpAny_setField t.g t.d hsz ?_
 have other : ∀ b, b ≠ T -> (s.heap.update T (Obj.mapFields (·.setIfInBounds 3 (f.elim U0 fun f => AS f)))).get? b = s.heap.get? b := fun b hb => Aj _ _ (SN hb)
 have W : Wr hT ρ h₀ s.heap (s.heap.update T (Obj.mapFields (·.setIfInBounds 3 (f.elim U0 fun f => AS f)))) := fun b o hb hc => by
  refine .inl ((other b fun z => ?_).trans hb)
  have q := qk (t.g.symm.trans (z ▸ hb))
  exact hc.elim (fun y => y ts (q ▸ t.d)) fun y => y (z ▸ t.f)
 refine h _ W ⟨oe, vs, a0, ⟨(other e (SN t.n)).trans X.g, X.c, X.d, X.a, fun m hm => ?_, X.f⟩, T, _, _, t.r, t.n, SO _ t.g (Obj.isFreed_of_fields (aQ t.d _)), aQ t.d _, by simp [hsz], t.f⟩
 obtain ⟨t, tk, e1, e2⟩ := X.m m hm
 exact ⟨t, tk, e1, W.tup e2⟩
theorem Stk.written {l : List Env} {h₀ h h' : PO} (K : Stk hT A ρ h l) (W : Wr hT ρ h₀ h h') : Stk hT A ρ h' l := by
 refine ⟨K.fr, ?_, fun env he L hf => ?_⟩
 ·refine K.ff.of_keeps fun b o hb hnf => ?_
  rcases W b o hb (.inl hnf) with q | ⟨_, _, sl, q⟩
  ·exact ⟨o, q, rfl⟩
  ·exact ⟨_, q, rfl⟩
 ·obtain ⟨h1, o, ho, hdd⟩ := K.out env he L hf
  have hb : L ∈ l.filterMap (·.frame) := UF.mpr ⟨env, he, hf⟩
  obtain ⟨_, o', ho', hd⟩ := K.ff.mem hb
  rw [ho] at ho'; cases ho'
  rcases W L o ho (.inl hd) with q | ⟨_, _, sl, q⟩
  ·exact ⟨h1, _, q, hdd⟩
  ·exact ⟨h1, _, q, hdd⟩
theorem C9 {M : U8} {env : Env} {outer : List Env} {L e : PD} {x : Exn} {h₀ : PO} {Q : Unit -> Py -> Prop} {E : Pu -> Py -> Prop} (K : Stk hT A ρ s.heap (env :: outer)) (hL : env.frame = some L)
 (X : kY L h₀ s.heap e x) (Y : ∀ b, h₀.get? b ≠ none -> s.heap.get? b ≠ none)
 (h : ∀ h', Wr hT ρ h₀ s.heap h' -> wu h₀ h' e { x with here := false } -> Q () { s with heap := h' }) : PP M A (leaving env (.ref e)) Q E s := by
 unfold leaving
 refine wpAny_bind (Y1 K hL X Y fun h' W X' => ?_)
 exact yZ (s := { s with heap := h' }) (f := none) X' fun h'' W' X'' => h h'' (W.trans W') X''.toR
theorem Le.written {own : List PD} {h₀ h h' : PO} (Y : Le own ρ₀ h₀ ρ h) (ho : ∀ b ∈ own, h₀.get? b = none) (W : Wr hT ρ h₀ h h') : Le [] ρ₀ h₀ ρ h' := by
 have nown : ∀ b o, h₀.get? b = some o -> b ∉ own := fun b o e q => by rw [ho b q] at e; cases e
 refine ⟨Y.ext, fun b o hb hn zz => ?_, fun b o hb => ?_, fun b o hb hn zz hd => ?_⟩
 ·obtain ⟨sl, hs⟩ := Y.kp b o hb hn (nown b o hb)
  rcases W b _ hs (.inr (by rw [hb]; simp)) with z | ⟨_, z, sl', z'⟩
  ·exact ⟨sl, z⟩
  ·exact ⟨sl', z'⟩
 ·obtain ⟨o', hs⟩ := Y.st b o hb
  rcases W b _ hs (.inr (by rw [hb]; simp)) with z | ⟨_, _, sl', z'⟩
  ·exact ⟨_, z⟩
  ·exact ⟨_, z'⟩
 ·rcases W b o (Y.ex b o hb hn (nown b o hb) hd) (.inr (by rw [hb]; simp)) with z | ⟨⟨_, es, ep, q⟩, _⟩
  ·exact z
  ·exact absurd q (hd es ep)
theorem SR.written {h₀ h h' : PO} (T : ∀ b o, hT.get? b = some o -> h₀.get? b = some o) (S : SR w hT ρ μ h) (W : Wr hT ρ h₀ h h') : SR w hT ρ μ h' := by
 have hx : ∃ more, ρ = ρ ++ more := ⟨[], by simp⟩
 have kv : Kv h h' := fun b o hb hc => by
  obtain ⟨hc1, vs, n, hd⟩ := hc
  rcases W b o hb (.inl fun ws q => by rw [hd] at q; exact nomatch q) with z | ⟨_, _, z⟩
  ·exact ⟨o.slots, z⟩
  ·exact z
 have cell : ∀ a ∈ ρ, ∀ o, h.get? a = some o -> h'.get? a = some o := fun a ha o ho => by
  obtain ⟨o', ho', _, h2, h3⟩ := S.data ha
  rw [ho] at ho'; cases ho'
  rcases W a o ho (.inl h2) with z | ⟨_, z, _⟩
  ·exact z
  ·exact absurd ha z
 refine ⟨fun b o e => ?_, S.nodup, S.len, S.notop, S.low, fun m b d h1 h2 => ?_⟩
 ·rcases W b o (S.top b o e) (.inr (by rw [T b o e]; simp)) with z | ⟨⟨z, _⟩, _⟩
  ·exact z
  ·rw [e] at z; cases z
 ·have hb : b ∈ ρ := Rr h1
  have x := S.cells m b d h1 h2
  induction d with
  | list l =>
    obtain ⟨hl, vs, ⟨k, hp⟩, hv⟩ := x
    exact ⟨hl, vs, ⟨k, cell b hb _ hp⟩, hv.mono hx kv⟩
  | dict l =>
    obtain ⟨kvs, ⟨o, es, ep, ho, r⟩, hv⟩ := x
    exact ⟨kvs, ⟨o, es, ep, cell b hb _ ho, r⟩, hv.mono hx kv⟩
  | inst d =>
    obtain ⟨y, hy, ho⟩ := x
    exact ⟨y, hy, cell b hb _ ho⟩
  | kw l =>
    obtain ⟨kvs, ⟨o, es, ho, r⟩, hv⟩ := x
    exact ⟨kvs, ⟨o, es, cell b hb _ ho, r⟩, hv.mono hx kv⟩
end
inductive RF (hT : PO) (ρ : List PD) (h : PO) : A9 -> j9 -> Prop where
 | next : RF hT ρ h .next .next
 | cont : RF hT ρ h .cont .cont
 | brk : RF hT ρ h .brk .brk
 | ret {v : Pu} {p : PV} : Rv hT ρ h v p -> RF hT ρ h (.ret v) (.ret p)
structure qL (w : Rk) (hT : PO) (A : RE) (outer : List Env) (env : Env) (σ : LE) (ρ : List PD) (μ : q4) (h : PO) (n : Nat) : Prop extends Act w hT A (env :: outer) env σ ρ μ h n where
 fr : env.frame = some env.locals
 ap : ∀ e ∈ outer, ∀ L, e.frame = some L -> L ∉ qy env
 nt : ∀ b ∈ qy env, hT.get? b = none
structure jT (w : Rk) (hT : PO) (env : Env) (ρ : List PD) (s : Py) (r : Except Exn j9) (σ' : LE) (μ' : q4) (Q : A9 -> Py -> Prop) (E : Pu -> Py -> Prop) : Prop where
 ok : ∀ f h' tk ρ' b, r = .ok b -> Le (qy env) ρ s.heap ρ' h' -> SR w hT ρ' μ' h' -> qN hT ρ' h' env σ' -> RF hT ρ' h' f b -> 1 <= tk -> Q f { s with heap := h', toks := tk }
 err : ∀ e h' tk ρ' x, r = .error x -> Le (qy env) ρ s.heap ρ' h' -> SR w hT ρ' μ' h' -> qN hT ρ' h' env σ' -> kY env.locals s.heap h' e x -> 1 <= tk -> E (.ref e) { s with heap := h', toks := tk }
def j4 (w : Rk) (hT : PO) (A : RE) (env : Env) (ρ : List PD) (s : Py) (t : Sem A9) (m : SR') : Prop :=
 1 <= s.toks -> ∀ r σ' μ', m = some (r, σ', μ') -> ∀ (Q : A9 -> Py -> Prop) (E : Pu -> Py -> Prop), jT w hT env ρ s r σ' μ' Q E -> PP (MM w) A t Q E s
section
variable {w : Rk} {hT : PO} {A : RE} {ρ ρ' : List PD} {μ μ' : q4} {s : Py} {n : Nat} {env : Env} {outer : List Env} {σ σ' : LE} {h h' : PO}
theorem kY.le {own : List PD} {L : PD} {h₀ h h' : PO} {e : PD} {x : Exn} (y : Le own ρ h₀ ρ' h) (q : kY L h h' e x) : kY L h₀ h' e x :=
 q.imp fun oe q => q.imp fun vs q => q.imp fun a0 q => ⟨q.1.le y, q.2.imp_right fun z => z.imp fun T z => z.imp fun oT z => z.imp fun ts z => z.imp fun fl z => ⟨z.1.le y, z.2⟩⟩
theorem jT.le {r : Except Exn j9} {Q : A9 -> Py -> Prop} {E : Pu -> Py -> Prop} {tk : Nat} (P : jT w hT env ρ s r σ' μ' Q E) (x : Le (qy env) ρ s.heap ρ' h') :
 jT w hT env ρ' { s with heap := h', toks := tk } r σ' μ' Q E :=
 ⟨fun a h₂ tk₂ ρ₂ b e y z q => P.ok a h₂ tk₂ ρ₂ b e (x.trans y) z q, fun e h₂ tk₂ ρ₂ b e' y z q u => P.err e h₂ tk₂ ρ₂ b e' (x.trans y) z q (u.le x)⟩
theorem Stk.leOwn {own : List PD} (K : Stk hT A ρ h (env :: outer)) (x : Le own ρ h ρ' h') (E : qN hT ρ' h' env σ') (hf : env.frame = some env.locals) (hap : ∀ e ∈ outer, ∀ L, e.frame = some L -> L ∉ own) : Stk hT A ρ' h' (env :: outer) := by
 obtain ⟨hk, ⟨L, o, hL, hn, ho, hd⟩, hr⟩ := K.ff
 obtain ⟨m, ⟨o', es, ep, ho', hd', _⟩, _⟩ := E.ns
 rw [hf] at hL
 cases hL
 refine ⟨K.fr, ⟨hk, ⟨env.locals, o', hf, hn, ho', fun vs q => by rw [hd'] at q; cases q⟩, yk x.kp hr fun e he L hL => ⟨(K.out e (.tail _ he) L hL).1, hap e he L hL⟩⟩, fun e he L hL => ?_⟩
 rcases Rq.mp he with rfl | he
 ·rw [hf] at hL; cases hL
  exact ⟨E.loc, o', ho', es, ep, hd'⟩
 ·obtain ⟨h1, ob, hob, hdd⟩ := K.out e (.tail _ he) L hL
  obtain ⟨sl, hs⟩ := x.kp L ob hob h1 (hap e he L hL)
  exact ⟨x.out hob h1, _, hs, hdd⟩
theorem qL.leOwn (X : qL w hT A outer env σ ρ μ h n) (x : Le (qy env) ρ h ρ' h') (S : SR w hT ρ' μ' h') (E : qN hT ρ' h' env σ') : qL w hT A outer env σ' ρ' μ' h' n :=
 ⟨⟨S, E, X.sk.leOwn x E X.fr X.ap, X.rm⟩, X.fr, X.ap, X.nt⟩
theorem qL.le (X : qL w hT A outer env σ ρ μ h n) (x : Le [] ρ h ρ' h') (S : SR w hT ρ' μ' h') : qL w hT A outer env σ ρ' μ' h' n := X.leOwn x.any S (X.er.le X.sr x)
set_option tactic.hygienic true in
theorem jb : ∀ (names : List (Str × Sm)) (k : Nat) (acc : List (Str × PD)), (cellsFrom k names acc).map (·.1) = ((names.filter (·.2 == .cell)).map (·.1)).reverse ++ acc.map (·.1)
 | [], _, _ => by simp [cellsFrom]
 | (x, kd) :: r, k, acc => by
   unfold cellsFrom
   split
   ·rename_i hk
    rw [jb r]
    simp only [RO, filter_cons, hk, if_true, bb, PF, Tp]
   ·rename_i hk
    rw [jb r]
    simp only [filter_cons, hk, if_false, R7]
theorem jS {α : Type} : ∀ {l : List (Str × α)} {x : Str} {c : α}, (l.map (·.1)).Nodup -> (x, c) ∈ l -> l.lookup x = some c
 | (k, v) :: r, x, c, hn, hm => by
   simp only [RO, Us] at hn
   rw [Ry]
   rcases Rq.mp hm with e | e
   ·cases e; simp
   ·have : (x == k) = false := by
     rw [beq_eq_false_iff_ne]; rintro rfl
     exact hn.1 (Ri.mpr ⟨_, e, rfl⟩)
    rw [this]
    exact jS hn.2 e
theorem jn {α : Type} : ∀ {l : List (Str × α)} {x : Str}, x ∈ l.map (·.1) -> ∃ c, l.lookup x = some c
 | (k, v) :: r, x, hm => by
   rw [Ry]
   induction hb : (x == k) with
   | true => exact ⟨v, rfl⟩
   | false =>
     rw [RO] at hm
     rcases Rq.mp hm with e | e
     ·rw [e] at hb; simp at hb
     ·exact jn e
theorem QV {kf : Str -> Option Sm} {x : Str} : ∀ {binds : List (Str × Pu)} {m : Str -> Option Pu}, x ∉ binds.map (·.1) -> bindL kf binds m x = m x
 | [], _, _ => rfl
 | (y, v) :: r, m, hn => by
   simp only [RO, mem_cons, not_or] at hn
   unfold bindL
   rw [QV hn.2]
   split
   ·simp [hn.1]
   ·rfl
theorem J0 {kf : Str -> Option Sm} {x : Str} : ∀ {binds : List (Str × Pu)} {m : Str -> Option Pu}, x ∉ binds.map (·.1) -> bindC kf binds m x = m x
 | [], _, _ => rfl
 | (y, v) :: r, m, hn => by
   simp only [RO, mem_cons, not_or] at hn
   unfold bindC
   rw [J0 hn.2]
   split
   ·rfl
   ·simp [hn.1]
theorem RvD.keys : ∀ {kvs : List (Str × Pu)} {l : Loc}, RvD hT ρ h kvs l -> kvs.map (·.1) = l.map (·.1)
 | _, _, .nil => rfl
 | _, _, .cons _ r => by simp [RvD.keys r]
theorem Xt {kf : Str -> Option Sm} {x : Str} {p : PV} (hk : kf x = some .local) : ∀ {binds : List (Str × Pu)} {l : Loc} {m : Str -> Option Pu}, RvD hT ρ h binds l -> (l.map (·.1)).Nodup -> l.lookup x = some p -> ∃ v, bindL kf binds m x = some v /\ Rv hT ρ h v p
 | _, _, _, .nil, _, e => by cases e
 | _, _, m, .cons (k := k) (v := v) a r, hn, e => by
   simp only [RO, Us] at hn
   rw [Ry] at e
   unfold bindL
   induction hb : (x == k) with
   | true =>
     rw [hb] at e
     cases e
     have := eq_of_beq hb
     subst this
     refine ⟨v, ?_, a⟩
     rw [QV (by rw [r.keys]; exact hn.1), if_pos hk]
     simp
   | false =>
     rw [hb] at e
     exact Xt hk r hn.2 e
theorem Zt {kf : Str -> Option Sm} {x : Str} {p : PV} (hk : kf x = some .cell) : ∀ {binds : List (Str × Pu)} {l : Loc} {m : Str -> Option Pu}, RvD hT ρ h binds l -> (l.map (·.1)).Nodup -> l.lookup x = some p -> ∃ v, bindC kf binds m x = some v /\ Rv hT ρ h v p
 | _, _, _, .nil, _, e => by cases e
 | _, _, m, .cons (k := k) (v := v) a r, hn, e => by
   simp only [RO, Us] at hn
   rw [Ry] at e
   unfold bindC
   induction hb : (x == k) with
   | true =>
     rw [hb] at e
     cases e
     have := eq_of_beq hb
     subst this
     refine ⟨v, ?_, a⟩
     rw [J0 (by rw [r.keys]; exact hn.1), if_neg (by rw [hk]; decide)]
     simp
   | false =>
     rw [hb] at e
     exact Zt hk r hn.2 e
end
noncomputable def yX (w : Rk) (a : PD) : Option UG := match (KK w).lookup a with
 | some ⟨_, _, .func fd, _⟩ => some fd
 | _ => none
noncomputable def G5 (K : Frag) (fd : UG) : Bool := fd.globals == mainGlobals && fd.closure.isEmpty && fd.builtins == builtinsNs && !fd.scope.isGenerator && !fd.scope.isCoroutine && fd.scope.kind == .function && codeIn K fd.code fd.qualname &&
 decide ((fd.scope.names.map (·.1)).Nodup)
noncomputable def j7 (w : Rk) (a : PD) : UG := (yX w a).getD default
theorem Wt {w : Rk} {a : PD} (h : (yX w a).isSome = true) : yX w a = some (j7 w a) := by
 obtain ⟨fd, e⟩ := Se.mp h
 unfold j7
 rw [e]; rfl
def vA (w : Rk) (hT : PO) (A : RE) (ρ : List PD) (s : Py) (a : PD) (vs : List Pu) (kws : List (Str × Pu)) (m : PR PV) : Prop :=
 1 <= s.toks -> ∀ r μ', m = some (r, μ') -> ∀ (Q : Pu -> Py -> Prop) (E : Pu -> Py -> Prop), xI w hT (Rv hT) ρ s r μ' Q E ->
  TB (MM w) A (.call (.ref a) ⟨vs, kws⟩) (fun r s' => match r with | .ok (.ret v) => Q v s' | .ok _ => False | .error e => E e s') s
theorem vA.sim {w : Rk} {hT : PO} {A : RE} {ρ : List PD} {s : Py} {a : PD} {vs : List Pu} {kws : List (Str × Pu)} {m : PR PV} (h : vA w hT A ρ s a vs kws m) : Sim w hT A (Rv hT) ρ s (call (.ref a) vs kws) m :=
 fun ht r μ' hm Q E P => Ak (h ht r μ' hm Q E P)
section
variable {w : Rk} {hT : PO} {A : RE} {ρ ρ' : List PD} {μ μ₁ μ' : q4} {s : Py} {n : Nat} {env : Env} {outer : List Env} {σ σ' : LE} {h h' : PO}
set_option tactic.hygienic true in
theorem KG {a : PD} {fd : UG} {body : List Sf} {args : Args} {m : SR'} (G : GF w hT) (hfd : yX w a = some fd) (hok : G5 (KK w) fd = true) (hbody : fd.body = .stmts body)
 (S : SR w hT ρ μ s.heap) (K : Stk hT A ρ s.heap outer) (R : jW A (n + 1)) (hsc : σ.sc = fd.scope.names) (hnd : (σ.vs.map (·.1)).Nodup) (hkd : ∀ x ∈ σ.vs.map (·.1), fd.scope.names.lookup x = some .local \/ fd.scope.names.lookup x = some .cell)
 (hbind : ∀ E', PP (MM w) A.in1 (RW fd args) (fun binds s₁ => ∃ h₁ tk₁ ρ₁, s₁ = { s with heap := h₁, toks := tk₁ } /\ s.toks <= tk₁ /\ Le [] ρ s.heap ρ₁ h₁ /\ SR w hT ρ₁ μ₁ h₁ /\ RvD hT ρ₁ h₁ binds σ.vs) E' s)
 (hex : ∀ env ρ₁ s₁, qL w hT (A.deeper env) outer env σ ρ₁ μ₁ s₁.heap n -> j4 w hT (A.deeper env) env ρ₁ s₁ (execs body env) m) :
 vA w hT A ρ s a args.pos args.kw (zX m) := by
 intro ht r μ' hm Q E P
 unfold G5 at hok
 simp only [Rl, beq_iff_eq, decide_eq_true_eq, S8] at hok
 obtain ⟨⟨⟨⟨⟨⟨⟨g1, g2⟩, g3⟩, g4⟩, g5⟩, g6⟩, g7⟩, g8⟩ := hok
 have hlook : ∃ c d sl, (KK w).lookup a = some ⟨c, d, .func fd, sl⟩ := by
  unfold yX at hfd
  split at hfd
  ·rename_i c d fd' sl e
   rw [<- qk hfd]
   exact ⟨c, d, sl, e⟩
  ·exact no hfd
 obtain ⟨oc, od, osl, hlook⟩ := hlook
 obtain ⟨X, mean, mg, mb, T⟩ := G
 have hin : ∀ {hh : PO}, (∀ b o, hT.get? b = some o -> hh.get? b = some o) -> (KK w).In hh := fun k => X.keeps k
 have hclo : fd.closure = [] := Rf.mp g2
 refine Az (fd := fd) (body := body) (by have := R.2.1; lia) (hin S.top a _ hlook) rfl g5 g4 hbody (codeRec_of (hin S.top) g7) ?_
 refine RG (hbind _) (fun binds s₁ hb => ?_) fun zz zz x => x
 obtain ⟨h₁, tk₁, ρ₁, rfl, htk, x1, S1, hrd⟩ := hb
 have hkeys := hrd.keys
 rw [hclo]
 have hcn : ∀ k, ((cellsFrom k fd.scope.names []).map (·.1)).Nodup := fun k => by
  rw [jb]
  simp only [Al, PQ]
  exact AA.mpr (((bp _ (au)).nodup g8).imp fun h => SN h)
 have hcl : ∀ k x, fd.scope.names.lookup x = some .cell -> ∃ c, (cellsFrom k fd.scope.names []).lookup x = some c := fun k x hx => by
  refine jn ?_
  rw [jb]
  simp only [Al, PQ, TC]
  exact Ri.mpr ⟨_, RM.mpr ⟨mem_of_lookup hx, by simp⟩, rfl⟩
 refine jj (show 1 <= tk₁ by lia) (wpAny_newFunctionEnv_cells g6 (fun x hx => ?_) fun env he s₂ I htk2 => ?_)
 ·have hx' : x.1 ∈ σ.vs.map (·.1) := by rw [<- hkeys]; exact RS hx
  rcases hkd _ hx' with q | q
  ·exact .inl q
  ·obtain ⟨c, hc⟩ := hcl ((({ s with heap := h₁, toks := tk₁ } : Py)).heap.objs.size + 1) _ q
   exact .inr ⟨q, by rw [hc]; rfl⟩
 ·obtain ⟨⟨⟨h₂, tk₂, e2⟩, hns, hkeep, hfr⟩, hcell, hapart, habove⟩ := I
  subst e2
  have hks : ∀ b o, h₁.get? b = some o -> h₂.get? b = some o := hkeep
  have hsize : env.locals = h₁.objs.size := by rw [he]; rfl
  have hown : ∀ b ∈ qy env, h₁.objs.size <= b := by
   intro b hb
   rcases Rq.mp hb with rfl | hb
   ·exact hfr
   ·obtain ⟨q, hq, rfl⟩ := Ri.mp hb
    exact Pq hfr (Tf (habove q.1 q.2 hq))
  have hf1 : ∀ b ∈ qy env, h₁.get? b = none := fun b hb => by
   induction q : h₁.get? b with
   | none => rfl
   | some o => exact absurd (RJ q) (Sh.mpr (hown b hb))
  have hf0 : ∀ b ∈ qy env, s.heap.get? b = none := fun b hb => wY x1 (hf1 b hb)
  have hρ1 : ∀ b ∈ qy env, b ∉ ρ₁ := fun b hb q => by
   obtain ⟨o, ho, _⟩ := S1.data q
   rw [hf1 b hb] at ho; cases ho
  have x2 : Le [] ρ₁ h₁ ρ₁ h₂ := Le.of_keeps hks
  have S2 : SR w hT ρ₁ μ₁ h₂ := S1.keeps hks
  have hkf : ∀ x, env.kindOf x = fd.scope.names.lookup x := fun x => by rw [he]; rfl
  have hcs : env.cells = cellsFrom (h₁.objs.size + 1) fd.scope.names [] := by rw [he]; rfl
  have hnt : ∀ b ∈ qy env, hT.get? b = none := fun b hb => by
   induction q : hT.get? b with
   | none => rfl
   | some o => have := S1.top b o q; rw [hf1 b hb] at this; cases this
  have hfrm : env.frame = some env.locals := by rw [he]; rfl
  have ER : qN hT ρ₁ h₂ env σ := by
   have kv : Kv h₁ h₂ := Kv.of_keeps hks
   have hx0 : ∃ more, ρ₁ = ρ₁ ++ more := ⟨[], by simp⟩
   refine ⟨by rw [he]; exact g6, by rw [he, hsc]; rfl, by rw [he]; exact g1, by rw [he]; exact g3, hρ1 _ (.head _), ⟨_, hns, fun x p hx hk => ?_⟩, fun x p hx hk => ?_, fun q hq => ?_, fun q hq q' hq' e => ?_, fun x hx => ?_⟩
   ·obtain ⟨v, hv, hr⟩ := Xt (m := fun zz => none) (kf := env.kindOf) (by rw [hkf, <- hsc]; exact hk) hrd hnd hx
    exact ⟨v, hv, hr.mono hx0 kv⟩
   ·obtain ⟨v, hv, hr⟩ := Zt (m := fun zz => none) (kf := env.kindOf) (by rw [hkf, <- hsc]; exact hk) hrd hnd hx
    obtain ⟨c, hc⟩ := hcl (h₁.objs.size + 1) x (by rw [<- hsc]; exact hk)
    rw [<- hcs] at hc
    have := hcell x c hc
    rw [hv] at this
    exact ⟨c, v, hc, this, hr.mono hx0 kv⟩
   ·have hm : q.2 ∈ qy env := .tail _ (RS hq)
    refine ⟨hρ1 _ hm, RZ (habove q.1 q.2 hq), _, hcell q.1 q.2 (jS (by rw [hcs]; exact hcn _) hq)⟩
   ·exact name_of_addr hapart (show (q.1, q.2) ∈ env.cells from hq) (by rw [e]; exact hq')
   ·obtain ⟨c, hc⟩ := hcl (h₁.objs.size + 1) x (by rw [<- hsc]; exact hx)
    exact ⟨c, by rw [hcs]; exact hc⟩
  have K2 : Stk hT A ρ₁ h₂ outer := (K.le x1).le x2
  have K3 : Stk hT (A.deeper env) ρ₁ h₂ (env :: outer) := by
   obtain ⟨o, es, ep, ho, hd, _⟩ := hns
   refine ⟨by show A.frames.map (env :: ·) = _; rw [K.fr]; rfl, ⟨by rw [ER.kind]; decide, ⟨env.locals, o, hfrm, hnt _ (.head _), ho, fun vs q => by rw [hd] at q; exact nomatch q⟩, K2.ff⟩, fun e' he' L hL => ?_⟩
   rcases Rq.mp he' with rfl | he'
   ·rw [hfrm] at hL; cases hL
    exact ⟨hρ1 _ (.head _), o, ho, es, ep, hd⟩
   ·exact K2.out e' he' L hL
  have act : qL w hT (A.deeper env) outer env σ ρ₁ μ₁ h₂ n := by
   refine ⟨⟨S2, ER, K3, ⟨R.1, ?_, ?_⟩⟩, hfrm, fun e' he' L hL hm => ?_, hnt⟩
   ·have := R.2.1; show A.depth + 1 + n + 20 < _; lia
   ·have := R.2.2; show A.units + 3 + 20 * n + 200 < _; lia
   ·obtain ⟨_, o, ho, _⟩ := K.out e' he' L hL
    rw [hf0 L hm] at ho; cases ho
  refine ⟨(T.nolimit.keeps S1.top).keeps hks, codeAny_func ?_⟩
  have back : ∀ {ρ' : List PD} {h' : PO}, Le (qy env) ρ₁ h₂ ρ' h' -> Le (qy env) ρ s.heap ρ' h' := fun y => ((x1.trans x2).any).trans y
  have strip : ∀ {ρ' : List PD} {h' : PO}, Le (qy env) ρ s.heap ρ' h' -> Le [] ρ s.heap ρ' h' := fun y => y.weaken fun b o e q => by rw [hf0 b q] at e; cases e
  obtain ⟨⟨r1, σ', μ₂⟩, rfl, hm1⟩ := bnd hm
  clear hm
  induction r1 with
  | ok f =>
    refine hex env ρ₁ _ act htk2 _ _ _ rfl _ _ ⟨fun f h' tk ρ' b e y S' E' rf ht' => ?_, fun e h' tk ρ' x e' => (nomatch e')⟩
    cases e
    induction rf with
    | next => exact (P.of hm1).ok _ h' tk ρ' .none rfl (strip (back y)) S' .none ht'
    | ret rv => exact (P.of hm1).ok _ h' tk ρ' _ rfl (strip (back y)) S' rv ht'
    | _ => exact no hm1
  | error x =>
    have P := P.of hm1
    refine hex env ρ₁ _ act htk2 _ _ _ rfl _ _ ⟨fun f h' tk ρ' b e => (nomatch e), fun e h' tk ρ' x' e' y S' E' ex ht' => ?_⟩
    cases e'
    have K' : Stk hT (A.deeper env) ρ' h' (env :: outer) := act.sk.leOwn y E' hfrm act.ap
    have y0 := back y
    refine C9 (h₀ := s.heap) (s := { s with heap := h', toks := tk }) K' hfrm (ex.le (x1.trans x2)) (fun b hb => ?_) fun h'' W X' => ?_
    ·induction q : s.heap.get? b with
     | none => exact absurd q hb
     | some o => obtain ⟨o', ho'⟩ := y0.st b o q; show h'.get? b ≠ none; rw [ho']; simp
    ·exact P.err e h'' tk ρ' _ rfl (Le.written y0 hf0 W) (SR.written (fun b o q => S.top b o q) S' W) X' ht'
end
noncomputable def Ja : List (PD × Nat) := [(38, 1), (43, 1), (196, 1), (201, 2), (208, 1), (215, 2), (220, 3), (225, 3), (230, 1), (235, 2), (240, 1), (245, 1), (250, 1), (102, 3), (107, 2), (121, 2), (126, 2), (163, 1), (177, 3)]
noncomputable def v9 : List PD := Ja.map (·.1)
noncomputable def Q6 : List PD := v9 ++ [66, 81, 134, 88, 184]
noncomputable def gA (fd : UG) : Option Fn := match fd.body with
 | .stmts b => some { names := fd.params.args.map (·.arg), kwonly := fd.params.kwonlyargs.map (·.arg), kwarg := fd.params.kwarg.map (·.arg), sc := fd.scope.names, body := b }
 | _ => none
noncomputable def ftK (w : Rk) : FT := fun a => if Q6.contains a then (yX w a).bind gA else none
noncomputable def EG (fd : UG) (l : List Str) : Bool := decide l.Nodup && l.all fun x => xC (fd.scope.names.lookup x)
noncomputable def Y5 (w : Rk) (a : PD) (names kwonly : List Str) (kwarg : Option Str) : Bool := (yX w a).isSome && G5 (KK w) (j7 w a) && (j7 w a).params.args.map (·.arg) == names && (j7 w a).params.kwonlyargs.map (·.arg) == kwonly && (j7 w a).params.kwarg.map (·.arg) == kwarg && EG (j7 w a) (names ++ kwonly ++ kwarg.toList)
theorem y3 {α : Type} {o : Option α} {p : α -> Bool} (h : o.any p = true) : ∃ x, o = some x /\ p x = true := by
 induction o with
 | none => cases h
 | some x => exact ⟨x, rfl, h⟩
theorem B6 {fd : UG} {l : List Str} (h : EG fd l = true) : l.Nodup /\ ∀ x ∈ l, fd.scope.names.lookup x = some .local \/ fd.scope.names.lookup x = some .cell :=
 ⟨of_decide_eq_true (an h).1, fun x hx => xE (PS.mp (an h).2 x hx)⟩
section
variable {w : Rk} {hT : PO} {A : RE} {ρ ρ' : List PD} {μ μ₁ μ' : q4} {s : Py} {n : Nat} {env : Env} {outer : List Env} {σ σ' : LE} {h h' : PO}
theorem RvL.zip {vs : List Pu} : ∀ {names : List Str} {ps : List PV}, RvL hT ρ h vs ps -> RvD hT ρ h (names.zip vs) (names.zip ps) := by
 induction vs with
 | nil => intro names ps r; cases r; rw [aT, aT]; exact .nil
 | cons v vs ih =>
   intro names ps r
   cases r with | cons a r =>
   induction names using PC with
   | nil => exact .nil
   | cons x names => exact .cons a (ih r)
theorem fm {d : PD} {k : Str} {t : Tok} {v : Pu} {c : Nat} {h : PO} (ho : h.get? d = some { cls := .type "dict", data := .dict #[⟨hashStr w k, .str k t, v⟩] c }) : h.DictOf (PN prog w) d [(k, v)] := by
 refine ⟨_, _, _, ho, ⟨rfl, rfl, rfl⟩, rfl, fun e he => ?_, .cons (j8 k t) rfl .nil, by simp⟩
 simp only [bq, mem_singleton] at he
 subst he
 exact ⟨k, j8 k t, rfl⟩
theorem YX {d : PD} {k : Str} {t : Tok} {v : Pu} {c : Nat} {h : PO} (ho : h.get? d = some { cls := .type "dict", data := .dict #[⟨hashStr w k, .str k t, v⟩] c }) : h.DictAt (PN prog w) d [(k, v)] c := by
 refine ⟨_, _, ho, ⟨rfl, rfl, rfl⟩, rfl, fun e he => ?_, .cons (j8 k t) rfl .nil, by simp⟩
 simp only [bq, mem_singleton] at he
 subst he
 exact ⟨k, j8 k t, rfl⟩
theorem YJ {d : PD} {c : Nat} {h : PO} (ho : h.get? d = some { cls := .type "dict", data := .dict #[] c }) : h.DictAt (PN prog w) d [] c :=
 ⟨_, _, ho, ⟨rfl, rfl, rfl⟩, rfl, fun e he => by simp at he, .nil, by simp⟩
theorem y6 {d : PD} {c : Nat} {h : PO} (ho : h.get? d = some { cls := .type "dict", data := .dict #[] c }) : h.DictOf (PN prog w) d [] :=
 ⟨_, _, _, ho, ⟨rfl, rfl, rfl⟩, rfl, fun e he => by simp at he, .nil, by simp⟩
theorem kh {d : PD} {k : Str} {v : Pu} {c : Nat} {Q : Unit -> Py -> Prop} {E : Pu -> Py -> Prop} (ho : s.heap.get? d = some { cls := .type "dict", data := .dict #[] c })
 (h : ∀ h', h'.get? d = some { cls := .type "dict", data := .dict #[⟨hashStr w k, .str k s.toks, v⟩] (c + 1) } -> RK d s.heap h' -> Q () { s with heap := h', toks := s.toks + 1 }) : PP (MM w) A (nsSet d k v) Q E s := by
 unfold nsSet strHash
 refine wpAny_bind (wpAny_bind (wpAny_askSetting (wpAny_pure ?_)))
 refine wpAny_bind (wpAny_mkText ?_)
 refine wpAny_bind (wpAny_loadPart (s := { s with toks := s.toks + 1 }) ho ?_)
 show PP _ _ (if aRefKeyMayBeTheName k #[] = true then _ else _) _ _ _
 rw [if_neg (by rw [aRefKeyMayBeTheName_at]; simp)]
 refine wpAny_updatePart (s := { s with toks := s.toks + 1 }) ho ?_
 exact h _ (SO _ ho rfl) (TH ..)
abbrev Qn (w : Rk) (hT : PO) (r : Ev) (n : Nat) : Prop := ∀ A' outer env σ ρ₁ μ₁ s₁ body, qL w hT A' outer env σ ρ₁ μ₁ s₁.heap n -> j4 w hT A' env ρ₁ s₁ (execs body env) (r.ex σ body μ₁)
structure Xp (w : Rk) (hT : PO) (A : RE) (ρ : List PD) (s : Py) (a : PD) (vs : List Pu) (kws : List (Str × Pu)) (μ₁ : q4) (l : Loc) : Prop where
 go : ∀ E', PP (MM w) A.in1 (RW (j7 w a) ⟨vs, kws⟩) (fun binds s₁ => ∃ h₁ tk₁ ρ₁, s₁ = { s with heap := h₁, toks := tk₁ } /\ s.toks <= tk₁ /\ Le [] ρ s.heap ρ₁ h₁ /\ SR w hT ρ₁ μ₁ h₁ /\ RvD hT ρ₁ h₁ binds l) E' s
theorem zE {r : Ev} {a : PD} {vs : List Pu} {ps : List PV} {kws : List (Str × Pu)} {kps : Loc} {names kwonly : List Str} {kwarg : Option Str} (_ : Q6.contains a = true) (G : GF w hT) (S : SR w hT ρ μ s.heap) (K : Stk hT A ρ s.heap outer) (R : jW A (n + 1))
 (ok : Y5 w a names kwonly kwarg = true)
 (hb : ∀ f σ μ₁, f.names = names -> f.kwonly = kwonly -> f.kwarg = kwarg -> jG a f ps kps μ = some (σ, μ₁) -> σ.sc = f.sc /\ σ.vs.map (·.1) = names ++ kwonly ++ kwarg.toList /\ Xp w hT A ρ s a vs kws μ₁ σ.vs)
 (hex : Qn w hT r n) : vA w hT A ρ s a vs kws (yt (ftK w) r a ps kps μ) := by
 intro ht res μ' hm Q E P
 obtain ⟨ok, o6⟩ := an ok
 obtain ⟨ok, o5⟩ := an ok
 obtain ⟨ok, o4⟩ := an ok
 obtain ⟨ok, o3⟩ := an ok
 obtain ⟨o1, o2⟩ := an ok
 have hfd := Wt o1
 obtain ⟨f, hf, hm⟩ := bnd hm
 obtain ⟨⟨σ, μ₁⟩, hbp, hm⟩ := bnd hm
 obtain ⟨_, hf⟩ := ifT hf
 rw [hfd] at hf
 have hf : gA (j7 w a) = some f := hf
 unfold gA at hf
 induction hbd : (j7 w a).body with
 | stmts body =>
   rw [hbd] at hf
   have hf := qk hf
   obtain ⟨q1, q2, q3⟩ := hb f σ μ₁ (by rw [<- hf]; exact eq_of_beq o3) (by rw [<- hf]; exact eq_of_beq o4) (by rw [<- hf]; exact eq_of_beq o5) hbp
   obtain ⟨h1, h2⟩ := B6 o6
   rw [<- q2] at h1 h2
   exact KG (n := n) (μ₁ := μ₁) (σ := σ) (m := r.ex σ f.body μ₁) (body := f.body) G hfd o2 (by rw [hbd, <- hf]) (args := ⟨vs, kws⟩) S K R (by rw [q1, <- hf]) h1 h2 q3.go (fun env ρ₁ s₁ act => hex _ _ env _ ρ₁ μ₁ s₁ f.body act) ht res μ' hm Q E P
 | _ => rw [hbd] at hf; exact no hf
noncomputable def pB (l : List (Str × Pu)) : Sem (List (Str × Pu)) := pure l
theorem X7 {a : PD} {vs : List Pu} {kws : List (Str × Pu)} {l : List (Str × Pu)} {pl : Loc} (e : RW (j7 w a) ⟨vs, kws⟩ = pB l) (S : SR w hT ρ μ s.heap) (rd : RvD hT ρ s.heap l pl) : Xp w hT A ρ s a vs kws μ pl :=
 ⟨fun zz => e ▸ wpAny_pure ⟨s.heap, s.toks, ρ, rfl, PJ _, Le.refl _ _ _, S, rd⟩⟩
noncomputable def Hh : Sem (List (Str × Pu)) -> Obj -> Sem (List (Str × Pu))
 | .load _ _ k => k
 | _ => fun zz => pB []
theorem jY {a d : PD} {o : Obj} {vs : List Pu} {l : List (Str × Pu)} {pl : Loc} (e : RW (j7 w a) ⟨vs, []⟩ = (load d >>= Hh (RW (j7 w a) ⟨vs, []⟩))) (ho : s.heap.get? d = some o) (e2 : Hh (RW (j7 w a) ⟨vs, []⟩) o = pB l)
 (S : SR w hT ρ μ s.heap) (rd : RvD hT ρ s.heap l pl) : Xp w hT A ρ s a vs [] μ pl := ⟨fun E' => by
 rw [e]
 exact wpAny_bind (c8 ho (e2 ▸ wpAny_pure ⟨s.heap, s.toks, ρ, rfl, PJ _, Le.refl _ _ _, S, rd⟩))⟩
theorem gI {α : Type} {P : List α -> Prop} (h : ∀ a, P [a]) : ∀ l : List α, l.length = 1 -> P l := fun l e => by
 induction l using PC with
 | nil => cases e
 | cons a l => induction l using PC with
   | nil => exact h a
   | cons b l => cases e
theorem ML {α : Type} {n : Nat} {P : List α -> Prop} (h : ∀ a, ∀ l : List α, l.length = n -> P (a :: l)) : ∀ l : List α, l.length = n + 1 -> P l := fun l e => by
 induction l using PC with
 | nil => cases e
 | cons a l => exact h a l (Nat.succ.inj e)
theorem Y3 {α : Type} {P : List α -> Prop} (h : ∀ a b, P [a, b]) : ∀ l : List α, l.length = 2 -> P l := ML fun a => gI (P := fun l => P (a :: l)) (h a)
theorem Gz {α : Type} {P : List α -> Prop} (h : ∀ a b c, P [a, b, c]) : ∀ l : List α, l.length = 3 -> P l := ML fun a => Y3 (P := fun l => P (a :: l)) (h a)
noncomputable def jy (w : Rk) (a : PD) : List Str := (j7 w a).params.args.map (·.arg)
theorem gG (w : Rk) : ∀ q ∈ Ja, ∀ vs : List Pu, vs.length = q.2 -> RW (j7 w q.1) ⟨vs, []⟩ = pB ((jy w q.1).zip vs) :=
 open List in
 forall_mem_cons.mpr ⟨gI fun a => (by kernel_rfl : RW (j7 w 38) ⟨[a], []⟩ = pB ((jy w 38).zip [a])),
 forall_mem_cons.mpr ⟨gI fun a => (by kernel_rfl : RW (j7 w 43) ⟨[a], []⟩ = pB ((jy w 43).zip [a])),
 forall_mem_cons.mpr ⟨gI fun a => (by kernel_rfl : RW (j7 w 196) ⟨[a], []⟩ = pB ((jy w 196).zip [a])),
 forall_mem_cons.mpr ⟨Y3 fun a b => (by kernel_rfl : RW (j7 w 201) ⟨[a, b], []⟩ = pB ((jy w 201).zip [a, b])),
 forall_mem_cons.mpr ⟨gI fun a => (by kernel_rfl : RW (j7 w 208) ⟨[a], []⟩ = pB ((jy w 208).zip [a])),
 forall_mem_cons.mpr ⟨Y3 fun a b => (by kernel_rfl : RW (j7 w 215) ⟨[a, b], []⟩ = pB ((jy w 215).zip [a, b])),
 forall_mem_cons.mpr ⟨Gz fun a b c => (by kernel_rfl : RW (j7 w 220) ⟨[a, b, c], []⟩ = pB ((jy w 220).zip [a, b, c])),
 forall_mem_cons.mpr ⟨Gz fun a b c => (by kernel_rfl : RW (j7 w 225) ⟨[a, b, c], []⟩ = pB ((jy w 225).zip [a, b, c])),
 forall_mem_cons.mpr ⟨gI fun a => (by kernel_rfl : RW (j7 w 230) ⟨[a], []⟩ = pB ((jy w 230).zip [a])),
 forall_mem_cons.mpr ⟨Y3 fun a b => (by kernel_rfl : RW (j7 w 235) ⟨[a, b], []⟩ = pB ((jy w 235).zip [a, b])),
 forall_mem_cons.mpr ⟨gI fun a => (by kernel_rfl : RW (j7 w 240) ⟨[a], []⟩ = pB ((jy w 240).zip [a])),
 forall_mem_cons.mpr ⟨gI fun a => (by kernel_rfl : RW (j7 w 245) ⟨[a], []⟩ = pB ((jy w 245).zip [a])),
 forall_mem_cons.mpr ⟨gI fun a => (by kernel_rfl : RW (j7 w 250) ⟨[a], []⟩ = pB ((jy w 250).zip [a])),
 forall_mem_cons.mpr ⟨Gz fun a b c => (by kernel_rfl : RW (j7 w 102) ⟨[a, b, c], []⟩ = pB ((jy w 102).zip [a, b, c])),
 forall_mem_cons.mpr ⟨Y3 fun a b => (by kernel_rfl : RW (j7 w 107) ⟨[a, b], []⟩ = pB ((jy w 107).zip [a, b])),
 forall_mem_cons.mpr ⟨Y3 fun a b => (by kernel_rfl : RW (j7 w 121) ⟨[a, b], []⟩ = pB ((jy w 121).zip [a, b])),
 forall_mem_cons.mpr ⟨Y3 fun a b => (by kernel_rfl : RW (j7 w 126) ⟨[a, b], []⟩ = pB ((jy w 126).zip [a, b])),
 forall_mem_cons.mpr ⟨gI fun a => (by kernel_rfl : RW (j7 w 163) ⟨[a], []⟩ = pB ((jy w 163).zip [a])),
 forall_mem_cons.mpr ⟨Gz fun a b c => (by kernel_rfl : RW (j7 w 177) ⟨[a, b, c], []⟩ = pB ((jy w 177).zip [a, b, c])),
 fun zz h => nomatch h⟩⟩⟩⟩⟩⟩⟩⟩⟩⟩⟩⟩⟩⟩⟩⟩⟩⟩⟩
theorem YC (w : Rk) : (Ja.all fun q => Y5 w q.1 (jy w q.1) [] none && (jy w q.1).length == q.2) = true := by kernel_rfl
theorem Y4 {a : PD} (h : a ∈ v9) : Qk a = [] := by
 have : v9.all (fun a => (Qk a).isEmpty) = true := rfl
 exact Rf.mp (PS.mp this a h)
theorem xZ {a : PD} {f : Fn} {ps : List PV} {kps : Loc} (hk : f.kwonly = []) (ha : f.kwarg = none) (h : jG a f ps kps μ = some (σ, μ₁)) :
 ps.length <= f.names.length /\ f.names.length - ps.length <= (Qk a).length /\ kps = [] /\ σ = ⟨f.sc, f.names.zip (ps ++ (Qk a).drop ((Qk a).length - (f.names.length - ps.length)))⟩ /\ μ₁ = μ := by
 obtain ⟨hg, h⟩ := ifB h
 obtain ⟨h1, h2⟩ := orF hg
 dsimp only at h
 rw [hk, ha] at h
 obtain ⟨h3, h⟩ := ifT h
 obtain ⟨h4, h5⟩ := wS h
 exact ⟨Sh.mp (of_decide_eq_false h1), Sh.mp (of_decide_eq_false h2), Rf.mp h3, h4, h5⟩
theorem fx {r : Ev} {a : PD} {vs : List Pu} {ps : List PV} {kws : List (Str × Pu)} {kps : Loc} (ha : a ∈ v9) (G : GF w hT) (S : SR w hT ρ μ s.heap) (K : Stk hT A ρ s.heap outer) (R : jW A (n + 1)) (rvs : RvL hT ρ s.heap vs ps) (rkw : RvD hT ρ s.heap kws kps)
 (hex : Qn w hT r n) : vA w hT A ρ s a vs kws (yt (ftK w) r a ps kps μ) := by
 obtain ⟨⟨_, k⟩, hq, rfl⟩ := Ri.mp ha
 obtain ⟨ok, hk⟩ := an (PS.mp (YC w) _ hq)
 refine zE (RR.mpr (Ro _ ha)) G S K R ok (fun f σ μ₁ h1 h2 h3 hb => ?_) hex
 obtain ⟨g1, g2, rfl, rfl, rfl⟩ := xZ h2 h3 hb
 cases rkw
 rw [Y4 ha] at g2 ⊢
 have hl := bL g1 (AC (Nat.le_zero.mp g2))
 rw [List.drop_nil, PQ]
 rw [h1] at hl ⊢
 refine ⟨rfl, ?_, X7 (gG w _ hq vs (by rw [rvs.length, hl]; exact eq_of_beq hk)) S rvs.zip⟩
 exact (br (TA hl.symm)).trans ((PQ _).trans (PQ _)).symm
theorem d59 (w : Rk) : (KK w).lookup 59 = some { cls := .type "tuple", data := .seq #[.none, .int 1 397] } := by kernel_rfl
theorem d74 (w : Rk) : (KK w).lookup 74 = some { cls := .type "tuple", data := .seq #[.none] } := by kernel_rfl
theorem OV (w : Rk) : (KK w).lookup 127 = some { cls := .type "tuple", data := .seq #[.none] } := by kernel_rfl
theorem no4 {n : Nat} {p : Prop} (h : n + 1 + 1 + 1 + 1 <= 3) : p := absurd h (by lia)
theorem no3 {n : Nat} {p : Prop} (h : n + 1 + 1 + 1 <= 2) : p := absurd h (by lia)
theorem YQ {r : Ev} {vs : List Pu} {ps : List PV} {kws : List (Str × Pu)} {kps : Loc} (G : GF w hT) (S : SR w hT ρ μ s.heap) (K : Stk hT A ρ s.heap outer) (R : jW A (n + 1)) (rvs : RvL hT ρ s.heap vs ps) (rkw : RvD hT ρ s.heap kws kps)
 (hex : Qn w hT r n) : vA w hT A ρ s 66 vs kws (yt (ftK w) r 66 ps kps μ) := by
 have hT0 := S.top _ _ (G.1 59 _ (d59 w))
 refine zE (names := ["param", "value", "quote"]) (kwonly := []) (kwarg := none) rfl G S K R (by kernel_rfl) (fun f σ μ₁ h1 h2 h3 hb => ?_) hex
 obtain ⟨g1, g2, rfl, rfl, rfl⟩ := xZ h2 h3 hb
 cases rkw
 rw [h1] at g1 g2 ⊢
 cases rvs with
 | nil => exact absurd g2 (show ¬ (3 : Nat) <= 2 by decide)
 | cons a1 r1 => cases r1 with
   | nil => exact ⟨rfl, rfl, jY (by kernel_rfl) hT0 (by kernel_rfl) S (.cons a1 (.cons .none (.cons (.int 1 397) .nil)))⟩
   | cons a2 r2 => cases r2 with
     | nil => exact ⟨rfl, rfl, jY (by kernel_rfl) hT0 (by kernel_rfl) S (.cons a1 (.cons a2 (.cons (.int 1 397) .nil)))⟩
     | cons a3 r3 => cases r3 with
       | nil => exact ⟨rfl, rfl, jY (by kernel_rfl) hT0 (by kernel_rfl) S (.cons a1 (.cons a2 (.cons a3 .nil)))⟩
       | cons _ _ => exact no4 g1
theorem XO {r : Ev} {vs : List Pu} {ps : List PV} {kws : List (Str × Pu)} {kps : Loc} (G : GF w hT) (S : SR w hT ρ μ s.heap) (K : Stk hT A ρ s.heap outer) (R : jW A (n + 1)) (rvs : RvL hT ρ s.heap vs ps) (rkw : RvD hT ρ s.heap kws kps)
 (hex : Qn w hT r n) : vA w hT A ρ s 81 vs kws (yt (ftK w) r 81 ps kps μ) := by
 have hT0 := S.top _ _ (G.1 74 _ (d74 w))
 refine zE (names := ["self", "headers"]) (kwonly := []) (kwarg := none) rfl G S K R (by kernel_rfl) (fun f σ μ₁ h1 h2 h3 hb => ?_) hex
 obtain ⟨g1, g2, rfl, rfl, rfl⟩ := xZ h2 h3 hb
 cases rkw
 rw [h1] at g1 g2 ⊢
 cases rvs with
 | nil => exact absurd g2 (show ¬ (2 : Nat) <= 1 by decide)
 | cons a1 r1 => cases r1 with
   | nil => exact ⟨rfl, rfl, jY (by kernel_rfl) hT0 (by kernel_rfl) S (.cons a1 (.cons .none .nil))⟩
   | cons a2 r2 => cases r2 with
     | nil => exact ⟨rfl, rfl, jY (by kernel_rfl) hT0 (by kernel_rfl) S (.cons a1 (.cons a2 .nil))⟩
     | cons _ _ => exact no3 g1
theorem ZR {r : Ev} {vs : List Pu} {ps : List PV} {kws : List (Str × Pu)} {kps : Loc} (G : GF w hT) (S : SR w hT ρ μ s.heap) (K : Stk hT A ρ s.heap outer) (R : jW A (n + 1)) (rvs : RvL hT ρ s.heap vs ps) (rkw : RvD hT ρ s.heap kws kps)
 (hex : Qn w hT r n) : vA w hT A ρ s 134 vs kws (yt (ftK w) r 134 ps kps μ) := by
 have hT0 := S.top _ _ (G.1 127 _ (OV w))
 refine zE (names := ["self", "name", "default"]) (kwonly := []) (kwarg := none) rfl G S K R (by kernel_rfl) (fun f σ μ₁ h1 h2 h3 hb => ?_) hex
 obtain ⟨g1, g2, rfl, rfl, rfl⟩ := xZ h2 h3 hb
 cases rkw
 rw [h1] at g1 g2 ⊢
 cases rvs with
 | nil => exact absurd g2 (show ¬ (3 : Nat) <= 1 by decide)
 | cons a1 r1 => cases r1 with
   | nil => exact absurd g2 (show ¬ (2 : Nat) <= 1 by decide)
   | cons a2 r2 => cases r2 with
     | nil => exact ⟨rfl, rfl, jY (by kernel_rfl) hT0 (by kernel_rfl) S (.cons a1 (.cons a2 (.cons .none .nil)))⟩
     | cons a3 r3 => cases r3 with
       | nil => exact ⟨rfl, rfl, jY (by kernel_rfl) hT0 (by kernel_rfl) S (.cons a1 (.cons a2 (.cons a3 .nil)))⟩
       | cons _ _ => exact no4 g1
theorem b88 (w : Rk) (v1 v2 v3 : Pu) : RW (j7 w 88) ⟨[v1, v2], [("name", v3)]⟩ = pB [("self", v1), ("value", v2), ("name", v3)] := by kernel_rfl
theorem Yf {r : Ev} {vs : List Pu} {ps : List PV} {kws : List (Str × Pu)} {kps : Loc} (G : GF w hT) (S : SR w hT ρ μ s.heap) (K : Stk hT A ρ s.heap outer) (R : jW A (n + 1)) (rvs : RvL hT ρ s.heap vs ps) (rkw : RvD hT ρ s.heap kws kps)
 (hex : Qn w hT r n) : vA w hT A ρ s 88 vs kws (yt (ftK w) r 88 ps kps μ) := by
 refine zE (names := ["self", "value"]) (kwonly := ["name"]) (kwarg := none) rfl G S K R (by kernel_rfl) (fun f σ μ₁ h1 h2 h3 hb => ?_) hex
 obtain ⟨hg, h⟩ := ifB hb
 obtain ⟨g1, g2⟩ := orF hg
 have g1 := Sh.mp (of_decide_eq_false g1)
 have g2 := Sh.mp (of_decide_eq_false g2)
 clear hb hg
 dsimp only at h
 rw [h2, h3] at h
 dsimp only at h
 obtain ⟨_, h4⟩ := ifT h
 obtain ⟨q, hq, h5⟩ := bnd h4
 obtain ⟨hk, h6⟩ := ifT h5
 have e := jN hq
 subst e
 obtain ⟨e1, e2⟩ := wS h6
 clear h4 h5 h6 h hq
 subst e1 e2
 rw [h1] at g1 g2 ⊢
 rw [show Qk 88 = [] from rfl] at g2 ⊢
 cases rkw with | cons b1 rb =>
 cases rb
 have e := eq_of_beq hk
 dsimp only at e
 subst e
 cases rvs with
 | nil => exact absurd g2 (show ¬ (2 : Nat) <= 0 by decide)
 | cons a1 r1 => cases r1 with
   | nil => exact absurd g2 (show ¬ (1 : Nat) <= 0 by decide)
   | cons a2 r2 => cases r2 with
     | nil =>
       exact ⟨rfl, rfl, X7 (b88 w _ _ _) S (.cons a1 (.cons a2 (.cons b1 .nil)))⟩
     | cons _ _ => exact no3 g1
theorem LB (w : Rk) (v1 v2 v3 : Pu) : RW (j7 w 184) ⟨[v1, v2, v3], []⟩ = (alloc { cls := .type "dict", data := .dict #[] } >>= fun d => pB [("self", v1), ("_name", v2), ("_value", v3), ("_params", .ref d)]) := by kernel_rfl
theorem Lj (w : Rk) (v1 v2 v3 v : Pu) : ∀ k ∈ yi, RW (j7 w 184) ⟨[v1, v2, v3], [(k, v)]⟩ = (alloc { cls := .type "dict", data := .dict #[] } >>= fun d => (ba [(k, v)] Uh (fun (x : Str × Pu) zz => do nsSet d x.1 x.2; pure (SH Uh)) : Sem PUnit) >>= fun zz => pB [("self", v1), ("_name", v2), ("_value", v3), ("_params", .ref d)]) :=
 List.map_inj_left.mp (by kernel_rfl)
theorem G7 {v1 v2 v3 : Pu} {p1 p2 p3 : PV} {kws : List (Str × Pu)} {kps : Loc} (S : SR w hT ρ μ s.heap) (a1 : Rv hT ρ s.heap v1 p1) (a2 : Rv hT ρ s.heap v2 p2) (a3 : Rv hT ρ s.heap v3 p3) (rkw : RvD hT ρ s.heap kws kps) (hl : kps.length <= 1) (hk : kps.all (fun kv => yi.contains kv.1) = true) :
 Xp w hT A ρ s 184 [v1, v2, v3] kws (μ ++ [.kw kps]) [("self", p1), ("_name", p2), ("_value", p3), ("_params", .loc μ.length)] := by
 constructor
 intro E'
 have hx : ∃ more, ρ ++ [s.heap.objs.size] = ρ ++ more := ⟨_, rfl⟩
 have all : ∀ {h'}, Kv s.heap h' -> RvD hT (ρ ++ [s.heap.objs.size]) h' [("self", v1), ("_name", v2), ("_value", v3), ("_params", .ref s.heap.objs.size)] [("self", p1), ("_name", p2), ("_value", p3), ("_params", .loc μ.length)] := fun kv => .cons (a1.mono hx kv) (.cons (a2.mono hx kv) (.cons (a3.mono hx kv) (.cons (.loc (jH S)) .nil)))
 cases rkw with
 | nil =>
   rw [LB]
   exact wpAny_bind (AT (wpAny_pure ⟨_, s.toks, ρ ++ [s.heap.objs.size], rfl, PJ _, Le.cell _, S.cell (c := .kw []) ⟨[], YJ (c := 0) (Rg _ rfl), .nil⟩, all (Kv.of_keeps (qg _ _))⟩))
 | @cons k v p _ _ b1 rb =>
   cases rb with
   | cons _ _ => exact absurd hl (Nat.not_le.mpr (Nat.succ_lt_succ (Nat.succ_pos _)))
   | nil =>
     rw [Lj w v1 v2 v3 v k (RR.mp (an hk).1)]
     refine wpAny_bind (AT (wpAny_bind ?_))
     rw [SI]
     refine wpAny_bind (wpAny_bind (kh (c := 0) (Rg _ rfl) fun h' ho' hsb => wpAny_pure (wpAny_pure (wpAny_pure ?_))))
     have hks : ∀ b o, s.heap.get? b = some o -> h'.get? b = some o := fun b o e => (hsb.2 b (RQ (RJ e))).trans (qg s.heap _ b o e)
     have kv : Kv s.heap h' := Kv.of_keeps hks
     have S1 : SR w hT (ρ ++ [s.heap.objs.size]) (μ ++ [.dict []]) (s.heap.push { cls := .type "dict", data := .dict #[] }) := S.cell ⟨[], y6 (c := 0) (Rg _ rfl), .nil⟩
     have S2 := S1.set (n := μ.length) (c := .kw [(k, p)]) (jH S) hsb ⟨[(k, v)], YX ho', .cons (b1.mono hx kv) .nil⟩
     rw [show qj (μ ++ [.dict []]) μ.length (.kw [(k, p)]) = μ ++ [.kw [(k, p)]] by unfold qj; simp] at S2
     exact ⟨h', s.toks + 1, ρ ++ [s.heap.objs.size], rfl, U4 _, (Le.cell _).trans (Le.set (Ra _ (.head _)) hsb ⟨_, ho'⟩), S2, all kv⟩
theorem Xh {r : Ev} {vs : List Pu} {ps : List PV} {kws : List (Str × Pu)} {kps : Loc} (G : GF w hT) (S : SR w hT ρ μ s.heap) (K : Stk hT A ρ s.heap outer) (R : jW A (n + 1)) (rvs : RvL hT ρ s.heap vs ps) (rkw : RvD hT ρ s.heap kws kps)
 (hex : Qn w hT r n) : vA w hT A ρ s 184 vs kws (yt (ftK w) r 184 ps kps μ) := by
 refine zE (names := ["self", "_name", "_value"]) (kwonly := []) (kwarg := some "_params") rfl G S K R (by kernel_rfl) (fun f σ μ₁ h1 h2 h3 hb => ?_) hex
 obtain ⟨hg, h⟩ := ifB hb
 obtain ⟨g1, g2⟩ := orF hg
 have g1 := Sh.mp (of_decide_eq_false g1)
 have g2 := Sh.mp (of_decide_eq_false g2)
 clear hb hg
 dsimp only at h
 rw [h3] at h
 dsimp only at h
 obtain ⟨hk, h4⟩ := ifT h
 obtain ⟨e1, e2⟩ := wS h4
 clear h h4
 subst e1 e2
 rw [h1] at g1 g2 ⊢
 rw [show Qk 184 = [] from rfl] at g2 ⊢
 have hl := bL g1 (AC (Nat.le_zero.mp g2))
 revert rvs
 have fin : ∀ ps : List PV, ps.length = 3 -> ∀ vs, RvL hT ρ s.heap vs ps -> Xp w hT A ρ s 184 vs kws (μ ++ [.kw kps]) (List.zip ([Pv "self", Pv "_name", Pv "_value"] : List Str) ps ++ [(Pv "_params", PV.loc μ.length)]) := Gz fun p1 p2 p3 vs rvs => by
  cases rvs with | cons a1 r1 =>
  cases r1 with | cons a2 r2 =>
  cases r2 with | cons a3 r3 =>
  cases r3
  exact G7 S a1 a2 a3 rkw (of_decide_eq_true (an (an hk).1).2) (an hk).2
 intro rvs
 rw [List.drop_nil, PQ]
 refine ⟨rfl, ?_, fin ps hl vs rvs⟩
 rw [Rt, br (TA hl.symm)]
 rfl
theorem Gh {r : Ev} {a : PD} {vs : List Pu} {ps : List PV} {kws : List (Str × Pu)} {kps : Loc} (G : GF w hT) (S : SR w hT ρ μ s.heap) (K : Stk hT A ρ s.heap outer) (R : jW A (n + 1)) (rvs : RvL hT ρ s.heap vs ps) (rkw : RvD hT ρ s.heap kws kps)
 (hex : Qn w hT r n) : vA w hT A ρ s a vs kws (yt (ftK w) r a ps kps μ) := by
 by_cases hm : Q6.contains a = true
 ·rcases PT.mp (RR.mp hm) with q | q
  ·exact fx q G S K R rvs rkw hex
  ·rcases Rq.mp q with rfl | q
   ·exact YQ G S K R rvs rkw hex
   rcases Rq.mp q with rfl | q
   ·exact XO G S K R rvs rkw hex
   rcases Rq.mp q with rfl | q
   ·exact ZR G S K R rvs rkw hex
   rcases Rq.mp q with rfl | q
   ·exact Yf G S K R rvs rkw hex
   rw [Pw.mp q]
   exact Xh G S K R rvs rkw hex
 ·intro _ res μ' hmm
  obtain ⟨f, h1, _⟩ := bnd hmm
  exact absurd (ifT h1).1 hm
end
abbrev j5 (w : Rk) (hT : PO) (r : Ev) (n : Nat) : Prop := ∀ A l env σ ρ μ s e, Act w hT A l env σ ρ μ s.heap n -> Sim w hT A (Rv hT) ρ s (eval e env) (r.ev σ e μ)
abbrev jR (w : Rk) (hT : PO) (r : Ev) (n : Nat) : Prop := ∀ A l ρ μ s a vs ps kws kps, SR w hT ρ μ s.heap -> Stk hT A ρ s.heap l -> jW A n -> RvL hT ρ s.heap vs ps -> RvD hT ρ s.heap kws kps -> vA w hT A ρ s a vs kws (r.call a ps kps μ)
structure Pp (w : Rk) (hT : PO) (r : Ev) (n : Nat) : Prop where
 ev : j5 w hT r n
 ex : Qn w hT r n
 call : jR w hT r n
section
variable {w : Rk} {hT : PO} {A : RE} {l : List Env} {ρ ρ' : List PD} {μ μ₁ μ' : q4} {s : Py} {n : Nat} {env : Env} {outer : List Env} {σ σ' : LE} {h h' : PO} {r : Ev}
theorem Act.down (X : Act w hT A l env σ ρ μ h (n + 1)) : Act w hT A l env σ ρ μ h n := ⟨X.sr, X.er, X.sk, X.rm.mono (by lia)⟩
theorem x9 (H : j5 w hT r n) (es : List Expr) : ∀ {ρ : List PD} {μ : q4} {s : Py}, Act w hT A l env σ ρ μ s.heap n -> Sim w hT A (RvL hT) ρ s (Am (es.map fun e => (false, eval e env))) (evL r σ es μ) := by
 induction es with
 | nil => exact fun X ht r' μ' hm Q E P => T9 (P.now (tk := _) (a := []) hm X.sr .nil ht)
 | cons e es ih =>
   intro ρ μ s X ht r' μ' hm Q E P
   refine spliced_cons ?_
   refine (H A l env σ ρ μ s e X).andThen ht hm P fun v h₁ tk₁ ρ₁ p μ₁ x1 S1 rv ht1 hm1 P1 => ?_
   refine (ih (X.le x1 S1)).andThen ht1 hm1 P1 fun vs h₂ tk₂ ρ₂ ps μ₂ x2 S2 rvs ht2 hm2 P2 => ?_
   exact (P2.of hm2).ok (v :: vs) h₂ tk₂ ρ₂ (p :: ps) rfl (Le.refl _ _ _) S2 (.cons (rv.le S1 x2) rvs) ht2
theorem fu {es : List Expr} (h : es.any qf = false) : es.all (!qf ·) = true := by
 rw [List.all_eq_not_any_not]
 simpa using h
theorem Fo {es : List Expr} {k : Nat} {pos : Pos} (H : j5 w hT r n) (X : Act w hT A l env σ ρ μ s.heap n) : Sim w hT A (Rv hT) ρ s (eval (.Tuple es k pos) env) (Fg r σ es μ) := by
 intro ht r' μ' hm Q E P
 refine iB hm fun hs hm => ?_
 refine wpAny_Tuple ?_
 rw [q9 (fu hs)]
 refine (x9 H es X).andThen ht hm P fun vs h₁ tk₁ ρ₁ ps μ₁ x1 S1 rvs ht1 hm1 P1 => ?_
 refine iT hm1 fun hlen hm1 => ?_
 have hk := qg h₁ { cls := .type "tuple", data := .seq vs.toArray }
 exact ⟨rvs.length ▸ hlen, (P1.of hm1).ok _ _ tk₁ ρ₁ _ rfl (Le.of_keeps hk) (S1.keeps hk) (.tup ⟨_, Rg _ rfl, rfl, 0, rfl⟩ (rvs.mono ⟨[], (PQ _).symm⟩ (Kv.of_keeps hk))) ht1⟩
theorem xI.p0 {α β : Type} {rel : List PD -> PO -> α -> β -> Prop} {r : Except Exn β} {Q : α -> Py -> Prop} {E : Pu -> Py -> Prop} (P : xI w hT rel ρ s r μ' Q E) : xX w hT rel ρ s r μ' (fun a s' => 1 <= s'.toks -> Q a s') (fun e s' => 1 <= s'.toks -> E e s') :=
 ⟨fun a h' tk ρ' b e1 e2 e3 e4 ht => P.ok a h' tk ρ' b e1 e2 e3 e4 ht, fun e h' tk ρ' x e1 e2 e3 e4 ht => P.err e h' tk ρ' x e1 e2 e3 e4 ht⟩
theorem Es {es : List Expr} {pos : Pos} (H : j5 w hT r n) (X : Act w hT A l env σ ρ μ s.heap n) : Sim w hT A (Rv hT) ρ s (eval (.List es pos) env) (H6 r σ es μ) := by
 intro ht r' μ' hm Q E P
 refine iB hm fun hs hm => ?_
 refine wpAny_List ?_
 rw [q9 (fu hs)]
 refine (x9 H es X).andThen ht hm P fun vs h₁ tk₁ ρ₁ ps μ₁ x1 S1 rvs ht1 hm1 P1 => ?_
 have hm1 := zI hm1
 exact ⟨rvs.length ▸ hm1.1, xf (k := 0) (tk := tk₁) (s := { s with heap := h₁, toks := tk₁ }) S1 rvs hm1.1 hm1.2 P1.p0 ht1⟩
theorem XJ {c : Ul} {k : Nat} {pos : Pos} (X : Act w hT A l env σ ρ μ s.heap n) : Sim w hT A (Rv hT) ρ s (eval (.Constant c k pos) env) ((wR c).map fun p => (.ok p, μ)) := by
 refine Sim.of0 fun r' μ' hm Q E P => mK hm fun p hp hm1 => ?_
 clear hm
 cases c <;> first | exact no hp | skip
 ·cases qk (show some PV.none = some p from hp); exact av (P.pret (tk := s.toks) hm1 X.sr .none)
 ·cases qk (show some (PV.bool _) = some p from hp); exact aw (P.pret (tk := s.toks) hm1 X.sr (.bool _))
 ·cases qk (show some (PV.int _) = some p from hp); exact U1 (P.pret hm1 X.sr (.int _ _))
 ·refine iT hp fun hl hp => ?_
  cases qk hp; exact Sj (P.pret hm1 X.sr (.str _ _ (Pq hl (by decide))))
abbrev Ho (w : Rk) (hT : PO) : Prop := ∀ A ρ μ s x t v p, SR w hT ρ μ s.heap -> Rv hT ρ s.heap v p -> x.length <= Pr -> Sim w hT A (Rv hT) ρ s (A6 .Mod (.str x t) v) (HZ x p μ)
theorem GW {e₁ e₂ : Expr} {op : AH} {pos : Pos} (H : j5 w hT r n) (HM : Ho w hT) (X : Act w hT A l env σ ρ μ s.heap n) : Sim w hT A (Rv hT) ρ s (eval (.BinOp e₁ op e₂ pos) env) (qa (r.ev σ e₁ μ) fun a μ => qa (r.ev σ e₂ μ) fun b => kZ op a b) := by
 intro ht r' μ' hm Q E P
 refine wpAny_BinOp ?_
 refine (H A l env σ ρ μ s e₁ X).andThen ht hm P fun a h₁ tk₁ ρ₁ p μ₁ x1 S1 ra ht1 hm1 P1 => ?_
 refine (H A l env σ ρ₁ μ₁ { s with heap := h₁, toks := tk₁ } e₂ (X.le x1 S1)).andThen ht1 hm1 P1 fun b h₂ tk₂ ρ₂ q μ₂ x2 S2 rb ht2 hm2 P2 => ?_
 exact DU (s := { s with heap := h₂, toks := tk₂ }) S2 (ra.le S1 x2) rb (fun x t e zz hx => e ▸ HM _ _ _ _ _ _ _ _ S2 rb hx) ht2 _ _ hm2 Q E P2
theorem CF (w : Rk) : Hk.all (fun q => !(q.1 == ("__debug__" : Str)) && !(q.1 == ("__name__" : Str)) && (WI q.2).any fun v => nsIn (KK w) mainGlobals q.1 == some (some v) || (nsIn (KK w) mainGlobals q.1 == some none && Ua q.1 == some v)) = true := by kernel_rfl
theorem Em {x : Str} {pos : Pos} (G : GF w hT) (X : Act w hT A l env σ ρ μ s.heap n) : Sim w hT A (Rv hT) ρ s (eval (.Name x pos) env) (Q4 σ x μ) := by
 refine Sim.of0 fun r' μ' hm Q E P => ?_
 unfold Q4 at hm
 cases hd : (x == ("__debug__" : Str)) with
 | true =>
   rw [hd] at hm
   have e := qb hd
   subst e
   show PP _ _ (do standAt pos; debugConstant) _ _ s
   exact wpAny_bind (wpAny_standAt (wpAny_bind (aP (wpAny_pure (P.pret (tk := s.toks) hm X.sr (.bool _))))))
 | false =>
   rw [hd] at hm
   induction hx : σ.get x with
   | some p =>
     rw [hx] at hm
     exact vw X.er hx hd fun v rv => P.pret (tk := s.toks) hm X.sr rv
   | none =>
     rw [hx] at hm
     refine iT hm fun hg hm => mK hm fun p hp hm => ?_
     have q := an (PS.mp (CF w) _ (mem_of_lookup hp))
     obtain ⟨v, hv, q2⟩ := y3 q.2
     have fin : Q v s := P.pret (tk := s.toks) hm X.sr (show Rv hT ρ s.heap v p from (vL hv : p = PV.val v) ▸ .val v)
     rcases Tj _ _ ▸ q2 with q2 | q2
     ·exact kc G X.er X.sr hg (eq_of_beq q2) hd fin
     ·exact zP G X.er X.sr hg (eq_of_beq (an q2).1) (eq_of_beq (an q2).2) (fun e => by rw [e] at q; exact noB ((nt (an q.1).2).symm.trans (beq_self_eq_true _))) hd fin
end
section
variable {w : Rk} {hT : PO} {A : RE} {l' : List Env} {ρ ρ' : List PD} {μ μ₁ μ' : q4} {s : Py} {n : Nat} {env : Env} {outer : List Env} {σ σ' : LE} {h h' : PO} {r : Ev}
theorem wF {o : Expr} {name : Str} {env : Env} (h : qT o = true) : attributeBase o name env (eval o env) = eval o env := by
 cases o with
 | Call f as ks p => cases f with
   | Name x q => induction as using PC with
     | nil => induction ks using PC with
       | nil => exact noB h
       | cons _ _ => rfl
     | cons _ _ => rfl
   | _ => rfl
 | _ => rfl
theorem kj {op : Uv} {e : Expr} (h : yr e = false) : behindInMarks op e = false := by
 cases e <;> first | rfl | cases h
theorem ki {e : Expr} {c : PR PV} {res : Except Exn Bool} {Q : Bool -> Py -> Prop} {E : Pu -> Py -> Prop} (H : Sim w hT A (Rv hT) ρ s (eval e env) c) (ht : 1 <= s.toks)
 (hm : qa c tru = some (res, μ')) (P : xI w hT (fun zz zz a b => a = b) ρ s res μ' Q E) : PP (MM w) A (eval e env) (fun v s₁ => PP (MM w) A (bm v) Q E s₁) E s :=
 H.andThen ht hm P fun v h₁ tk₁ ρ₁ p μ₁ x1 S1 rv ht1 hm1 P1 => wm S1 rv ht1 _ _ hm1 Q E P1
theorem GU {l : Expr} {ops : List Uv} {xs : List Expr} {p : Pos} (H : j5 w hT r n) (X : Act w hT A l' env σ ρ μ s.heap n) : Sim w hT A (fun zz zz a b => a = b) ρ s (isTrue (.Compare l ops xs p) env (eval (.Compare l ops xs p) env)) (Lw r σ l ops xs μ) := by
 intro ht r' μ' hm Q E P
 induction ops using PC with
 | nil => exact no hm
 | cons op ops =>
 induction ops using PC with
 | cons _ _ => exact no hm
 | nil =>
 induction xs using PC with
 | nil => exact no hm
 | cons x xs =>
 induction xs using PC with
 | cons _ _ => exact no hm
 | nil =>
 refine iB hm fun hs hm => wpAny_isTrue_Compare1 ?_ (kj hs)
 refine (H A _ env σ ρ μ s l X).andThen ht hm P fun a h₁ tk₁ ρ₁ p μ₁ x1 S1 ra ht1 hm1 P1 => ?_
 refine (H A _ env σ ρ₁ μ₁ { s with heap := h₁, toks := tk₁ } x (X.le x1 S1)).andThen ht1 hm1 P1 fun b h₂ tk₂ ρ₂ q μ₂ x2 S2 rb ht2 hm2 P2 => ?_
 refine (WP (s := { s with heap := h₂, toks := tk₂ }) S2 X.rm (ra.le S1 x2) rb).andThen ht2 hm2 P2 fun c h₃ tk₃ ρ₃ t μ₃ x3 S3 rc ht3 hm3 P3 => ?_
 exact wm (s := { s with heap := h₃, toks := tk₃ }) S3 rc ht3 _ _ hm3 Q E P3
theorem Vu {f : Expr} {args : List Expr} {kws : List SD} {pos : Pos} (G : GF w hT) (H : j5 w hT r n) (X : Act w hT A l' env σ ρ μ s.heap n) : Sim w hT A (fun zz zz a b => a = b) ρ s (isTrue (.Call f args kws pos) env (eval (.Call f args kws pos) env)) (WK r σ f args kws pos μ) := by
 intro ht r' μ' hm Q E P
 refine bK hm fun a ha hma => ?_
 clear hm
 have ea := wQ ha
 clear ha
 subst ea
 induction args using PC with
 | nil => exact no hma
 | cons e args =>
 induction args using PC with
 | cons _ _ => exact no hma
 | nil =>
 refine iT hma fun hg hm => ?_
 clear hma
 have g4 := an hg
 have g3 := an g4.1
 have g2 := an g3.1
 have g1 := an g2.1
 have ek := Rf.mp g1.2
 obtain ⟨o, name, apos⟩ := a
 have en := qb g1.1
 dsimp only at en
 subst ek en
 have hst : [e].all (!qf ·) = true := by rw [Uj, g4.2]; rfl
 refine bc (wpAny_Call_method_lateS (wF g2.2) ?_ g3.2 ?_)
 ·rw [q9 hst]; rfl
 ·refine (H A _ env σ ρ μ s o X).andThen ht hm P fun a h₁ tk₁ ρ₁ p μ₁ x1 S1 ra ht1 hm1 P1 => iT hm1 fun hpat hm1 => ?_
  obtain ⟨T, m1, m2, m3, m4, m5⟩ := Qu (s := { s with heap := h₁, toks := tk₁ }) G S1 ra hpat
  refine ⟨T, _, m1, m2, m3, m4, m5, ?_⟩
  rw [q9 hst]
  refine yC ?_
  refine (H A _ env σ ρ₁ μ₁ { s with heap := h₁, toks := tk₁ } e (X.le x1 S1)).andThen ht1 hm1 P1 fun v h₂ tk₂ ρ₂ q μ₂ x2 S2 rv ht2 hm2 P2 => ?_
  exact RG (jj ht2 (RG (YR (A := A) (s := { s with heap := h₂, toks := tk₂ }) G S2 (ra.le S1 x2) rv _ _ hm2 _ _ P2.p0) (fun v s' q ht' => jj ht' q) fun zz zz q => q)) (fun zz zz q => q) fun zz zz q => q
theorem Sim.none {α β : Type} {rel : List PD -> PO -> α -> β -> Prop} {t : Sem α} : Sim w hT A rel ρ s t none := fun zz zz zz hm => no hm
abbrev YM (w : Rk) (hT : PO) (A : RE) (l : List Env) (env : Env) (σ : LE) (r : Ev) (n : Nat) (e : Expr) : Prop := ∀ {ρ : List PD} {μ : q4} {s : Py}, Act w hT A l env σ ρ μ s.heap n -> Sim w hT A (fun zz zz a b => a = b) ρ s (isTrue e env (eval e env)) (xh r σ e μ)
theorem Ka {op : UY} {pos : Pos} {whole : Sem Pu} {k : Nat} (ih : ∀ e, c9 e < k -> YM w hT A l' env σ r n e) (es : List Expr) : c9 es < k -> ∀ {ρ : List PD} {μ : q4} {s : Py}, Act w hT A l' env σ ρ μ s.heap n ->
 Sim w hT A (fun zz zz a b => a = b) ρ s (isTrue (.BoolOp op es pos) env whole) (evTests r σ (ZX op) es μ) := by
 induction es with
 | nil =>
   intro _ ρ μ s X ht r' μ' hm Q E P
   cases op
   ·exact isTrue_and_nil (P.now (tk := s.toks) hm X.sr rfl ht)
   ·exact isTrue_or_nil (P.now (tk := s.toks) hm X.sr rfl ht)
 | cons e es ihs =>
   intro hk ρ μ s X ht r' μ' hm Q E P
   rw [AD] at hk
   have h1 := ih e (by lia) X
   have h2 := @ihs (by lia)
   cases op
   ·refine isTrue_and (h1.andThen ht hm P fun b h₁ tk₁ ρ₁ c μ₁ x1 S1 rv ht1 hm1 P1 => ?_)
    subst rv
    induction b with
    | false => exact P1.now (s := { s with heap := h₁, toks := tk₁ }) hm1 S1 rfl ht1
    | true => exact h2 (s := { s with heap := h₁, toks := tk₁ }) (X.le x1 S1) ht1 _ _ hm1 Q E P1
   ·refine isTrue_or (h1.andThen ht hm P fun b h₁ tk₁ ρ₁ c μ₁ x1 S1 rv ht1 hm1 P1 => ?_)
    subst rv
    induction b with
    | true => exact P1.now (s := { s with heap := h₁, toks := tk₁ }) hm1 S1 rfl ht1
    | false => exact h2 (s := { s with heap := h₁, toks := tk₁ }) (X.le x1 S1) ht1 _ _ hm1 Q E P1
theorem K5 (G : GF w hT) (H : j5 w hT r n) (k : Nat) : ∀ (e : Expr), c9 e < k -> YM w hT A l' env σ r n e := by
 induction k with
 | zero => exact fun zz h => absurd h (Au _)
 | succ k ih =>
   intro e hk ρ μ s X
   cases e with
   | UnaryOp op x p =>
     rw [A0] at hk
     have hx := ih x (by lia) X
     induction op with
     | Not =>
       intro ht r' μ' hm Q E P
       refine isTrue_not (hx.andThen ht hm P fun b h₁ tk₁ ρ₁ c μ₁ x1 S1 rv ht1 hm1 P1 => ?_)
       subst rv
       exact P1.now (s := { s with heap := h₁, toks := tk₁ }) hm1 S1 rfl ht1
     | _ => exact Sim.none
   | BoolOp op es p =>
     rw [Aa] at hk
     exact Ka ih es (by lia) X
   | Compare a ops bs p => exact GU H X
   | Call f args kws p => exact Vu G H X
   | Name x p => exact fun ht r' μ' hm Q E P => bc (ki (H A _ env σ ρ μ s _ X) ht hm P)
   | Constant c k p => exact fun ht r' μ' hm Q E P => bc (ki (H A _ env σ ρ μ s _ X) ht hm P)
   | _ => exact Sim.none
theorem fX (G : GF w hT) (H : j5 w hT r n) (e : Expr) : YM w hT A l' env σ r n e := K5 G H _ e (RU _)
end
section
variable {w : Rk} {hT : PO} {A : RE} {l : List Env} {ρ ρ' : List PD} {μ μ₁ μ' : q4} {s : Py} {n : Nat} {env : Env} {outer : List Env} {σ σ' : LE} {h h' : PO} {r : Ev}
theorem Oj {op : UY} {es : List Expr} {pos : Pos} (H : j5 w hT r n) (X : Act w hT A l env σ ρ μ s.heap n) : Sim w hT A (Rv hT) ρ s (eval (.BoolOp op es pos) env) (Fx r σ op es μ) := by
 intro ht r' μ' hm Q E P
 induction op with
 | And => exact no hm
 | Or =>
 refine bK hm fun q hq hm => ?_
 have e := g9 hq
 subst e
 refine wpAny_Or2 ?_
 refine (H A l env σ ρ μ s q.1 X).andThen ht hm P fun a h₁ tk₁ ρ₁ p μ₁ x1 S1 ra ht1 hm1 P1 => ?_
 refine (wm (s := { s with heap := h₁, toks := tk₁ }) S1 ra).andThen ht1 hm1 P1 fun c h₂ tk₂ ρ₂ q' μ₂ x2 S2 rc ht2 hm2 P2 => ?_
 subst rc
 induction c with
 | true => exact P2.now (s := { s with heap := h₂, toks := tk₂ }) hm2 S2 (ra.le S1 x2) ht2
 | false => exact H A l env σ ρ₂ μ₂ { s with heap := h₂, toks := tk₂ } q.2 ((X.le x1 S1).le x2 S2) ht2 _ _ hm2 Q E P2
theorem F1 {t e₁ e₂ : Expr} {pos : Pos} (G : GF w hT) (H : j5 w hT r n) (X : Act w hT A l env σ ρ μ s.heap n) : Sim w hT A (Rv hT) ρ s (eval (.IfExp t e₁ e₂ pos) env) (qa (xh r σ t μ) fun c => if c then r.ev σ e₁ else r.ev σ e₂) := by
 intro ht r' μ' hm Q E P
 refine wpAny_IfExp ?_
 refine (fX G H t X).andThen ht hm P fun a h₁ tk₁ ρ₁ p μ₁ x1 S1 ra ht1 hm1 P1 => ?_
 subst ra
 induction a with
 | true => exact H A l env σ ρ₁ μ₁ { s with heap := h₁, toks := tk₁ } e₁ (X.le x1 S1) ht1 _ _ hm1 Q E P1
 | false => exact H A l env σ ρ₁ μ₁ { s with heap := h₁, toks := tk₁ } e₂ (X.le x1 S1) ht1 _ _ hm1 Q E P1
theorem Ei {v i : Expr} {pos : Pos} (H : j5 w hT r n) (X : Act w hT A l env σ ρ μ s.heap n) (hi : vk i = false) : Sim w hT A (Rv hT) ρ s (eval (.Subscript v i pos) env) (qa (r.ev σ v μ) fun a μ => qa (r.ev σ i μ) fun b => zb a b) := by
 intro ht r' μ' hm Q E P
 refine Subscript_ ?_
 refine (H A l env σ ρ μ s v X).andThen ht hm P fun a h₁ tk₁ ρ₁ p μ₁ x1 S1 ra ht1 hm1 P1 => ?_
 refine (H A l env σ ρ₁ μ₁ { s with heap := h₁, toks := tk₁ } i (X.le x1 S1)).andThen ht1 hm1 P1 fun b h₂ tk₂ ρ₂ q μ₂ x2 S2 rb ht2 hm2 P2 => ?_
 exact Br (s := { s with heap := h₂, toks := tk₂ }) S2 X.rm hi (ra.le S1 x2) rb ht2 _ _ hm2 Q E P2
theorem QP (H : j5 w hT r n) {o : Option Expr} (X : Act w hT A l env σ ρ μ s.heap n) : Sim w hT A (RvO hT) ρ s (evalPart o env) (WC r σ o μ) := by
 intro ht r' μ' hm Q E P
 induction o with
 | none =>
   rw [aF]
   exact wpAny_pure (P.now (tk := s.toks) (a := U0) hm X.sr (rfl : RvO hT ρ s.heap .none none) ht)
 | some e =>
   rw [evalPart_some]
   refine (H A l env σ ρ μ s e X).andThen ht hm P fun a h₁ tk₁ ρ₁ p μ₁ x1 S1 ra ht1 hm1 P1 => ?_
   exact P1.now (s := { s with heap := h₁, toks := tk₁ }) hm1 S1 (show RvO hT ρ₁ h₁ a (some p) from ra) ht1
theorem RvO.le {v : Pu} {o : Option PV} (x : RvO hT ρ h v o) (S : SR w hT ρ μ h) (y : Le [] ρ h ρ' h') : RvO hT ρ' h' v o := by
 induction o with
 | none => exact x
 | some p => exact Rv.le (w := w) (μ := μ) x S y
theorem BR {v : Expr} {lo hi : Option Expr} {p pos : Pos} (H : j5 w hT r n) (X : Act w hT A l env σ ρ μ s.heap n) : Sim w hT A (Rv hT) ρ s (eval (.Subscript v (.Slice lo hi none p) pos) env) (YG r σ v lo hi none μ) := by
 intro ht r' μ' hm Q E P
 refine Subscript_ ?_
 refine (H A l env σ ρ μ s v X).andThen ht hm P fun a h₁ tk₁ ρ₁ pa μ₁ x1 S1 ra ht1 hm1 P1 => ?_
 refine wpAny_Slice ?_
 have X1 := X.le x1 S1
 refine (QP (s := { s with heap := h₁, toks := tk₁ }) H X1).andThen ht1 hm1 P1 fun vl h₂ tk₂ ρ₂ pl μ₂ x2 S2 rl ht2 hm2 P2 => ?_
 have X2 := X1.le x2 S2
 refine (QP (s := { s with heap := h₂, toks := tk₂ }) H X2).andThen ht2 hm2 P2 fun vu h₃ tk₃ ρ₃ pu μ₃ x3 S3 ru ht3 hm3 P3 => ?_
 rw [aF]
 refine wpAny_pure ?_
 have hk := qg h₃ { cls := .type "slice", data := .fields #[vl, vu, .none] }
 have x4 : Le [] ρ₃ h₃ ρ₃ (h₃.push { cls := .type "slice", data := .fields #[vl, vu, .none] }) := Le.of_keeps hk
 have S4 := S3.keeps hk
 exact VQ (s := { s with heap := h₃.push { cls := .type "slice", data := .fields #[vl, vu, .none] }, toks := tk₃ }) S4 (((ra.le S1 x2).le S2 x3).le S3 x4) ((rl.le S2 x3).le S3 x4) (ru.le S3 x4) (aU ..) ht3 _ _ hm3 Q E (P3.le (s := { s with heap := h₃, toks := tk₃ }) (tk := tk₃) x4)
theorem Z8 {v i : Expr} {pos : Pos} (H : j5 w hT r n) (X : Act w hT A l env σ ρ μ s.heap n) : Sim w hT A (Rv hT) ρ s (eval (.Subscript v i pos) env) (LN r σ v i μ) := by
 cases i with
 | Slice lo hi st p =>
   induction st with
   | none => exact BR H X
   | some st => exact Sim.none
 | _ => exact Ei H X rfl
end
theorem BX (w : Rk) : bu (KK w) (.ref 187) "__getattribute__" = some (some (.builtin "object.__getattribute__")) := by kernel_rfl
theorem Fd (w : Rk) : bu (KK w) (.ref 187) "__getattr__" = some none := by kernel_rfl
theorem yD (w : Rk) : (vm.all fun p => bu (KK w) (.ref 187) p.1 == some (some (.ref p.2)) && typeIn (KK w) (.ref p.2) == some (.type "function") && keepIn (KK w) (.ref p.2) && (yX w p.2).isSome) = true := by kernel_rfl
theorem Lh (w : Rk) : (fns.all fun p => nsIn (KK w) mainGlobals p.1 == some (some (.ref p.2)) && keepIn (KK w) (.ref p.2) && (yX w p.2).isSome) = true := by kernel_rfl
section
variable {w : Rk} {hT : PO} {A : RE} {l : List Env} {ρ ρ' : List PD} {μ μ₁ μ' : q4} {s : Py} {n : Nat} {env : Env} {outer : List Env} {σ σ' : LE} {h h' : PO} {r : Ev}
theorem GF.kin (G : GF w hT) (S : SR w hT ρ μ h) : (KK w).In h := G.1.keeps S.top
theorem XT {es : List DictEntry} {kvs : List (Str × Pu)} (k : Str) (P : Pairs (PN prog w) es kvs) : (es.find? fun e => e.key.isStr k).map (·.val) = b8 kvs k /\ es.any (·.refKey) = false := by
 refine ⟨?_, ?_⟩
 ·rw [<- P.find k]
  congr 2
  funext e
  show e.key.isStr k = Tn k e.key
  cases e.key <;> rfl
 ·induction P with
  | nil => rfl
  | @cons e kv es kvs h1 _ _ ih =>
    rw [TR, ih, A1]
    obtain ⟨t, ht⟩ := TM (show Tn kv.1 e.key = true from h1)
    unfold DictEntry.refKey
    rw [ht]
theorem xM {x : PD} {kvs : List (Str × Pu)} (D : h.DictOf (PN prog w) x kvs) (k : Str) : ∃ o, h.get? x = some o /\ lookIn k o = some (b8 kvs k) := by
 obtain ⟨o, es, ep, ho, hx, hd, _, hp, _⟩ := D
 refine ⟨o, ho, ?_⟩
 obtain ⟨h1, h2⟩ := XT k hp
 unfold lookIn
 rw [hd]
 simp only
 cases hq : es.toList.find? (fun e => e.key.isStr k) with
 | none => rw [hq] at h1; rw [h2, <- h1]; rfl
 | some e => rw [hq] at h1; rw [<- h1]; rfl
theorem vg {l : Loc} {kvs : List (Str × Pu)} {k : Str} (r : RvD hT ρ h kvs l) (e : (l.all fun kv => !(kv.1 == k)) = true) : b8 kvs k = none := by
 unfold b8
 rw [Option.map_eq_none_iff, List.find?_eq_none]
 intro kv hm
 have hk := r.keys
 have : kv.1 ∈ l.map (·.1) := hk ▸ RS hm
 obtain ⟨q, hq, hqe⟩ := Ri.mp this
 have := PS.mp e q hq
 simp only [decide_eq_true_eq]
 intro hh
 rw [<- hqe] at hh
 rw [hh] at this
 simp at this
theorem SR.instAt (S : SR w hT ρ μ h) {m d : Nat} {a : PD} {l : Loc} (hn : ρ[m]? = some a) (hc : zZ μ m = some d) (hl : qe μ d = some l) :
 ∃ x kvs, ρ[d]? = some x /\ h.get? a = some (Uz 187 x) /\ h.DictOf (PN prog w) x kvs /\ RvD hT ρ h kvs l := by
 obtain ⟨x, hx, ho⟩ := S.cells m a _ hn (vt hc)
 obtain ⟨kvs, hd, hr⟩ := S.dictAt hx hl
 exact ⟨x, kvs, hx, ho, hd, hr⟩
theorem w7 {x a : PD} {o : Obj} (ha : h.get? a = some (Uz 187 x)) (ho : h.get? x = some o) : InstAt h a (Uz 187 x) 187 (some o) := ⟨ha, rfl, rfl, ho⟩
theorem w3 {m d : Nat} {a f : PD} {name : Str} {pl : Sem Bool} {Q : Pu × List Pu -> Py -> Prop} {E : Pu -> Py -> Prop} (G : GF w hT) (S : SR w hT ρ μ s.heap) (hn : ρ[m]? = some a) (hc : zZ μ m = some d) (hok : ql μ d name = true)
 (hf : vm.lookup name = some f) (h : Q (.ref f, [.ref a]) s) : PP (MM w) A (getMethod (.ref a) name pl) Q E s := by
 obtain ⟨dl, hdl, hall⟩ := y3 hok
 obtain ⟨x, kvs, hx, ha, hd, hr⟩ := S.instAt hn hc hdl
 obtain ⟨o, ho, hlk⟩ := xM hd name
 have hm := PS.mp (yD w) _ (mem_of_lookup hf)
 simp only [Rl, beq_iff_eq] at hm
 refine method_fn (G.kin S) (w7 ha ho) (BX w) (Fd w) hm.1.1.1 hm.1.1.2 ?_ h
 show (lookIn name o).map (·.isSome) = some false
 rw [hlk, vg hr hall]
 rfl
set_option tactic.hygienic true in
theorem QL {a : PD} (h : (yX w a).isSome = true) : ∃ c d fd sl, (KK w).lookup a = some ⟨c, d, .func fd, sl⟩ := by
 obtain ⟨fd, e0⟩ := Se.mp h
 unfold yX at e0
 split at e0
 ·rename_i c d fd sl e; exact ⟨c, d, fd, sl, e⟩
 ·exact no e0
theorem qO {M : U8} {f : Pu} {args : List (Bool × Sem Pu)} {Q : Args -> Py -> Prop} {E : Pu -> Py -> Prop} (hp : args.all (!·.1) = true)
 (h : PP M A (Am args) (fun vs s' => Q ⟨vs, []⟩ s') E s) : PP M A (Uo f true args []) Q E s := by
 induction args using PC with
 | nil =>
   unfold Uo
   show PP M A (Am [] >>= _) Q E s
   refine wpAny_bind (RG h (fun vs s' h' => ?_) fun zz zz x => x)
   refine wpAny_holding ?_
   exact wpAny_bind (wpAny_pure (wpAny_bind (wpAny_pure (wpAny_pure h'))))
 | cons a rest =>
   obtain ⟨b, x⟩ := a
   induction b with
   | false => exact AP h
   | true => cases hp
theorem qI {pos : Pos} {args : List Expr} (h : args.all (!qf ·) = true) : (Tc pos (Sr args env)).all (!·.1) = true := by
 rw [q9 h]
 simp
theorem kG {pos : Pos} {f : PD} {first : List Pu} {args : List (Bool × Sem Pu)} {keywords : List (Option Str × Sem Pu)} {Q : Pu -> Py -> Prop} {E : Pu -> Py -> Prop} (hf : (yX w f).isSome = true)
 (h : PP (MM w) A (Uo (.ref f) true args keywords) (fun x s₁ => (KK w).In s₁.heap /\ PP (MM w) A (call (.ref f) (first ++ x.pos) x.kw) Q E s₁) E s) :
 PP (MM w) A (Ti pos (.ref f) first args keywords) Q E s := by
 obtain ⟨c, d, fd, sl, e⟩ := QL hf
 refine callWith_function_kw (o := ⟨c, d, .func fd, sl⟩) (fd := fd) (RG h (fun x s₁ q => ⟨⟨q.1 _ _ e, rfl⟩, q.2⟩) fun zz zz x => x)
theorem vD {pos : Pos} {f : PD} {first : List Pu} {ps0 : List PV} {args : List Expr} (G : GF w hT) (H : j5 w hT r n) (HC : jR w hT r n) (X : Act w hT A l env σ ρ μ s.heap n) (hf : (yX w f).isSome = true) (hs : args.all (!qf ·) = true)
 (r0 : RvL hT ρ s.heap first ps0) : Sim w hT A (Rv hT) ρ s (Ti pos (.ref f) first (Tc pos (Sr args env)) []) (qa (evL r σ args μ) fun vs => r.call f (ps0 ++ vs) []) := by
 intro ht r' μ' hm Q E P
 refine kG hf (qO (qI hs) ?_)
 rw [q9 hs]
 refine (x9 H args X).andThen ht hm P fun vs h₁ tk₁ ρ₁ ps μ₁ x1 S1 rvs ht1 hm1 P1 => ?_
 exact ⟨G.kin S1, (HC A l ρ₁ μ₁ { s with heap := h₁, toks := tk₁ } f _ _ [] [] S1 (X.sk.le x1) X.rm ((r0.le X.sr x1).append rvs) .nil).sim ht1 _ _ hm1 Q E P1⟩
theorem kO {pos kp : Pos} {f : PD} {first : List Pu} {ps0 : List PV} {args : List Expr} {k : Str} {e : Expr} (G : GF w hT) (H : j5 w hT r n) (HC : jR w hT r n) (X : Act w hT A l env σ ρ μ s.heap n) (hf : (yX w f).isSome = true) (hs : args.all (!qf ·) = true)
 (r0 : RvL hT ρ s.heap first ps0) : Sim w hT A (Rv hT) ρ s (Ti pos (.ref f) first (Tc pos (Sr args env)) (Tu pos (SA [⟨some k, e, kp⟩] env))) (qa (evL r σ args μ) fun vs μ => qa (r.ev σ e μ) fun v => r.call f (ps0 ++ vs) [(k, v)]) := by
 intro ht r' μ' hm Q E P
 refine kG hf ?_
 have main : ∀ (Q' : Args -> Py -> Prop) (E' : Pu -> Py -> Prop), PP (MM w) A (Am (Tc pos (Sr args env))) (fun vs s₁ => PP (MM w) A (evalAll ((Tu pos (SA [⟨some k, e, kp⟩] env)).map (·.2))) (fun ks s₂ => Q' ⟨vs, [k].zip ks⟩ s₂) E' s₁) E' s ->
  PP (MM w) A (Uo (.ref f) true (Tc pos (Sr args env)) (Tu pos (SA [⟨some k, e, kp⟩] env))) Q' E' s := by
  intro Q' E' h
  induction args using PC with
  | nil =>
    unfold Uo
    show PP _ _ (Am [] >>= _) Q' E' s
    refine wpAny_bind (RG h (fun vs s' h' => ?_) fun zz zz x => x)
    refine wpAny_bind (wpAny_pure ?_)
    refine wpAny_holding ?_
    rw [if_pos (show (Tu pos (SA [⟨some k, e, kp⟩] env)).all (·.1.isSome) = true from rfl)]
    refine wpAny_bind (RG h' (fun ks s₂ h₂ => ?_) fun zz zz x => x)
    exact wpAny_bind (wpAny_pure (wpAny_pure h₂))
  | cons a rest =>
    have he : Tc pos (Sr (a :: rest) env) = (false, eval a env) :: rest.map fun e => (false, eval e env) := by rw [q9 hs]; rfl
    rw [he] at h ⊢
    exact evalArgs_kw rfl h
 refine main _ _ ?_
 rw [q9 hs]
 refine (x9 H args X).andThen ht hm P fun vs h₁ tk₁ ρ₁ ps μ₁ x1 S1 rvs ht1 hm1 P1 => ?_
 refine kwAll_cons ?_
 refine (H A l env σ ρ₁ μ₁ { s with heap := h₁, toks := tk₁ } e (X.le x1 S1)).andThen ht1 hm1 P1 fun v h₂ tk₂ ρ₂ p μ₂ x2 S2 rv ht2 hm2 P2 => ?_
 refine kwAll_nil ?_
 exact ⟨G.kin S2, (HC A l ρ₂ μ₂ { s with heap := h₂, toks := tk₂ } f _ _ [(k, v)] [(k, p)] S2 ((X.sk.le x1).le x2) X.rm (((r0.le X.sr x1).le S1 x2).append (rvs.le S1 x2)) (.cons rv .nil)).sim ht2 _ _ hm2 Q E P2⟩
theorem ya {M : U8} {o : Expr} {name : Str} {apos pos : Pos} {args : List Expr} {kws : List SD} {Q : Pu -> Py -> Prop} {E : Pu -> Py -> Prop} (hb : qT o = true)
 (h : PP M A (eval o env) (fun ov s₁ => PP M A (Tv o name apos pos env ov (args.length + kws.length) (Tc pos (Sr args env)) (Tu pos (SA kws env))) Q E s₁) E s) :
 PP M A (eval (.Call (.Attribute o name apos) args kws pos) env) Q E s := by
 rw [arm_eval_Call, wF hb]
 exact wpAny_bind (RG h (fun ov s₁ h₁ => wpAny_bind (wpAny_standAt h₁)) fun zz zz e => e)
theorem qY {M : U8} {o : Expr} {name : Str} {apos pos : Pos} {ov : Pu} {k : Nat} {args : List (Bool × Sem Pu)} {kws : List (Option Str × Sem Pu)} {Q : Pu -> Py -> Prop} {E : Pu -> Py -> Prop}
 (hform : T4 k args kws = true) (hline : (apos.endLine == pos.line) = true)
 (h : ∀ pl, PP M A (getMethod ov name pl) (fun fp s₁ => PP M A (Ti pos fp.1 fp.2 args kws) Q E s₁) E s) : PP M A (Tv o name apos pos env ov k args kws) Q E s := by
 have hpos : methodCallPos true o env apos pos = pure pos := by unfold methodCallPos; simp [hline]
 unfold Tv
 rw [hform]
 refine wpAny_bind (wpAny_holding (RG (h _) (fun fp s₁ h₁ => ?_) fun zz zz e => e))
 exact wpAny_bind (UV hpos h₁)
theorem yF {args : List Expr} {pos : Pos} (hs : args.all (!qf ·) = true) (hl : args.length < 10) : T4 (args.length + ([] : List SD).length) (Tc pos (Sr args env)) (Tu pos (SA [] env)) = true := by
 have e := qI (env := env) (pos := pos) hs
 unfold T4
 rw [e]
 show (true && true && decide (args.length + 0 + 0 < 30)) = true
 simp; omega
theorem DK {args : List Expr} {pos kp : Pos} {k : Str} {e : Expr} (hs : args.all (!qf ·) = true) (hl : args.length < 10) : T4 (args.length + [(⟨some k, e, kp⟩ : SD)].length) (Tc pos (Sr args env)) (Tu pos (SA [⟨some k, e, kp⟩] env)) = true := by
 have e' := qI (env := env) (pos := pos) hs
 unfold T4
 rw [e']
 show (true && true && decide (args.length + 1 + 1 < 30)) = true
 simp; omega
theorem yj {M : U8} {name : Str} {id : String} {ov : Pu} {pl : Sem Bool} {Q : Pu × List Pu -> Py -> Prop} {E : Pu -> Py -> Prop} (hm : Q9 s ov name id) (h : Q (.builtin id, [ov]) s) : PP M A (getMethod ov name pl) Q E s := by
 obtain ⟨T, pa, slot, hty, hT, hd⟩ := hm
 exact getMethod_builtin hT pa slot hty hd h
theorem Xk {pos : Pos} {id : String} {ov : Pu} {p : PV} {args : List Expr} {f : List PV -> PM PV} (H : j5 w hT r n) (X : Act w hT A l env σ ρ μ s.heap n) (hs : args.all (!qf ·) = true) (ro : Rv hT ρ s.heap ov p)
 (hf : ∀ ρ₁ μ₁ s₁ vs ps, SR w hT ρ₁ μ₁ s₁.heap -> Le [] ρ s.heap ρ₁ s₁.heap -> Rv hT ρ₁ s₁.heap ov p -> RvL hT ρ₁ s₁.heap vs ps -> Sim w hT A (Rv hT) ρ₁ s₁ (call (.builtin id) (ov :: vs)) (f ps μ₁)) :
 Sim w hT A (Rv hT) ρ s (Ti pos (.builtin id) [ov] (Tc pos (Sr args env)) []) (qa (evL r σ args μ) f) := by
 intro ht r' μ' hm Q E P
 have hany : (Tc pos (Sr args env)).any (·.1) = false := by rw [q9 hs]; simp
 refine callWith_builtin hany (qO (qI hs) ?_)
 rw [q9 hs]
 refine (x9 H args X).andThen ht hm P fun vs h₁ tk₁ ρ₁ ps μ₁ x1 S1 rvs ht1 hm1 P1 => ?_
 exact hf ρ₁ μ₁ { s with heap := h₁, toks := tk₁ } vs ps S1 x1 (ro.le X.sr x1) rvs ht1 _ _ hm1 Q E P1
theorem CL (w : Rk) : (vm.all fun p => specialIn (KK w) (.ref p.2) "__get__" == some (some (.builtin "function.__get__")) && takesIn (KK w) (.ref p.2) == some false && !(copiedNames.contains p.1)) = true := by kernel_rfl
theorem B1 (w : Rk) : ((clsIn (KK w) 187).any fun cd => cd.hasDict) = true := by kernel_rfl
theorem Z5 {x f : PD} {name : Str} {o : Obj} (hf : vm.lookup name = some f) (hl : lookIn name o = some none) : findObj (KK w) 187 (some o) name = some (.bind (.builtin "function.__get__") (.ref f)) := by
 have hm := PS.mp (yD w) _ (mem_of_lookup hf)
 simp only [Rl, beq_iff_eq] at hm
 have hs := PS.mp (CL w) _ (mem_of_lookup hf)
 simp only [Rl, beq_iff_eq, S8] at hs
 obtain ⟨cd, hc, hd⟩ := y3 (B1 w)
 unfold findObj
 rw [hc, PK, hm.1.1.1, PK]
 simp only [hs.1.1, PK, hs.1.2]
 have ho : W.ownOf cd (some o) name = some none := by unfold W.ownOf; rw [if_pos hd]; exact hl
 simp only [ho, PK, hs.2, c6, R7, if_false]
theorem JC {m d : Nat} {a f : PD} {name : Str} {expr : Bool} {Q : Pu -> Py -> Prop} {E : Pu -> Py -> Prop} (G : GF w hT) (S : SR w hT ρ μ s.heap) (hn : ρ[m]? = some a) (hc : zZ μ m = some d) (hok : ql μ d name = true)
 (hf : vm.lookup name = some f) (h : Q (.ref s.heap.objs.size) { s with heap := s.heap.push (methodObj (.ref f) (.ref a)), toks := s.toks + 1 }) : PP (MM w) A (getAttr (.ref a) name expr) Q E s := by
 obtain ⟨dl, hdl, hall⟩ := y3 hok
 obtain ⟨x, kvs, hx, ha, hd, hr⟩ := S.instAt hn hc hdl
 obtain ⟨o, ho, hlk⟩ := xM hd name
 rw [vg hr hall] at hlk
 have hm := PS.mp (yD w) _ (mem_of_lookup hf)
 simp only [Rl, beq_iff_eq] at hm
 refine get_bind (G.kin S) (w7 ha ho) (BX w) (Z5 (x := x) hf hlk) (Fd w) (Ak ?_)
 exact fn_get (s := { s with toks := s.toks + 1 }) (G.kin S) hm.1.1.2 (by show PP _ _ (handedOut _) _ _ _; rw [handedOut_of rfl]; exact wpAny_pure h)
theorem Ji {p : PD} {f self : Pu} {pos : List Pu} {kw : List (Str × Pu)} {sl : Array (Option Pu)} {R : Result -> Py -> Prop} (ho : s.heap.get? p = some { methodObj f self with slots := sl })
 (h : TB (MM w) A (.call f ⟨self :: pos, kw⟩) R s) : TB (MM w) A (.call (.ref p) ⟨pos, kw⟩) R s := by
 obtain ⟨hh, g, dr, t, os⟩ := s
 refine Av ?_
 show PP _ _ (callAny (.ref p) _) _ _ _
 dsimp only at ho
 refine nd_load ho ?_
 cases f <;> exact wpAny_pure ⟨rfl, h⟩
theorem Qe {M : U8} {f : Pu} {args : List (Bool × Sem Pu)} {x : Sem Pu} {Q : Args -> Py -> Prop} {E : Pu -> Py -> Prop} (hp : args.all (!·.1) = true)
 (h : PP M A (Am args) (fun vs s₁ => PP M A (AU f [(none, x)]) (fun d s₂ => PP M A (cc f d) (fun kw s₃ => Q ⟨vs, kw⟩ s₃) E s₂) E s₁) E s) : PP M A (Uo f true args [(none, x)]) Q E s := by
 have hall : ([(none, x)] : List (Option Str × Sem Pu)).all (·.1.isSome) = false := rfl
 induction args using PC with
 | nil =>
   unfold Uo
   show PP M A (Am [] >>= _) Q E s
   refine wpAny_bind (RG h (fun vs s₁ h₁ => ?_) fun zz zz x => x)
   refine wpAny_bind (wpAny_pure ?_)
   refine wpAny_holding ?_
   simp only [hall, R7, if_false]
   refine wpAny_bind (RG h₁ (fun d s₂ h₂ => ?_) fun zz zz x => x)
   exact wpAny_bind (wpAny_pure (wpAny_bind (wpAny_holding (RG h₂ (fun kw s₃ h₃ => wpAny_pure h₃) fun zz zz x => x))))
 | cons a rest =>
   obtain ⟨b, y⟩ := a
   induction b with
   | false =>
     unfold Uo
     show PP M A (Am ((false, y) :: rest) >>= _) Q E s
     refine wpAny_bind (RG h (fun vs s₁ h₁ => ?_) fun zz zz x => x)
     refine wpAny_bind (wpAny_pure ?_)
     refine wpAny_holding ?_
     simp only [hall, R7, if_false]
     refine wpAny_bind (RG h₁ (fun d s₂ h₂ => ?_) fun zz zz x => x)
     exact wpAny_bind (wpAny_pure (wpAny_bind (wpAny_holding (RG h₂ (fun kw s₃ h₃ => wpAny_pure h₃) fun zz zz x => x))))
   | true => cases hp
theorem yJ {d : PD} {k : Str} {v : Pu} (D : h.DictOf (PN prog w) d [(k, v)]) : ∃ t c, h.get? d = some { cls := .type "dict", data := .dict #[⟨hashStr w k, .str k t, v⟩] c } := by
 obtain ⟨o, es, ep, ho, hx, hd, hk, hp, _⟩ := D
 obtain ⟨c, dd, dat, sl⟩ := o
 obtain ⟨h1, h2, h3⟩ := hx
 simp only at h1 h2 h3 hd
 subst h1 h2 h3 hd
 induction hq : es.toList using PC with
 | nil => rw [hq] at hp; cases hp
 | cons e r =>
   rw [hq] at hp
   cases hp with | cons a b c' =>
   cases c'
   obtain ⟨t, ht⟩ := TM (show Tn k e.key = true from a)
   obtain ⟨k', hk1, hk2⟩ := hk e (Array.mem_def.mpr (by rw [hq]; exact .head _))
   have : k' = k := Pu.isStrOf_inj _ _ _ hk1 a
   subst this
   refine ⟨t, ep, ?_⟩
   obtain ⟨hh, kk, vv⟩ := e
   simp only at ht b hk2
   subst ht b hk2
   have : es = #[⟨hashStr w k', .str k' t, vv⟩] := by
    apply UE
    rw [hq]; rfl
   rw [ho, this]
theorem yE {d : PD} (D : h.DictOf (PN prog w) d []) : ∃ c, h.get? d = some { cls := .type "dict", data := .dict #[] c } := by
 obtain ⟨o, es, ep, ho, hx, hd, hk, hp, _⟩ := D
 obtain ⟨c, dd, dat, sl⟩ := o
 obtain ⟨h1, h2, h3⟩ := hx
 simp only at h1 h2 h3 hd
 subst h1 h2 h3 hd
 induction hq : es.toList using PC with
 | nil =>
   refine ⟨ep, ?_⟩
   have : es = #[] := by apply UE; rw [hq]
   rw [ho, this]
 | cons e r => rw [hq] at hp; cases hp
theorem Yv {d m : PD} {k : Str} {u : Pu} {Q : Unit -> Py -> Prop} {E : Pu -> Py -> Prop} (hdm : m ≠ d) (hms : (m == SZ) = false) (D : s.heap.DictOf (PN prog w) d []) (D' : s.heap.DictOf (PN prog w) m [(k, u)])
 (h : ∀ h', h'.DictOf (PN prog w) d [(k, u)] -> RK d s.heap h' -> Q () { s with heap := h' }) : PP (MM w) A (mergeMapping d (.ref m) true) Q E s := by
 obtain ⟨t, c, ho⟩ := yJ D'
 obtain ⟨cd, hod⟩ := yE D
 unfold mergeMapping
 have hT : s.TypeIs (.ref m) "dict" := ⟨_, ho, rfl⟩
 refine wpAny_bind (wpAny_isInstance (T := "dict") (b := true) hT isSubtype_dict_dict ?_)
 simp only [if_true]
 refine wpAny_bind (TW (T := "dict") hT F.slot_dict_iter.lookup ?_)
 simp only [beq_self_eq_true, bv, hms, R7, if_false]
 refine wpAny_bind (Tq hod rfl ?_)
 rw [if_pos (by rfl)]
 refine wpAny_bind (Tq ho rfl ?_)
 simp only [aW, SI, T5, bv]
 refine wpAny_bind (Tq ho rfl ?_)
 refine wpAny_bind (wpAny_dictEpoch ho rfl ?_)
 show PP _ _ (ba [0] _ _ >>= _) _ _ _
 rw [SI]
 have hkey : (PN prog w).is k (.str k t) = true := j8 k t
 have hkeys : KeysOf (PN prog w) #[] := fun e he => by simp at he
 refine wpAny_bind (wpAny_bind (wpAny_bind (Tq ho rfl ?_)))
 show PP _ _ (do
  holding [cn k t, u] (do
   let r <- dictFind d (.str k t) (hashStr w k)
   if r.isSome = true then (do
    rule "dict.merge.duplicate-key"
    let x <- newExc (ce "KeyError") [cn k t]
    raiseNew x
    dictPut d (hashStr w k) (.str k t) u)
   else dictPut d (hashStr w k) (.str k t) u)
  let x <- dictEpoch m
  if (x != c) = true then (do
   unsupported "dict.changed-during-merge"
   pure (SH Uh))
  else pure (SH Uh)) _ _ _
 refine wpAny_bind (wpAny_holding (wpAny_bind (wpAny_dictFind_of (knd := PN prog w) (k := k) hkey hod rfl hkeys ?_)))
 have hfi : (Array.findIdx? (fun e : DictEntry => (PN prog w).is k e.key) #[]) = none := by simp
 rw [hfi, if_neg (by simp)]
 unfold dictPut
 refine wpAny_bind (wpAny_dictFind_of (knd := PN prog w) (k := k) hkey hod rfl hkeys ?_)
 rw [hfi]
 refine wpAny_updateDictKeys hod rfl ?_ (by show 0 <= Pr; exact Rj _)
 have hs' : RK d s.heap (s.heap.update d (Obj.mapDictKeys (·.push ⟨hashStr w k, .str k t, u⟩))) := TH ..
 refine wpAny_bind (wpAny_dictEpoch ((hs'.2 m hdm).trans ho) rfl ?_)
 rw [if_neg (by simp)]
 refine wpAny_pure ?_
 refine wpAny_pure (wpAny_pure ?_)
 refine h _ (fm (t := t) (c := cd + 1) ?_) hs'
 exact SO _ hod rfl
theorem ZN {f : Pu} {x : Sem Pu} {Q : PD -> Py -> Prop} {E : Pu -> Py -> Prop} (h : PP (MM w) A x (fun v s₁ => ∃ m k u, v = .ref m /\ m ≠ s.heap.objs.size /\ (m == SZ) = false /\ s₁.heap.DictOf (PN prog w) s.heap.objs.size [] /\ s₁.heap.DictOf (PN prog w) m [(k, u)] /\
 ∀ h', h'.DictOf (PN prog w) s.heap.objs.size [(k, u)] -> RK s.heap.objs.size s₁.heap h' -> Q s.heap.objs.size { s₁ with heap := h' })
 E { s with heap := s.heap.push { cls := .type "dict", data := .dict #[] } }) : PP (MM w) A (AU f [(none, x)]) Q E s := by
 unfold AU
 refine wpAny_bind (AT ?_)
 refine wpAny_bind (wpAny_holding ?_)
 show PP _ _ (ba [((none : Option Str), x)] ([] : List (Str × Sem Pu)) _ >>= _) _ _ _
 rw [SI]
 refine wpAny_bind (wpAny_bind (wpAny_bind (wpAny_pure (wpAny_bind (RG h (fun v s₁ h₁ => ?_) fun zz zz e => e)))))
 obtain ⟨m, k, u, rfl, h1, h2, D, D', hq⟩ := h₁
 refine wpAny_bind (aG (wpAny_holding (wpAny_tryCatch (aG (Yv h1 h2 D D' fun h' d' sb => ?_)))))
 refine wpAny_pure ?_
 show PP _ _ (ba [] _ _) _ _ _
 rw [T5]
 exact wpAny_pure (wpAny_pure (wpAny_pure (hq h' d' sb)))
theorem fY {f : Pu} {d : PD} {k : Str} {u : Pu} {Q : List (Str × Pu) -> Py -> Prop} {E : Pu -> Py -> Prop} (D : s.heap.DictOf (PN prog w) d [(k, u)]) (h : Q [(k, u)] s) : PP (MM w) A (cc f d) Q E s := by
 obtain ⟨t, c, ho⟩ := yJ D
 unfold cc
 refine wpAny_bind (Tq ho rfl ?_)
 rw [aW, SI]
 refine wpAny_bind (wpAny_bind (wpAny_pure ?_))
 show PP _ _ (ba [] _ _) _ _ _
 rw [T5]
 exact wpAny_pure (wpAny_pure h)
theorem fH {pos : Pos} {q f : PD} {self : Pu} {args : List (Bool × Sem Pu)} {x : Sem Pu} {Q : Pu -> Py -> Prop} {E : Pu -> Py -> Prop} (hf : (yX w f).isSome = true)
 (h : PP (MM w) A (Uo (.ref q) true args [(none, x)]) (fun y s₁ => (KK w).In s₁.heap /\ (∃ sl, s₁.heap.get? q = some { methodObj (.ref f) self with slots := sl }) /\
   TB (MM w) A (.call (.ref f) ⟨self :: y.pos, y.kw⟩) (fun r s' => match r with | .ok (.ret v) => Q v s' | .ok _ => False | .error e => E e s') s₁) E s) :
 PP (MM w) A (Ti pos (.ref q) [] args [(none, x)]) Q E s := by
 obtain ⟨c, d, fd, sl0, e⟩ := QL hf
 unfold Ti
 refine wpAny_bind (wpAny_holding (RG h (fun y s₁ h₁ => wpAny_bind (wpAny_standAt ?_)) fun zz zz x => x))
 obtain ⟨hk, ⟨sl, hq⟩, hc⟩ := h₁
 have hany : (args.any (·.1) || ([(none, x)] : List (Option Str × Sem Pu)).any (·.1.isNone)) = true := by simp
 simp only [hany]
 have hkeep : PP (MM w) A (keeperOf (.ref q)) (fun k s' => k = .boundFrame /\ s' = s₁) E s₁ := by
  unfold keeperOf
  refine wpAny_bind (c8 hq ?_)
  show PP _ _ (if (ce "method" != ce "method") = true then _ else _) _ _ _
  rw [if_neg (by simp)]
  show PP _ _ (load f >>= _) _ _ _
  exact wpAny_bind (c8 (hk _ _ e) (wpAny_pure ⟨rfl, rfl⟩))
 refine wpAny_bind (RG hkeep (fun k s' z => ?_) fun zz zz x => x)
 obtain ⟨rfl, rfl⟩ := z
 dsimp only
 refine wpAny_bind (wpAny_operating (Ak (Ji hq (codeAny_mono hc fun r s' z => ?_))))
 rcases r with e' | (v | _ | _ | _) <;> first | exact z | exact z.elim | skip
 exact wpAny_bind (wpAny_holding (wpAny_point (wpAny_pure z)))
theorem kL {o : Expr} {name : Str} {apos pos : Pos} {ov : Pu} {k : Nat} {args : List (Bool × Sem Pu)} {x : Sem Pu} {Q : Pu -> Py -> Prop} {E : Pu -> Py -> Prop}
 (h : PP (MM w) A (getAttr ov name true) (fun f s₁ => PP (MM w) A (Ti pos f [] args [(none, x)]) Q E s₁) E s) : PP (MM w) A (Tv o name apos pos env ov k args [(none, x)]) Q E s := by
 have hform : T4 k args [(none, x)] = false := by unfold T4; simp
 unfold Tv
 rw [hform]
 refine wpAny_bind (wpAny_holding ?_)
 show PP _ _ (getAttr ov name true >>= _) _ _ _
 refine wpAny_bind (RG h (fun f s₁ h₁ => wpAny_pure ?_) fun zz zz e => e)
 exact wpAny_bind (wpAny_pure h₁)
theorem GJ {G : Prop} {f d0 : PD} {n0 : Nat} {vs : List PV} {dv : PV} {v : Pu} {q : Except Exn PV × q4} (hm : fO r f vs n0 dv μ = some q) (S : SR w hT ρ μ h) (rv : Rv hT ρ h v dv) (hnd : ρ[n0]? = some d0)
 (k : ∀ b x uv u, v = .ref b -> b ≠ d0 -> (b == SZ) = false -> h.DictOf (PN prog w) d0 [] -> h.DictOf (PN prog w) b [(x, uv)] -> (∀ h', h'.DictOf (PN prog w) d0 [(x, uv)] -> RK d0 h h' -> SR w hT ρ (qj μ n0 (.dict [(x, u)])) h' /\ Rv hT ρ h' uv u /\ Le [] ρ h ρ h') ->
   r.call f vs [(x, u)] (qj μ n0 (.dict [(x, u)])) = some q -> G) : G := by
 obtain ⟨m', hm', hm⟩ := bnd hm
 obtain ⟨hne, hm⟩ := ifF hm
 obtain ⟨l1, hd1, hm⟩ := bnd hm
 obtain ⟨l2, hd2, hm⟩ := bnd hm
 obtain ⟨hl1, hm⟩ := ifT hm
 obtain ⟨kv, hkv, hm⟩ := bnd hm
 obtain ⟨b, e, hn2⟩ := rv.lI hm'
 have e1 := Rf.mp hl1
 have e2 := jN hkv
 subst e1 e2
 obtain ⟨kv1, D1, r1⟩ := S.dictAt hnd hd1
 obtain ⟨kv2, D2, r2⟩ := S.dictAt hn2 hd2
 cases r1
 cases r2 with | @cons x uv u _ _ ru rn =>
 cases rn
 have hdρ : d0 ∈ ρ := Rr hnd
 refine k b x uv u e (fun q => hne (vW S.nodup (q ▸ hn2) hnd)) (beq_eq_false_iff_ne.mpr (RZ (S.low.2 b (Rr hn2)))) D1 D2 (fun h' D' sb => ?_) hm
 have ru3 := ru.mono (ρ' := ρ) ⟨[], (PQ _).symm⟩ (S.kvSet hdρ sb)
 exact ⟨S.set hnd sb ⟨_, D', .cons ru3 .nil⟩, ru3, Le.set hdρ sb (let ⟨_, _, _, hob, _⟩ := D'; ⟨_, hob⟩)⟩
theorem F3 {o : Expr} {name : Str} {apos pos kp : Pos} {m d : Nat} {a f : PD} {args : List Expr} {e : Expr} (G : GF w hT) (H : j5 w hT r n) (HC : jR w hT r n) (X : Act w hT A l env σ ρ μ s.heap n) (hs : args.all (!qf ·) = true)
 (hn : ρ[m]? = some a) (hc : zZ μ m = some d) (hok : ql μ d name = true) (hf : vm.lookup name = some f) :
 Sim w hT A (Rv hT) ρ s (Tv o name apos pos env (.ref a) (args.length + 1) (Tc pos (Sr args env)) (Tu pos (SA [⟨none, e, kp⟩] env))) (qa (evL r σ args μ) fun vs μ => qa (r.ev σ e (μ ++ [.dict []])) fun dv => fO r f (.loc m :: vs) μ.length dv) := by
 intro ht r' μ' hm Q E P
 have hm0 := PS.mp (yD w) _ (mem_of_lookup hf)
 simp only [Rl, beq_iff_eq] at hm0
 have hfd := hm0.2
 refine kL (x := do let v <- eval e env; standAt pos; pure v) ?_
 refine JC G X.sr hn hc hok hf ?_
 have hk0 := qg s.heap (methodObj (.ref f) (.ref a))
 have x0 : Le [] ρ s.heap ρ (s.heap.push (methodObj (.ref f) (.ref a))) := Le.of_keeps hk0
 have S0 := X.sr.keeps hk0
 have X0 := X.le x0 S0
 have hq0 : (s.heap.push (methodObj (.ref f) (.ref a))).get? s.heap.objs.size = some (methodObj (.ref f) (.ref a)) := Rg _ rfl
 have hqρ : s.heap.objs.size ∉ ρ := fun q => absurd (X.sr.lt q) (Sq _)
 refine fH (self := .ref a) hfd (Qe (qI hs) ?_)
 rw [q9 hs]
 refine (x9 (s := { s with heap := s.heap.push (methodObj (.ref f) (.ref a)), toks := s.toks + 1 }) H args X0).andThen (by show 1 <= s.toks + 1; lia) hm (P.le (tk := s.toks + 1) x0) fun vs h₁ tk₁ ρ₁ ps μ₁ x1 S1 rvs ht1 hm1 P1 => ?_
 have X1 := X0.le x1 S1
 obtain ⟨sl1, hq1⟩ := x1.kp _ _ hq0 hqρ (by simp)
 have hqρ1 := x1.out hq0 hqρ
 refine ZN ?_
 have S1c : SR w hT (ρ₁ ++ [h₁.objs.size]) (μ₁ ++ [.dict []]) (h₁.push SF) := S1.cell ⟨[], y6 (c := 0) (Rg _ rfl), .nil⟩
 have x1c : Le [] ρ₁ h₁ (ρ₁ ++ [h₁.objs.size]) (h₁.push SF) := Le.cell _
 have X1c := X1.le x1c S1c
 have hq1c : (h₁.push SF).get? s.heap.objs.size = _ := qg _ _ _ _ hq1
 have hqρ1c := x1c.out hq1 hqρ1
 show PP (MM w) A (do let v <- eval e env; standAt pos; pure v) _ _ _
 refine wpAny_bind ((H A l env σ _ _ { s with heap := h₁.push SF, toks := tk₁ } e X1c).andThen ht1 hm1 (P1.le (tk := tk₁) x1c) fun v h₂ tk₂ ρ₂ p μ₂ x2 S2 rv ht2 hm2 P2 => wpAny_bind (wpAny_standAt (wpAny_pure ?_)))
 exact GJ hm2 S2 rv (jo x2.pre (jH S1)) fun b x uv u e hbd hs D1 D2 hh hm3 => ⟨b, x, uv, e, hbd, hs, D1, D2, fun h' D' sb => fY D' (by
  have q := hh h' D' sb
  have hqd : s.heap.objs.size ≠ h₁.objs.size := fun q => x2.out hq1c hqρ1c (q ▸ Rr (jo x2.pre (jH S1)))
  obtain ⟨sl2, hq2⟩ := x2.kp _ _ hq1c hqρ1c (fun h => nomatch h)
  exact ⟨G.kin q.1, ⟨_, (sb.2 _ hqd).trans hq2⟩, HC A l ρ₂ _ { s with heap := h', toks := tk₂ } f (.ref a :: vs) (.loc m :: ps) [(x, uv)] [(x, u)] q.1 ((X1c.sk.le x2).le q.2.2) X.rm (.cons (.loc (jo x2.pre (jo x1c.pre (jo x1.pre hn)))) (((rvs.le S1 x1c).le S1c x2).le S2 q.2.2)) (.cons q.2.1 .nil) ht2 _ _ hm3 Q E (P2.le (tk := tk₂) q.2.2)⟩)⟩
theorem Wu {o : Expr} {name : Str} {apos pos : Pos} {args : List Expr} {p : PV} {v : Pu} {id : String} (H : j5 w hT r n) (X : Act w hT A l env σ ρ μ s.heap n) (g2 : (apos.endLine == pos.line) = true) (g3 : args.all (!qf ·) = true) (g4 : args.length < 10) (ra : Rv hT ρ s.heap v p) (hk : Q9 s v name id)
 (hf : ∀ ρ₁ μ₁ s₁ vs ps, SR w hT ρ₁ μ₁ s₁.heap -> Le [] ρ s.heap ρ₁ s₁.heap -> Rv hT ρ₁ s₁.heap v p -> RvL hT ρ₁ s₁.heap vs ps -> Sim w hT A (Rv hT) ρ₁ s₁ (call (.builtin id) (v :: vs)) (j0 p name ps μ₁)) :
 Sim w hT A (Rv hT) ρ s (Tv o name apos pos env v (args.length + ([] : List SD).length) (Tc pos (Sr args env)) (Tu pos (SA [] env))) (qa (evL r σ args μ) fun vs => j0 p name vs) :=
 fun ht r' μ' hm Q E P => qY (yF g3 g4) g2 fun zz => yj hk (Xk H X g3 ra hf ht _ _ hm Q E P)
theorem GZ {o : Expr} {name : Str} {apos pos : Pos} {args : List Expr} {p : PV} {v : Pu} (H : j5 w hT r n) (X : Act w hT A l env σ ρ μ s.heap n) (g2 : (apos.endLine == pos.line) = true) (g3 : args.all (!qf ·) = true) (g4 : args.length < 10) (ra : Rv hT ρ s.heap v p) (hk : (Z2 p name).isSome = true) :
 Sim w hT A (Rv hT) ρ s (Tv o name apos pos env v (args.length + ([] : List SD).length) (Tc pos (Sr args env)) (Tu pos (SA [] env))) (Wd r σ p name args μ) := by
 obtain ⟨id, hid⟩ := Se.mp hk
 unfold Z2 at hid
 induction hp : qx p with
 | some x =>
   rw [hp] at hid
   obtain ⟨t, e, hx⟩ := ra.sI hp
   have ep := kg hp
   subst e ep
   have gen := Wu (o := o) H X g2 g3 g4 ra (wx hid) (fun ρ₂ μ₂ s₂ vs ps S2 x2 rv2 rvs => Qo hx S2 rvs hid)
   show Sim w hT A (Rv hT) ρ s _ (match jq args with
    | some cs => if cs.isEmpty then j0 (.str x) name [] μ else jV x name cs μ
    | none => qa (evL r σ args μ) fun vs => j0 (.str x) name vs)
   induction hcs : jq args with
   | none => exact gen
   | some cs =>
     induction cs using PC with
     | nil => cases vb hcs; exact gen
     | cons c cs => exact fun ht r' μ' hm Q E P => qY (yF g3 g4) g2 fun zz => yj (wx hid) (Yd hx X.sr hcs hid ht _ _ hm Q E P)
 | none =>
   rw [hp] at hid
   obtain ⟨m, hm, hid⟩ := bnd hid
   obtain ⟨a, e, hn⟩ := ra.lI hm
   have ep := jI hm
   subst e ep
   intro ht r' μ' hmm Q E P
   obtain ⟨ll, hl, hmm⟩ := bnd (o := q5 μ m) hmm
   obtain ⟨_, vs, hpl, _⟩ := X.sr.listAt hn hl
   exact Wu H X g2 g3 g4 ra (yL hpl hid) (fun ρ₂ μ₂ s₂ vs ps S2 x2 rv2 rvs => gC (jo x2.pre hn) S2 rvs hid) ht _ _ hmm Q E P
theorem G3 {o : Expr} {name : Str} {apos pos : Pos} {args : List Expr} {kws : List SD} (G : GF w hT) (H : j5 w hT r n) (HC : jR w hT r n) (X : Act w hT A l env σ ρ μ s.heap n) :
 Sim w hT A (Rv hT) ρ s (eval (.Call (.Attribute o name apos) args kws pos) env) (Jz r σ o name apos pos args kws μ) := by
 intro ht r' μ' hm Q E P
 refine iT hm fun hg hm => ?_
 have g4 := an hg
 have g3 := an g4.1
 have g2 := an g3.1
 refine ya g2.1 ?_
 refine (H A l env σ ρ μ s o X).andThen ht hm P fun a h₁ tk₁ ρ₁ p μ₁ x1 S1 ra ht1 hm1 P1 => ?_
 have X1 := X.le x1 S1
 induction hi : qv μ₁ p with
 | none =>
   rw [hi] at hm1
   refine iT hm1 fun hk hm2 => ?_
   clear hm1
   have e := Rf.mp (an hk).1
   subst e
   exact GZ (s := { s with heap := h₁, toks := tk₁ }) H X1 g2.2 g3.2 (of_decide_eq_true g4.2) ra (an hk).2 ht1 _ _ hm2 Q E P1
 | some d =>
   rw [hi] at hm1
   obtain ⟨m, hl, hc⟩ := bnd hi
   obtain ⟨b, e, hn⟩ := ra.lI hl
   have ep := jI hl
   subst e ep
   refine iT hm1 fun hok hm1 => bK hm1 fun f hf hm1 => ?_
   have hm0 := (an (PS.mp (yD w) _ (mem_of_lookup hf))).2
   have g := of_decide_eq_true g4.2
   induction kws using PC with
   | nil => exact qY (yF g3.2 g) g2.2 fun pl => w3 (s := { s with heap := h₁, toks := tk₁ }) G S1 hn hc hok hf (vD (s := { s with heap := h₁, toks := tk₁ }) (ps0 := [.loc m]) G H HC X1 hm0 g3.2 (.cons (.loc hn) .nil) ht1 _ _ hm1 Q E P1)
   | cons kw kws =>
     refine iB hm1 fun hks hm1 => ?_
     induction kws using PC with
     | cons _ _ => exact noB hks.symm
     | nil =>
       obtain ⟨arg, e, kp⟩ := kw
       induction arg with
       | some k => exact qY (DK g3.2 g) g2.2 fun pl => w3 (s := { s with heap := h₁, toks := tk₁ }) G S1 hn hc hok hf (kO (s := { s with heap := h₁, toks := tk₁ }) (ps0 := [.loc m]) G H HC X1 hm0 g3.2 (.cons (.loc hn) .nil) ht1 _ _ hm1 Q E P1)
       | none => exact F3 (s := { s with heap := h₁, toks := tk₁ }) G H HC X1 g3.2 hn hc hok hf ht1 _ _ hm1 Q E P1
theorem ZE {out x y : Str} (h : VA out x = some y) : y = out ++ x /\ y.length <= Pr := by
 obtain ⟨h1, h2⟩ := ifT h
 have h2 := qk h2
 subst h2
 exact ⟨rfl, by rw [strLen_append]; exact h1⟩
theorem Bg (H : j5 w hT r n) (es : List Expr) : ∀ (acc : Str) (ρ : List PD) (μ : q4) (s : Py), Act w hT A l env σ ρ μ s.heap n -> 1 <= s.toks -> acc.length <= Pr -> ∀ r' μ', zR r σ acc es μ = some (r', μ') -> ∀ (Q : Pu -> Py -> Prop) (E : Pu -> Py -> Prop), xI w hT (Rv hT) ρ s r' μ' Q E ->
 Joins (MM w) A E (evalEach es env) acc (fun out s₁ => out.length <= Pr /\ Q (.str out s₁.toks) { s₁ with toks := s₁.toks + 1 }) s := by
 induction es with
 | nil =>
   intro acc ρ μ s X ht ha r' μ' hm Q E P
   have hm := wf (show yx acc μ = _ from hm)
   exact ⟨hm.1, P.now (tk := s.toks + 1) (b := .str acc) (μ := μ) (show pret (PV.str acc) μ = _ from hm.2) X.sr (.str _ _ hm.1) (Rb (Rj _))⟩
 | cons e es ih =>
   intro acc ρ μ s X ht ha r' μ' hm Q E P
   rw [zR.eq_2] at hm
   induction hc : QZ e with
   | some x =>
     rw [hc] at hm
     obtain ⟨k, p, e1⟩ := Qz hc
     subst e1
     obtain ⟨y, hy, hm1⟩ := bnd hm
     obtain ⟨e2, hl⟩ := ZE hy
     subst e2
     show PP (MM w) A (eval (.Constant (.str x) k p) env) _ E s
     exact Sj ⟨x, _, rfl, hl, ih (acc ++ x) ρ μ { s with toks := s.toks + 1 } X (Rb (Rj _)) hl r' μ' hm1 Q E (P.le (tk := s.toks + 1) (Le.refl _ _ _))⟩
   | none =>
     rw [hc] at hm
     obtain ⟨v, hv, hm1⟩ := bnd hm
     obtain ⟨p, e1⟩ := Vq hv
     clear hm hc hv
     subst e1
     show PP (MM w) A (eval (.FormattedValue v 115 none p) env) _ E s
     refine wpAny_FormattedValue_s ?_
     refine (H A l env σ ρ μ s v X).andThen ht hm1 P fun a h₁ tk₁ ρ₁ q μ₁ x1 S1 ra ht1 hm1 P1 => ?_
     obtain ⟨x, hx, hm2⟩ := bnd hm1
     obtain ⟨y, hy, hm3⟩ := bnd hm2
     obtain ⟨e2, hl⟩ := ZE hy
     obtain ⟨t, e3, hxl⟩ := ra.sI hx
     clear hm1 hm2
     subst e2 e3
     have fin : ∀ t' tk, 1 <= tk -> ∃ y u, cn x t' = .str y u /\ (acc ++ y).length <= Pr /\ Joins (MM w) A E (evalEach es env) (acc ++ y) (fun out s₁ => out.length <= Pr /\ Q (.str out s₁.toks) { s₁ with toks := s₁.toks + 1 }) { s with heap := h₁, toks := tk } := fun t' tk htk =>
      ⟨x, t', rfl, hl, ih (acc ++ x) ρ₁ μ₁ { s with heap := h₁, toks := tk } (X.le x1 S1) htk hl r' μ' hm3 Q E (P1.le (tk := tk) (Le.refl _ _ _))⟩
     show PP (MM w) A (habitSame _ (.str x t)) _ E _
     have one : ∀ t' tk, 1 <= tk -> PP (MM w) A (formatField (.str x t') PE) (fun v s₁ => ∃ y u, v = .str y u /\ (acc ++ y).length <= Pr /\ Joins (MM w) A E (evalEach es env) (acc ++ y) (fun out s₁ => out.length <= Pr /\ Q (.str out s₁.toks) { s₁ with toks := s₁.toks + 1 }) s₁) E { s with heap := h₁, toks := tk } := fun t' tk htk =>
      wpAny_formatField_str (s := { s with heap := h₁, toks := tk }) (fin t' tk htk) (fin tk (tk + 1) (Ru htk)) hxl
     exact wpAny_habitSame_str (s := { s with heap := h₁, toks := tk₁ }) (one t tk₁ ht1) (one tk₁ (tk₁ + 1) (Ru ht1)) hxl
theorem Kt {es : List Expr} {pos : Pos} (H : j5 w hT r n) (X : Act w hT A l env σ ρ μ s.heap n) (h2 : 2 <= es.length) : Sim w hT A (Rv hT) ρ s (eval (.JoinedStr es pos) env) (zR r σ PE es μ) := by
 intro ht r' μ' hm Q E P
 induction es using PC with
 | nil => exact absurd h2 (by decide)
 | cons a es => induction es using PC with
   | nil => exact absurd h2 (show ¬ 2 <= 1 by decide)
   | cons b es => exact wpAny_JoinedStr (Bg H (a :: b :: es) PE ρ μ s X ht (Rj _) r' μ' hm Q E P)
end
section
open PySem.Builtin
set_option maxHeartbeats 4000000 in
theorem EA {x y : Str} {tx ty t : Tok} {b : PD} (hx : x.length <= 1000000) (hy : y.length <= 1000000) :
 Meets («str.__mod__» ⟨[.str ⟨#[37, 115, 58, 32, 37, 115]⟩ t, .ref b], []⟩) (fun zz R s => IsTup s.heap b #[.str x tx, .str y ty] /\ ∀ t' k, R (.ok (.ret (.str ((x ++ ⟨#[58, 32]⟩) ++ y) t'))) { s with toks := k }) := by
 kpt_run
section
variable {w : Rk} {hT : PO} {A : RE} {l : List Env} {ρ ρ' : List PD} {μ μ₁ μ' : q4} {s : Py} {n : Nat} {env : Env} {outer : List Env} {σ σ' : LE} {h h' : PO} {r : Ev}
theorem Ot {h : PO} {vs : List Pu} {p q : PV} {x y : Str} (r : RvL hT ρ h vs [p, q]) (hp : qx p = some x) (hq : qx q = some y) : ∃ t u, vs = [.str x t, .str y u] := by
 cases r with | cons r1 r2 =>
 cases r2 with | cons r2 r3 =>
 cases r3
 obtain ⟨t, rfl, _⟩ := r1.sI hp
 obtain ⟨u, rfl, _⟩ := r2.sI hq
 exact ⟨t, u, rfl⟩
theorem Od : Ho w hT := by
 intro A ρ μ s x t v p S rv hx
 refine Sim.of0 fun r μ' hm Q E P => ?_
 obtain ⟨l, hl, hm⟩ := bnd hm
 obtain ⟨q, hq, hm⟩ := bnd hm
 obtain ⟨y, hy, hm⟩ := bnd hm
 obtain ⟨z, hz, hm⟩ := bnd hm
 obtain ⟨hg, hm⟩ := ifT hm
 obtain ⟨h1, hm⟩ := wf hm
 obtain ⟨a, vs, rfl, ht, hl⟩ := rv.tI hl
 rw [g9 hq] at hl
 obtain ⟨t1, t2, rfl⟩ := Ot hl hy hz
 rw [qb (an (an hg).1).1]
 have hT : s.TypeIs (.ref a) "tuple" := let ⟨o, ho, hc, _⟩ := ht; ⟨o, ho, hc⟩
 exact KPt.bin_left (T := "str") (U := "tuple") (op := .Mod) (by decide) (Sw s _ t) hT F.fills_str_mod KPt.fills_tuple F.slot_str_mod
  (T1 F.slot_str_mod (Sw s _ t) F.entry_str_mod (F.args_str_mod_2 _ _) (EA (x := y) (y := z) (tx := t1) (ty := t2) (of_decide_eq_true (an (an hg).1).2) (of_decide_eq_true (an hg).2)) ⟨ht, fun t' k => ⟨(fun e => nomatch e), P.pret hm S (.str _ _ h1)⟩⟩)
end
end
section
variable {w : Rk} {hT : PO} {A : RE} {l : List Env} {ρ ρ' : List PD} {μ μ₁ μ' : q4} {s : Py} {n : Nat} {env : Env} {outer : List Env} {σ σ' : LE} {h h' : PO} {r : Ev}
abbrev H3 (w : Rk) (hT : PO) : List PD -> PO -> List (Pu × Pu) -> Loc -> Prop := fun ρ' h' a b => a.length = b.length /\ ∃ kvs, Carries (PN prog w) a kvs /\ RvD hT ρ' h' kvs b
theorem Kg (H : j5 w hT r n) (pos : Pos) (ks : List (Option Expr)) : ∀ (vs : List Expr) {ρ : List PD} {μ : q4} {s : Py}, ks.length = vs.length -> Act w hT A l env σ ρ μ s.heap n ->
 Sim w hT A (H3 w hT) ρ s (evalPairs (pairTrees ks vs env pos)) (gi r σ ks vs μ) := by
 induction ks with
 | nil =>
   intro vs ρ μ s hl X ht r' μ' hm Q E P
   induction vs using PC with
   | cons _ _ => exact no hm
   | nil => exact pairTrees_nil_walk (P.now (tk := s.toks) (a := []) (μ := μ) (show pret [] μ = _ from hm) X.sr ⟨rfl, [], trivial, .nil⟩ ht)
 | cons k ks ih =>
   intro vs ρ μ s hl X ht r' μ' hm Q E P
   induction k with
   | none => exact no hm
   | some k =>
   induction vs using PC with
   | nil => exact no hm
   | cons v vs =>
   refine pairTrees_cons_walk ?_
   refine (H A l env σ ρ μ s k X).andThen ht hm P fun kv h₁ tk₁ ρ₁ p μ₁ x1 S1 rk ht1 hm1 P1 => ?_
   refine (H A l env σ ρ₁ μ₁ { s with heap := h₁, toks := tk₁ } v (X.le x1 S1)).andThen ht1 hm1 P1 fun vv h₂ tk₂ ρ₂ q μ₂ x2 S2 rv ht2 hm2 P2 => ?_
   refine (ih vs (s := { s with heap := h₂, toks := tk₂ }) (Nat.succ.inj hl) ((X.le x1 S1).le x2 S2)).andThen ht2 hm2 P2 fun us h₃ tk₃ ρ₃ l3 μ₃ x3 S3 ru ht3 hm3 P3 => ?_
   have rv3 := rv.le S2 x3
   refine bK hm3 fun x hx hm3 => ?_
   obtain ⟨t, e, _⟩ := ((rk.le S1 x2).le S2 x3).sI hx
   exact (P3.of hm3).ok ((kv, vv) :: us) h₃ tk₃ ρ₃ ((x, q) :: l3) rfl (Le.refl _ _ _) S3 ⟨congrArg (· + 1) ru.1, ru.2.elim fun kvs q => ⟨(x, vv) :: kvs, ⟨by rw [e]; exact j8 x t, rfl, q.1⟩, .cons rv3 q.2⟩⟩ ht3
theorem BS {a : List (Pu × Pu)} {b : Loc} {d0 : PD} {n0 : Nat} {q : Except Exn PV × q4} (S : SR w hT ρ μ h) (hn : ρ[n0]? = some d0) (ra : H3 w hT ρ h a b)
 (hm : (if (b.map (·.1)).Nodup /\ (qe μ n0).any (·.isEmpty) = true then some ((.ok (.loc n0) : Except Exn PV), qj μ n0 (.dict b)) else none) = some q) :
 ∃ kvs, Carries (PN prog w) a kvs /\ h.DictOf (PN prog w) d0 [] /\ ∀ h', h'.DictOf (PN prog w) d0 (merged [] kvs) -> RK d0 h h' -> SR w hT ρ (qj μ n0 (.dict b)) h' /\ Le [] ρ h ρ h' := by
 obtain ⟨⟨hnd, hemp⟩, _⟩ := ifT hm
 obtain ⟨e1, kvs, e2, e3⟩ := ra
 obtain ⟨dl, hdl, hemp⟩ := y3 hemp
 have e := Rf.mp hemp
 subst e
 obtain ⟨kv1, D1, r1⟩ := S.dictAt hn hdl
 cases r1
 refine ⟨kvs, e2, D1, fun h' D' sb => ?_⟩
 rw [merged_nil_of_nodup kvs (by rw [e3.keys]; exact hnd)] at D'
 have hdρ : d0 ∈ ρ := Rr hn
 exact ⟨S.set hn sb ⟨kvs, D', e3.mono ⟨[], (PQ _).symm⟩ (S.kvSet hdρ sb)⟩, Le.set hdρ sb (let ⟨_, _, _, hob, _⟩ := D'; ⟨_, hob⟩)⟩
theorem wb {μ : q4} {c c' : q8} : qj (μ ++ [c]) μ.length c' = μ ++ [c'] := by unfold qj; simp
theorem Dh {ks : List (Option Expr)} {vs : List Expr} {pos : Pos} (H : j5 w hT r n) (X : Act w hT A l env σ ρ μ s.heap n) : Sim w hT A (Rv hT) ρ s (eval (.Dict ks vs pos) env) (FZ r σ ks vs μ) := by
 intro ht r' μ' hm Q E P
 obtain ⟨g, hm1⟩ := ifT hm
 have Sc : SR w hT (ρ ++ [s.heap.objs.size]) (μ ++ [.dict []]) (s.heap.push SF) := X.sr.cell ⟨[], y6 (c := 0) (Rg _ rfl), .nil⟩
 have xc : Le [] ρ s.heap (ρ ++ [s.heap.objs.size]) (s.heap.push SF) := Le.cell _
 induction ks using PC with
 | nil =>
   induction vs using PC with
   | cons _ _ => exact absurd g.2.1 (fun e => nomatch e)
   | nil =>
     obtain ⟨_, hm2⟩ := ifT (show (if (([] : Loc).map (·.1)).Nodup /\ (qe (μ ++ [.dict []]) μ.length).any (·.isEmpty) = true then some ((.ok (.loc μ.length) : Except Exn PV), qj (μ ++ [.dict []]) μ.length (.dict [])) else none) = some (r', μ') from hm1)
     rw [wb] at hm2
     exact wpAny_Dict_empty ((P.of hm2).ok _ _ s.toks _ _ rfl xc Sc (.loc (jH X.sr)) ht)
 | cons k ks =>
   refine wpAny_Dict_walk (knd := PN prog w) g.2.2 g.2.1 (fun e => nomatch e) (by have := g.1; lia) ?_
   refine (Kg H pos (k :: ks) vs (s := { s with heap := s.heap.push SF }) g.2.1 (X.le xc Sc)).andThen ht hm1 (P.le (tk := s.toks) xc) fun a h₁ tk₁ ρ₁ b μ₁ x1 S1 ra ht1 hm2 P1 => ?_
   have hn := jo x1.pre (jH (a := s.heap.objs.size) X.sr)
   exact (BS S1 hn ra hm2).elim fun kvs z => ⟨kvs, z.1, z.2.1, fun h' D' sb => (P1.of (ifT hm2).2).ok _ h' (tk₁ + a.length) ρ₁ _ rfl (z.2.2 h' D' sb).2 (z.2.2 h' D' sb).1 (.loc hn) (Nat.le_add_right_of_le ht1)⟩
theorem Lv (w : Rk) : bu (KK w) (.ref 187) "_headers" = some none := by kernel_rfl
end
theorem Om (w : Rk) : ([("__contains__", 121), ("__setitem__", 102), ("__delitem__", 107), ("__str__", 163), ("__init__", 81)] : List (Str × PD)).all (fun p => bu (KK w) (.ref 187) p.1 == some (some (.ref p.2)) && isFn (KK w) (.ref p.2)) = true := by kernel_rfl
theorem Xu (w : Rk) : noSeq (KK w) 187 = true := by kernel_rfl
theorem yR {w : Rk} {nm : Str} {f : PD} (h : (nm, f) ∈ ([("__contains__", 121), ("__setitem__", 102), ("__delitem__", 107), ("__str__", 163), ("__init__", 81)] : List (Str × PD))) : bu (KK w) (.ref 187) nm = some (some (.ref f)) /\ isFn (KK w) (.ref f) = true := by
 have := PS.mp (Om w) _ h
 simpa only [Rl, beq_iff_eq] using this
section
variable {w : Rk} {hT : PO} {A : RE} {l : List Env} {ρ ρ' : List PD} {μ μ₁ μ' : q4} {s : Py} {n : Nat} {env : Env} {outer : List Env} {σ σ' : LE} {h h' : PO} {r : Ev}
theorem SR.inst0 (S : SR w hT ρ μ h) {m d : Nat} {a : PD} (hn : ρ[m]? = some a) (hc : zZ μ m = some d) : ∃ ox od, InstAt h a ox 187 od := by
 obtain ⟨x, hx, ho⟩ := S.cells m a _ hn (vt hc)
 obtain ⟨o, hob, _⟩ := S.data (Rr hx)
 exact ⟨_, some o, ho, rfl, rfl, hob⟩
theorem Qs {M : U8} {a : PD} {ox : Obj} {od : Option Obj} {v : Pu} {Q : Bool -> Py -> Prop} {E : Pu -> Py -> Prop} (X : (KK w).In s.heap) (I : InstAt s.heap a ox 187 od)
 (h : PP M A (call (.ref 121) [.ref a, v]) (fun r s' => PP M A (bm r) Q E s') E s) : PP M A (contains (.ref a) v) Q E s := by
 obtain ⟨hs, hf⟩ := yR (w := w) (nm := "__contains__") (f := 121) (by decide)
 unfold contains
 refine wpAny_holding (wpAny_bind (wpAny_bind (I.type.here ((looks_findIn X hs).here ?_))))
 rw [if_neg (by simp)]
 exact wpAny_bind (unlessNone_K X I hs hf h)
theorem JK {M : U8} {a : PD} {ox : Obj} {od : Option Obj} {i v : Pu} {Q : Unit -> Py -> Prop} {E : Pu -> Py -> Prop} (X : (KK w).In s.heap) (I : InstAt s.heap a ox 187 od)
 (h : PP M A (call (.ref 102) [.ref a, i, v]) (fun zz s' => Q () s') E s) : PP M A (bf (.ref a) i v) Q E s := by
 obtain ⟨hs, hf⟩ := yR (w := w) (nm := "__setitem__") (f := 102) (by decide)
 unfold bf sequenceKey
 refine wpAny_holding (wpAny_bind (wpAny_bind (I.type.here ?_)))
 refine wpAny_bind ((anyM_none X (Xu w)).here ?_)
 rw [if_pos (show (!false) = true from rfl)]
 exact wpAny_pure (wpAny_bind (special_fn X I hs (beq_iff_eq.mp hf) (RG h (fun zz zz z => wpAny_pure z) fun zz zz z => z)))
theorem VH {v : Pu} {p : PV} (r : Rv hT ρ h v p) (hp : Wb p = false) : handedIn v = true := by
 cases r <;> first | rfl | cases hp
theorem Kl {a : PD} {m d : Nat} {dl : Loc} {p : PV} {expr : Bool} {Q : Pu -> Py -> Prop} {E : Pu -> Py -> Prop} (G : GF w hT) (S : SR w hT ρ μ s.heap) (hn : ρ[m]? = some a) (hc : zZ μ m = some d) (hdl : qe μ d = some dl) (hp : x8 dl "_headers" = some p) (hv : Wb p = false)
 (k : ∀ v, Rv hT ρ s.heap v p -> Q v { s with toks := s.toks + 1 }) : PP (MM w) A (getAttr (.ref a) "_headers" expr) Q E s := by
 obtain ⟨x, kvs, hx, ha, hd, hr⟩ := S.instAt hn hc hdl
 obtain ⟨ob, ho, hlk⟩ := xM hd ("_headers" : Str)
 obtain ⟨v, hv1, hv2⟩ := fi hr hp
 exact get_value (G.kin S) (w7 ha ho) (BX w) (findObj_own (B1 w) (Lv w) rfl (hlk.trans (by rw [hv1]))) (VH hv2 hv) (k v hv2)
theorem Ck {o : Expr} {name : Str} {pos : Pos} (G : GF w hT) (H : j5 w hT r n) (X : Act w hT A l env σ ρ μ s.heap n) : Sim w hT A (Rv hT) ρ s (eval (.Attribute o name pos) env) (FS r σ o name μ) := by
 intro ht r' μ' hm Q E P
 obtain ⟨hg, hm1⟩ := ifT hm
 clear hm
 have e := qb (an hg).2
 have g1 := (an hg).1
 clear hg
 subst e
 refine Attribute_any_ ?_ (by rw [arm_eval_Attribute, wF g1])
 refine (H A l env σ ρ μ s o X).andThen ht hm1 P fun a h₁ tk₁ ρ₁ p μ₁ x1 S1 ra ht1 hm2 P1 => ?_
 refine bK hm2 fun d hd hm3 => bK hm3 fun dl hdl hm4 => bK hm4 fun q hq hm5 => iB hm5 fun hv hm6 => ?_
 obtain ⟨m, h1, h2⟩ := bnd hd
 obtain ⟨b, e, hn⟩ := ra.lI h1
 subst e
 exact Kl (s := { s with heap := h₁, toks := tk₁ }) G S1 hn h2 hdl hq hv fun v rv => (P1.of hm6).ok v h₁ (tk₁ + 1) ρ₁ q rfl (Le.refl _ _ _) S1 rv (Ru ht1)
theorem Fy {op : Uv} {a b : Pu} {p q : PV} (G : GF w hT) (HC : jR w hT r n) (X : Act w hT A l env σ ρ μ s.heap n) (ra : Rv hT ρ s.heap a p) (rb : Rv hT ρ s.heap b q) : Sim w hT A (Rv hT) ρ s (compareOp op a b) (Wa r op p q μ) := by
 intro ht r' μ' hm Q E P
 unfold Wa at hm
 induction hg : (if (C8 op && zy p) = true then qv μ q else none) with
 | none => rw [hg] at hm; exact WP X.sr X.rm ra rb ht _ _ hm Q E P
 | some d =>
   rw [hg] at hm
   obtain ⟨g1, g2⟩ := ifT hg
   have hop : op = .In := by cases op <;> first | rfl | exact noB (an g1).1
   obtain ⟨m, h1, hc⟩ := bnd g2
   obtain ⟨y, e, hn⟩ := rb.lI h1
   have ep := jI h1
   clear hg g1 g2 h1
   subst e ep hop
   obtain ⟨ox, od, I⟩ := X.sr.inst0 hn hc
   refine wpAny_bind (Qs (w := w) (G.kin X.sr) I ?_)
   refine (HC A l ρ μ s 121 [_, a] [_, p] [] [] X.sr X.sk X.rm (.cons (.loc hn) (.cons ra .nil)) .nil).sim.andThen ht hm P fun c h₃ tk₃ ρ₃ t μ₃ x3 S3 rc ht3 hm3 P3 => ?_
   refine (wm (s := { s with heap := h₃, toks := tk₃ }) S3 rc).andThen ht3 hm3 P3 fun b h₄ tk₄ ρ₄ c μ₄ x4 S4 rv ht4 hm4 P4 => wpAny_pure ?_
   exact rv ▸ P4.now (s := { s with heap := h₄, toks := tk₄ }) hm4 S4 (.bool _) ht4
theorem Yx {e₁ : Expr} {ops : List Uv} {xs : List Expr} {pos : Pos} (G : GF w hT) (H : j5 w hT r n) (HC : jR w hT r n) (X : Act w hT A l env σ ρ μ s.heap n) : Sim w hT A (Rv hT) ρ s (eval (.Compare e₁ ops xs pos) env) (LP r σ e₁ ops xs μ) := by
 intro ht r' μ' hm Q E P
 induction ops using PC with
 | nil => exact no hm
 | cons op ops =>
 induction ops using PC with
 | cons _ _ => exact no hm
 | nil =>
 induction xs using PC with
 | nil => exact no hm
 | cons x xs =>
 induction xs using PC with
 | cons _ _ => exact no hm
 | nil =>
 refine iB hm fun hs hm => wpAny_Compare1 ?_ (kj hs)
 refine (H A l env σ ρ μ s e₁ X).andThen ht hm P fun a h₁ tk₁ ρ₁ p μ₁ x1 S1 ra ht1 hm1 P1 => ?_
 refine (H A l env σ ρ₁ μ₁ { s with heap := h₁, toks := tk₁ } x (X.le x1 S1)).andThen ht1 hm1 P1 fun b h₂ tk₂ ρ₂ q μ₂ x2 S2 rb ht2 hm2 P2 => ?_
 exact Fy (s := { s with heap := h₂, toks := tk₂ }) G HC ((X.le x1 S1).le x2 S2) (ra.le S1 x2) rb ht2 _ _ hm2 Q E P2
end
theorem IB : (fns.all fun p => !(p.1 == ("__debug__" : Str))) = true := by decide
section
variable {w : Rk} {hT : PO} {A : RE} {l : List Env} {ρ ρ' : List PD} {μ μ₁ μ' : q4} {s : Py} {n : Nat} {env : Env} {outer : List Env} {σ σ' : LE} {h h' : PO} {r : Ev}
theorem jZ {M : U8} {f : Str} {fp pos : Pos} {args : List Expr} {Q : Pu -> Py -> Prop} {E : Pu -> Py -> Prop} (h : PP M A (eval (.Name f fp) env) (fun v s₁ => PP M A (Ti pos v [] (Tc pos (Sr args env)) []) Q E s₁) E s) :
 PP M A (eval (.Call (.Name f fp) args [] pos) env) Q E s := by
 show PP M A (do Ti pos (<- eval (.Name f fp) env) [] (Tc pos (Sr args env)) (Tu pos (SA [] env))) Q E s
 exact wpAny_bind h
theorem RvL.one {vs : List Pu} {ps : List PV} {p : PV} (r : RvL hT ρ h vs ps) (e : Mine.one ps = some p) : ∃ v, vs = [v] /\ Rv hT ρ h v p := by
 have e := jN e
 subst e
 cases r with | cons a r => cases r; exact ⟨_, rfl, a⟩
theorem fw {o : Expr} {apos pos : Pos} {d : PD} {kvs : List (Str × Pu)} {Q : Pu -> Py -> Prop} {E : Pu -> Py -> Prop} (D : s.heap.DictOf (PN prog w) d kvs) (hd : (d == SZ) = false) (hline : (apos.endLine == pos.line) = true)
 (h : Q (.ref s.heap.objs.size) { s with heap := s.heap.push { cls := .type "dict_items", data := .fields #[.ref d] } }) :
 PP (MM w) A (Tv o "items" apos pos env (.ref d) (([] : List Expr).length + ([] : List SD).length) (Tc pos (Sr [] env)) (Tu pos (SA [] env))) Q E s := by
 refine qY (yF (args := []) rfl (by simp)) hline fun pl => ?_
 refine getMethod_builtin D.typeIs PySem.F.plainAttrs_dict Ab PySem.F.type_dict_items D.mapOf.noDict ?_
 refine callWith_builtin rfl (evalArgs_nil3 ?_)
 exact call_meetsIn Ab D.typeIs PySem.F.entry_dict_items (PySem.F.args_dict_items_1 _) (meets_dict_items (PN prog w) d hd) ⟨⟨kvs, D⟩, h⟩
theorem Qv {o : Expr} {apos pos : Pos} {β : Type} {rel : List PD -> PO -> Pu -> β -> Prop} {r' : Except Exn β} {Q : Pu -> Py -> Prop} {Q₀ : Pu -> Py -> Prop} {E : Pu -> Py -> Prop} {g : PV -> PM β} (H : j5 w hT r n) (X : Act w hT A l env σ ρ μ s.heap n) (hb : qT o = true) (hline : (apos.endLine == pos.line) = true)
 (ht : 1 <= s.toks) (hm : (qa (r.ev σ o μ) g) = some (r', μ')) (P : xI w hT rel ρ s r' μ' Q₀ E)
 (k : ∀ a h₁ tk₁ ρ₁ p μ₁, Le [] ρ s.heap ρ₁ h₁ -> SR w hT ρ₁ μ₁ h₁ -> Rv hT ρ₁ h₁ a p -> 1 <= tk₁ -> g p μ₁ = some (r', μ') -> xI w hT rel ρ₁ { s with heap := h₁, toks := tk₁ } r' μ' Q₀ E ->
   ∃ d kvs, a = .ref d /\ h₁.DictOf (PN prog w) d kvs /\ (d == SZ) = false /\ Q (.ref h₁.objs.size) { s with heap := h₁.push { cls := .type "dict_items", data := .fields #[.ref d] }, toks := tk₁ }) :
 PP (MM w) A (eval (.Call (.Attribute o "items" apos) [] [] pos) env) Q E s := by
 refine ya hb ?_
 refine (H A l env σ ρ μ s o X).andThen ht hm P fun a h₁ tk₁ ρ₁ p μ₁ x1 S1 ra ht1 hm1 P1 => ?_
 obtain ⟨d, kvs, rfl, D, hd, hq⟩ := k a h₁ tk₁ ρ₁ p μ₁ x1 S1 ra ht1 hm1 P1
 exact fw (s := { s with heap := h₁, toks := tk₁ }) D hd hline hq
theorem C2 {f : Str} {fp pos : Pos} {id : String} {args : List Expr} {g : PV -> PM PV} (H : j5 w hT r n) (X : Act w hT A l env σ ρ μ s.heap n) (hs : args.all (!qf ·) = true)
 (hn : ∀ {Q : Pu -> Py -> Prop} {E : Pu -> Py -> Prop}, Q (.builtin id) s -> PP (MM w) A (eval (.Name f fp) env) Q E s)
 (hk : ∀ ρ₁ μ₁ s₁ v p, Act w hT A l env σ ρ₁ μ₁ s₁.heap n -> Rv hT ρ₁ s₁.heap v p -> Sim w hT A (Rv hT) ρ₁ s₁ (call (.builtin id) [v]) (g p μ₁)) :
 Sim w hT A (Rv hT) ρ s (eval (.Call (.Name f fp) args [] pos) env) (qa (evL r σ args μ) fun vs μ => (one vs).bind fun v => g v μ) := by
 intro ht r' μ' hm Q E P
 refine jZ (hn ?_)
 refine callWith_builtin (by rw [q9 hs]; simp) (qO (qI hs) ?_)
 rw [q9 hs]
 refine (x9 H args X).andThen ht hm P fun vs h₁ tk₁ ρ₁ ps μ₁ x1 S1 rvs ht1 hm1 P1 => bK hm1 fun p hp hm1 => ?_
 obtain ⟨v, e, rv⟩ := rvs.one hp
 exact e ▸ hk ρ₁ μ₁ { s with heap := h₁, toks := tk₁ } v p (X.le x1 S1) rv ht1 _ _ hm1 Q E P1
theorem Cm {f : Str} {fp pos : Pos} {T : String} {args : List Expr} {g : PV -> PM PV} (H : j5 w hT r n) (X : Act w hT A l env σ ρ μ s.heap n) (hs : args.all (!qf ·) = true)
 (hn : ∀ {Q : Pu -> Py -> Prop} {E : Pu -> Py -> Prop}, Q (.type T) s -> PP (MM w) A (eval (.Name f fp) env) Q E s)
 (hk : ∀ ρ₁ μ₁ s₁ v p, Act w hT A l env σ ρ₁ μ₁ s₁.heap n -> Rv hT ρ₁ s₁.heap v p -> Sim w hT A (Rv hT) ρ₁ s₁ (call (.type T) [v]) (g p μ₁)) :
 Sim w hT A (Rv hT) ρ s (eval (.Call (.Name f fp) args [] pos) env) (qa (evL r σ args μ) fun vs μ => (one vs).bind fun v => g v μ) := by
 intro ht r' μ' hm Q E P
 refine jZ (hn ?_)
 refine TO (by rw [q9 hs]; simp) (qO (qI hs) ?_)
 rw [q9 hs]
 refine (x9 H args X).andThen ht hm P fun vs h₁ tk₁ ρ₁ ps μ₁ x1 S1 rvs ht1 hm1 P1 => bK hm1 fun p hp hm1 => ?_
 obtain ⟨v, e, rv⟩ := rvs.one hp
 exact e ▸ hk ρ₁ μ₁ { s with heap := h₁, toks := tk₁ } v p (X.le x1 S1) rv ht1 _ _ hm1 Q E P1
end
theorem KN (w : Rk) : makesIn (KK w) 187 = true := by kernel_rfl
section
variable {w : Rk} {hT : PO} {A : RE} {l : List Env} {ρ ρ' : List PD} {μ μ₁ μ' : q4} {s : Py} {n : Nat} {env : Env} {outer : List Env} {σ σ' : LE} {h h' : PO} {r : Ev}
theorem SR.cellAt (S : SR w hT ρ μ h) (k : ∀ b o, h.get? b = some o -> h'.get? b = some o) {a : PD} {c : q8} (ha : h.objs.size <= a) (hc : Rc w hT (ρ ++ [a]) h' a c) : SR w hT (ρ ++ [a]) (μ ++ [c]) h' := by
 have hbig : SZ < h.objs.size := by
  obtain ⟨⟨b, o, hb, ho⟩, _⟩ := S.low
  exact b5 hb (RJ (S.top _ _ ho))
 refine ⟨fun b o e => k _ _ (S.top b o e), ?_, by simp [S.len], fun b hb => ?_, ⟨S.low.1, fun b hb => ?_⟩, fun n b d h1 h2 => ?_⟩
 ·refine US.mpr ⟨S.nodup, by simp, fun x hx b hb => ?_⟩
  rw [Pw.mp hb]
  exact RQ (PY (S.lt hx) ha)
 ·rcases PT.mp hb with q | q
  ·exact S.notop b q
  ·rw [Pw.mp q]
   induction q' : hT.get? a with
   | none => rfl
   | some o' => exact absurd (RJ (S.top _ _ q')) (Sh.mpr ha)
 ·rcases PT.mp hb with q | q
  ·exact S.low.2 b q
  ·rw [Pw.mp q]; exact PY hbig ha
 ·by_cases hn : n < ρ.length
  ·rw [RB hn] at h1
   rw [RB (S.len ▸ hn)] at h2
   exact Rc.keeps k (S.cells n b d h1 h2)
  ·have hn' : n = ρ.length := by
    have := (R0.mp h1).1
    simp at this; lia
   subst hn'
   rw [Rn (PJ _), Ss] at h1
   rw [S.len, Rn (PJ _), Ss] at h2
   cases h1; cases h2
   exact hc
theorem JN {a : PD} (ha : h.objs.size <= a) : h.get? a = none := by
 induction q : h.get? a with
 | none => rfl
 | some o => exact absurd (RJ q) (Sh.mpr ha)
theorem Le.cellAt (k : ∀ b o, h.get? b = some o -> h'.get? b = some o) {a : PD} (ha : h.objs.size <= a) : Le [] ρ h (ρ ++ [a]) h' :=
 ⟨⟨[a], rfl, fun b hb => by rw [Pw.mp hb]; exact JN ha⟩, Kp.of_keeps fun b o zz => k b o, fun b o e => ⟨o, k b o e⟩, fun b o e zz zz zz => k b o e⟩
theorem vA.andThen {γ δ : Type} {rel' : List PD -> PO -> γ -> δ -> Prop} {a : PD} {vs : List Pu} {kws : List (Str × Pu)} {m : PR PV} {g : PV -> PM δ} {res : Except Exn δ} {Q : γ -> Py -> Prop} {Q' : Pu -> Py -> Prop} {E : Pu -> Py -> Prop}
 (S : vA w hT A ρ s a vs kws m) (h1 : 1 <= s.toks) (hm : qa m g = some (res, μ')) (P : xI w hT rel' ρ s res μ' Q E)
 (k : ∀ a h' tk ρ' b μ₁, Le [] ρ s.heap ρ' h' -> SR w hT ρ' μ₁ h' -> Rv hT ρ' h' a b -> 1 <= tk -> g b μ₁ = some (res, μ') -> xI w hT rel' ρ' { s with heap := h', toks := tk } res μ' Q E -> Q' a { s with heap := h', toks := tk }) :
 TB (MM w) A (.call (.ref a) ⟨vs, kws⟩) (fun r s' => match r with | .ok (.ret v) => Q' v s' | .ok _ => False | .error e => E e s') s := by
 rcases wG hm with ⟨x, hm', hr⟩ | ⟨b, μ₁, hm', hg⟩
 ·refine S h1 _ _ hm' Q' E ⟨fun a h' tk ρ' b e => (nomatch e), fun e h' tk ρ' y hy le sr ex => ?_⟩
  cases hy
  exact P.err e h' tk ρ' x hr le sr ex
 ·refine S h1 _ _ hm' Q' E ⟨fun a' h' tk ρ' b' hb le sr rv ht => ?_, fun e h' tk ρ' y hy => (nomatch hy)⟩
  cases hb
  exact k a' h' tk ρ' _ μ₁ le sr rv ht hg (P.le le)
theorem jW.in1 (R : jW A (n + 1)) : jW A.in1 n := ⟨R.1, by have := R.2.1; show A.depth + n + 20 < _; lia, by have := R.2.2; show A.units + 1 + 20 * n + 200 < _; lia⟩
theorem jW.in2 (R : jW A (n + 1)) : jW A.in1.in1 n := ⟨R.1, by have := R.2.1; show A.depth + n + 20 < _; lia, by have := R.2.2; show A.units + 1 + 1 + 20 * n + 200 < _; lia⟩
theorem Stk.in1 (K : Stk hT A ρ h l) : Stk hT A.in1 ρ h l := ⟨K.fr, K.ff, K.out⟩
theorem jW.made (R : jW A (n + 1)) (vs : List Pu) : jW (A.under (.builtin "type.__call__" ⟨.ref 187 :: vs, []⟩)) n := by
 have e1 : (A.under (.builtin "type.__call__" ⟨.ref 187 :: vs, []⟩)).depth = A.depth + 1 := rfl
 have e2 : (A.under (.builtin "type.__call__" ⟨.ref 187 :: vs, []⟩)).units = A.units + 1 := rfl
 exact ⟨R.1, by rw [e1]; have := R.2.1; lia, by rw [e2]; have := R.2.2; lia⟩
theorem Stk.made (K : Stk hT A ρ h l) (vs : List Pu) : Stk hT (A.under (.builtin "type.__call__" ⟨.ref 187 :: vs, []⟩)) ρ h l := ⟨K.fr, K.ff, K.out⟩
theorem Gb {vs : List Pu} {ps : List PV} (G : GF w hT) (HC : jR w hT r n) (S : SR w hT ρ μ s.heap) (K : Stk hT A ρ s.heap l) (R : jW A (n + 1)) (rvs : RvL hT ρ s.heap vs ps) :
 Sim w hT A (Rv hT) ρ s (call (.ref 187) vs) (QY r ps μ) := by
 intro ht r' μ' hm Q E P
 obtain ⟨hs, hf⟩ := yR (w := w) (nm := "__init__") (f := 81) (by decide)
 have X := G.kin S
 have Sd : SR w hT (ρ ++ [s.heap.objs.size]) (μ ++ [.dict []]) (s.heap.push SF) := S.cell ⟨[], y6 (c := 0) (Rg _ rfl), .nil⟩
 have xd : Le [] ρ s.heap (ρ ++ [s.heap.objs.size]) (s.heap.push SF) := Le.cell _
 have hsz : (s.heap.push SF).objs.size = s.heap.objs.size + 1 := SK ..
 have Si : SR w hT (ρ ++ [s.heap.objs.size] ++ [s.heap.objs.size + 1]) (μ ++ [.dict []] ++ [.inst μ.length]) ((s.heap.push SF).push (Uz 187 s.heap.objs.size)) := by
  have := Sd.cell (o := Uz 187 s.heap.objs.size) (c := .inst μ.length) ⟨s.heap.objs.size, jo ⟨_, rfl⟩ (jH S), Rg _ rfl⟩
  rw [hsz] at this
  exact this
 have xi : Le [] (ρ ++ [s.heap.objs.size]) (s.heap.push SF) (ρ ++ [s.heap.objs.size] ++ [s.heap.objs.size + 1]) ((s.heap.push SF).push (Uz 187 s.heap.objs.size)) := by
  have := Le.cell (ρ := ρ ++ [s.heap.objs.size]) (h := s.heap.push SF) (Uz 187 s.heap.objs.size)
  rw [hsz] at this
  exact this
 have hn : (ρ ++ [s.heap.objs.size] ++ [s.heap.objs.size + 1])[μ.length + 1]? = some (s.heap.objs.size + 1) := by
  have := jH (a := s.heap.objs.size + 1) Sd
  simpa using this
 have hm : qa (r.call Zy (.loc (μ.length + 1) :: ps) [] (μ ++ [.dict [], .inst μ.length])) (fun v => if WO v then pret (.loc (μ.length + 1)) else fun zz => none) = some (r', μ') := hm
 rw [show μ ++ [.dict [], .inst μ.length] = μ ++ [q8.dict []] ++ [.inst μ.length] from (PF μ [q8.dict []] [.inst μ.length]).symm] at hm
 refine Ak ?_
 have key := (HC (A.under (.builtin "type.__call__" ⟨.ref 187 :: vs, []⟩)) l _ _ { s with heap := (s.heap.push SF).push (Uz 187 s.heap.objs.size) } 81 (.ref (s.heap.objs.size + 1) :: vs) (.loc (μ.length + 1) :: ps) [] [] Si (((K.le xd).le xi).made vs) (R.made vs) (.cons (.loc hn) ((rvs.le S xd).le Sd xi)) .nil).andThen
  (Q' := fun v s' => v = .none /\ Q (.ref (s.heap.objs.size + 1)) s') ht hm (P.le (tk := s.toks) (xd.trans xi)) fun v h₁ tk₁ ρ₁ p μ₁ x1 S1 rv ht1 hm1 P1 => by
    cases p <;> first | exact no hm1 | exact ⟨rv.inv, P1.now (s := { s with heap := h₁, toks := tk₁ }) hm1 S1 (.loc (jo x1.pre hn)) ht1⟩
 obtain ⟨hh, g, d, t, os⟩ := s
 refine make_core (makes_of X (KN w)) (looks_findIn X hs) (fun self => bind_fn X self (beq_iff_eq.mp hf)) (.inl rfl) ?_
 refine codeAny_mono key fun q s' z => ?_
 rcases q with e' | (v | _ | _ | _) <;> first | exact z | exact z.elim
theorem Ep {v : Pu} {p : PV} (S : SR w hT ρ μ s.heap) (rv : Rv hT ρ s.heap v p) : Sim w hT A (Rv hT) ρ s (call (.builtin "len") [v]) (Bo p μ) := by
 refine Sim.of0 fun r' μ' hm Q E P => ?_
 unfold Bo at hm
 induction hp : qx p with
 | some x =>
   rw [hp] at hm
   obtain ⟨t, rfl, hx⟩ := rv.sI hp
   exact PySem.P.len_str (H7 (RI hx big)) (P.pret hm S (.int _ _))
 | none =>
   rw [hp] at hm
   obtain ⟨ll, hl, hm⟩ := bnd hm
   obtain ⟨a, _, vs, _, _, rfl, hp, hv, hlv, hb⟩ := rv.list S hl
   refine len_list (PlainList.isList hp) (H1 (RI (TA hlv) (RI hb MQ))) ?_
   rw [show (vs.toArray.size : Int) = ll.length from congrArg Int.ofNat hlv]
   exact P.pret hm S (.int _ _)
theorem Gs {v : Pu} {p : PV} (S : SR w hT ρ μ s.heap) (rv : Rv hT ρ s.heap v p) : Sim w hT A (Rv hT) ρ s (call (.type "type") [v]) (ZQ p μ) := by
 refine Sim.of0 fun r' μ' hm Q E P => ?_
 unfold ZQ at hm
 induction hp : qx p with
 | some x =>
   rw [hp] at hm
   obtain ⟨t, rfl, _⟩ := rv.sI hp
   exact call_type_of (Sw _ _ _) (by decide) (P.pret (tk := s.toks) hm S (.val _))
 | none =>
   rw [hp] at hm
   obtain ⟨ll, hl, hm⟩ := bnd hm
   obtain ⟨a, _, vs, _, _, rfl, hp, _⟩ := rv.list S hl
   exact call_type_of (PlainList.isList hp).typeIs (by decide) (P.pret (tk := s.toks) hm S (.val _))
theorem Dw {v : Pu} {p : PV} (S : SR w hT ρ μ s.heap) (rv : Rv hT ρ s.heap v p) : Sim w hT A (Rv hT) ρ s (call (.builtin "ord") [v]) (HL p μ) := by
 refine Sim.of0 fun r' μ' hm Q E P => ?_
 obtain ⟨x, hx, hm1⟩ := bnd hm
 obtain ⟨h1, hm2⟩ := ifT hm1
 obtain ⟨t, e, _⟩ := rv.sI hx
 clear hm hm1 hx rv
 subst e
 obtain ⟨⟨cs⟩⟩ := x
 induction cs using PC with
 | nil => cases h1
 | cons c cs => induction cs using PC with
   | cons _ _ => cases h1
   | nil => exact PySem.P.ord_of_char (P.pret hm2 S (.int _ _))
theorem CE {v : Pu} {p : PV} (S : SR w hT ρ μ s.heap) (rv : Rv hT ρ s.heap v p) : Sim w hT A (Rv hT) ρ s (call (.builtin "chr") [v]) (LT p μ) := by
 refine Sim.of0 fun r' μ' hm Q E P => ?_
 obtain ⟨i, hx, hm⟩ := bnd hm
 obtain ⟨hi, hm⟩ := ifT hm
 obtain ⟨t, rfl⟩ := rv.iI hx
 exact PySem.P.chr_of_int (by simp; lia) (P.pret hm S (.str _ _ GC))
theorem BF {v : Pu} {p : PV} (G : GF w hT) (HC : jR w hT r n) (X : Act w hT A l env σ ρ μ s.heap (n + 1)) (rv : Rv hT ρ s.heap v p) : Sim w hT A (Rv hT) ρ s (call (.type "str") [v]) (Hj r p μ) := by
 intro ht r' μ' hm Q E P
 obtain ⟨d, hd, hm1⟩ := bnd hm
 clear hm
 obtain ⟨m, h1, hc⟩ := bnd hd
 obtain ⟨b, e, hn⟩ := rv.lI h1
 have ep := jI h1
 clear hd h1 rv
 subst e ep
 obtain ⟨hs, hf⟩ := yR (w := w) (nm := "__str__") (f := 163) (by decide)
 obtain ⟨ox, od, I⟩ := X.sr.inst0 hn hc
 refine kso_call (by have := X.rm.2.2; show A.units + 1 + 1 < cj; lia) (G.kin X.sr) I hs hf ?_
 refine (HC A.in1.in1 l ρ μ s 163 [_] [.loc m] [] [] X.sr X.sk.in1.in1 X.rm.in2 (.cons (.loc hn) .nil) .nil).sim.andThen ht hm1 P fun a h₁ tk₁ ρ₁ q μ₁ x1 S1 ra ht1 hm2 P1 => ?_
 cases q <;> first | exact no hm2 | skip
 obtain ⟨t, rfl, hx⟩ := ra.inv
 exact P1.now (s := { s with heap := h₁, toks := tk₁ }) hm2 S1 (.str _ _ hx) ht1
theorem RvL.ofIdx : ∀ {vs : List Pu} {ps : List PV}, vs.length = ps.length -> (∀ (j : Nat) (v : Pu) (p : PV), vs[j]? = some v -> ps[j]? = some p -> Rv hT ρ h v p) -> RvL hT ρ h vs ps
 | [], [], _, _ => .nil
 | [], _ :: _, e, _ => by simp at e
 | _ :: _, [], e, _ => by simp at e
 | v :: vs, p :: ps, e, k => .cons (k 0 v p rfl rfl) (RvL.ofIdx (by simpa using e) fun j v p h1 h2 => k (j + 1) v p (by simpa using h1) (by simpa using h2))
theorem RvD.get {kvs : List (Str × Pu)} {l : Loc} {k : Str} {x : Pu} (r : RvD hT ρ h kvs l) : ∀ {j : Nat}, kvs[j]? = some (k, x) -> ∃ p, l[j]? = some (k, p) /\ Rv hT ρ h x p := by
 induction r with
 | nil => exact fun e => no e
 | @cons _ _ p _ _ a _ ih =>
   intro j e
   induction j using AN with
   | zero => have e := qk e; cases e; exact ⟨_, rfl, a⟩
   | succ j => exact ih e
theorem RvD.length {kvs : List (Str × Pu)} {l : Loc} (r : RvD hT ρ h kvs l) : kvs.length = l.length := by
 induction r with
 | nil => rfl
 | cons _ _ ih => exact congrArg (· + 1) ih
theorem Jk {m d v : Nat} {dl : Loc} (hh : A.handled = none) (S : SR w hT ρ μ s.heap) (hn : ρ[m]? = some d) (hl : qe μ m = some dl) (hall : (dl.all fun kv => decide (kv.1.length <= Pr)) = true) (hlen : dl.length <= Pr)
 (hv : s.heap.IsItemsView v d) : Sim w hT A (Rv hT) ρ s (call (.type "list") [.ref v]) (jp (dl.map fun kv => .tup [.str kv.1, kv.2]) μ) := by
 refine Sim.of0 fun r' μ' hm Q E P => ?_
 obtain ⟨hl2, hm⟩ := zI hm
 obtain ⟨kvs, D, hr⟩ := S.dictAt hn hl
 obtain ⟨ep, D⟩ := D.dictAt
 have hkl := hr.length
 refine kdx_call (knd := PN prog w) (kvs := kvs) (ep := ep) hh hv D (by lia) fun h' tk acc c as hk hS hla hG hacc => ?_
 have ea : acc = (as.map ai).toArray := by rw [<- hacc, Array.toArray_toList]
 have hx : ∃ more, ρ ++ [s.heap.objs.size] = ρ ++ more := ⟨_, rfl⟩
 have kv : Kv s.heap h' := Kv.of_keeps hk
 have hrv : RvL hT (ρ ++ [s.heap.objs.size]) h' (as.map ai) (dl.map fun kv => .tup [.str kv.1, kv.2]) := by
  refine RvL.ofIdx (by simp; lia) fun j v p h1 h2 => ?_
  rw [SV] at h1 h2
  obtain ⟨a, ha, rfl⟩ := Sv.mp h1
  obtain ⟨kp, hkp, rfl⟩ := Sv.mp h2
  obtain ⟨key, k, x, e1, e2, e3⟩ := hG.pairs j a ha
  obtain ⟨t, rfl⟩ := TM (show Tn k key = true from e2)
  obtain ⟨p, hp1, hp2⟩ := hr.get e1
  rw [hp1] at hkp
  cases hkp
  have hkl := PS.mp hall (k, p) (Rr hp1)
  simp only [decide_eq_true_eq] at hkl
  exact .tup (vs := [.str k t, x]) ⟨_, e3, rfl, 0, rfl⟩ (.cons (.str k t hkl) (.cons (hp2.mono hx kv) .nil))
 have hcell : Rc w hT (ρ ++ [s.heap.objs.size]) h' s.heap.objs.size (.list (dl.map fun kv => .tup [.str kv.1, kv.2])) := ⟨by simp; lia, as.map ai, ⟨c, by rw [<- ea]; exact hS⟩, hrv⟩
 cases hm
 exact P.ok _ h' tk _ _ rfl (Le.cellAt hk (PJ _)) (S.cellAt hk (PJ _) hcell) (.loc (jH S))
theorem EB (w : Rk) : keepIn (KK w) (.ref 187) = true := by kernel_rfl
theorem Og {f : Str} {fp pos : Pos} {args : List Expr} {a : PD} (G : GF w hT) (H : j5 w hT r n) (HC : jR w hT r n) (X : Act w hT A l env σ ρ μ s.heap n) (g1 : σ.isG f = true) (g2 : args.all (!qf ·) = true) (ha : fns.lookup f = some a) :
 Sim w hT A (Rv hT) ρ s (eval (.Call (.Name f fp) args [] pos) env) (qa (evL r σ args μ) fun vs => r.call a vs []) := by
 intro ht r' μ' hm Q E P
 have hm0 := an (PS.mp (Lh w) _ (mem_of_lookup ha))
 have hnd := nt (PS.mp IB _ (mem_of_lookup ha))
 exact jZ (kc G X.er X.sr g1 (eq_of_beq (an hm0.1).1) hnd (vD (ps0 := []) G H HC X hm0.2 g2 .nil ht _ _ hm Q E P))
theorem YK {fp pos : Pos} {args : List Expr} (G : GF w hT) (H : j5 w hT r n) (HC : jR w hT r n) (X : Act w hT A l env σ ρ μ s.heap (n + 1)) (g1 : σ.isG "Headers" = true) (g2 : args.all (!qf ·) = true) :
 Sim w hT A (Rv hT) ρ s (eval (.Call (.Name "Headers" fp) args [] pos) env) (qa (evL r σ args μ) (QY r)) := by
 intro ht r' μ' hm Q E P
 refine jZ (kc G X.er X.sr g1 (v := .ref 187) (by kernel_rfl) rfl ?_)
 refine callWith_of (P := (KK w).In) (by rw [q9 g2]; simp) (keeps_K (EB w)) (qO (qI g2) ?_)
 rw [q9 g2]
 exact (x9 H args X.down).andThen ht hm P fun vs h₁ tk₁ ρ₁ ps μ₁ x1 S1 rvs ht1 hm1 P1 => ⟨G.kin S1, Gb (s := { s with heap := h₁, toks := tk₁ }) G HC S1 (X.sk.le x1) X.rm rvs ht1 _ _ hm1 Q E P1⟩
theorem CB {fp pos : Pos} {args : List Expr} (G : GF w hT) (H : j5 w hT r n) (X : Act w hT A l env σ ρ μ s.heap n) (g1 : σ.isG "list" = true) (g2 : args.all (!qf ·) = true) :
 Sim w hT A (Rv hT) ρ s (eval (.Call (.Name "list" fp) args [] pos) env) (Jr r σ args μ) := by
 intro ht r' μ' hm Q E P
 obtain ⟨e, he, hm1⟩ := bnd hm
 obtain ⟨⟨o, m, apos, cpos⟩, hq, hm2⟩ := bnd hm1
 obtain ⟨hg, hm3⟩ := ifT hm2
 have e1 := jN he
 have e2 := kI hq
 have e3 := qb (an (an hg).1).1
 have k2 := (an (an hg).1).2
 have k3 := (an hg).2
 clear hm hm1 hm2 he hq hg
 dsimp only at e2 e3
 subst e2 e3 e1
 refine jZ (zP G X.er X.sr g1 (v := .type "list") (by kernel_rfl) (by kernel_rfl) (by decide) rfl ?_)
 refine TO (by rw [q9 g2]; rfl) (qO (qI g2) ?_)
 rw [q9 g2]
 refine spliced_cons ?_
 refine Qv H X k2 k3 ht hm3 P fun a h₁ tk₁ ρ₁ p μ₁ x1 S1 ra ht1 hm1 P1 => ?_
 obtain ⟨m, h1, hm2⟩ := bnd hm1
 obtain ⟨dl, hdl, hm3⟩ := bnd hm2
 obtain ⟨hall, hm4⟩ := ifT hm3
 obtain ⟨d, e, hn⟩ := ra.lI h1
 obtain ⟨kvs, D, hr⟩ := S1.dictAt hn hdl
 have hk := qg h₁ { cls := .type "dict_items", data := .fields #[.ref d] }
 exact ⟨d, kvs, e, D, beq_eq_false_iff_ne.mpr (RZ (S1.low.2 d (Rr hn))), T9 (Jk (s := { s with heap := h₁.push { cls := .type "dict_items", data := .fields #[.ref d] }, toks := tk₁ }) X.rm.1 (S1.keeps hk) hn hdl hall (by simpa using (zI hm4).1) ⟨_, Rg _ rfl, rfl, rfl⟩ ht1 _ _ hm4 Q E (P1.le (tk := tk₁) (Le.of_keeps hk)))⟩
theorem Xr {f : Str} {fp : Pos} {v : Pu} (G : GF w hT) (X : Act w hT A l env σ ρ μ s.heap n) (g1 : σ.isG f = true) (hk : (nsIn (KK w) mainGlobals f == some none && Ua f == some v && !(f == ("__name__" : Str)) && !(f == ("__debug__" : Str))) = true) {Q : Pu -> Py -> Prop} {E : Pu -> Py -> Prop} (hq : Q v s) : PP (MM w) A (eval (.Name f fp) env) Q E s :=
 have h3 := an hk
 have h2 := an h3.1
 have h1 := an h2.1
 zP G X.er X.sr g1 (eq_of_beq h1.1) (eq_of_beq h1.2) (fun e => beq_eq_false_iff_ne.mp (nt h2.2) e) (nt h3.2) hq
theorem Me {f : Str} {fp pos : Pos} {args : List Expr} {g : PV -> PM PV} (G : GF w hT) (H : j5 w hT r n) (HC : jR w hT r n) (X : Act w hT A l env σ ρ μ s.heap (n + 1)) (g1 : σ.isG f = true) (g2 : args.all (!qf ·) = true) (hg : pB1 r f = some g) :
 Sim w hT A (Rv hT) ρ s (eval (.Call (.Name f fp) args [] pos) env) (qa (evL r σ args μ) fun vs μ => (one vs).bind fun v => g v μ) := by
 have bi : ∀ {f : Str} {id : String} {g : PV -> PM PV}, σ.isG f = true -> (nsIn (KK w) mainGlobals f == some none && Ua f == some (.builtin id) && !(f == ("__name__" : Str)) && !(f == ("__debug__" : Str))) = true -> (∀ {ρ₁ μ₁ s₁ v p}, SR w hT ρ₁ μ₁ s₁.heap -> Rv hT ρ₁ s₁.heap v p -> Sim w hT A (Rv hT) ρ₁ s₁ (call (.builtin id) [v]) (g p μ₁)) ->
  Sim w hT A (Rv hT) ρ s (eval (.Call (.Name f fp) args [] pos) env) (qa (evL r σ args μ) fun vs μ => (one vs).bind fun v => g v μ) := fun h1 h2 h3 => C2 H X.down g2 (Xr G X h1 h2) fun zz zz zz zz zz X₁ rv => h3 X₁.sr rv
 have ty : ∀ {f : Str} {T : String} {g : PV -> PM PV}, σ.isG f = true -> (nsIn (KK w) mainGlobals f == some none && Ua f == some (.type T) && !(f == ("__name__" : Str)) && !(f == ("__debug__" : Str))) = true -> (∀ {ρ₁ μ₁ s₁ v p}, Act w hT A l env σ ρ₁ μ₁ s₁.heap n -> Rv hT ρ₁ s₁.heap v p -> Sim w hT A (Rv hT) ρ₁ s₁ (call (.type T) [v]) (g p μ₁)) ->
  Sim w hT A (Rv hT) ρ s (eval (.Call (.Name f fp) args [] pos) env) (qa (evL r σ args μ) fun vs μ => (one vs).bind fun v => g v μ) := fun h1 h2 h3 => Cm H X.down g2 (Xr G X h1 h2) fun zz zz zz zz zz X₁ rv => h3 X₁ rv
 unfold pB1 at hg
 cases h1 : (f == ("len" : Str)) with
 | true => rw [h1] at hg; rw [qb h1] at g1 ⊢; exact qk hg ▸ bi (id := "len") g1 (by kernel_rfl) Ep
 | false =>
 rw [h1] at hg
 cases h2 : (f == ("type" : Str)) with
 | true => rw [h2] at hg; rw [qb h2] at g1 ⊢; exact qk hg ▸ ty (T := "type") g1 (by kernel_rfl) fun X₁ => Gs X₁.sr
 | false =>
 rw [h2] at hg
 cases h3 : (f == ("ord" : Str)) with
 | true => rw [h3] at hg; rw [qb h3] at g1 ⊢; exact qk hg ▸ bi (id := "ord") g1 (by kernel_rfl) Dw
 | false =>
 rw [h3] at hg
 cases h4 : (f == ("chr" : Str)) with
 | true => rw [h4] at hg; rw [qb h4] at g1 ⊢; exact qk hg ▸ bi (id := "chr") g1 (by kernel_rfl) CE
 | false =>
 rw [h4] at hg
 obtain ⟨h5, hg⟩ := ifT hg
 rw [qb h5] at g1 ⊢
 exact qk hg ▸ ty (T := "str") g1 (by kernel_rfl) fun X₁ rv => BF G HC (n := n) ⟨X₁.sr, X₁.er, X₁.sk, X.rm⟩ rv
theorem FP {f : Str} {fp pos : Pos} {args : List Expr} (G : GF w hT) (H : j5 w hT r n) (HC : jR w hT r n) (X : Act w hT A l env σ ρ μ s.heap (n + 1)) :
 Sim w hT A (Rv hT) ρ s (eval (.Call (.Name f fp) args [] pos) env) (JO r σ f args μ) := by
 intro ht r' μ' hm Q E P
 obtain ⟨hg, hm1⟩ := ifT hm
 have g1 := (an (an hg).1).1
 have g2 := (an (an hg).1).2
 clear hm hg
 induction ha : fns.lookup f with
 | some a => rw [ha] at hm1; exact Og G H HC X.down g1 g2 ha ht _ _ hm1 Q E P
 | none =>
   rw [ha] at hm1
   dsimp only at hm1
   cases h1 : (f == ("Headers" : Str)) with
   | true => rw [h1] at hm1; have e := qb h1; subst e; exact YK G H HC X g1 g2 ht _ _ hm1 Q E P
   | false =>
     rw [h1] at hm1
     cases h2 : (f == ("list" : Str)) with
     | true => rw [h2] at hm1; have e := qb h2; subst e; exact CB G H X.down g1 g2 ht _ _ hm1 Q E P
     | false =>
       rw [h2] at hm1
       exact bK (o := pB1 r f) hm1 fun g hg hm2 => Me G H HC X g1 g2 hg ht _ _ hm2 Q E P
end
theorem j3 (l : Loc) (x : Str) (p : PV) (y : Str) : (upd l x p).lookup y = if y = x then some p else l.lookup y := by
 induction l with
 | nil =>
   unfold upd
   rw [Ry]
   by_cases h : y = x
   ·subst h; simp
   ·have : (y == x) = false := beq_eq_false_iff_ne.mpr h
    rw [this, if_neg h]
 | cons q l ih =>
   obtain ⟨z, v⟩ := q
   unfold upd
   induction hz : (z == x) with
   | true =>
     have := eq_of_beq hz
     subst this
     simp only [if_true, Ry]
     by_cases h : y = z
     ·subst h; simp
     ·have h' : (y == z) = false := beq_eq_false_iff_ne.mpr h
      rw [if_neg h, h']
   | false =>
     have hne : z ≠ x := beq_eq_false_iff_ne.mp hz
     simp only [R7, if_false, Ry]
     by_cases h : y = z
     ·subst h; simp [hne]
     ·have h' : (y == z) = false := beq_eq_false_iff_ne.mpr h
      rw [h', ih]
section
variable {w : Rk} {hT : PO} {A : RE} {l : List Env} {ρ ρ' ρ₀ : List PD} {μ μ₁ μ' : q4} {s : Py} {n : Nat} {env : Env} {outer : List Env} {σ σ' : LE} {h h' h₀ : PO} {r : Ev}
def KB (own : List PD) (h h' : PO) : Prop := ∀ b o, b ∉ own -> h.get? b = some o -> h'.get? b = some o
theorem KB.of {own : List PD} (k : ∀ b o, h.get? b = some o -> h'.get? b = some o) : KB own h h' := fun b o zz => k b o
theorem KB.trans {own : List PD} {h'' : PO} (x : KB own h h') (y : KB own h' h'') : KB own h h'' := fun b o hb e => y b o hb (x b o hb e)
theorem KB.mono {own own' : List PD} (x : KB own h h') (hs : ∀ b ∈ own, b ∈ own') : KB own' h h' := fun b o hb e => x b o (fun q => hb (hs b q)) e
theorem KB.same {a : PD} (x : RK a h h') : KB [a] h h' := fun b o hb e => (x.2 b (by simpa using hb)).trans e
theorem KB.ext {a : PD} (x : PO.ExtBut a h h') : KB [a] h h' := fun b o hb e => x b o (by simpa using hb) e
def NT (own : List PD) (h : PO) : Prop := ∀ b ∈ own, ∀ o, h.get? b = some o -> ¬ (o.cls = .type "tuple" /\ ∃ vs n, o.data = .seq vs n)
theorem KB.kv {own : List PD} (k : KB own h h') (t : NT own h) : Kv h h' := fun b o e hc => ⟨o.slots, k b o (fun hb => t b hb o e hc) e⟩
def Ny (hT : PO) (ρ own : List PD) : Prop := ∀ b ∈ own, b ∉ ρ /\ hT.get? b = none
theorem SR.kb {own : List PD} (S : SR w hT ρ μ h) (f : Ny hT ρ own) (k : KB own h h') (t : NT own h) : SR w hT ρ μ h' := by
 have kv := k.kv t
 have hx : ∃ more, ρ = ρ ++ more := ⟨[], by simp⟩
 have cell : ∀ a ∈ ρ, ∀ o, h.get? a = some o -> h'.get? a = some o := fun a ha o ho => k a o (fun q => (f a q).1 ha) ho
 refine ⟨fun b o e => k b o (fun q => by rw [(f b q).2] at e; exact nomatch e) (S.top b o e), S.nodup, S.len, S.notop, S.low, fun m b d h1 h2 => ?_⟩
 have hb : b ∈ ρ := Rr h1
 have x := S.cells m b d h1 h2
 induction d with
 | list l =>
   obtain ⟨hl, vs, ⟨k, hp⟩, hv⟩ := x
   exact ⟨hl, vs, ⟨k, cell b hb _ hp⟩, hv.mono hx kv⟩
 | dict l =>
   obtain ⟨kvs, ⟨o, es, ep, ho, r⟩, hv⟩ := x
   exact ⟨kvs, ⟨o, es, ep, cell b hb _ ho, r⟩, hv.mono hx kv⟩
 | inst d =>
   obtain ⟨y, hy, ho⟩ := x
   exact ⟨y, hy, cell b hb _ ho⟩
 | kw l =>
   obtain ⟨kvs, ⟨o, es, ho, r⟩, hv⟩ := x
   exact ⟨kvs, ⟨o, es, cell b hb _ ho, r⟩, hv.mono hx kv⟩
theorem Le.kb {own : List PD} (k : KB own h h') (st : ∀ b ∈ own, ∃ o, h'.get? b = some o) : Le own ρ h ρ h' :=
 ⟨⟨[], by simp, by simp⟩, fun b o e zz hb => ⟨o.slots, k b o hb e⟩, fun b o e => by
   by_cases hb : b ∈ own
   ·exact st b hb
   ·exact ⟨o, k b o hb e⟩, fun b o e zz hb zz => k b o hb e⟩
theorem Le.fin {own own' : List PD} (x : Le (own ++ own') ρ₀ h₀ ρ h) (f : ∀ b ∈ own, h₀.get? b = none) (k : KB own h h') : Le own' ρ₀ h₀ ρ h' := by
 have nown : ∀ b o, h₀.get? b = some o -> b ∉ own := fun b o e q => by rw [f b q] at e; cases e
 have nn : ∀ b o, h₀.get? b = some o -> b ∉ own' -> b ∉ own ++ own' := fun b o e q z => by
  rcases PT.mp z with z | z
  ·exact nown b o e z
  ·exact q z
 refine ⟨x.ext, fun b o e hn ho => ?_, fun b o e => ?_, fun b o e hn ho hd => ?_⟩
 ·obtain ⟨sl, hs⟩ := x.kp b o e hn (nn b o e ho)
  exact ⟨sl, k b _ (nown b o e) hs⟩
 ·obtain ⟨o', ho'⟩ := x.st b o e
  exact ⟨o', k b _ (nown b o e) ho'⟩
 ·exact k b _ (nown b o e) (x.ex b o e hn (nn b o e ho) hd)
theorem qN.nt (R : qN hT ρ h env σ) : NT (qy env) h := fun b hb o e hc => by
 obtain ⟨_, vs, n, q⟩ := hc
 rcases R.ownOK b hb o e with ⟨es, ep, hd⟩ | ⟨v, hd⟩ <;> (rw [hd] at q; cases q)
theorem qN.there (R : qN hT ρ h env σ) : ∀ b ∈ qy env, ∃ o, h.get? b = some o := fun b hb => by
 rcases Rq.mp hb with rfl | hb
 ·obtain ⟨m, ⟨o', es, ep, ho', hd, _⟩, _⟩ := R.ns
  exact ⟨_, ho'⟩
 ·obtain ⟨q, hq, rfl⟩ := Ri.mp hb
  obtain ⟨_, _, v, o', ho', hd⟩ := R.cells q hq
  exact ⟨_, ho'⟩
theorem qN.kb {own : List PD} (R : qN hT ρ h env σ) (k : KB own h h') (t : NT own h) (a : ∀ b ∈ own, b ∉ qy env) : qN hT ρ h' env σ := by
 have kv := k.kv t
 have hx : ∃ more, ρ = ρ ++ more := ⟨[], by simp⟩
 obtain ⟨m, ⟨o, es, ep, ho, hd, r⟩, hv⟩ := R.ns
 have cell : ∀ q ∈ env.cells, ∀ {v}, h.IsCell q.2 v -> h'.IsCell q.2 v := fun q hq v x => by
  obtain ⟨o, ho, hd⟩ := x
  exact ⟨o, k _ _ (fun z => a _ z (.tail _ (RS hq))) ho, hd⟩
 refine ⟨R.kind, R.names, R.glob, R.blt, R.loc, ⟨m, ⟨o, es, ep, k _ _ (fun z => a _ z (.head _)) ho, hd, r⟩, fun y p hy hk => ?_⟩, fun y p hy hk => ?_, fun q hq => ?_, R.sep, R.has⟩
 ·obtain ⟨v, h1, h2⟩ := hv y p hy hk
  exact ⟨v, h1, h2.mono hx kv⟩
 ·obtain ⟨c, v, hc, hi, hr⟩ := R.cel y p hy hk
  exact ⟨c, v, hc, cell (y, c) (mem_of_lookup hc) hi, hr.mono hx kv⟩
 ·obtain ⟨h1, h2, v, h3⟩ := R.cells q hq
  exact ⟨h1, h2, v, cell q hq h3⟩
theorem Vz {x : Str} {p : PV} {v : Pu} {m : Str -> Option Pu} (S : SR w hT ρ μ h) (R : qN hT ρ h env σ) (hl : σ.sc.lookup x = some .local) (rv : Rv hT ρ h v p) (hT0 : hT.get? env.locals = none)
 (hm : ∀ y q, σ.vs.lookup y = some q -> σ.sc.lookup y = some .local -> ∃ v, m y = some v /\ Rv hT ρ h v q)
 (hn : h'.Ns env.locals (fun z => if z = x then some v else m z)) (hs : RK env.locals h h') : Le [env.locals] ρ h ρ h' /\ SR w hT ρ μ h' /\ qN hT ρ h' env { σ with vs := upd σ.vs x p } := by
 have kb := KB.same hs
 have nt : NT [env.locals] h := fun b hb o e => R.nt b (by rw [Pw.mp hb]; exact .head _) o e
 have kv := kb.kv nt
 have hx : ∃ more, ρ = ρ ++ more := ⟨[], by simp⟩
 obtain ⟨o, es, ep, ho, hd, r⟩ := id hn
 refine ⟨Le.kb kb fun b hb => ?_, S.kb (fun b hb => ?_) kb nt, ?_⟩
 ·rw [Pw.mp hb]; exact ⟨o, ho⟩
 ·rw [Pw.mp hb]; exact ⟨R.loc, hT0⟩
 ·have cell : ∀ q ∈ env.cells, ∀ {v}, h.IsCell q.2 v -> h'.IsCell q.2 v := fun q hq v x => by
   obtain ⟨o, ho, hd⟩ := x
   exact ⟨o, (hs.2 _ (R.cells q hq).2.1).trans ho, hd⟩
  refine ⟨R.kind, R.names, R.glob, R.blt, R.loc, ⟨_, hn, fun y q hy hk => ?_⟩, fun y q hy hk => ?_, fun q hq => ?_, R.sep, R.has⟩
  ·simp only at hy
   rw [j3] at hy
   by_cases e : y = x
   ·rw [if_pos e] at hy ⊢
    cases hy
    exact ⟨v, rfl, rv.mono hx kv⟩
   ·rw [if_neg e] at hy ⊢
    obtain ⟨v', h1, h2⟩ := hm y q hy hk
    exact ⟨v', h1, h2.mono hx kv⟩
  ·simp only at hy
   rw [j3] at hy
   by_cases e : y = x
   ·subst e; rw [hl] at hk; cases hk
   ·rw [if_neg e] at hy
    obtain ⟨c, v', hc, hi, hr⟩ := R.cel y q hy hk
    exact ⟨c, v', hc, cell (y, c) (mem_of_lookup hc) hi, hr.mono hx kv⟩
  ·obtain ⟨h1, h2, v', h3⟩ := R.cells q hq
   exact ⟨h1, h2, v', cell q hq h3⟩
theorem Gv {x : Str} {p : PV} {v : Pu} {c : PD} (S : SR w hT ρ μ h) (R : qN hT ρ h env σ) (hl : σ.sc.lookup x = some .cell) (rv : Rv hT ρ h v p) (hT0 : hT.get? c = none) (hc : env.cells.lookup x = some c)
 (hn : h'.IsCell c (some v)) (hs : RK c h h') : Le [c] ρ h ρ h' /\ SR w hT ρ μ h' /\ qN hT ρ h' env { σ with vs := upd σ.vs x p } := by
 have hcm := mem_of_lookup hc
 have hco : c ∈ qy env := .tail _ (RS (f := (·.2)) hcm)
 have kb := KB.same hs
 have nt : NT [c] h := fun b hb o e => R.nt b (by rw [Pw.mp hb]; exact hco) o e
 have kv := kb.kv nt
 have hx : ∃ more, ρ = ρ ++ more := ⟨[], by simp⟩
 obtain ⟨o, ho, hd⟩ := id hn
 refine ⟨Le.kb kb fun b hb => ?_, S.kb (fun b hb => ?_) kb nt, ?_⟩
 ·rw [Pw.mp hb]; exact ⟨o, ho⟩
 ·rw [Pw.mp hb]; exact ⟨R.out hco, hT0⟩
 ·obtain ⟨m, ⟨o1, es, ep, ho1, r1⟩, hv⟩ := R.ns
  refine ⟨R.kind, R.names, R.glob, R.blt, R.loc, ⟨m, ⟨o1, es, ep, (hs.2 _ (SN (R.cells _ hcm).2.1)).trans ho1, r1⟩, fun y q hy hk => ?_⟩, fun y q hy hk => ?_, fun q hq => ?_, R.sep, R.has⟩
  ·simp only at hy
   rw [j3] at hy
   by_cases e : y = x
   ·subst e; rw [hl] at hk; cases hk
   ·rw [if_neg e] at hy
    obtain ⟨v', h1, h2⟩ := hv y q hy hk
    exact ⟨v', h1, h2.mono hx kv⟩
  ·simp only at hy
   rw [j3] at hy
   by_cases e : y = x
   ·subst e
    rw [if_pos rfl] at hy
    cases hy
    exact ⟨c, v, hc, hn, rv.mono hx kv⟩
   ·rw [if_neg e] at hy
    obtain ⟨c', v', hc', hi, hr⟩ := R.cel y q hy hk
    have hne : c' ≠ c := fun z => e (R.sep _ (mem_of_lookup hc') _ hcm z)
    obtain ⟨o2, ho2, hd2⟩ := hi
    exact ⟨c', v', hc', ⟨o2, (hs.2 _ hne).trans ho2, hd2⟩, hr.mono hx kv⟩
  ·obtain ⟨h1, h2, v', o3, ho3, hd3⟩ := R.cells q hq
   by_cases e : q.2 = c
   ·exact ⟨h1, h2, some v, e ▸ hn⟩
   ·exact ⟨h1, h2, v', o3, (hs.2 _ e).trans ho3, hd3⟩
def QI (env : Env) (own : List PD) (x : Str) : Prop := ∀ c, env.cells.lookup x = some c -> c ∈ own
theorem xx {own : List PD} {x : Str} {p : PV} {v : Pu} {Q : Unit -> Py -> Prop} {E : Pu -> Py -> Prop} (ht : 1 <= s.toks) (S : SR w hT ρ μ s.heap) (R : qN hT ρ s.heap env σ) (rv : Rv hT ρ s.heap v p) (hp : σ.put x p = some σ') (hnt : ∀ b ∈ own, hT.get? b = none)
 (ho : env.locals ∈ own) (hx : QI env own x)
 (k : ∀ h' tk, Le own ρ s.heap ρ h' -> SR w hT ρ μ h' -> qN hT ρ h' env σ' -> 1 <= tk -> Q () { s with heap := h', toks := tk }) : PP (MM w) A (storeName env x v) Q E s := by
 have hkf := R.kindOf (s := s) x
 have weak : ∀ {a : PD} {h' : PO}, a ∈ own -> Le [a] ρ s.heap ρ h' -> Le own ρ s.heap ρ h' := fun ha x => x.weaken fun b zz zz q => by rw [Pw.mp q]; exact ha
 obtain ⟨hs, hp1⟩ := ifT hp
 have e := qk hp1
 subst e
 rcases xE hs with hs | hs
 ·obtain ⟨m, hm, hv⟩ := R.ns
  refine wpAny_storeName_local (hkf.trans hs) hm (fun h' hn hsb => ?_) (by rw [R.kind]; rfl)
  have z := Vz S R hs rv (hnt _ ho) hv hn hsb
  exact k h' (s.toks + 1) (weak ho z.1) z.2.1 z.2.2 (Ru ht)
 ·obtain ⟨c, hc⟩ := R.has x hs
  obtain ⟨_, _, v₀, hv₀⟩ := R.cells _ (mem_of_lookup hc)
  refine wpAny_storeName_cell R.kind (hkf.trans hs) hc hv₀ fun h' hn hsb => ?_
  have z := Gv S R hs rv (hnt _ (hx c hc)) hc hn hsb
  exact k h' s.toks (weak (hx c hc) z.1) z.2.1 z.2.2 ht
theorem qN.ownOf {own : List PD} (R : qN hT ρ h env σ) (hsub : ∀ b ∈ own, b ∈ qy env) : gS own h := fun b hb o e => R.ownOK b (hsub b hb) o e
theorem QO {t : Expr} {ts : List Expr} {ps : List PV} (h : vR σ (t :: ts) ps = some σ') : ∃ x px p ps' σ₁, t = .Name x px /\ ps = p :: ps' /\ σ.put x p = some σ₁ /\ vR σ₁ ts ps' = some σ' := by
 induction ps using PC with
 | nil => exact no h
 | cons p ps =>
   obtain ⟨x, hx, h⟩ := bnd h
   obtain ⟨σ₁, h1, h⟩ := bnd h
   obtain ⟨px, hx⟩ := jc hx
   exact ⟨x, px, p, ps, σ₁, hx, rfl, h1, h⟩
theorem ZI {ps : List PV} (h : vR σ [] ps = some σ') : ps = [] /\ σ' = σ := ⟨Rf.mp (ifT h).1, (qk (ifT h).2).symm⟩
theorem FF {own : List PD} {Q : Unit -> Py -> Prop} {E : Pu -> Py -> Prop} (hnt : ∀ b ∈ own, hT.get? b = none) (hsub : ∀ b ∈ own, b ∈ qy env) (ho : env.locals ∈ own) (ts : List Expr) : ∀ {vs : List Pu} {ps : List PV} {σ : LE} {s : Py}, vR σ ts ps = some σ' -> 1 <= s.toks -> SR w hT ρ μ s.heap -> qN hT ρ s.heap env σ -> RvL hT ρ s.heap vs ps ->
 (∀ x ∈ ts.filterMap qW, QI env own x) ->
 (∀ h' tk, Le own ρ s.heap ρ h' -> SR w hT ρ μ h' -> qN hT ρ h' env σ' -> 1 <= tk -> Q () { s with heap := h', toks := tk }) -> PP (MM w) A (assignInOrder ((Tw ts env).map (·.2)) vs) Q E s := by
 induction ts with
 | nil =>
   intro vs ps σ s hgo ht S R rvs _ k
   obtain ⟨e1, e2⟩ := ZI hgo
   subst e1 e2
   cases rvs
   exact wpAny_pure (k s.heap s.toks (Le.refl _ _ _) S R ht)
 | cons t ts ih =>
   intro vs ps σ s hgo ht S R rvs hx k
   obtain ⟨x, px, p, ps', σ₁, e1, e2, hp, hgo'⟩ := QO hgo
   clear hgo
   subst e1 e2
   cases rvs with | @cons v _ vs _ rv rvs =>
   show PP (MM w) A (assignInOrder ((fun v => A3 (.Name x px) env v) :: (Tw ts env).map (·.2)) (v :: vs)) Q E s
   refine UH (Tr (xx ht S R rv hp hnt ho (hx x (.head _)) fun h' tk x1 S1 R1 ht1 => ?_))
   exact ih (s := { s with heap := h', toks := tk }) hgo' ht1 S1 R1 (rvs.mono ⟨[], (PQ _).symm⟩ (S.kv (R.ownOf hsub) x1)) (fun y hy => hx y (.tail _ hy)) fun h'' tk' x2 S2 R2 ht2 => k h'' tk' (x1.trans x2) S2 R2 ht2
theorem Q3 (ts : List Expr) : ∀ {ps : List PV} {σ : LE}, vR σ ts ps = some σ' -> (Tw ts env).length = ps.length /\ (Tw ts env).findIdx? (·.1) = none := by
 induction ts with
 | nil => intro ps σ h; rw [(ZI h).1]; exact ⟨rfl, rfl⟩
 | cons t ts ih =>
   intro ps σ h
   obtain ⟨x, px, p, ps', σ₁, e1, e2, hp, hgo'⟩ := QO h
   rw [e1, e2]
   refine ⟨congrArg (· + 1) (ih hgo').1, ?_⟩
   show ((false, A3 (.Name x px) env) :: Tw ts env).findIdx? (·.1) = none
   rw [aX, (ih hgo').2]; rfl
theorem wp {own : List PD} {target : Expr} {v : Pu} {p : PV} {Q : Unit -> Py -> Prop} {E : Pu -> Py -> Prop} (hb : qt σ target p = some σ') (hh : A.handled = none) (ht : 1 <= s.toks) (S : SR w hT ρ μ s.heap) (R : qN hT ρ s.heap env σ) (rv : Rv hT ρ s.heap v p) (hnt : ∀ b ∈ own, hT.get? b = none)
 (hsub : ∀ b ∈ own, b ∈ qy env) (ho : env.locals ∈ own) (hx : ∀ x ∈ vV target, QI env own x)
 (k : ∀ h' tk, Le own ρ s.heap ρ h' -> SR w hT ρ μ h' -> qN hT ρ h' env σ' -> 1 <= tk -> Q () { s with heap := h', toks := tk }) : PP (MM w) A (A3 target env v) Q E s := by
 cases target with
 | Name x px => exact Tr (xx ht S R rv hb hnt ho (hx x (.head _)) k)
 | Tuple ts c pos =>
   obtain ⟨l, h1, hb⟩ := bnd hb
   obtain ⟨a, vs, e, hq, hl⟩ := rv.tI h1
   obtain ⟨e1, e2⟩ := Q3 (env := env) ts hb
   subst e
   refine wpAny_assign_Tuple hh hq (by rw [e1]; simp [hl.length]) e2 fun h' he => ?_
   have keep : ∀ b o, s.heap.get? b = some o -> h'.get? b = some o := fun b o e => he b o (RQ (RJ e)) e
   exact FF hnt hsub ho ts (s := { s with heap := h' }) hb ht (S.keeps keep) (R.kb (own := []) (KB.of keep) (fun zz q => nomatch q) (fun zz q => nomatch q)) (hl.mono ⟨[], (PQ _).symm⟩ (Kv.of_keeps keep)) hx fun h'' tk x1 S1 R1 ht1 => k h'' tk ((Le.of_keeps keep : Le own ρ s.heap ρ h').trans x1) S1 R1 ht1
 | _ => exact no hb
def zf (ρ : List PD) (h : PO) (own : List PD) : Src -> Nat -> PD -> Prop
 | .list n, i, I => own = [I] /\ ∃ a, ρ[n]? = some a /\ h.IsListIter I a i
 | .str x, i, I => own = [I] /\ ∃ t, h.IsStrIter I (U5 x) x t i
 | .enum n, i, I => ∃ J a old, own = [I, J] /\ I ≠ J /\ ρ[n]? = some a /\ IsEnum h I J i old /\ h.IsListIter J a i
theorem zf.nt {own : List PD} {src : Src} {i : Nat} {I : PD} (x : zf ρ h own src i I) : NT own h := by
 intro b hb o e hc
 obtain ⟨hc, _⟩ := hc
 induction src with
 | list n =>
   obtain ⟨rfl, a, _, o', ho', hc', _⟩ := x
   rw [Pw.mp hb, ho'] at e; cases e
   rw [hc'] at hc; simp at hc
 | str x =>
   obtain ⟨rfl, t, o', ho', hc', _⟩ := x
   rw [Pw.mp hb, ho'] at e; cases e
   rw [hc'] at hc
   unfold U5 at hc
   split at hc <;> simp at hc
 | enum n =>
   obtain ⟨J, a, old, rfl, _, _, he, o', ho', hc', _⟩ := x
   rcases Rq.mp hb with rfl | hb
   ·have he' : h.get? b = _ := he
    rw [he'] at e; cases e; simp at hc
   ·rw [Pw.mp hb, ho'] at e; cases e
    rw [hc'] at hc; simp at hc
theorem zf.there {own : List PD} {src : Src} {i : Nat} {I : PD} (x : zf ρ h own src i I) : ∀ b ∈ own, ∃ o, h.get? b = some o := by
 intro b hb
 induction src with
 | list n =>
   obtain ⟨rfl, a, _, o', ho', _⟩ := x
   rw [Pw.mp hb]; exact ⟨_, ho'⟩
 | str x =>
   obtain ⟨rfl, t, o', ho', _⟩ := x
   rw [Pw.mp hb]; exact ⟨_, ho'⟩
 | enum n =>
   obtain ⟨J, a, old, rfl, _, _, he, o', ho', _⟩ := x
   rcases Rq.mp hb with rfl | hb
   ·exact ⟨_, he⟩
   ·rw [Pw.mp hb]; exact ⟨_, ho'⟩
theorem zf.keep {own : List PD} {src : Src} {i : Nat} {I : PD} (x : zf ρ h own src i I) (hx : ∃ more, ρ' = ρ ++ more) (k : ∀ b ∈ own, ∀ o, h.get? b = some o -> (∀ es ep, o.data ≠ .dict es ep) -> h'.get? b = some o) : zf ρ' h' own src i I := by
 cases src with
 | list n =>
   obtain ⟨rfl, a, hn, o', ho', hc, hd⟩ := x
   exact ⟨rfl, a, jo hx hn, o', k I (.head _) o' ho' (fun es ep q => by rw [hd] at q; cases q), hc, hd⟩
 | str x =>
   obtain ⟨rfl, t, o', ho', hc, hd⟩ := x
   exact ⟨rfl, t, o', k I (.head _) o' ho' (fun es ep q => by rw [hd] at q; cases q), hc, hd⟩
 | enum n =>
   obtain ⟨J, a, old, rfl, hne, hn, he, o', ho', hc, hd⟩ := x
   exact ⟨J, a, old, rfl, hne, jo hx hn, k I (.head _) _ he (fun es ep q => by cases q), o', k J (.tail _ (.head _)) o' ho' (fun es ep q => by rw [hd] at q; cases q), hc, hd⟩
theorem zf.le {own own' : List PD} {src : Src} {i : Nat} {I : PD} (x : zf ρ h own src i I) (y : Le own' ρ h ρ' h') (f : ∀ b ∈ own, b ∉ ρ /\ b ∉ own') : zf ρ' h' own src i I :=
 x.keep y.pre fun b hb o e hd => y.ex b o e (f b hb).1 (f b hb).2 hd
theorem YL {target : Expr} {I a : PD} {i : Nat} {v : Pu} {Q : Unit -> Py -> Prop} {E : Pu -> Py -> Prop} (hit : s.heap.IsListIter I a i) (ht : zo target = true \/ ∃ x p, target = .Name x p) (h : Q () s) : PP (MM w) A (Ut target (.ref I) v) Q E s := by
 rcases ht with ht | ⟨x, p, rfl⟩
 ·obtain ⟨ts, k, p, rfl⟩ := xS ht
  induction v with
  | ref T => exact wpAny_letOwnedTupleGo_listiter hit h
  | _ => exact wpAny_pure h
 ·exact wpAny_pure h
theorem kJ {t : Expr} (h : jD t = true) : zo t = true \/ ∃ x p, t = .Name x p := by
 rcases (Tj _ _).mp h with h | h
 ·exact .inl h
 ·obtain ⟨x, h⟩ := Se.mp h
  exact .inr ⟨x, jc h⟩
set_option tactic.hygienic true in
theorem wa {own : List PD} {src : Src} {i : Nat} {I : PD} {target : Expr} {res : Option PV} {Q : Option Pu -> Py -> Prop} {E : Pu -> Py -> Prop} (hh : A.handled = none) (hto : jD target = true) (hen : ∀ n, src = .enum n -> zo target = true) (ht : 1 <= s.toks)
 (S : SR w hT ρ μ s.heap) (x : zf ρ s.heap own src i I) (f : ∀ b ∈ own, b ∉ ρ) (hn : xq src i μ = some res)
 (none : res = none -> ∀ h' tk, KB own s.heap h' -> 1 <= tk -> Q none { s with heap := h', toks := tk })
 (item : ∀ p v h' tk, res = some p -> KB own s.heap h' -> Rv hT ρ h' v p -> 1 <= tk ->
   (∀ (Q' : Unit -> Py -> Prop) (E' : Pu -> Py -> Prop), (∀ h'', KB own s.heap h'' -> Rv hT ρ h'' v p -> zf ρ h'' own src (i + 1) I -> Q' () { s with heap := h'', toks := tk }) -> PP (MM w) A (Ut target (.ref I) v) Q' E' { s with heap := h', toks := tk }) -> Q (some v) { s with heap := h', toks := tk }) :
 PP (MM w) A (cf (.ref I)) Q E s := by
 have hx0 : ∃ more, ρ = ρ ++ more := ⟨[], by simp⟩
 have nt := x.nt
 induction src with
 | list n =>
   obtain ⟨rfl, a, ha, hit⟩ := x
   obtain ⟨l, hl, rfl⟩ := Sv.mp hn
   obtain ⟨_, vs, hp, hv⟩ := S.listAt ha hl
   have hlv := hv.length
   induction hq : l[i]? with
   | none =>
     have : vs.toArray[i]? = AV := by
      rw [SS] at hq
      simp; lia
     exact Ug hh hit (PlainList.isList hp) this fun h' he => none hq h' s.toks (KB.ext he) ht
   | some p =>
     obtain ⟨v, hv1, hv2⟩ := hv.get hq
     refine Uc hit (PlainList.isList hp) (by simpa using hv1) fun h' hit' hs' => ?_
     have kb := KB.same hs'
     have rv := hv2.mono hx0 (kb.kv nt)
     refine item p v h' s.toks hq kb rv ht fun Q' E' hq' => ?_
     exact YL (s := { s with heap := h' }) hit' (kJ hto) (hq' h' kb rv ⟨rfl, a, ha, hit'⟩)
 | str x =>
   obtain ⟨rfl, t, hit⟩ := x
   cases hn
   unfold U5 at hit
   induction hq : x.cps[i]? with
   | none =>
     have e : ((AV : Option Nat).map fun c => PV.str ⟨#[c]⟩) = AV := rfl
     rw [hq] at none
     split at hit
     ·exact wpAny_pyNext_ascii_end hh hit hq fun h' he => none e h' s.toks (KB.ext he) ht
     ·exact wpAny_pyNext_wide_end hh hit hq fun h' he => none e h' s.toks (KB.ext he) ht
   | some c =>
     rw [hq] at item
     have fin : ∀ h', h'.IsStrIter I (U5 x) x t (i + 1) -> RK I s.heap h' -> Q (some (.str ⟨#[c]⟩ s.toks)) { s with heap := h', toks := s.toks + 1 } := fun h' hit' hs' => by
      have kb := KB.same hs'
      refine item (.str ⟨#[c]⟩) _ h' (s.toks + 1) rfl kb (.str _ _ (by show 1 <= Pr; decide)) (by lia) fun Q' E' hq' => ?_
      have hgo : PP (MM w) A (Ut target (.ref I) (.str ⟨#[c]⟩ s.toks)) Q' E' { s with heap := h', toks := s.toks + 1 } := by
       have hq2 := hq' h' kb (.str _ _ (by show 1 <= Pr; decide)) ⟨rfl, t, hit'⟩
       rcases kJ hto with htt | ⟨y, py, rfl⟩
       ·obtain ⟨ts, k, p, rfl⟩ := xS htt
        exact wpAny_pure hq2
       ·exact wpAny_pure hq2
      exact hgo
     split at hit
     ·rename_i ha
      exact wpAny_pyNext_ascii_item hit hq fun h' hit' hs' => fin h' (by unfold U5; rw [if_pos ha]; exact hit') hs'
     ·rename_i ha
      exact wpAny_pyNext_wide_item hit hq fun h' hit' hs' => fin h' (by unfold U5; rw [if_neg ha]; exact hit') hs'
 | enum n =>
   obtain ⟨J, a, old, rfl, hne, ha, he, hit⟩ := x
   obtain ⟨l, hl, rfl⟩ := Sv.mp hn
   obtain ⟨_, vs, hp, hv⟩ := S.listAt ha hl
   have hlv := hv.length
   have htt := hen n rfl
   induction hq : l[i]? with
   | none =>
     have : vs.toArray[i]? = AV := by
      rw [SS] at hq
      simp; lia
     exact wpAny_pyNext_enum_end hh he hit (PlainList.isList hp) this fun h' hext => none (by rw [hq]; rfl) h' s.toks ((KB.ext hext).mono fun b hb => .tail _ hb) ht
   | some p =>
     obtain ⟨v, hv1, hv2⟩ := hv.get hq
     refine wpAny_pyNext_enum_item he hit (PlainList.isList hp) (by simpa using hv1) hne fun h' he' hit' ht' hz hk => ?_
     have kb : KB [I, J] s.heap h' := fun b o hb e => by
      simp only [mem_cons, List.not_mem_nil, or_false, not_or] at hb
      exact hk b o hb.1 hb.2 e
     have rv := hv2.mono hx0 (kb.kv nt)
     have rt : Rv hT ρ h' (.ref s.heap.objs.size) (.tup [.int i, p]) := .tup (vs := [.int i s.toks, v]) ⟨_, ht', rfl, 0, rfl⟩ (.cons (.int _ _) (.cons rv .nil))
     refine item (.tup [.int i, p]) _ h' (s.toks + 1) (by rw [hq]; rfl) kb rt (by lia) fun Q' E' hq' => ?_
     obtain ⟨ts, k', p', e⟩ := xS htt
     subst e
     refine wpAny_letOwnedTupleGo_enum (s := { s with heap := h', toks := s.toks + 1 }) he' fun h'' he'' hs'' => ?_
     have hts : s.heap.objs.size ≠ I := RZ (RJ (show s.heap.get? I = _ from he))
     have hJ : h''.IsListIter J a (i + 1) := hit'.extBut hs''.extBut (SN hne)
     have kb2 : KB [I, J] h' h'' := (KB.same hs'').mono fun b hb => by rw [Pw.mp hb]; exact .head _
     have nt' : NT [I] h' := fun b hb o e hc => by
      rw [Pw.mp hb] at e
      have he2 : h'.get? I = _ := he'
      rw [he2] at e; cases e; have := hc.1; simp at this
     exact hq' h'' (kb.trans kb2) (rt.mono hx0 ((KB.same hs'').kv nt')) ⟨J, a, v, rfl, hne, ha, he'', hJ⟩
theorem zG : ∀ (names : List (Str × Sm)) (k : Nat) (acc : List (Str × PD)), cellsFrom k names acc = cellsFrom k names [] ++ acc
 | [], _, _ => rfl
 | (x, kd) :: r, k, acc => by
   unfold cellsFrom
   split
   ·rw [zG r (k + 1) ((x, k) :: acc), zG r (k + 1) [(x, k)]]
    simp
   ·exact zG r k acc
noncomputable def xP (cells : List (Str × PD)) : List (Str × Sm) -> List (Str × PD) -> List (Str × PD)
 | [], acc => acc
 | (x, k) :: r, acc => if k == .free then xP cells r ((x, (cells.lookup x).getD 0) :: acc) else xP cells r acc
theorem y8 : ∀ (names : List (Str × Sm)) (acc : List (Str × PD)), (∀ nk ∈ names, nk.2 = .free -> ∃ c, env.cells.lookup nk.1 = some c) ->
 (ba names acc fun (x : Str × Sm) cs => (if (x.2 == Uk) = true then do let a <- cellOf env x.1; pure (SH ((x.1, a) :: cs)) else pure (SH cs) : Sem (ForInStep (List (Str × PD))))) = pure (xP env.cells names acc)
 | [], _, _ => by rw [T5]; rfl
 | (x, k) :: r, acc, hf => by
   rw [SI]
   unfold xP
   induction hk : (k == Uk) with
   | true =>
     obtain ⟨c, hc⟩ := hf (x, k) (.head _) (eq_of_beq hk)
     have e : cellOf env x = pure c := by unfold cellOf; rw [hc]
     simp only [hk, if_true, e, bv, hc, Option.getD_some]
     exact y8 r _ fun nk hnk => hf nk (.tail _ hnk)
   | false =>
     simp only [hk, R7, if_false, bv]
     exact y8 r _ fun nk hnk => hf nk (.tail _ hnk)
theorem Qr {scope : Um} (hf : ∀ nk ∈ scope.names, nk.2 = .free -> ∃ c, env.cells.lookup nk.1 = some c) : cg scope env = pure (xP env.cells scope.names []) := by
 have := y8 scope.names [] hf
 unfold cg
 simp only at this ⊢
 rw [show (ba scope.names ([] : List (Str × PD)) fun (x : Str × Sm) cs => _) = _ from this]
 rfl
theorem xQ (cells : List (Str × PD)) : ∀ (names : List (Str × Sm)) (acc : List (Str × PD)), xP cells names acc = xP cells names [] ++ acc
 | [], _ => rfl
 | (x, kd) :: r, acc => by
   unfold xP
   split
   ·rw [xQ cells r ((x, _) :: acc), xQ cells r [(x, _)]]
    simp
   ·exact xQ cells r acc
set_option tactic.hygienic true in
theorem gF (cells : List (Str × PD)) : ∀ (names : List (Str × Sm)) (q : Str × PD), q ∈ xP cells names [] -> (q.1, Uk) ∈ names /\ q.2 = (cells.lookup q.1).getD 0
 | [], _, hq => by simp [xP] at hq
 | (x, kd) :: r, q, hq => by
   unfold xP at hq
   split at hq
   ·rename_i hk
    rw [xQ] at hq
    rcases PT.mp hq with hq | hq
    ·obtain ⟨a, b⟩ := gF cells r q hq
     exact ⟨.tail _ a, b⟩
    ·rw [Pw.mp hq]
     exact ⟨by rw [eq_of_beq hk]; exact .head _, rfl⟩
   ·obtain ⟨a, b⟩ := gF cells r q hq
    exact ⟨.tail _ a, b⟩
theorem Xi (cells : List (Str × PD)) : ∀ (names : List (Str × Sm)) (x : Str), (x, Uk) ∈ names -> (x, (cells.lookup x).getD 0) ∈ xP cells names []
 | [], _, hq => by cases hq
 | (y, kd) :: r, x, hq => by
   unfold xP
   rcases Rq.mp hq with e | hq
   ·cases e
    simp only [beq_self_eq_true, if_true]
    rw [xQ]
    exact Ra _ (.head _)
   ·have ih := Xi cells r x hq
    split
    ·rw [xQ]; exact Ro _ ih
    ·exact ih
theorem fj {α β : Type} (g : Str -> α -> β) : ∀ (l : List (Str × α)) (x : Str), (l.map fun nk => (nk.1, g nk.1 nk.2)).lookup x = (l.lookup x).map (g x)
 | [], _ => rfl
 | (y, k) :: r, x => by
   rw [RO, Ry, Ry]
   induction h : (x == y) with
   | true => have := eq_of_beq h; subst this; rfl
   | false => exact fj g r x
theorem wE {α : Type} : ∀ (l m : List (Str × α)) (x : Str), (l ++ m).lookup x = (l.lookup x).orElse fun zz => m.lookup x
 | [], _, _ => rfl
 | (y, k) :: r, m, x => by
   rw [AW, Ry, Ry]
   induction h : (x == y) with
   | true => rfl
   | false => exact wE r m x
theorem w4 {α : Type} : ∀ {l : List (Str × α)} {x : Str}, x ∉ l.map (·.1) -> l.lookup x = none
 | [], _, _ => rfl
 | (y, k) :: r, x, hn => by
   simp only [RO, mem_cons, not_or] at hn
   rw [Ry, beq_eq_false_iff_ne.mpr hn.1]
   exact w4 hn.2
theorem Xd {M : U8} {scope : Um} {cl : List (Str × PD)} {Q : Env -> Py -> Prop} {E : Pu -> Py -> Prop}
 (hQ : Q { scope := scope, locals := s.heap.objs.size, globals := env.globals, cells := cellsFrom (s.heap.objs.size + 1) scope.names [] ++ cl, qual := env.qual, func := none, code := env.code, frame := env.frame, builtins := env.builtins }
   { s with heap := bx (s.heap.push { cls := .type "dict", data := .dict #[] }) scope.names }) :
 PP M A (newFunctionEnv scope env.globals cl [] env.qual none .none (some env)) Q E s := by
 simp only [newFunctionEnv, Option.isSome_some, if_true]
 refine wpAny_bind (AT ?_)
 refine wpAny_bind (wpAny_layCells _ (fun name kind cells => by cases hkc : kind == aH <;> simp [hkc]) _ _ _ _ ?_)
 rw [show ({ s with heap := s.heap.push { cls := .type "dict", data := .dict #[] } } : Py).heap.objs.size = s.heap.objs.size + 1 from SK ..]
 rw [T5]
 rw [zG]
 exact wpAny_bind (wpAny_pure (wpAny_pure hQ))
structure Z6 (σ : LE) (sc : Um) : Prop where
 kind : sc.kind = .function
 nd : (sc.names.map (·.1)).Nodup
 fr : ∀ nk ∈ sc.names, nk.2 = .free -> σ.sc.lookup nk.1 = some .cell
theorem Z6.of {sc : Um} (h : vZ σ sc = true) : Z6 σ sc := by
 unfold vZ at h
 simp only [Rl, beq_iff_eq, decide_eq_true_eq, PS, Tj, S8, beq_eq_false_iff_ne] at h
 exact ⟨h.1.1, h.1.2, fun nk hn hk => (h.2 nk hn).resolve_left fun q => q hk⟩
noncomputable def Qd (scope : Um) (env : Env) (C : PD) : Env :=
 { scope := relabel scope env, locals := C, globals := env.globals, cells := cellsFrom (C + 1) scope.names [] ++ xP env.cells scope.names [], qual := env.qual, func := none, code := env.code, frame := env.frame, builtins := env.builtins }
noncomputable def Qj (scope : Um) (C : PD) : List PD := C :: (cellsFrom (C + 1) scope.names []).map (·.2)
set_option tactic.hygienic true in
theorem B3 {scope : Um} (R : qN hT ρ h env σ) (S : SR w hT ρ μ h) (K : Z6 σ scope) :
 let h' := bx (h.push { cls := .type "dict", data := .dict #[] }) scope.names
 let cenv := Qd scope env h.objs.size
 (∀ b o, h.get? b = some o -> h'.get? b = some o) /\ (∀ b ∈ Qj scope h.objs.size, h.objs.size <= b /\ b ∈ qy cenv) /\ qN hT ρ h' cenv (σ.comp scope.names) /\
 (∀ x, scope.names.lookup x ≠ some .free -> QI cenv (Qj scope h.objs.size) x) /\ (∀ b ∈ qy cenv, b ∈ Qj scope h.objs.size \/ ∃ q ∈ env.cells, q.2 = b) := by
 intro h' cenv
 have keep : ∀ b o, h.get? b = some o -> h'.get? b = some o := fun b o e => Aw _ _ b o (qg _ _ _ _ e)
 have ok : CellsOk h' (h.objs.size + 1) (cellsFrom (h.objs.size + 1) scope.names []) := by
  have := cellsFrom_ok scope.names (h.push { cls := .type "dict", data := .dict #[] }) (h.objs.size + 1) [] ⟨fun zz zz hm => (nomatch hm), List.Pairwise.nil⟩ (by rw [SK]; exact PJ _)
  rwa [SK] at this
 have hC : h'.get? h.objs.size = some { cls := .type "dict", data := .dict #[] } := Aw _ _ _ _ (Rg _ rfl)
 have hns : h'.Ns h.objs.size (fun zz => none) := (PO.Ns.new h (.type "dict")).keeps (Aw _ _)
 have kv : Kv h h' := Kv.of_keeps keep
 have hx : ∃ more, ρ = ρ ++ more := ⟨[], by simp⟩
 have hfresh : ∀ q ∈ cellsFrom (h.objs.size + 1) scope.names [], h.objs.size + 1 <= q.2 /\ h'.IsCell q.2 none := fun q hq => ⟨(ok.empty q.1 q.2 hq).2, (ok.empty q.1 q.2 hq).1⟩
 have hcl : ∀ q ∈ xP env.cells scope.names [], (q.1, Uk) ∈ scope.names /\ env.cells.lookup q.1 = some q.2 := fun q hq => by
  obtain ⟨a, b⟩ := gF _ _ q hq
  obtain ⟨c, hc⟩ := R.has q.1 (K.fr _ a rfl)
  rw [hc] at b
  exact ⟨a, by rw [hc, b]; rfl⟩
 have hlow : ∀ q ∈ xP env.cells scope.names [], q ∈ env.cells := fun q hq => mem_of_lookup (hcl q hq).2
 have ZA : ∀ q ∈ env.cells, q.2 < h.objs.size := fun q hq => by
  obtain ⟨_, _, v, o, ho, _⟩ := R.cells q hq
  exact RJ ho
 have fkeys : ∀ x, x ∈ (cellsFrom (h.objs.size + 1) scope.names []).map (·.1) -> scope.names.lookup x = some .cell := fun x hm => by
  rw [jb] at hm
  simp only [Al, PQ, TC] at hm
  obtain ⟨q, hq, rfl⟩ := Ri.mp hm
  obtain ⟨h1, h2⟩ := RM.mp hq
  exact jS K.nd (show (q.1, aH) ∈ scope.names by rw [<- eq_of_beq h2]; exact h1)
 have clkeys : ∀ q ∈ xP env.cells scope.names [], scope.names.lookup q.1 = some .free := fun q hq => jS K.nd (hcl q hq).1
 have fnd : ((cellsFrom (h.objs.size + 1) scope.names []).map (·.1)).Nodup := by
  rw [jb]
  simp only [Al, PQ]
  exact AA.mpr (((bp _ (au)).nodup K.nd).imp fun h => SN h)
 have lk : ∀ x, cenv.cells.lookup x = ((cellsFrom (h.objs.size + 1) scope.names []).lookup x).orElse fun zz => (xP env.cells scope.names []).lookup x := fun x => wE _ _ x
 have lkfree : ∀ x, scope.names.lookup x = some .free -> ∃ c, env.cells.lookup x = some c /\ cenv.cells.lookup x = some c := fun x hxf => by
  have hm := mem_of_lookup hxf
  obtain ⟨c, hc⟩ := R.has x (K.fr _ hm rfl)
  have hno : (cellsFrom (h.objs.size + 1) scope.names []).lookup x = none := w4 fun q => by rw [fkeys x q] at hxf; cases hxf
  have hh := Xi env.cells scope.names x hm
  rw [hc] at hh
  obtain ⟨c', hc'⟩ := jn (l := xP env.cells scope.names []) (RS (f := (·.1)) hh)
  have e2 := (hcl _ (mem_of_lookup hc')).2
  rw [hc] at e2
  exact ⟨c, hc, by rw [lk, hno]; simp only [Option.orElse]; rw [hc']; exact e2.symm⟩
 have lkcell : ∀ x, scope.names.lookup x = some .cell -> ∃ c, cenv.cells.lookup x = some c /\ (x, c) ∈ cellsFrom (h.objs.size + 1) scope.names [] := fun x hxc => by
  have hm : x ∈ (cellsFrom (h.objs.size + 1) scope.names []).map (·.1) := by
   rw [jb]
   simp only [Al, PQ, TC]
   exact Ri.mpr ⟨_, RM.mpr ⟨mem_of_lookup hxc, by simp⟩, rfl⟩
  obtain ⟨c, hc⟩ := jn hm
  exact ⟨c, by rw [lk, hc]; rfl, mem_of_lookup hc⟩
 have sclk : ∀ x, (σ.comp scope.names).sc.lookup x = (scope.names.lookup x).map fun k => if (k == .free && σ.sc.lookup x == some .cell) then .cell else k := fun x => by
  have := fj (fun (nm : Str) (k : Sm) => if (k == .free && σ.sc.lookup nm == some .cell) then aH else k) scope.names x
  rw [<- this]
  unfold LE.comp
  simp only
  congr 1
  apply SJ
  rintro ⟨a, b⟩ _
  simp only
  split <;> rfl
 have vslk : ∀ x p, (σ.comp scope.names).vs.lookup x = some p -> scope.names.lookup x = some .free /\ σ.vs.lookup x = some p := by
  intro x p
  unfold LE.comp
  simp only
  induction σ.vs with
  | nil => intro h; cases h
  | cons q l ih =>
    obtain ⟨y, v⟩ := q
    intro hq
    rw [filter_cons] at hq
    split at hq
    ·rename_i hy
     rw [Ry] at hq ⊢
     induction hxy : (x == y) with
     | true =>
       have := eq_of_beq hxy; subst this
       rw [hxy] at hq
       exact ⟨eq_of_beq hy, hq⟩
     | false => rw [hxy] at hq; exact ih hq
    ·rename_i hy
     obtain ⟨a, b⟩ := ih hq
     refine ⟨a, ?_⟩
     rw [Ry]
     have : (x == y) = false := by
      rw [beq_eq_false_iff_ne]; rintro rfl
      exact hy (by rw [a]; rfl)
     rw [this]; exact b
 refine ⟨keep, fun b hb => ?_, ⟨?_, ?_, R.glob, R.blt, fun q => absurd (S.lt q) (Sq _), ⟨_, hns, fun x p hv hk => ?_⟩, fun x p hv hk => ?_, fun q hq => ?_, fun q hq q' hq' e => ?_, fun x hk => ?_⟩, fun x hxn c hc => ?_, fun b hb => ?_⟩
 ·rcases Rq.mp hb with rfl | hb
  ·exact ⟨PJ _, .head _⟩
  ·obtain ⟨q, hq, rfl⟩ := Ri.mp hb
   exact ⟨RL (hfresh q hq).1, .tail _ (RS (f := (·.2)) (Ro _ hq))⟩
 ·show (relabel scope env).kind = .function
  exact K.kind
 ·show (relabel scope env).names = (σ.comp scope.names).sc
  unfold relabel LE.comp
  simp only
  apply SJ
  rintro ⟨a, b⟩ _
  have : env.kindOf a = σ.sc.lookup a := by unfold Env.kindOf; rw [R.names]
  simp only [R.kind, this, beq_self_eq_true, Bool.and_true]
 ·obtain ⟨a, b⟩ := vslk x p hv
  rw [sclk, a] at hk
  have := K.fr _ (mem_of_lookup a) rfl
  simp only [this] at hk
  cases hk
 ·obtain ⟨a, b⟩ := vslk x p hv
  obtain ⟨c, hc1, hc2⟩ := lkfree x a
  obtain ⟨c', v, e1, e2, e3⟩ := R.cel x p b (K.fr _ (mem_of_lookup a) rfl)
  rw [hc1] at e1; cases e1
  obtain ⟨o, ho, hd⟩ := e2
  exact ⟨c, v, hc2, ⟨o, keep _ _ ho, hd⟩, e3.mono hx kv⟩
 ·rcases PT.mp hq with hq | hq
  ·obtain ⟨a, b⟩ := hfresh q hq
   refine ⟨fun z => absurd (S.lt z) (Sh.mpr (RL a)), RZ a, _, b⟩
  ·have hm := hlow q hq
   obtain ⟨a, b, v, o, ho, hd⟩ := R.cells q hm
   exact ⟨a, RQ (ZA q hm), v, o, keep _ _ ho, hd⟩
 ·rcases PT.mp hq with hq | hq <;> rcases PT.mp hq' with hq' | hq'
  ·exact name_of_addr ok.apart (show (q.1, q.2) ∈ _ from hq) (by rw [e]; exact hq')
  ·exact absurd (PY (ZA q' (hlow q' hq')) (RL (hfresh q hq).1)) (by rw [e]; exact Sq _)
  ·exact absurd (PY (ZA q (hlow q hq)) (RL (hfresh q' hq').1)) (by rw [e]; exact Sq _)
  ·exact R.sep q (hlow q hq) q' (hlow q' hq') e
 ·rw [sclk] at hk
  obtain ⟨k, h1, h2⟩ := Sv.mp hk
  split at h2
  ·rename_i hg
   simp only [Rl, beq_iff_eq] at hg
   rw [hg.1] at h1
   obtain ⟨c, _, hc⟩ := lkfree x h1
   exact ⟨c, hc⟩
  ·subst h2
   obtain ⟨c, hc, _⟩ := lkcell x h1
   exact ⟨c, hc⟩
 ·rw [lk] at hc
  induction hq : (cellsFrom (h.objs.size + 1) scope.names []).lookup x with
  | some c' =>
    rw [hq] at hc
    cases hc
    exact .tail _ (RS (f := (·.2)) (mem_of_lookup hq))
  | none =>
    rw [hq] at hc
    exact absurd (clkeys _ (mem_of_lookup hc)) hxn
 ·rcases Rq.mp hb with rfl | hb
  ·exact .inl (.head _)
  ·obtain ⟨q, hq, rfl⟩ := Ri.mp hb
   rcases PT.mp hq with hq | hq
   ·exact .inl (.tail _ (RS (f := (·.2)) hq))
   ·exact .inr ⟨q, hlow q hq, rfl⟩
end
section
variable {w : Rk} {hT : PO} {A : RE} {l : List Env} {ρ ρ' ρ₀ : List PD} {μ μ₁ μ' : q4} {s : Py} {n : Nat} {env cenv : Env} {outer : List Env} {σ σ' : LE} {h h' h₀ : PO} {r : Ev}
theorem Stk.leX {own : List PD} (K : Stk hT A ρ h l) (x : Le own ρ h ρ' h') (f : ∀ b ∈ own, h.get? b = none) : Stk hT A ρ' h' l := by
 have nf : ∀ e ∈ l, ∀ L, e.frame = some L -> L ∉ own := fun e he L hL q => by
  obtain ⟨_, o, ho, _⟩ := K.out e he L hL
  rw [f L q] at ho; cases ho
 refine ⟨K.fr, yk x.kp K.ff fun e he L hf => ⟨(K.out e he L hf).1, nf e he L hf⟩, fun e he L hf => ?_⟩
 obtain ⟨h1, o, ho, hd⟩ := K.out e he L hf
 obtain ⟨sl, hs⟩ := x.kp L o ho h1 (nf e he L hf)
 exact ⟨x.out ho h1, _, hs, hd⟩
theorem gV {D : PD} {vs : Array Pu} {own : List PD} (x : Le own ρ h ρ' h') (hD : h.PlainList D vs) (h1 : D ∉ ρ) (h2 : D ∉ own) : h'.PlainList D vs := by
 obtain ⟨n, ho⟩ := hD
 exact ⟨n, x.ex D _ ho h1 h2 fun es ep q => by cases q⟩
theorem ZG {D : PD} {vs : Array Pu} {own : List PD} (x : KB own h h') (hD : h.PlainList D vs) (h2 : D ∉ own) : h'.PlainList D vs := by
 obtain ⟨n, ho⟩ := hD
 exact ⟨n, x D _ h2 ho⟩
structure CI (w : Rk) (hT : PO) (cenv : Env) (co own : List PD) (D : PD) (ρ₀ : List PD) (h₀ : PO) (src : Src) (I : PD) (i : Nat) (σ : LE) (ρ : List PD) (μ : q4) (h : PO) (vs : List Pu) (ps : List PV) : Prop where
 le : Le (own ++ D :: co) ρ₀ h₀ ρ h
 sr : SR w hT ρ μ h
 er : qN hT ρ h cenv σ
 it : zf ρ h own src i I
 nr : ∀ b ∈ own ++ D :: co, b ∉ ρ
 acc : h.PlainList D vs.toArray
 rv : RvL hT ρ h vs ps
structure CK (hT : PO) (A : RE) (l : List Env) (cenv : Env) (co own : List PD) (D : PD) (ρ₀ : List PD) (h₀ : PO) (n : Nat) : Prop where
 f0 : ∀ b ∈ own ++ D :: co, h₀.get? b = none
 hn : ∀ b ∈ own ++ D :: co, hT.get? b = none
 sub : ∀ b ∈ co, b ∈ qy cenv
 loc : cenv.locals ∈ co
 d1 : ∀ b ∈ own, b ∉ qy cenv /\ b ≠ D
 d2 : D ∉ qy cenv
 sk : Stk hT A ρ₀ h₀ l
 rm : jW A n
section
variable {co own : List PD} {D I : PD} {src : Src} {i : Nat} {vs : List Pu} {ps : List PV}
theorem CI.there (X : CI w hT cenv co own D ρ₀ h₀ src I i σ ρ μ h vs ps) (K : CK hT A l cenv co own D ρ₀ h₀ n) : ∀ b ∈ own ++ D :: co, ∃ o, h.get? b = some o := fun b hb => by
 rcases PT.mp hb with hb | hb
 ·exact X.it.there b hb
 ·rcases Rq.mp hb with rfl | hb
  ·obtain ⟨n, ho⟩ := X.acc; exact ⟨_, ho⟩
  ·exact X.er.there b (K.sub b hb)
theorem CI.act (X : CI w hT cenv co own D ρ₀ h₀ src I i σ ρ μ h vs ps) (K : CK hT A l cenv co own D ρ₀ h₀ n) : Act w hT A l cenv σ ρ μ h n := ⟨X.sr, X.er, K.sk.leX X.le K.f0, K.rm⟩
theorem CI.le0 (X : CI w hT cenv co own D ρ₀ h₀ src I i σ ρ μ h vs ps) (K : CK hT A l cenv co own D ρ₀ h₀ n) (x : Le [] ρ h ρ' h') (S : SR w hT ρ' μ' h') : CI w hT cenv co own D ρ₀ h₀ src I i σ ρ' μ' h' vs ps := by
 refine ⟨X.le.trans x.any, S, X.er.le X.sr x, X.it.le x fun b hb => ⟨X.nr b (Ro _ hb), by simp⟩, fun b hb => ?_, gV x X.acc (X.nr D (Ra _ (.head _))) (by simp), X.rv.le X.sr x⟩
 obtain ⟨o, ho⟩ := X.there K b hb
 exact x.out ho (X.nr b hb)
theorem CI.bound (X : CI w hT cenv co own D ρ₀ h₀ src I i σ ρ μ h vs ps) (K : CK hT A l cenv co own D ρ₀ h₀ n) (x : Le co ρ h ρ h') (S : SR w hT ρ μ h') (R : qN hT ρ h' cenv σ') : CI w hT cenv co own D ρ₀ h₀ src I i σ' ρ μ h' vs ps := by
 have hDco : D ∉ co := fun q => K.d2 (K.sub D q)
 refine ⟨X.le.trans (x.weaken fun b zz zz q => Ra _ (.tail _ q)), S, R, X.it.le x fun b hb => ⟨X.nr b (Ro _ hb), fun q => (K.d1 b hb).1 (K.sub b q)⟩, X.nr, gV x X.acc (X.nr D (Ra _ (.head _))) hDco, ?_⟩
 exact X.rv.mono ⟨[], by simp⟩ (X.sr.kv (X.er.ownOf K.sub) x)
theorem CI.next {i' : Nat} (X : CI w hT cenv co own D ρ₀ h₀ src I i σ ρ μ h vs ps) (K : CK hT A l cenv co own D ρ₀ h₀ n) (kb : KB own h h') (it : zf ρ h' own src i' I) : CI w hT cenv co own D ρ₀ h₀ src I i' σ ρ μ h' vs ps := by
 have nt := X.it.nt
 have hDo : D ∉ own := fun q => (K.d1 D q).2 rfl
 refine ⟨X.le.trans ((Le.kb kb it.there).weaken fun b zz zz q => Ro _ q), X.sr.kb (fun b hb => ⟨X.nr b (Ro _ hb), K.hn b (Ro _ hb)⟩) kb nt, X.er.kb kb nt fun b hb => (K.d1 b hb).1, it, X.nr, ZG kb X.acc hDo, X.rv.mono ⟨[], by simp⟩ (kb.kv nt)⟩
theorem CI.push {v : Pu} {p : PV} (X : CI w hT cenv co own D ρ₀ h₀ src I i σ ρ μ h vs ps) (K : CK hT A l cenv co own D ρ₀ h₀ n) (rv : Rv hT ρ h v p) (hs : RK D h h') (hp : h'.PlainList D (vs.toArray.push v)) : CI w hT cenv co own D ρ₀ h₀ src I i σ ρ μ h' (vs ++ [v]) (ps ++ [p]) := by
 have kb := KB.same hs
 have nt : NT [D] h := fun b hb o e hc => by
  rw [Pw.mp hb] at e
  obtain ⟨n, ho⟩ := X.acc
  rw [ho] at e; cases e
  have := hc.1; simp at this
 have hx : ∃ more, ρ = ρ ++ more := ⟨[], by simp⟩
 have e2 : vs.toArray.push v = (vs ++ [v]).toArray := by simp
 have hDm : D ∈ own ++ D :: co := Ra _ (.head _)
 refine ⟨X.le.trans ((Le.kb kb fun b hb => by rw [Pw.mp hb]; obtain ⟨n, ho⟩ := hp; exact ⟨_, ho⟩).weaken fun b zz zz q => by rw [Pw.mp q]; exact hDm), X.sr.kb (fun b hb => by rw [Pw.mp hb]; exact ⟨X.nr D hDm, K.hn D hDm⟩) kb nt,
  X.er.kb kb nt fun b hb => by rw [Pw.mp hb]; exact K.d2, X.it.keep hx fun b hb o e zz => (hs.2 b (K.d1 b hb).2).trans e, X.nr, e2 ▸ hp, (X.rv.mono hx (kb.kv nt)).append (.cons (rv.mono hx (kb.kv nt)) .nil)⟩
theorem fz {α β : Type} {m : PR α} {f : α -> PM β} {b : β} {μ' : q4} (h : qa m f = some (.ok b, μ')) : ∃ a μ₁, m = some (.ok a, μ₁) /\ f a μ₁ = some (.ok b, μ') := by
 rcases wG h with ⟨x, _, e⟩ | h
 ·cases e
 ·exact h
theorem Sim.ok {α β : Type} {rel : List PD -> PO -> α -> β -> Prop} {t : Sem α} {m : PR β} {b : β} {Q : α -> Py -> Prop} {E : Pu -> Py -> Prop} (S : Sim w hT A rel ρ s t m) (h1 : 1 <= s.toks) (hm : m = some (.ok b, μ'))
 (k : ∀ a h' tk ρ', Le [] ρ s.heap ρ' h' -> SR w hT ρ' μ' h' -> rel ρ' h' a b -> 1 <= tk -> Q a { s with heap := h', toks := tk }) : PP (MM w) A t Q E s :=
 S h1 _ _ hm Q E ⟨fun a h' tk ρ' b' e x S' rv ht => by cases e; exact k a h' tk ρ' x S' rv ht, fun e h' tk ρ' x e' => nomatch e'⟩
theorem DT {ifs : List Expr} {b : Bool} {cenv : Env} {l : List Env} {Q : Bool -> Py -> Prop} {E : Pu -> Py -> Prop} {f : Expr -> Bool -> Sem (ForInStep Bool)} (hf : ∀ c, f c true = (isTrue c cenv (eval c cenv) >>= fun b => pure (SH b))) (G : GF w hT) (H : j5 w hT r n) (X : Act w hT A l cenv σ ρ μ s.heap n) (ht : 1 <= s.toks) (hm : zY r σ ifs μ = some (.ok b, μ'))
 (k : ∀ h' tk ρ', Le [] ρ s.heap ρ' h' -> SR w hT ρ' μ' h' -> 1 <= tk -> Q b { s with heap := h', toks := tk }) : PP (MM w) A (ba ifs true f) Q E s := by
 induction ifs using PC with
 | nil =>
   have e := wS (show some ((.ok true : Except Exn Bool), μ) = some (.ok b, μ') from hm)
   rw [T5]
   have e1 : b = true := by injection e.1
   subst e1
   exact wpAny_pure (k s.heap s.toks ρ (Le.refl _ _ _) (e.2 ▸ X.sr) ht)
 | cons c cs =>
   induction cs using PC with
   | cons _ _ => exact no hm
   | nil =>
     rw [SI, hf]
     refine wpAny_bind (wpAny_bind ((fX G H c X).ok ht hm fun b' h₄ tk₄ ρ₄ x4 S4 eb ht4 => wpAny_pure ?_))
     show PP _ _ (ba [] b' _) _ _ _
     rw [T5]
     exact wpAny_pure (eb ▸ k h₄ tk₄ ρ₄ x4 S4 ht4)
theorem JR {target iter elt : Expr} {ifs : List Expr} {scope : Um} {pos : Pos} {R : Result -> Py -> Prop} {ys₀ : List PV} (G : GF w hT) (H : j5 w hT r n) (K : CK hT A l cenv co own D ρ₀ h₀ n) (hto : jD target = true) (hen : ∀ m, src = .enum m -> zo target = true) (hx : ∀ x ∈ vV target, QI cenv co x)
 (hlen : ys₀.length <= Pr) (hR : ∀ h' tk ρ' vs', Le [] ρ₀ h₀ ρ' h' -> SR w hT ρ' μ' h' -> h'.PlainList D (List.toArray vs') -> RvL hT ρ' h' vs' ys₀ -> (∀ b ∈ D :: co, b ∉ ρ') -> (∃ m, h'.Ns cenv.locals m) -> 1 <= tk -> R (.ok .next) { s with heap := h', toks := tk }) (k : Nat) :
 ∀ (i : Nat) (σ : LE) (ρ : List PD) (μ : q4) (h : PO) (tk : Nat) (vs : List Pu) (ps ys : List PV), CI w hT cenv co own D ρ₀ h₀ src I i σ ρ μ h vs ps -> 1 <= tk -> zV r src target ifs elt k i σ μ = some (.ok ys, μ') -> ps ++ ys = ys₀ ->
  TB (MM w) A (.compLoop (.ListComp elt [⟨target, iter, ifs, 0⟩] scope pos) 0 (.ref I) (.ref D) cenv) R { s with heap := h, toks := tk } := by
 induction k with
 | zero => exact fun zz zz zz zz zz zz zz zz zz zz zz hm => no hm
 | succ k ih =>
   intro i σ ρ μ h tk vs ps ys X ht hm hys
   have hnr : ∀ b ∈ own, b ∉ ρ := fun b hb => X.nr b (Ro _ hb)
   refine Av ?_
   show PP _ A ((compTurn (.ListComp elt [⟨target, iter, ifs, 0⟩] scope pos) 0 (.ref I) (.ref D) cenv).onRaise (fun x => do noteFrame x cenv; theTreesLotGoes x)) _ _ _
   refine wpAny_noted ?_
   rw [compTurn_list]
   obtain ⟨o, hn, hm1⟩ := bnd (o := xq src i μ) hm
   clear hm
   induction o with
   | none =>
     have e := wS (show some ((.ok [] : Except Exn (List PV)), μ) = some (.ok ys, μ') from hm1)
     have e1 : ys = [] := by injection e.1
     have e2 := e.2
     subst e1 e2
     rw [PQ] at hys
     subst hys
     refine wpAny_bind (wpAny_standAt (wpAny_bind (wa (s := { s with heap := h, toks := tk }) K.rm.1 hto hen ht X.sr X.it hnr hn (fun zz h' tk kb ht' => ?_) fun p v h' tk e => nomatch e)))
     have nt := X.it.nt
     exact wpAny_pure (hR h' tk ρ vs (Le.fin (own := own ++ D :: co) (own' := []) (by rw [PQ]; exact X.le) K.f0 (kb.mono fun b hb => Ro _ hb)) (X.sr.kb (fun b hb => ⟨hnr b hb, K.hn b (Ro _ hb)⟩) kb nt)
      (ZG kb X.acc (fun q => (K.d1 D q).2 rfl)) (X.rv.mono ⟨[], (PQ _).symm⟩ (kb.kv nt)) (fun b hb => X.nr b (Ra _ hb)) (let ⟨m, hm, _⟩ := (X.er.kb kb nt fun b hb => (K.d1 b hb).1).ns; ⟨m, hm⟩) ht')
   | some p =>
     obtain ⟨σ', hb, hm2⟩ := bnd (o := qt σ target p) hm1
     obtain ⟨b, μ₁, hb1, hm3⟩ := fz hm2
     clear hm1 hm2
     refine wpAny_bind (wpAny_standAt (wpAny_bind (wa (s := { s with heap := h, toks := tk }) K.rm.1 hto hen ht X.sr X.it hnr hn (fun e => nomatch e) fun p' v h' tk e kb rv ht' go => ?_)))
     have e := qk e
     subst e
     refine wpAny_bind (go _ _ fun h'' kb2 rv2 it2 => ?_)
     have X2 := X.next K kb2 it2
     refine wpAny_bind (wp (s := { s with heap := h'', toks := tk }) (own := co) hb K.rm.1 ht' X2.sr X2.er rv2 (fun b hb => K.hn b (Ra _ (.tail _ hb))) K.sub K.loc hx fun h₃ tk₃ x3 S3 R3 ht3 => ?_)
     have X3 := X2.bound K x3 S3 R3
     refine wpAny_bind (DT (s := { s with heap := h₃, toks := tk₃ }) (fun zz => rfl) G H (X3.act K) ht3 hb1 fun h₄ tk₄ ρ₄ x4 S4 ht4 => ?_)
     have X4 := X3.le0 K x4 S4
     induction b with
     | false => exact wpAny_pure ⟨rfl, ih (i + 1) σ' ρ₄ μ₁ h₄ tk₄ vs ps ys X4 ht4 hm3 hys⟩
     | true =>
       obtain ⟨y, μ₂, hy, hm4⟩ := fz (m := r.ev σ' elt μ₁) hm3
       obtain ⟨ys', μ₃, hyy, hm5⟩ := fz hm4
       have e := wS (show some ((.ok (y :: ys') : Except Exn (List PV)), μ₃) = some (.ok ys, μ') from hm5)
       have e1 : ys = y :: ys' := by injection e.1
       rw [e1] at hys
       rw [<- e.2] at hyy
       refine wpAny_bind (wpAny_bind ((H A l cenv σ' ρ₄ μ₁ { s with heap := h₄, toks := tk₄ } elt (X4.act K)).ok ht4 hy fun yv h₅ tk₅ ρ₅ x5 S5 ry ht5 => ?_))
       have X5 := X4.le0 K x5 S5
       refine wpAny_bind (A7 X5.acc (fun h₆ hp6 hs6 => wpAny_pure (wpAny_pure ⟨rfl, ?_⟩)) ?_)
       ·exact ih (i + 1) σ' ρ₅ μ₂ h₆ tk₅ (vs ++ [yv]) (ps ++ [y]) ys' (X5.push K ry hs6 hp6) ht5 hyy (by rw [PF]; exact hys)
       ·rw [RV, X5.rv.length]; rw [<- hys, PB, SW] at hlen; lia
end
end
theorem Jm {e : Expr} {env : Env} (h : yr e = false) (x : Pu) : foldedSetIterable e env x = pure x := by
 cases e <;> first | rfl | cases h
section
variable {w : Rk} {hT : PO} {A : RE} {l : List Env} {ρ ρ' ρ₀ : List PD} {μ μ₁ μ' : q4} {s : Py} {n : Nat} {env cenv : Env} {outer : List Env} {σ σ' : LE} {h h' h₀ : PO} {r : Ev}
structure It0 (ρ : List PD) (h h' : PO) (own : List PD) (src : Src) (I : PD) : Prop where
 it : zf ρ h' own src 0 I
 keep : ∀ b o, h.get? b = some o -> h'.get? b = some o
 low : ∀ b ∈ own, h.objs.size <= b /\ b < h'.objs.size
theorem It0.le {own : List PD} {src : Src} {I : PD} (x : It0 ρ h h' own src I) : h.objs.size <= h'.objs.size := by
 induction src with
 | list n => obtain ⟨rfl, _⟩ := x.it; have := x.low I (.head _); exact Tf (RI this.1 this.2)
 | str n => obtain ⟨rfl, _⟩ := x.it; have := x.low I (.head _); exact Tf (RI this.1 this.2)
 | enum n => obtain ⟨J, a, old, rfl, _⟩ := x.it; have := x.low I (.head _); exact Tf (RI this.1 this.2)
theorem QX {v : Pu} {p : PV} {src : Src} {k : Nat} {Q : Pu -> Py -> Prop} {E : Pu -> Py -> Prop} (S : SR w hT ρ μ s.heap) (rv : Rv hT ρ s.heap v p) (hs : zW p μ = some (src, k))
 (h : ∀ h' own I, It0 ρ s.heap h' own src I -> Q (.ref I) { s with heap := h' }) : PP (MM w) A (ct v) Q E s := by
 unfold zW at hs
 have fin : ∀ {v : Pu} {o : Obj}, (o.isFreed = false) -> zf ρ (s.heap.push o) [s.heap.objs.size] src 0 s.heap.objs.size -> Q (.ref s.heap.objs.size) { s with heap := s.heap.push o } := fun {v o} zz it => h _ [s.heap.objs.size] _ ⟨it, qg _ _, fun b hb => by
  rw [Pw.mp hb, SK]
  exact ⟨PJ _, RU _⟩⟩
 induction hp : qx p with
 | some x =>
   rw [hp] at hs
   obtain ⟨t, rfl, _⟩ := rv.sI hp
   have e := (wS hs).1
   subst e
   exact wpAny_pyIter_strU (fin (v := .none) rfl ⟨rfl, t, _, Rg _ rfl, rfl, rfl⟩)
 | none =>
   rw [hp] at hs
   obtain ⟨m, hm, hs⟩ := bnd hs
   obtain ⟨l, hl, hs⟩ := mp' hs
   obtain ⟨a, rfl, hn⟩ := rv.lI hm
   obtain ⟨_, vs, hp, hv⟩ := S.listAt hn hl
   have e := (wS hs).1
   subst e
   exact UW (PlainList.isList hp) (fin (v := .none) rfl ⟨rfl, a, hn, _, Rg _ rfl, rfl, rfl⟩)
theorem Vx {own : List PD} {src : Src} {i : Nat} {I : PD} {Q : Pu -> Py -> Prop} {E : Pu -> Py -> Prop} (x : zf ρ s.heap own src i I) (h : Q (.ref I) s) : PP (MM w) A (ct (.ref I)) Q E s := by
 induction src with
 | list n => obtain ⟨_, a, _, hit⟩ := x; exact wpAny_pyIter_listiter hit h
 | str y =>
   obtain ⟨_, t, hit⟩ := x
   unfold U5 at hit
   split at hit
   ·exact wpAny_pyIter_striter_ascii hit h
   ·exact wpAny_pyIter_striter_wide hit h
 | enum n => obtain ⟨J, a, old, _, _, _, he, _⟩ := x; exact wpAny_pyIter_enum he h
theorem Dn {β : Type} {iter target : Expr} {f : Src × Nat -> PM β} {res : Except Exn β} {Q : Pu -> Py -> Prop} {E : Pu -> Py -> Prop} (G : GF w hT) (H : j5 w hT r n) (X : Act w hT A l env σ ρ μ s.heap n) (ht : 1 <= s.toks) (hm : qa (vn r σ target iter μ) f = some (res, μ'))
 (err : ∀ e h' tk ρ' x, res = .error x -> Le [] ρ s.heap ρ' h' -> SR w hT ρ' μ' h' -> wu s.heap h' e x -> 1 <= tk -> E (.ref e) { s with heap := h', toks := tk })
 (fin : ∀ h₁ h₂ tk ρ₁ μ₁ own src I k, (∀ m, src = .enum m -> zo target = true) -> Le [] ρ s.heap ρ₁ h₁ -> SR w hT ρ₁ μ₁ h₁ -> It0 ρ₁ h₁ h₂ own src I -> 1 <= tk -> f (src, k) μ₁ = some (res, μ') -> Q (.ref I) { s with heap := h₂, toks := tk }) :
 PP (MM w) A (eval iter env) (fun x s₁ => PP (MM w) A (ct x) Q E s₁) E s := by
 have P : xI w hT (fun zz zz (_ : Pu) (_ : β) => True) ρ s res μ' (fun zz zz => True) E := ⟨fun zz zz zz zz zz zz zz zz zz zz => trivial, fun e h' tk ρ' x e1 e2 e3 e4 e5 => err e h' tk ρ' x e1 e2 e3 e4 e5⟩
 have pp : ∀ {α : Type} {m : PR α} {g : α -> PM (Src × Nat)}, qa (qa m g) f = qa m fun a μ => qa (g a μ) f := fun {α m g} => by
  match m with
  | none => rfl
  | some (.error _, _) => rfl
  | some (.ok _, _) => rfl
 unfold vn at hm
 cases hq : (yb iter).filter (fun q => q.1 == ("enumerate" : Str)) with
 | none =>
   rw [hq] at hm
   have hm := pp ▸ hm
   refine (H A l env σ ρ μ s iter X).andThen ht hm P fun v h₁ tk₁ ρ₁ p μ₁ x1 S1 rv ht1 hm1 P1 => ?_
   induction hs : zW p μ₁ with
   | none => rw [hs] at hm1; exact no hm1
   | some q =>
     rw [hs] at hm1
     exact QX (s := { s with heap := h₁, toks := tk₁ }) S1 rv hs fun h₂ own I x0 => fin h₁ h₂ tk₁ ρ₁ μ₁ own q.1 I q.2 (fun m e => by
      unfold zW at hs
      induction hp : qx p with
      | some x => rw [hp] at hs; rw [<- qk hs] at e; cases e
      | none => rw [hp] at hs; obtain ⟨_, _, hs⟩ := bnd hs; obtain ⟨_, _, hs⟩ := mp' hs; rw [<- qk hs] at e; exact nomatch e) x1 S1 x0 ht1 hm1
 | some q =>
   rw [hq] at hm
   obtain ⟨hq1, hq2⟩ := Option.filter_eq_some_iff.mp hq
   obtain ⟨fp, pos, e⟩ := yH hq1
   obtain ⟨f0, x⟩ := q
   have e2 := qb hq2
   clear hq hq1 hq2
   dsimp only at e e2 hm
   subst e e2
   cases hg : (σ.isG ("enumerate" : Str) && !qf x && zo target) with
   | false => rw [hg] at hm; exact no hm
   | true =>
     rw [hg] at hm
     have hm := pp ▸ hm
     have hs : [x].all (!qf ·) = true := by rw [Uj, (an (an hg).1).2]; rfl
     refine jZ (zP G X.er X.sr (an (an hg).1).1 (v := .type "enumerate") (by kernel_rfl) (by kernel_rfl) (by decide) rfl ?_)
     refine TO (by rw [q9 hs]; rfl) (qO (qI hs) ?_)
     rw [q9 hs]
     refine spliced_cons ((H A l env σ ρ μ s x X).andThen ht hm P fun v h₁ tk₁ ρ₁ p μ₁ x1 S1 rv ht1 hm1 P1 => ?_)
     induction hl : jr p with
     | none => rw [hl] at hm1; exact no hm1
     | some m =>
     rw [hl] at hm1
     induction hd : q5 μ₁ m with
     | none => rw [PK, hd] at hm1; exact no hm1
     | some dl =>
     rw [PK, hd] at hm1
     obtain ⟨a, e, hn⟩ := rv.lI hl
     obtain ⟨_, vs, hp, hv⟩ := S1.listAt hn hd
     subst e
     exact T9 (call_enumerate_list (s := { s with heap := h₁, toks := tk₁ }) (PlainList.isList hp) fun h' he hit hz hk => wpAny_pyIter_enum (s := { s with heap := h', toks := tk₁ }) he
      (fin h₁ h' tk₁ ρ₁ μ₁ [h₁.objs.size + 1, h₁.objs.size] (.enum m) _ _ (fun m zz => (an hg).2) x1 S1 ⟨⟨h₁.objs.size, a, .none, rfl, bz _, hn, he, hit⟩, hk, fun b hb => by
        rw [show h'.objs.size = h₁.objs.size + 2 from hz]
        rcases Rq.mp hb with rfl | hb
        ·exact ⟨U4 _, RU _⟩
        ·rw [Pw.mp hb]; exact ⟨PJ _, Nat.lt_succ_of_lt (RU _)⟩⟩ ht1 hm1))
theorem SR.adopt {D : PD} {c : q8} (S : SR w hT ρ μ h) (h1 : D ∉ ρ) (h2 : hT.get? D = none) (h3 : SZ < D) (hc : Rc w hT (ρ ++ [D]) h D c) : SR w hT (ρ ++ [D]) (μ ++ [c]) h := by
 refine ⟨S.top, ?_, by simp [S.len], fun b hb => ?_, ⟨S.low.1, fun b hb => ?_⟩, fun n b d e1 e2 => ?_⟩
 ·refine US.mpr ⟨S.nodup, by simp, fun x hx b hb => ?_⟩
  rw [Pw.mp hb]
  rintro rfl; exact h1 hx
 ·rcases PT.mp hb with q | q
  ·exact S.notop b q
  ·rw [Pw.mp q]; exact h2
 ·rcases PT.mp hb with q | q
  ·exact S.low.2 b q
  ·rw [Pw.mp q]; exact h3
 ·by_cases hn : n < ρ.length
  ·rw [RB hn] at e1
   rw [RB (S.len ▸ hn)] at e2
   exact Rc.keeps (fun zz zz e => e) (S.cells n b d e1 e2)
  ·have hn' : n = ρ.length := by
    have := (R0.mp e1).1
    simp at this; lia
   subst hn'
   rw [Rn (PJ _), Ss] at e1
   rw [S.len, Rn (PJ _), Ss] at e2
   cases e1; cases e2
   exact hc
theorem Le.adopt {D : PD} (x : Le [] ρ₀ h₀ ρ h) (hD : h₀.get? D = none) : Le [] ρ₀ h₀ (ρ ++ [D]) h := by
 obtain ⟨m, e, f⟩ := x.ext
 exact ⟨⟨m ++ [D], by rw [e, PF], fun b hb => by
  rcases PT.mp hb with q | q
  ·exact f b q
  ·rw [Pw.mp q]; exact hD⟩, x.kp, x.st, x.ex⟩
theorem fh {target iter elt : Expr} {ifs : List Expr} {sc : Um} {pos ipos : Pos} {use : Option (Pu -> Sem Unit)} {res : Except Exn PV} {Q : Pu -> Py -> Prop} {E : Pu -> Py -> Prop} (G : GF w hT) (H : j5 w hT r n) (X : Act w hT A l env σ ρ μ s.heap n) (ht : 1 <= s.toks) (hm : Y7 r σ elt target iter ifs sc μ = some (res, μ'))
 (err : ∀ e h' tk ρ' x, res = .error x -> Le [] ρ s.heap ρ' h' -> SR w hT ρ' μ' h' -> wu s.heap h' e x -> 1 <= tk -> E (.ref e) { s with heap := h', toks := tk })
 (fin : ∀ D C h' tk ρ' p, res = .ok p -> Le [] ρ s.heap ρ' h' -> SR w hT ρ' μ' h' -> Rv hT ρ' h' (.ref D) p -> s.heap.get? C = none -> C ∉ ρ' -> hT.get? C = none -> (∃ m, h'.Ns C m) -> 1 <= tk -> compPost (MM w) A E use Q (.ref D) C (.ok .next) { s with heap := h', toks := tk }) :
 PP (MM w) A (aJ (.ListComp elt [⟨target, iter, ifs, 0⟩] sc pos) sc env ipos (newList []) false (eval iter env) use) Q E s := by
 obtain ⟨hg, hma⟩ := ifB hm
 clear hm
 have g1 := (orF (orF hg).1).1
 have K0 := Z6.of (show vZ σ sc = true by induction q : vZ σ sc with | true => rfl | false => rw [q] at hg; exact noB (hg.symm.trans (by simp)))
 have g := an (show (jD target && (vV target).all fun x => !(sc.names.lookup x == some .free)) = true by cases q : (jD target && (vV target).all fun x => !(sc.names.lookup x == some .free)) with | true => rfl | false => rw [show Bt target sc = false from q] at hg; exact noB (hg.symm.trans (by simp)))
 have g3 := g.1
 have g4 : ∀ x ∈ vV target, sc.names.lookup x ≠ some .free := fun x hx => beq_eq_false_iff_ne.mp (nt (PS.mp g.2 x hx))
 ·clear hg
  have hclos : cg sc env = pure (xP env.cells sc.names []) := Qr fun nk hnk hk => X.er.has _ (K0.fr nk hnk hk)
  refine wpAny_comprehension_free (g := ⟨target, iter, ifs, 0⟩) (gs := []) rfl (Jm g1) hclos K0.kind (fun y hy hl => jS K0.nd (show (y.1, Sm.local) ∈ sc.names by rw [<- hl]; exact hy)) ?_
  refine Dn G H X ht hma err fun h₁ h₂ tk ρ₁ μ₁ own src I k hen x1 S1 i0 ht1 hm1 => ?_
  have hle := i0.le
  refine wpAny_newObj_type ?_
  have kD := qg h₂ { cls := .type "list", dict := none, data := .seq ([] : List Pu).toArray }
  have hsD : (h₂.push { cls := .type "list", dict := none, data := .seq ([] : List Pu).toArray }).objs.size = h₂.objs.size + 1 := SK ..
  have hD : (h₂.push { cls := .type "list", dict := none, data := .seq ([] : List Pu).toArray }).PlainList h₂.objs.size #[] := ⟨0, Rg _ rfl⟩
  dsimp only
  generalize hh3 : h₂.push { cls := .type "list", dict := none, data := .seq ([] : List Pu).toArray } = h₃ at kD hsD hD
  have k13 : ∀ b o, h₁.get? b = some o -> h₃.get? b = some o := fun b o e => kD b o (i0.keep b o e)
  have S3 := S1.keeps k13
  have R1 := X.er.le X.sr x1
  have R3 : qN hT ρ₁ h₃ env σ := R1.kb (own := []) (KB.of k13) (fun zz q => nomatch q) (fun zz q => nomatch q)
  refine Xd (s := { s with heap := h₃, toks := tk }) ?_
  obtain ⟨keep, cow, R4, hMine, hows⟩ := B3 R3 S3 K0
  show TB (MM w) A (.compStart (.ListComp elt [⟨target, iter, ifs, 0⟩] sc pos) 0 (.ref I) (.ref h₂.objs.size) (Qd sc env h₃.objs.size)) (compPost (MM w) A E use Q (.ref h₂.objs.size) h₃.objs.size)
   { s with heap := bx (h₃.push { cls := .type "dict", data := .dict #[] }) sc.names, toks := tk }
  generalize hh4 : bx (h₃.push { cls := .type "dict", data := .dict #[] }) sc.names = h₄ at keep R4 ⊢
  have k14 : ∀ b o, h₁.get? b = some o -> h₄.get? b = some o := fun b o e => keep b o (k13 b o e)
  have k24 : ∀ b o, h₂.get? b = some o -> h₄.get? b = some o := fun b o e => keep b o (kD b o e)
  have it4 : zf ρ₁ h₄ own src 0 I := i0.it.keep ⟨[], by simp⟩ fun b zz o e zz => k24 b o e
  have low : ∀ b ∈ own ++ h₂.objs.size :: Qj sc h₃.objs.size, h₁.objs.size <= b := fun b hb => by
   rcases PT.mp hb with hb | hb
   ·exact (i0.low b hb).1
   ·rcases Rq.mp hb with rfl | hb
    ·exact hle
    ·exact Pq hle (Pq (by rw [hsD]; exact U4 _) (cow b hb).1)
  have f0 : ∀ b ∈ own ++ h₂.objs.size :: Qj sc h₃.objs.size, h₁.get? b = none := fun b hb => JN (low b hb)
  have hn : ∀ b ∈ own ++ h₂.objs.size :: Qj sc h₃.objs.size, hT.get? b = none := fun b hb => by
   induction q : hT.get? b with
   | none => rfl
   | some o => have := S1.top b o q; rw [f0 b hb] at this; cases this
  have ZA : ∀ q ∈ env.cells, q.2 < h₁.objs.size := fun q hq => by
   obtain ⟨_, _, v, o, ho, _⟩ := R1.cells q hq
   exact RJ ho
  have K : CK hT A l (Qd sc env h₃.objs.size) (Qj sc h₃.objs.size) own h₂.objs.size ρ₁ h₁ n := by
   refine ⟨f0, hn, fun b hb => (cow b hb).2, .head _, fun b hb => ⟨fun q => ?_, RQ (i0.low b hb).2⟩, fun q => ?_, X.sk.le x1, X.rm⟩
   ·rcases hows b q with q | ⟨z, hz, e⟩
    ·exact Sq _ (PY (i0.low b hb).2 (Pq (by rw [hsD]; exact U4 _) (cow b q).1))
    ·exact Sq _ (PY (ZA z hz) (e ▸ (i0.low b hb).1))
   ·rcases hows _ q with q | ⟨z, hz, e⟩
    ·have := (cow _ q).1
     rw [hsD] at this
     exact Sq _ (PY (RU _) this)
    ·exact Sq _ (PY (ZA z hz) (e ▸ hle))
  have X4 : CI w hT (Qd sc env h₃.objs.size) (Qj sc h₃.objs.size) own h₂.objs.size ρ₁ h₁ src I 0 (σ.comp sc.names) ρ₁ μ₁ h₄ [] [] := by
   refine ⟨Le.of_keeps k14, S1.keeps k14, R4, it4, fun b hb q => ?_, ?_, .nil⟩
   ·exact Sq _ (PY (S1.lt q) (low b hb))
   ·obtain ⟨m, ho⟩ := hD
    exact ⟨m, keep _ _ ho⟩
  obtain ⟨ys, μ₂, hys, hm2⟩ : ∃ ys μ₂, zV r src target ifs elt k 0 (σ.comp sc.names) μ₁ = some (.ok ys, μ₂) /\ jp ys μ₂ = some (res, μ') := by
   unfold qG at hm1
   induction q : zV r src target ifs elt k 0 (σ.comp sc.names) μ₁ with
   | none => rw [q] at hm1; exact no hm1
   | some z =>
     rw [q] at hm1
     obtain ⟨z, μ₂⟩ := z
     induction z with
     | error x => exact no hm1
     | ok ys => exact ⟨ys, μ₂, rfl, hm1⟩
  obtain ⟨hlen, hm3⟩ := zI hm2
  ·clear hm1 hm2
   have main : TB (MM w) A (.compLoop (.ListComp elt [⟨target, iter, ifs, 0⟩] sc pos) 0 (.ref I) (.ref h₂.objs.size) (Qd sc env h₃.objs.size)) (compPost (MM w) A E use Q (.ref h₂.objs.size) h₃.objs.size) { s with heap := h₄, toks := tk } := by
    refine JR (μ' := μ₂) (ys₀ := ys) G H K g3 hen (fun x hx => hMine x (g4 x hx)) hlen (fun h' tk' ρ' vs' a1 a2 a3 a4 a5 a6 a7 => ?_) k 0 (σ.comp sc.names) ρ₁ μ₁ h₄ tk [] [] ys X4 ht1 hys (U2 _)
    have hCm : h₃.objs.size ∈ own ++ h₂.objs.size :: Qj sc h₃.objs.size := Ra _ (.tail _ (.head _))
    have hDm : h₂.objs.size ∈ own ++ h₂.objs.size :: Qj sc h₃.objs.size := Ra _ (.head _)
    have hx : ∃ more, ρ' ++ [h₂.objs.size] = ρ' ++ more := ⟨_, rfl⟩
    have hCD : h₃.objs.size ≠ h₂.objs.size := by rw [hsD]; exact bz _
    obtain ⟨e1, e2⟩ := wS (show some ((.ok (.loc μ₂.length) : Except Exn PV), μ₂ ++ [.list ys]) = some (res, μ') from hm3)
    subst e1 e2
    have hbig : SZ < h₂.objs.size := by
     obtain ⟨⟨b, o, hb, ho⟩, _⟩ := S1.low
     exact PY (b5 hb (RJ (S1.top _ _ ho))) hle
    refine fin _ _ h' tk' (ρ' ++ [h₂.objs.size]) _ rfl (x1.trans (a1.adopt (f0 _ hDm))) (a2.adopt (a5 _ (.head _)) (hn _ hDm) hbig ⟨by lia, vs', a3, a4.mono hx (Kv.of_keeps fun zz zz e => e)⟩) (.loc (jH a2)) (wY x1 (f0 _ hCm)) (fun q => ?_) (hn _ hCm) a6 a7
    rcases PT.mp q with q | q
    ·exact a5 _ (.tail _ (.head _)) q
    ·exact hCD (Pw.mp q)
   exact codeAny_compStart_list main (Vx (s := { s with heap := h₄, toks := tk }) it4 main)
theorem EM {C : PD} {m : Str -> Option Pu} (hn : h.Ns C m) : NT [C] h := fun b hb o e hc => by
 rw [Pw.mp hb] at e
 obtain ⟨o', es, ep, ho', hd, _⟩ := hn
 rw [ho'] at e; cases e
 obtain ⟨_, vs, n, q⟩ := hc
 rw [hd] at q; cases q
theorem JD {elt : Expr} {gens : List TQ} {sc : Um} {q : Except Exn PV × q4} (hm : eLC r σ elt gens sc μ = some q) : ∃ target iter ifs, gens = [⟨target, iter, ifs, 0⟩] /\ Y7 r σ elt target iter ifs sc μ = some q := by
 obtain ⟨⟨target, iter, ifs, k⟩, hg, hm⟩ := bnd hm
 obtain ⟨hk, hm⟩ := ifT hm
 dsimp only at hk hm
 exact ⟨target, iter, ifs, by rw [jN hg, hk], hm⟩
theorem Xn {elt : Expr} {gens : List TQ} {sc : Um} {pos : Pos} (G : GF w hT) (H : j5 w hT r n) (X : Act w hT A l env σ ρ μ s.heap n) : Sim w hT A (Rv hT) ρ s (eval (.ListComp elt gens sc pos) env) (eLC r σ elt gens sc μ) := by
 intro ht r' μ' hm Q E P
 obtain ⟨target, iter, ifs, e, hm1⟩ := JD hm
 clear hm
 subst e
 rw [eval_ListComp]
 refine fh (use := none) G H X ht hm1 (fun e h' tk ρ' x e1 e2 e3 e4 e5 => P.err e h' tk ρ' x e1 e2 e3 e4 e5) fun D C h' tk ρ' p e1 x1 S1 rv hC0 hCρ hCT hns ht1 => ?_
 obtain ⟨m, hns⟩ := hns
 refine ⟨m, hns, fun h'' hs => ?_⟩
 have kb := KB.same hs
 have nt := EM hns
 refine P.ok _ h'' tk ρ' p e1 (Le.fin (own := [C]) (own' := []) x1.any (fun b hb => by rw [Pw.mp hb]; exact hC0) kb) (S1.kb (fun b hb => by rw [Pw.mp hb]; exact ⟨hCρ, hCT⟩) kb nt) (rv.mono ⟨[], (PQ _).symm⟩ (kb.kv nt)) ht1
theorem I8 {op : ag} {x : Expr} {pos : Pos} (X : Act w hT A l env σ ρ μ s.heap n) : Sim w hT A (Rv hT) ρ s (eval (.UnaryOp op x pos) env) (eUn op x μ) := by
 induction op with
 | USub =>
   refine Sim.of0 fun r' μ' hm Q E P => ?_
   obtain ⟨i, hi, hm⟩ := bnd hm
   obtain ⟨c, hc, hi⟩ := bnd hi
   obtain ⟨k, p, e⟩ := xB hc
   rw [e, Xg hi]
   exact wpAny_UnaryOp (U1 (PySem.P.neg_int (P.pret hm X.sr (.int _ _))))
 | _ => exact Sim.none
theorem CO {f : Expr} {args : List Expr} {kws : List SD} {pos : Pos} (G : GF w hT) (H : j5 w hT r n) (HC : jR w hT r n) (X : Act w hT A l env σ ρ μ s.heap (n + 1)) : Sim w hT A (Rv hT) ρ s (eval (.Call f args kws pos) env) (Hr r σ f args kws pos μ) := by
 cases f with
 | Attribute o name apos => exact G3 G H HC X.down
 | Name f p => induction kws using PC with
   | nil => exact FP G H HC X
   | cons _ _ => exact Sim.none
 | _ => exact Sim.none
theorem E3 (G : GF w hT) (g : j5 w hT r n) (gc : jR w hT r n) : ∀ A l env σ ρ μ s e, Act w hT A l env σ ρ μ s.heap (n + 1) -> Sim w hT A (Rv hT) ρ s (eval e env) (Jn r σ e μ) := by
 intro A l env σ ρ μ s e X
 cases e with
 | Constant c k p => exact XJ X
 | Name x p => exact Em G X
 | Tuple es k p => exact Fo g X.down
 | List es p => exact Es g X.down
 | Dict ks vs p => exact Dh g X.down
 | BinOp a op b p => exact GW g Od X.down
 | IfExp t a b p => exact F1 G g X.down
 | Subscript v i p => exact Z8 g X.down
 | Attribute o nm p => exact Ck G g X.down
 | UnaryOp op x p => exact I8 X
 | BoolOp op vs p => exact Oj g X.down
 | Compare a ops bs p => exact Yx G g gc X.down
 | JoinedStr es p =>
   by_cases h : 2 <= es.length
   ·show Sim w hT A (Rv hT) ρ s _ ((if 2 <= es.length then zR r σ PE es else fun zz => none) μ)
    rw [if_pos h]; exact Kt g X.down h
   ·show Sim w hT A (Rv hT) ρ s _ ((if 2 <= es.length then zR r σ PE es else fun zz => none) μ)
    rw [if_neg h]; exact Sim.none
 | Call f args kws p => exact CO G g gc X
 | ListComp elt gens sc p => exact Xn G g X.down
 | _ => exact Sim.none
end
abbrev Oa (w : Rk) (hT : PO) (r : Ev) (n : Nat) : Prop := ∀ A outer env σ ρ μ s y py elt gens sc pos, qL w hT A outer env σ ρ μ s.heap n ->
 j4 w hT A env ρ s ((aJ (.ListComp elt gens sc pos) sc env (firstIterPos gens pos) (newList []) (firstAsync gens) (firstIter gens env) (some (A3 (.Name y py) env)) >>= fun zz => pure ()) >>= fun zz => pure aj)
  (qC σ (r.ev σ (.ListComp elt gens sc pos) μ) fun v μ => kQ σ y v μ)
section
variable {w : Rk} {hT : PO} {A : RE} {l : List Env} {ρ ρ' ρ₀ : List PD} {μ μ₁ μ' : q4} {s : Py} {n : Nat} {env cenv : Env} {outer : List Env} {σ σ' : LE} {h h' h₀ : PO} {r : Ev}
theorem js (env : Env) (x : Str) : QI env (qy env) x := fun c hc => .tail _ (RS (f := (·.2)) (mem_of_lookup hc))
theorem fJ {α : Type} {σ : LE} {m : PR α} {f : α -> q4 -> SR'} {q : Except Exn j9 × LE × q4} (h : qC σ m f = some q) :
 (∃ x μ, m = some (.error x, μ) /\ q = (.error x, σ, μ)) \/ (∃ a μ, m = some (.ok a, μ) /\ f a μ = some q) := by
 match m, h with
 | some (.error x, μ), h => cases h; exact .inl ⟨_, _, rfl, rfl⟩
 | some (.ok a, μ), h => exact .inr ⟨a, μ, rfl, h⟩
theorem FQ (G : GF w hT) (g : j5 w hT r n) : ∀ A outer env σ ρ μ s y py elt gens sc pos, qL w hT A outer env σ ρ μ s.heap (n + 1) ->
 j4 w hT A env ρ s ((aJ (.ListComp elt gens sc pos) sc env (firstIterPos gens pos) (newList []) (firstAsync gens) (firstIter gens env) (some (A3 (.Name y py) env)) >>= fun zz => pure ()) >>= fun zz => pure aj)
  (qC σ (Jn r σ (.ListComp elt gens sc pos) μ) fun v μ => kQ σ y v μ) := by
 intro A outer env σ ρ μ s y py elt gens sc pos X ht r' σ' μ' hm Q E P
 have hnt : ∀ b ∈ qy env, hT.get? b = none := X.nt
 rcases fJ hm with ⟨x, μ₁, h1, h2⟩ | ⟨v, μ₁, h1, h2⟩
 ·obtain ⟨target, iter, ifs, rfl, hc⟩ := JD h1
  cases h2
  refine wpAny_bind (wpAny_bind (fh (use := some (A3 (.Name y py) env)) (Q := fun zz s' => PP (MM w) A (pure ()) (fun zz s'' => PP (MM w) A (pure aj) Q E s'') E s') G g X.toAct.down ht hc (fun e h' tk ρ' x' e1 x1 S1 ex ht1 => ?_) fun D C h' tk ρ' p e1 => nomatch e1))
  cases e1
  exact P.err e h' tk ρ' x rfl x1.any S1 (X.er.le X.sr x1) ex.toS ht1
 ·obtain ⟨target, iter, ifs, rfl, hc⟩ := JD h1
  obtain ⟨σ₁, hp, h2⟩ := bnd h2
  obtain ⟨e1, e2, e3⟩ := No h2
  clear h2
  subst e1 e2 e3
  refine wpAny_bind (wpAny_bind (fh (use := some (A3 (.Name y py) env)) (Q := fun zz s' => PP (MM w) A (pure ()) (fun zz s'' => PP (MM w) A (pure aj) Q E s'') E s') G g X.toAct.down ht hc (fun e h' tk ρ' x' e1 => nomatch e1) fun D C h' tk ρ' p e1 x1 S1 rv hC0 hCρ hCT hns ht1 => ?_))
  cases e1
  obtain ⟨m, hns⟩ := hns
  have R1 := X.er.le X.sr x1
  have hCo : C ∉ qy env := fun q => by
   obtain ⟨o, ho⟩ := X.er.there C q
   rw [hC0] at ho; cases ho
  show PP (MM w) A (A3 (.Name y py) env (.ref D)) _ E _
  refine Tr (xx (own := qy env) (s := { s with heap := h', toks := tk }) ht1 S1 R1 rv hp hnt (.head _) (js env y) fun h₂ tk₂ x2 S2 R2 ht2 => ?_)
  refine ⟨m, x2.kp.ns hns hCρ hCo, fun h₃ hs => wpAny_pure (wpAny_pure ?_)⟩
  have kb := KB.same hs
  have nt : NT [C] h₂ := EM (x2.kp.ns hns hCρ hCo)
  have ff : ∀ b ∈ [C], s.heap.get? b = none := fun b hb => by rw [Pw.mp hb]; exact hC0
  exact P.ok .next h₃ tk₂ ρ' .next rfl (Le.fin (own := [C]) (own' := qy env) ((x1.any.trans x2).weaken fun b zz zz q => Ra _ q) ff kb) (S2.kb (fun b hb => by rw [Pw.mp hb]; exact ⟨hCρ, hCT⟩) kb nt)
   (R2.kb kb nt fun b hb => by rw [Pw.mp hb]; exact hCo) .next ht2
end
structure jg (w : Rk) (hT : PO) (r : Ev) (n : Nat) : Prop where
 ev : j5 w hT r n
 ex : Qn w hT r n
 call : jR w hT r n
 use : Oa w hT r n
section
variable {w : Rk} {hT : PO} {A : RE} {l : List Env} {ρ ρ' ρ₀ : List PD} {μ μ₁ μ' : q4} {s : Py} {n : Nat} {env cenv : Env} {outer : List Env} {σ σ' : LE} {h h' h₀ : PO} {r : Ev}
theorem qL.down (X : qL w hT A outer env σ ρ μ h (n + 1)) : qL w hT A outer env σ ρ μ h n := ⟨X.toAct.down, X.fr, X.ap, X.nt⟩
theorem Sim.thenS {α β : Type} {rel : List PD -> PO -> α -> β -> Prop} {t : Sem α} {m : PR β} {f : β -> q4 -> SR'} {res : Except Exn j9} {Q : A9 -> Py -> Prop} {Q' : α -> Py -> Prop} {E : Pu -> Py -> Prop}
 (S : Sim w hT A rel ρ s t m) (X : qL w hT A outer env σ ρ μ s.heap n) (ht : 1 <= s.toks) (hm : qC σ m f = some (res, σ', μ')) (P : jT w hT env ρ s res σ' μ' Q E)
 (k : ∀ a h' tk ρ' b μ₁, Le [] ρ s.heap ρ' h' -> SR w hT ρ' μ₁ h' -> rel ρ' h' a b -> 1 <= tk -> f b μ₁ = some (res, σ', μ') -> jT w hT env ρ' { s with heap := h', toks := tk } res σ' μ' Q E -> qL w hT A outer env σ ρ' μ₁ h' n -> Q' a { s with heap := h', toks := tk }) :
 PP (MM w) A t Q' E s := by
 rcases fJ hm with ⟨x, μ₁, h1, h2⟩ | ⟨b, μ₁, h1, h2⟩
 ·cases h2
  refine S ht _ _ h1 Q' E ⟨fun a h' tk ρ' b e => (nomatch e), fun e h' tk ρ' y hy le sr ex ht' => ?_⟩
  cases hy
  exact P.err e h' tk ρ' x rfl le.any sr (X.er.le X.sr le) ex.toS ht'
 ·refine S ht _ _ h1 Q' E ⟨fun a h' tk ρ' b' hb le sr rv ht' => ?_, fun e h' tk ρ' y hy => (nomatch hy)⟩
  cases hb
  exact k a h' tk ρ' _ μ₁ le sr rv ht' h2 (P.le le.any) (X.le le sr)
theorem jT.of {r₁ res : Except Exn j9} {σ₁ : LE} {μ₁ : q4} {Q : A9 -> Py -> Prop} {E : Pu -> Py -> Prop} (P : jT w hT env ρ s res σ' μ' Q E) (hm : some (r₁, σ₁, μ₁) = some (res, σ', μ')) : jT w hT env ρ s r₁ σ₁ μ₁ Q E := by
 cases hm; exact P
theorem j4.none {t : Sem A9} : j4 w hT A env ρ s t none := fun zz zz zz zz hm => no hm
theorem gj {x : Str} {p : PV} {v : Pu} {res : Except Exn j9} {σ₁ : LE} {Q : A9 -> Py -> Prop} {E : Pu -> Py -> Prop} (X : qL w hT A outer env σ ρ μ s.heap n) (ht : 1 <= s.toks) (rv : Rv hT ρ s.heap v p) (hm : kQ σ x p μ = some (res, σ₁, μ'))
 (P : jT w hT env ρ s res σ₁ μ' Q E) : PP (MM w) A (storeName env x v) (fun zz => Q .next) E s := by
 obtain ⟨σ₂, hp, e⟩ := bnd hm
 exact xx (own := qy env) ht X.sr X.er rv hp X.nt (.head _) (js env x) fun h' tk x1 S1 R1 ht1 => (P.of e).ok .next h' tk ρ .next rfl x1 S1 R1 .next ht1
set_option tactic.hygienic true in
theorem Yt {value : Expr} {x : Str} {p : Pos} {line : Nat} (h : gl value = false) : (∃ elt gens sc pos, value = .ListComp elt gens sc pos /\ swapsWith value (some (.Name x p)) line env = pure true) \/ swapsWith value (some (.Name x p)) line env = pure false := by
 cases value <;> first | exact noB h.symm | exact .inr rfl | skip
 rename_i elt gens sc pos
 unfold swapsWith
 cases hb : (env.blockKind == .function && env.kindOf x == some .local && p.line == (Expr.ListComp elt gens sc pos).pos.line && !(sc.names.any fun (n, k) => n == x && (k == .local || k == .cell))) with
 | true => exact .inl ⟨elt, gens, sc, pos, rfl, by show (pure _ : Sem Bool) = _; rw [hb]⟩
 | false => exact .inr (by show (pure _ : Sem Bool) = _; rw [hb])
theorem fe {x : Str} {xp pos : Pos} {e : Expr} (g : jg w hT r n) (X : qL w hT A outer env σ ρ μ s.heap n) : j4 w hT A env ρ s (Ac (.Assign [.Name x xp] e pos) env) (if gl e then none else qC σ (r.ev σ e μ) (kQ σ x)) := by
 intro ht res σ' μ' hm Q E P
 obtain ⟨hc, hm1⟩ := ifB hm
 clear hm
 rcases Yt (env := env) (x := x) (p := xp) (line := pos.line) hc with ⟨elt, gens, sc, cpos, rfl, hsw⟩ | hsw
 ·rw [exec_Assign_Name_used _ _ _ _ hsw]
  refine wpAny_bind (wpAny_standAt ?_)
  have := g.use A outer env σ ρ μ s x xp elt gens sc cpos X ht res σ' μ' hm1 Q E P
  refine RG (show PP (MM w) A (evalThenUse (.ListComp elt gens sc cpos) env (A3 (.Name x xp) env) >>= fun zz => pure aj) Q E s from ?_) (fun zz zz q => q) fun zz zz q => q
  exact this
 ·exact wpAny_Assign_Name ((g.ev A _ env σ ρ μ s e X.toAct).thenS X ht hm1 P fun v h₁ tk₁ ρ₁ p μ₁ x1 S1 rv ht1 hm1 P1 X1 => gj X1 ht1 rv hm1 P1) hsw
theorem QG {it t : PD} {items : Array Pu} {E : Pu -> Py -> Prop} (hne : t ≠ it) : ∀ (n i : Nat) (s : Py) (Q : List Pu -> Py -> Prop), s.heap.IsListIter it t i -> s.heap.IsList t items -> i + n <= items.size ->
 (∀ h', h'.IsListIter it t (i + n) -> RK it s.heap h' -> Q ((items.toList.drop i).take n) { s with heap := h' }) -> PP (MM w) A (draw (.ref it) n) Q E s
 | 0, i, s, Q, hit, _, _, hQ => by
   show PP _ _ (pure []) Q E s
   exact wpAny_pure (by simpa using hQ s.heap hit (RK.refl ..))
 | n + 1, i, s, Q, hit, ht, hle, hQ => by
   have hlt : i < items.size := by lia
   show PP _ _ (cf (.ref it) >>= _) Q E s
   refine wpAny_bind (Uc hit ht (x := items[i]) (by simp [hlt]) fun h₁ hit₁ hs₁ => ?_)
   refine wpAny_bind (wpAny_holding (QG hne n (i + 1) _ _ hit₁ (ht.extBut hs₁.extBut hne) (by lia) fun h₂ hit₂ hs₂ => wpAny_pure ?_))
   have hd : items.toList.drop i = items[i] :: items.toList.drop (i + 1) := by simp [S9, hlt]
   have := hQ h₂ (by rw [show i + (n + 1) = i + 1 + n by lia]; exact hit₂) (hs₁.trans hs₂)
   rw [hd, List.take_succ_cons] at this
   exact this
theorem ve {t : PD} {items : Array Pu} {Q : Bool -> Py -> Prop} {E : Pu -> Py -> Prop} (ht : s.heap.IsList t items) (h : Q false s) : PP (MM w) A (notIterableAtAll (.ref t)) Q E s := by
 unfold notIterableAtAll
 refine wpAny_bind (TW ht.typeIs slot_list_iter.lookup ?_)
 exact wpAny_pure h
theorem ZC {t : PD} {items : Array Pu} {Q : List Pu -> Py -> Prop} {E : Pu -> Py -> Prop} (hh : A.handled = none) (ht : s.heap.IsList t items)
 (hQ : ∀ h', PO.ExtBut s.heap.objs.size s.heap h' -> Q items.toList { s with heap := h' }) : PP (MM w) A (AX (.ref t) items.size none) Q E s := by
 have hlt : t ≠ s.heap.objs.size := by obtain ⟨o, ho, _⟩ := ht; exact RQ (RJ ho)
 unfold AX
 refine wpAny_bind (ve ht ?_)
 simp only [R7, if_false]
 refine wpAny_bind (wpAny_holding (UW ht ?_))
 have htp : (s.heap.push { cls := .type "list_iterator", data := .fields #[.ref t, .int 0 0] }).IsList t items := let ⟨o, ho, r⟩ := ht; ⟨o, qg _ _ _ _ ho, r⟩
 refine wpAny_bind (wpAny_holding (QG hlt items.size 0 _ _ ⟨_, Rg _ rfl, rfl, rfl⟩ htp (by lia) fun h₁ hit₁ hs₁ => ?_))
 have hall : cq items.size (List.drop 0 items.toList) = items.toList := by
  rw [Ad]; exact Tg (by simp)
 rw [hall]
 rw [if_neg (by simp)]
 have ht₁ : h₁.IsList t items := htp.extBut hs₁.extBut hlt
 refine wpAny_bind (wpAny_holding (Ug hh hit₁ ht₁ (by simp) fun h₂ he₂ => ?_))
 simp only [Td, R7, if_false]
 refine wpAny_pure (hQ h₂ fun b o hb e => he₂ b o hb (hs₁.extBut b o hb (Ah _ e)))
theorem Jp {t : PD} {v : Pu} {Q : List Pu -> Py -> Prop} {E : Pu -> Py -> Prop} (hh : A.handled = none) (ht : s.heap.IsList t #[v])
 (hE : ∀ h' tk e, bG s.heap h' e "ValueError" -> E (.ref e) { s with heap := h', toks := tk }) : PP (MM w) A (AX (.ref t) 2 none) Q E s := by
 have hlt : t ≠ s.heap.objs.size := by obtain ⟨o, ho, _⟩ := ht; exact RQ (RJ ho)
 unfold AX
 refine wpAny_bind (ve ht ?_)
 simp only [R7, if_false]
 refine wpAny_bind (wpAny_holding (UW ht ?_))
 have htp : (s.heap.push { cls := .type "list_iterator", data := .fields #[.ref t, .int 0 0] }).IsList t #[v] := let ⟨o, ho, r⟩ := ht; ⟨o, qg _ _ _ _ ho, r⟩
 have hit0 : (s.heap.push { cls := .type "list_iterator", data := .fields #[.ref t, .int 0 0] }).IsListIter s.heap.objs.size t 0 := ⟨_, Rg _ rfl, rfl, rfl⟩
 refine wpAny_bind (wpAny_holding ?_)
 show PP _ _ (cf (.ref s.heap.objs.size) >>= _) _ _ _
 refine wpAny_bind (Uc hit0 htp (x := v) (by simp) fun h₁ hit₁ hs₁ => ?_)
 refine wpAny_bind (wpAny_holding ?_)
 show PP _ _ (cf (.ref s.heap.objs.size) >>= _) _ _ _
 have ht₁ : h₁.IsList t #[v] := htp.extBut hs₁.extBut hlt
 refine wpAny_bind (Ug hh hit₁ ht₁ (by simp) fun h₂ he₂ => ?_)
 refine wpAny_pure (wpAny_pure ?_)
 rw [if_pos (by simp)]
 refine wpAny_bind (aP ?_)
 have keep : ∀ b o, s.heap.get? b = some o -> h₂.get? b = some o := fun b o e => by
  have hb : b ≠ s.heap.objs.size := RQ (RJ e)
  exact he₂ b o hb (hs₁.extBut b o hb (qg _ _ _ _ e))
 refine wpAny_bind ?_
 refine wpAny_raiseErrorMade plainExc_ValueError hh (fun h' tk e hn => ?_) (by show (Pv (bg "not enough values to unpack (expected " ++ bg 2 ++ bg ", got " ++ bg 1 ++ bg ")")).length <= Pr; decide +kernel)
 refine hE h' tk e ?_
 obtain ⟨k, nw, ob, t', e1, e2, e3⟩ := hn
 refine ⟨fun b o q => k b o (keep b o q), ?_, ob, t', e1, e2, e3⟩
 induction q : s.heap.get? e with
 | none => rfl
 | some o => rw [keep _ _ q] at nw; cases nw
theorem VB {e : Expr} {line : Nat} (h : Z9 e = false) : swapsWith e none line env = pure false := by cases e <;> first | rfl | exact noB h.symm
theorem Zf {v : Pu} {p : PV} (r : Rv hT ρ h v p) (hp : vC p = true) {Q : Pu -> Prop} (hn : Q .none) (hb : ∀ b, Q (.bool b)) (hi : ∀ i t, Q (.int i t)) (hs : ∀ x t, Q (.str x t)) : Q v := by
 cases r <;> first | exact noB hp | exact hn | exact hb _ | exact hi _ _ | exact hs _ _
theorem CT {e : Expr} {pos : Pos} (g : jg w hT r n) (X : qL w hT A outer env σ ρ μ s.heap n) : j4 w hT A env ρ s (Ac (.Expr e pos) env) (if Z9 e then none else qC σ (r.ev σ e μ) fun v μ => if vC v then zg σ .next μ else none) := by
 intro ht res σ' μ' hm Q E P
 obtain ⟨hc, hm1⟩ := ifB hm
 refine wpAny_Expr ?_ (by unfold interactive; rw [X.er.kind]; rfl) (VB hc)
 refine (g.ev A _ env σ ρ μ s e X.toAct).thenS X ht hm1 P fun v h₁ tk₁ ρ₁ p μ₁ x1 S1 rv ht1 hm1 P1 X1 => ?_
 obtain ⟨hp, hm2⟩ := ifT hm1
 have fin := (P1.of hm2).ok .next h₁ tk₁ ρ₁ .next rfl (Le.refl _ _ _) S1 X1.er .next ht1
 exact Zf (Q := fun v => match v with | .ref _ => False | _ => Q .next { s with heap := h₁, toks := tk₁ }) rv hp fin (fun zz => fin) (fun zz zz => fin) (fun zz zz => fin)
theorem Ki {e : Expr} {pos : Pos} (g : jg w hT r n) (X : qL w hT A outer env σ ρ μ s.heap n) : j4 w hT A env ρ s (Ac (.Return (some e) pos) env) (qC σ (r.ev σ e μ) fun v => zg σ (.ret v)) := by
 intro ht res σ' μ' hm Q E P
 exact wpAny_Return_some ((g.ev A _ env σ ρ μ s e X.toAct).thenS X ht hm P fun v h₁ tk₁ ρ₁ p μ₁ x1 S1 rv ht1 hm1 P1 X1 => (P1.of hm1).ok (.ret v) h₁ tk₁ ρ₁ (.ret p) rfl (Le.refl _ _ _) S1 X1.er (.ret rv) ht1)
theorem Xz {pos : Pos} (X : qL w hT A outer env σ ρ μ s.heap n) : j4 w hT A env ρ s (Ac (.Continue pos) env) (zg σ .cont μ) :=
 fun ht res σ' μ' hm Q E P => wpAny_Continue ((P.of hm).ok .cont s.heap s.toks ρ .cont rfl (Le.refl _ _ _) X.sr X.er .cont ht)
theorem O9 {t : Expr} {b o : List Sf} {pos : Pos} (G : GF w hT) (g : jg w hT r n) (X : qL w hT A outer env σ ρ μ s.heap n) : j4 w hT A env ρ s (Ac (.If t b o pos) env) (qC σ (xh r σ t μ) fun c μ => if c then r.ex σ b μ else r.ex σ o μ) := by
 intro ht res σ' μ' hm Q E P
 refine wpAny_If ((fX G g.ev t X.toAct).thenS X ht hm P fun c h₁ tk₁ ρ₁ c' μ₁ x1 S1 rv ht1 hm1 P1 X1 => ?_)
 subst rv
 induction c with
 | true => exact g.ex A outer env σ ρ₁ μ₁ { s with heap := h₁, toks := tk₁ } b X1 ht1 _ _ _ hm1 Q E P1
 | false => exact g.ex A outer env σ ρ₁ μ₁ { s with heap := h₁, toks := tk₁ } o X1 ht1 _ _ _ hm1 Q E P1
theorem YF {x y : Str} {xp yp pos : Pos} {e : Expr} (g : jg w hT r n) (X : qL w hT A outer env σ ρ μ s.heap n) : j4 w hT A env ρ s (Ac (.Assign [.Name x xp, .Name y yp] e pos) env) (qC σ (r.ev σ e μ) fun v μ => (σ.put x v).bind fun σ => kQ σ y v μ) := by
 intro ht res σ' μ' hm Q E P
 refine wpAny_Assign_two ((g.ev A _ env σ ρ μ s e X.toAct).thenS X ht hm P fun v h₁ tk₁ ρ₁ p μ₁ x1 S1 rv ht1 hm1 P1 X1 => bK hm1 fun σ₁ hp1 hm2 => ?_)
 refine Tr (xx (own := qy env) (s := { s with heap := h₁, toks := tk₁ }) ht1 X1.sr X1.er rv hp1 X1.nt (.head _) (js env x) fun h₂ tk₂ x2 S2 R2 ht2 => Tr ?_)
 have X2 := X1.leOwn x2 S2 R2
 have rv2 := rv.mono (ρ' := ρ₁) ⟨[], (PQ _).symm⟩ (X1.sr.kv X1.er.ownOK x2)
 exact gj (s := { s with heap := h₂, toks := tk₂ }) X2 ht2 rv2 hm2 (P1.le (s := { s with heap := h₁, toks := tk₁ }) (tk := tk₂) x2)
theorem Q7 {t : Expr} {ts : List Expr} (h : qf t = false) : Tw (t :: ts) env = (false, A3 t env) :: Tw ts env := by cases t <;> first | rfl | cases h
theorem vY (ts : List Expr) : ts.any qf = false -> (Tw ts env).length = ts.length /\ (Tw ts env).findIdx? (·.1) = none := by
 induction ts with
 | nil => exact fun zz => ⟨rfl, rfl⟩
 | cons t ts ih =>
   intro h
   have h := orF h
   rw [Q7 h.1]
   exact ⟨congrArg (· + 1) (ih h.2).1, by rw [aX, (ih h.2).2]; rfl⟩
theorem XX {ts : List Expr} {k : Nat} {tp : Pos} {v : Pu} {p : PV} {res : Except Exn j9} {Q : A9 -> Py -> Prop} {E : Pu -> Py -> Prop} (X : qL w hT A outer env σ ρ μ s.heap n) (ht : 1 <= s.toks) (hst : ts.any qf = false) (rv : Rv hT ρ s.heap v p) (hm : xv σ ts p μ = some (res, σ', μ')) (P : jT w hT env ρ s res σ' μ' Q E) :
 PP (MM w) A (A3 (.Tuple ts k tp) env v) (fun zz => Q .next) E s := by
 obtain ⟨a1, a2⟩ := vY (env := env) ts hst
 unfold xv Za at hm
 induction hp : wB p with
 | some ll =>
   rw [hp] at hm
   by_cases hl : ll.length = ts.length
   ·induction hgo : vR σ ts ll with
    | none => simp only [if_pos hl, hgo] at hm; exact no hm
    | some σ₂ =>
      simp only [if_pos hl, hgo] at hm
      have P := P.of (show some ((.ok .next : Except Exn j9), σ₂, μ) = _ from hm)
      have ep := QN hp
      subst ep
      exact wp (own := qy env) (target := .Tuple ts k tp) (show qt σ (.Tuple ts k tp) (.tup ll) = _ from hgo) X.rm.1 ht X.sr X.er rv X.nt (fun zz q => q) (.head _) (fun x zz => js env x) fun h₂ tk₂ x2 S2 R2 ht2 => P.ok .next h₂ tk₂ ρ .next rfl x2 S2 R2 .next ht2
   ·simp only [if_neg hl] at hm; exact no hm
 | none =>
   rw [hp] at hm
   induction hl : j2 μ p with
   | none => rw [hl] at hm; exact no hm
   | some ll =>
   rw [hl, PK] at hm
   obtain ⟨a, _, vs, _, _, e, hpl, hv, hlv, _⟩ := rv.list X.sr hl
   clear hp hl rv
   subst e
   rw [arm_assign_Tuple]
   by_cases h1 : ll.length = 1 /\ ts.length = 2
   ·simp only [if_pos h1] at hm
    have P := P.of hm
    rw [h1.1] at hlv
    refine jj ht (wpAny_bind (wpAny_standAt ?_))
    unfold unpack
    rw [a1, a2, h1.2]
    clear hv hm h1 a1 a2
    revert hpl
    refine gI (P := fun vs => s.heap.PlainList a vs.toArray -> _) (fun u hpl => ?_) vs hlv
    refine wpAny_bind (wpAny_holding (Jp X.rm.1 (PlainList.isList hpl) fun h₂ tk₂ ex hn ht2 => ?_))
    have x2 : Le [] ρ s.heap ρ h₂ := Le.of_keeps hn.keeps
    exact P.err ex h₂ tk₂ ρ _ rfl x2.any (X.sr.keeps hn.keeps) (X.er.le X.sr x2) (wu.ofNew hn).toS ht2
   ·by_cases h2 : ll.length = ts.length
    ·induction hgo : vR σ ts ll with
     | none => simp only [if_neg h1, if_pos h2, hgo] at hm; exact no hm
     | some σ₂ =>
       simp only [if_neg h1, if_pos h2, hgo] at hm
       have P := P.of (show some ((.ok .next : Except Exn j9), σ₂, μ) = _ from hm)
       refine wpAny_bind (wpAny_standAt ?_)
       unfold unpack
       rw [a1, a2, show ts.length = vs.toArray.size from (hlv.trans h2).symm]
       refine wpAny_bind (wpAny_holding (ZC X.rm.1 (PlainList.isList hpl) fun h₂ hext => ?_))
       have keep : ∀ b o, s.heap.get? b = some o -> h₂.get? b = some o := fun b o q => hext b o (RQ (RJ q)) q
       have x2 : Le [] ρ s.heap ρ h₂ := Le.of_keeps keep
       have X2 := X.le x2 (X.sr.keeps keep)
       exact FF (own := qy env) (s := { s with heap := h₂ }) X2.nt (fun zz q => q) (.head _) ts hgo ht X2.sr X2.er (hv.mono (ρ' := ρ) ⟨[], (PQ _).symm⟩ (Kv.of_keeps keep)) (fun x zz => js env x) fun h₃ tk₃ x3 S3 R3 ht3 => P.ok .next h₃ tk₃ ρ .next rfl (x2.any.trans x3) S3 R3 .next ht3
    ·simp only [if_neg h1, if_neg h2] at hm; exact no hm
theorem gv {ts : List Expr} {k : Nat} {tp pos : Pos} {e : Expr} (g : jg w hT r n) (X : qL w hT A outer env σ ρ μ s.heap n) (he : zo e = false) : j4 w hT A env ρ s (Ac (.Assign [.Tuple ts k tp] e pos) env) (if ts.any qf then none else qC σ (r.ev σ e μ) (xv σ ts)) := by
 intro ht res σ' μ' hm Q E P
 obtain ⟨hst, hm1⟩ := ifB hm
 exact Assign_Tuple ((g.ev A _ env σ ρ μ s e X.toAct).thenS X ht hm1 P fun v h₁ tk₁ ρ₁ p μ₁ x1 S1 rv ht1 hm1 P1 X1 => XX X1 ht1 hst rv hm1 P1) (by cases e <;> rfl) (by cases e <;> first | rfl | cases he)
end
section
open PySem.Builtin
section
variable {w : Rk} {hT : PO} {A : RE} {l : List Env} {ρ ρ' ρ₀ : List PD} {μ μ₁ μ' : q4} {s : Py} {n : Nat} {env cenv : Env} {outer : List Env} {σ σ' : LE} {h h' h₀ : PO} {r : Ev}
theorem Zw {value o i : Expr} {p : Pos} {line : Nat} : swapsWith value (some (.Subscript o i p)) line env = pure false := by cases value <;> rfl
theorem VU {value o : Expr} {a : Str} {p : Pos} {line : Nat} : swapsWith value (some (.Attribute o a p)) line env = pure false := by cases value <;> rfl
theorem Qm {l m sl : PD} {xs ys : List Pu} {Q : Unit -> Py -> Prop} {E : Pu -> Py -> Prop} (hlm : l ≠ m) (hl : s.heap.PlainList l xs.toArray) (hm : s.heap.IsList m ys.toArray) (hs : s.heap.IsSliceOf sl .none .none .none)
 (hx : xs.length <= Pr) (hy : xs.length + ys.length <= Pr)
 (h : ∀ h', h'.PlainList l ys.toArray -> RK l s.heap h' -> Q () { s with heap := h' }) : PP (MM w) A (bf (.ref l) (.ref sl) (.ref m)) Q E s := by
 obtain ⟨c, ho⟩ := id hl
 obtain ⟨om, hom, hcm, cm, hdm⟩ := id hm
 obtain ⟨os, hos, hcs, hds⟩ := id hs
 have hTs : s.TypeIs (.ref sl) "slice" := ⟨os, hos, hcs⟩
 have hTl : s.TypeIs (.ref l) "list" := ⟨_, ho, rfl⟩
 have e24 : Pr = 16777216 := by decide
 unfold bf
 refine wpAny_holding ?_
 refine wpAny_bind (wpAny_sequenceKey hTl (by decide) ?_)
 refine wpAny_bind (wpAny_callSpecial?_slot (name := Pv "__setitem__") hTl Ae
  (wpAny_call_entry Ae hTl PySem.entry_list_setitem ?_ (PySem.args_list_setitem _ _ _)))
 show PP _ _ (UA (.ref sl) >>= _) _ _ s
 refine wpAny_bind ?_
 unfold UA
 refine wpAny_bind (TW hTs slice_no_index ?_)
 simp only [Option.isNone_none, if_true]
 refine wpAny_pure ?_
 show PP _ _ (cr (.ref sl) >>= _) _ _ s
 refine wpAny_bind (wpAny_typeOf hTs ?_)
 rw [if_neg (by decide)]
 rw [listSliceParts_eq]
 refine wpAny_bind (wpAny_bind (Un hos hds (x := .none) rfl (wpAny_bind (AY (.none : IsPart .none none) ?_))))
 rw [if_neg (show ¬ ((rawPart none == AS 0) = true) from Te)]
 refine wpAny_bind (Un hos hds (x := .none) rfl (wpAny_bind (AY (.none : IsPart .none none) ?_)))
 refine wpAny_bind (Un hos hds (x := .none) rfl (wpAny_bind (AY (.none : IsPart .none none) (wpAny_pure ?_))))
 have hsr : A4 (.ref l) (.ref m) = false := by simp [A4, hlm]
 rw [hsr, if_neg (by decide)]
 refine wpAny_bind ?_
 unfold TX.List.listAllItems
 refine wpAny_bind (wpAny_typeOf (T := "list") ⟨om, hom, hcm⟩ ?_)
 rw [if_pos (by decide)]
 unfold TX.List.listItems
 refine wpAny_bind (AR hom hdm (wpAny_pure ?_))
 refine wpAny_bind (wpAny_bind (AR ho rfl (wpAny_pure ?_)))
 refine wpAny_bind (UV (sliceIndices_raw none none none xs.toArray.size (by simp)) ?_)
 have hsb : Sy none none none xs.toArray.size = (0, (xs.toArray.size : Int), 1) := rfl
 rw [hsb]
 rw [if_pos (by rfl)]
 refine wpAny_bind (aP ?_)
 rw [if_neg (by simp only [RV, UZ, decide_eq_true_eq]; lia)]
 refine wpAny_bind ?_
 have hf : (fun zs : Array Pu => zs.extract 0 (0 : Int).toNat ++ ys.toArray ++ zs.extract (max (0 : Int) (xs.toArray.size : Int)).toNat zs.size) xs.toArray = ys.toArray := by
  have e1 : (max (0 : Int) (xs.toArray.size : Int)).toNat = xs.toArray.size := by rw [Int.max_eq_right (UI _)]; exact Ud _
  have e2 : xs.toArray.extract xs.toArray.size xs.toArray.size = #[] := by apply UE; simp
  have e3 : xs.toArray.extract 0 (0 : Int).toNat = #[] := by apply UE; simp
  show xs.toArray.extract 0 (0 : Int).toNat ++ ys.toArray ++ xs.toArray.extract (max (0 : Int) (xs.toArray.size : Int)).toNat xs.toArray.size = ys.toArray
  rw [e1, e2, e3]
  simp
 show PP _ _ (updateSeq l (fun zs : Array Pu => zs.extract 0 (0 : Int).toNat ++ ys.toArray ++ zs.extract (max (0 : Int) (xs.toArray.size : Int)).toNat zs.size)) _ _ _
 generalize (fun zs : Array Pu => zs.extract 0 (0 : Int).toNat ++ ys.toArray ++ zs.extract (max (0 : Int) (xs.toArray.size : Int)).toNat zs.size) = f at hf
 refine wpAny_updateSeq (hz := by simp only [RV]; exact hx) (_hz' := by rw [hf]; simp only [RV]; lia) ho rfl ?_
 refine wpAny_bind (wpAny_letGo ?_)
 have hmap : bZ f { cls := .type "list", data := .seq xs.toArray c } = { cls := .type "list", data := .seq (f xs.toArray) (if (f xs.toArray).size == xs.toArray.size then c else c + 1) } := rfl
 rw [hf] at hmap
 exact wpAny_pure ⟨.none, rfl, wpAny_pure (h _ ⟨_, (SO _ ho (by rw [hmap]; rfl)).trans (congrArg some hmap)⟩ (TH ..))⟩
end
end
section
open PySem.Builtin
section
variable {w : Rk} {hT : PO} {A : RE} {l : List Env} {ρ ρ' ρ₀ : List PD} {μ μ₁ μ' : q4} {s : Py} {n : Nat} {env cenv : Env} {outer : List Env} {σ σ' : LE} {h h' h₀ : PO} {r : Ev}
theorem K1 {m1 : Nat} {a v : Pu} {q p : PV} {sl : PD} {res : Except Exn j9} {Q : A9 -> Py -> Prop} {E : Pu -> Py -> Prop} (X : qL w hT A outer env σ ρ μ s.heap m1) (ht : 1 <= s.toks) (ra : Rv hT ρ s.heap a q) (rv : Rv hT ρ s.heap v p) (hs : s.heap.IsSliceOf sl .none .none .none) (hm : ga σ q p μ = some (res, σ', μ')) (P : jT w hT env ρ s res σ' μ' Q E) :
 PP (MM w) A (bf a (.ref sl) v) (fun zz => Q .next) E s := by
 obtain ⟨n, h1, hm⟩ := bnd hm
 obtain ⟨m, h2, hm⟩ := bnd hm
 obtain ⟨l₀, hl0, hm⟩ := bnd hm
 obtain ⟨l, hl, hm⟩ := bnd hm
 obtain ⟨hc, hm⟩ := ifF hm
 obtain ⟨a, rfl, hn⟩ := ra.lI h1
 obtain ⟨b, rfl, hm'⟩ := rv.lI h2
 obtain ⟨b0, vs0, hp0, hv0⟩ := X.sr.listAt hn hl0
 obtain ⟨b1, vs1, hp1, hv1⟩ := X.sr.listAt hm' hl
 have hc2 := Sh.mp fun z => hc (.inr z)
 refine Qm (xs := vs0) (ys := vs1) (fun z => hc (.inl (vW X.sr.nodup hn (z ▸ hm')))) hp0 (PlainList.isList hp1) hs (by rw [hv0.length]; exact Pq (Rd _ _) hc2) (by rw [hv0.length, hv1.length]; exact hc2) fun h₄ hp4 hs4 => ?_
 have hin : a ∈ ρ := Rr hn
 have x4 : Le [] ρ s.heap ρ h₄ := Le.set hin hs4 (let ⟨_, z⟩ := hp4; ⟨_, z⟩)
 exact (P.of hm).ok .next h₄ s.toks ρ .next rfl x4.any (X.sr.set (c := .list l) hn hs4 ⟨Ru (Pq (Uu _ _) hc2), vs1, hp4, hv1.mono (ρ' := ρ) ⟨[], (PQ _).symm⟩ (X.sr.kvSet hin hs4)⟩) (X.er.le X.sr x4) .next ht
theorem Qi {o e : Expr} {p1 p2 pos : Pos} (g : jg w hT r n) (X : qL w hT A outer env σ ρ μ s.heap n) : j4 w hT A env ρ s (Ac (.Assign [.Subscript o (.Slice none none none p1) p2] e pos) env) (Z0 r σ o e μ) := by
 intro ht res σ' μ' hm Q E P
 refine wpAny_Assign_Subscript ?_ Zw
 refine (g.ev A _ env σ ρ μ s e X.toAct).thenS X ht hm P fun v h₁ tk₁ ρ₁ p μ₁ x1 S1 rv ht1 hm1 P1 X1 => ?_
 refine (g.ev A _ env σ ρ₁ μ₁ { s with heap := h₁, toks := tk₁ } o X1.toAct).thenS X1 ht1 hm1 P1 fun a h₂ tk₂ ρ₂ q μ₂ x2 S2 ra ht2 hm2 P2 X2 => wpAny_Slice ?_
 rw [aF]
 refine wpAny_pure (wpAny_pure (wpAny_pure ?_))
 have hk := qg h₂ { cls := .type "slice", data := .fields #[.none, .none, .none] }
 have x3 : Le [] ρ₂ h₂ ρ₂ (h₂.push { cls := .type "slice", data := .fields #[.none, .none, .none] }) := Le.of_keeps hk
 have S3 := S2.keeps hk
 exact K1 (s := { s with heap := h₂.push { cls := .type "slice", data := .fields #[.none, .none, .none] }, toks := tk₂ }) (X2.le x3 S3) ht2 (ra.le S2 x3) ((rv.le S1 x2).le S2 x3) (aU ..) hm2 (P2.le (s := { s with heap := h₂, toks := tk₂ }) (tk := tk₂) x3.any)
set_option tactic.hygienic true in
theorem Vs {kvs : List (Str × Pu)} {l : Loc} {k : Str} {v : Pu} {p : PV} (x : RvD hT ρ h kvs l) (rv : Rv hT ρ h v p) : RvD hT ρ h (stored kvs k v) (qU l k p) := by
 have hk := x.keys
 have hany : kvs.any (fun kv => kv.1 = k) = l.any (fun kv => kv.1 = k) := by
  have e1 : kvs.any (fun kv => kv.1 = k) = (kvs.map (·.1)).any (fun z => z = k) := by rw [An]; rfl
  have e2 : l.any (fun kv => kv.1 = k) = (l.map (·.1)).any (fun z => z = k) := by rw [An]; rfl
  rw [e1, e2, hk]
 unfold stored qU
 rw [hany]
 split
 ·rename_i hh
  clear hany hk hh
  induction x with
  | nil => exact .nil
  | @cons k' v' p' vs ps a b ih =>
    simp only [RO]
    by_cases hq : k' = k
    ·simp only [if_pos hq]; exact .cons rv ih
    ·simp only [if_neg hq]; exact .cons a ih
 ·rename_i hh
  clear hany hk hh
  induction x with
  | nil => exact .cons rv .nil
  | cons a b ih => exact .cons a ih
theorem En {m1 : Nat} {a v k : Pu} {q p u : PV} {res : Except Exn j9} {Q : A9 -> Py -> Prop} {E : Pu -> Py -> Prop} (G : GF w hT) (g : jg w hT r m1) (X : qL w hT A outer env σ ρ μ s.heap m1) (ht : 1 <= s.toks) (ra : Rv hT ρ s.heap a q) (rk : Rv hT ρ s.heap k u) (rv : Rv hT ρ s.heap v p) (hm : Gq r σ q u p μ = some (res, σ', μ')) (P : jT w hT env ρ s res σ' μ' Q E) :
 PP (MM w) A (bf a k v) (fun zz => Q .next) E s := by
 obtain ⟨x, hx, hm1⟩ := bnd hm
 clear hm
 induction hi : qv μ q with
 | some d =>
   rw [hi] at hm1
   obtain ⟨m, h1, hc⟩ := bnd hi
   obtain ⟨b, e, hn⟩ := ra.lI h1
   have ep := jI h1
   clear hi h1 ra
   subst e ep
   obtain ⟨ox, od, I⟩ := X.sr.inst0 hn hc
   refine JK (w := w) (G.kin X.sr) I ?_
   exact (g.call A _ ρ μ s 102 [_, k, v] [_, u, p] [] [] X.sr X.sk X.rm (.cons (.loc hn) (.cons rk (.cons rv .nil))) .nil).sim.thenS X ht hm1 P fun c h₄ tk₄ ρ₄ t μ₄ x4 S4 rc ht4 hm4 P4 X4 => (P4.of hm4).ok .next h₄ tk₄ ρ₄ .next rfl (Le.refl _ _ _) S4 X4.er .next ht4
 | none =>
   rw [hi] at hm1
   obtain ⟨m, h1, hm2⟩ := bnd hm1
   obtain ⟨dl, hdl, hm3⟩ := bnd hm2
   obtain ⟨hlen, hm4⟩ := ifT hm3
   obtain ⟨b, e, hn⟩ := ra.lI h1
   obtain ⟨t, e', _⟩ := rk.sI hx
   clear hi h1 ra rk hx hm1 hm2 hm3
   subst e e'
   obtain ⟨kvs, hd, hr⟩ := X.sr.dictAt hn hdl
   refine wpAny_setItem_pairs (knd := PN prog w) (j8 x t) hd (fun h₄ hd4 hs4 => ?_) (by rw [hr.length]; exact RL hlen)
   have hin : b ∈ ρ := Rr hn
   have kv4 := X.sr.kvSet hin hs4
   have x4 : Le [] ρ s.heap ρ h₄ := Le.set hin hs4 (let ⟨_, _, _, hob, _⟩ := hd4; ⟨_, hob⟩)
   exact (P.of hm4).ok .next h₄ (s.toks + 1) ρ .next rfl x4.any (X.sr.set (c := .dict (qU dl x p)) hn hs4 ⟨_, hd4, Vs (hr.mono ⟨[], (PQ _).symm⟩ kv4) (rv.mono ⟨[], (PQ _).symm⟩ kv4)⟩) (X.er.le X.sr x4) .next (Ru ht)
theorem XC {o i e : Expr} {p2 pos : Pos} (G : GF w hT) (g : jg w hT r n) (X : qL w hT A outer env σ ρ μ s.heap n) : j4 w hT A env ρ s (Ac (.Assign [.Subscript o i p2] e pos) env) (FO r σ o i e μ) := by
 intro ht res σ' μ' hm Q E P
 refine wpAny_Assign_Subscript ?_ Zw
 refine (g.ev A _ env σ ρ μ s e X.toAct).thenS X ht hm P fun v h₁ tk₁ ρ₁ p μ₁ x1 S1 rv ht1 hm1 P1 X1 => ?_
 refine (g.ev A _ env σ ρ₁ μ₁ { s with heap := h₁, toks := tk₁ } o X1.toAct).thenS X1 ht1 hm1 P1 fun a h₂ tk₂ ρ₂ q μ₂ x2 S2 ra ht2 hm2 P2 X2 => ?_
 exact (g.ev A _ env σ ρ₂ μ₂ { s with heap := h₂, toks := tk₂ } i X2.toAct).thenS X2 ht2 hm2 P2 fun iv h₃ tk₃ ρ₃ k μ₃ x3 S3 rk ht3 hm3 P3 X3 => En (s := { s with heap := h₃, toks := tk₃ }) G g X3 ht3 (ra.le S2 x3) rk ((rv.le S1 x2).le S2 x3) hm3 P3
theorem Z3 {M : U8} {a : PD} {ox : Obj} {od : Option Obj} {i : Pu} {Q : Unit -> Py -> Prop} {E : Pu -> Py -> Prop} (X : (KK w).In s.heap) (I : InstAt s.heap a ox 187 od)
 (h : PP M A (call (.ref 107) [.ref a, i]) (fun zz s' => Q () s') E s) : PP M A (delItem (.ref a) i) Q E s := by
 obtain ⟨hs, hf⟩ := yR (w := w) (nm := "__delitem__") (f := 107) (by decide)
 unfold delItem sequenceKey
 refine wpAny_holding (wpAny_bind (wpAny_bind (I.type.here ?_)))
 refine wpAny_bind ((anyM_none X (Xu w)).here ?_)
 rw [if_pos (show (!false) = true from rfl)]
 exact wpAny_pure (wpAny_bind (special_fn X I hs (beq_iff_eq.mp hf) (RG h (fun zz zz z => wpAny_pure z) fun zz zz z => z)))
theorem Kr {o i : Expr} {p2 pos : Pos} (G : GF w hT) (g : jg w hT r n) (X : qL w hT A outer env σ ρ μ s.heap n) : j4 w hT A env ρ s (Ac (.Delete [.Subscript o i p2] pos) env) (qC σ (r.ev σ o μ) fun a μ => qC σ (r.ev σ i μ) fun k => EJ r σ a k) := by
 intro ht res σ' μ' hm Q E P
 refine wpAny_Delete (wpAny_deleteEach_cons ?_)
 rw [arm_delete_Subscript]
 refine wpAny_bind ((g.ev A _ env σ ρ μ s o X.toAct).thenS X ht hm P fun a h₂ tk₂ ρ₂ q μ₂ x2 S2 ra ht2 hm2 P2 X2 => ?_)
 refine wpAny_bind (wpAny_holding ((g.ev A _ env σ ρ₂ μ₂ { s with heap := h₂, toks := tk₂ } i X2.toAct).thenS X2 ht2 hm2 P2 fun iv h₃ tk₃ ρ₃ k μ₃ x3 S3 rk ht3 hm3 P3 X3 => ?_))
 have ra3 := ra.le S2 x3
 obtain ⟨d, hd, hm4⟩ := bnd hm3
 obtain ⟨_, hm5⟩ := ifT hm4
 obtain ⟨m, h1, hc⟩ := bnd hd
 obtain ⟨b, e, hn⟩ := ra3.lI h1
 have ep := jI h1
 clear hd h1 ra3 ra hm3 hm4
 subst e ep
 obtain ⟨ox, od, I⟩ := S3.inst0 hn hc
 refine wpAny_bind (wpAny_standAt (wpAny_bind (wpAny_holding (Z3 (s := { s with heap := h₃, toks := tk₃ }) (w := w) (G.kin S3) I ?_))))
 exact (g.call A _ ρ₃ μ₃ { s with heap := h₃, toks := tk₃ } 107 [_, iv] [_, k] [] [] S3 X3.sk X3.rm (.cons (.loc hn) (.cons rk .nil)) .nil).sim.thenS X3 ht3 hm5 P3 fun c h₄ tk₄ ρ₄ t μ₄ x4 S4 rc ht4 hm4 P4 X4 => wpAny_release (wpAny_deleteEach_nil ((P4.of hm4).ok .next h₄ tk₄ ρ₄ .next rfl (Le.refl _ _ _) S4 X4.er .next ht4))
end
end
section
open PySem.Builtin
theorem MT (w : Rk) : bu (KK w) (.ref 187) "__setattr__" = some (some (.builtin "object.__setattr__")) := by kernel_rfl
theorem Di (w : Rk) : plainOver (KK w) 187 = true := by kernel_rfl
theorem Gd (w : Rk) : takerIn (KK w) 187 "_headers" = some none := by kernel_rfl
theorem CA (w : Rk) : (clsIn (KK w) 187).any (·.hasDict) = true := by kernel_rfl
section
variable {w : Rk} {hT : PO} {A : RE} {l : List Env} {ρ ρ' ρ₀ : List PD} {μ μ₁ μ' : q4} {s : Py} {n : Nat} {env cenv : Env} {outer : List Env} {σ σ' : LE} {h h' h₀ : PO} {r : Ev}
theorem BY {x : Str} {p : PV} {Q : Pu -> Py -> Prop} {E : Pu -> Py -> Prop} (R : qN hT ρ s.heap env σ) (hx : σ.get x = some p)
 (h : ∀ v, Rv hT ρ s.heap v p -> Q v s) : PP (MM w) A (loadName env x) Q E s := by
 have hk := R.kindOf (s := s) x
 obtain ⟨hs, hx⟩ := ifT hx
 rcases xE hs with hs | hs
 ·obtain ⟨m, hm, hv⟩ := R.ns
  obtain ⟨v, hv, hr⟩ := hv x p hx hs
  exact AK R.kind (hk.trans hs) hm hv (h v hr)
 ·obtain ⟨c, v, h1, h2, h3⟩ := R.cel x p hx hs
  exact al R.kind (hk.trans hs) h1 h2 (h v h3)
theorem Jy {x a : PD} {od : Obj} {c : Nat} {v : Pu} {Q : Unit -> Py -> Prop} {E : Pu -> Py -> Prop} (X : (KK w).In s.heap) (ha : s.heap.get? a = some (Uz 187 x)) (ho : s.heap.get? x = some { cls := .type "dict", data := .dict #[] c })
 (h : ∀ h', h'.DictOf (PN prog w) x [("_headers", v)] -> RK x s.heap h' -> Q () { s with heap := h', toks := s.toks + 1 + 1 }) : PP (MM w) A (setAttr (.ref a) "_headers" v) Q E s := by
 have I : InstAt s.heap a (Uz 187 x) 187 (some _) := w7 ha ho
 refine set_plain X I (MT w) (osa_open (s := { s with toks := s.toks + 1 }) X I (Di w) (Gd w) fun b => ?_)
 obtain ⟨cd, hc, hd'⟩ := y3 (CA w)
 refine wpAny_bind (wpAny_pure (wpAny_bind (wpAny_bind (wpAny_loadPart (s := { s with toks := s.toks + 1 }) ha (wpAny_bind (Looks.here (s := { s with toks := s.toks + 1 }) (looks_clsIn X hc) ?_))))))
 rw [hd']
 refine wpAny_pure (a := some x) (wpAny_bind (wpAny_pure (wpAny_bind ?_)))
 refine kh (s := { s with toks := s.toks + 1 }) ho fun h' ho' hs' => ?_
 refine wpAny_bind (wpAny_lookBehind ho' (pastItsLine_dict (by show 1 <= Pr + 1; decide)) ?_)
 exact wpAny_pure (h h' (fm ho') hs')
theorem By {m1 m d : Nat} {a : PD} {v : Pu} {p : PV} {dl : Loc} {res : Except Exn j9} {Q : A9 -> Py -> Prop} {E : Pu -> Py -> Prop} (G : GF w hT) (X : qL w hT A outer env σ ρ μ s.heap m1) (ht : 1 <= s.toks) (hn : ρ[m]? = some a) (hc : zZ μ m = some d) (hdl : qe μ d = some dl) (he : dl.isEmpty = true) (rv : Rv hT ρ s.heap v p)
 (hm : zg σ .next (qj μ d (.dict [("_headers", p)])) = some (res, σ', μ')) (P : jT w hT env ρ s res σ' μ' Q E) : PP (MM w) A (setAttr (.ref a) "_headers" v) (fun zz => Q .next) E s := by
 have e := Rf.mp he
 subst e
 obtain ⟨x, kvs, hx, ha, hd, hr⟩ := X.sr.instAt hn hc hdl
 cases hr
 obtain ⟨c, ho⟩ := yE hd
 refine Jy (w := w) (od := default) (G.kin X.sr) ha ho fun h₂ hd2 hs2 => ?_
 have hin : x ∈ ρ := Rr hx
 have x2 : Le [] ρ s.heap ρ h₂ := Le.set hin hs2 (let ⟨_, _, _, hob, _⟩ := hd2; ⟨_, hob⟩)
 exact (P.of hm).ok .next h₂ (s.toks + 1 + 1) ρ .next rfl x2.any (X.sr.set (c := .dict [("_headers", p)]) hx hs2 ⟨_, hd2, .cons (rv.mono ⟨[], (PQ _).symm⟩ (X.sr.kvSet hin hs2)) .nil⟩) (X.er.le X.sr x2) .next (Ru (Ru ht))
theorem Jx {y name : Str} {py p2 pos : Pos} {e : Expr} (G : GF w hT) (g : jg w hT r n) (X : qL w hT A outer env σ ρ μ s.heap n) : j4 w hT A env ρ s (Ac (.Assign [.Attribute (.Name y py) name p2] e pos) env) (Ve r σ y name e μ) := by
 intro ht res σ' μ' hm Q E P
 obtain ⟨hg, hm1⟩ := ifT hm
 have hyd := nt (an hg).2
 have hnm := qb (an hg).1
 clear hm hg
 subst hnm
 refine plainObj_wpAny_Assign_Attribute ((g.ev A _ env σ ρ μ s e X.toAct).thenS X ht hm1 P fun v h₁ tk₁ ρ₁ p μ₁ x1 S1 rv ht1 hm2 P1 X1 => ?_) VU
 refine bK hm2 fun q hy hm3 => bK hm3 fun d hd hm4 => bK hm4 fun dl hdl hm5 => iT hm5 fun he hm6 => vw (s := { s with heap := h₁, toks := tk₁ }) X1.er hy hyd fun a ra => ?_
 obtain ⟨m, h1, hc⟩ := bnd hd
 obtain ⟨b, e, hn⟩ := ra.lI h1
 exact e ▸ By (s := { s with heap := h₁, toks := tk₁ }) G X1 ht1 hn hc hdl he rv hm6 P1
theorem IC {t : Expr} {pos : Pos} {op : AH} {e : Expr} (g : jg w hT r n) (X : qL w hT A outer env σ ρ μ s.heap n) : j4 w hT A env ρ s (Ac (.AugAssign t op e pos) env) (Nf r σ t op e μ) := by
 intro ht res σ' μ' hm Q E P
 obtain ⟨x, hx, hm1⟩ := bnd hm
 obtain ⟨old, ho, hm2⟩ := bnd hm1
 obtain ⟨px, ex⟩ := jc hx
 clear hm hm1 hx
 subst ex
 refine wpAny_AugAssign_Name (BY X.er ho fun ov ro => (g.ev A _ env σ ρ μ s e X.toAct).thenS X ht hm2 P fun v h₁ tk₁ ρ₁ p μ₁ x1 S1 rv ht1 hm3 P1 X1 => ?_)
 obtain ⟨hop, hm4⟩ := ifT hm3
 obtain ⟨a, ha, hm5⟩ := bnd hm4
 obtain ⟨b, hb, hm6⟩ := bnd hm5
 obtain ⟨t1, e1, _⟩ := (ro.le X.sr x1).sI ha
 obtain ⟨t2, e2, _⟩ := rv.sI hb
 have e3 : op = .Add := by cases op <;> first | rfl | exact noB hop
 clear hm3 hm4 hm5 ro rv hop ha hb ho
 subst e1 e2 e3
 by_cases hl : (a ++ b).length <= Pr
 ·have hm7 : kQ σ x (.str (a ++ b)) μ₁ = some (res, σ', μ') := by unfold yx at hm6; rw [if_pos hl] at hm6; exact hm6
  exact jj ht1 (PyProof.Rows.iadd_str (s := { s with heap := h₁, toks := tk₁ }) (fun t' tk ht' => gj (s := { s with heap := h₁, toks := tk }) X1 ht' (.str _ t' hl) hm7 (P1.le (s := { s with heap := h₁, toks := tk₁ }) (tk := tk) (Le.refl _ _ _))) (by rw [<- PL]; exact hl))
 ·unfold yx at hm6; rw [if_neg hl] at hm6; exact no hm6
end
end
section
open PySem.Builtin
theorem if5 {α : Type} {c1 c2 c3 c4 c5 : Bool} {a b d e u r : α} (h1 : c1 = false) (h2 : c2 = false) (h3 : c3 = false) (h4 : c4 = false) (h5 : c5 = false) :
 (if c1 = true then a else if c2 = true then b else if c3 = true then d else if c4 = true then e else if c5 = true then u else r) = r := by
 subst h1 h2 h3 h4 h5; rfl
section
variable {w : Rk} {hT : PO} {A : RE} {l : List Env} {ρ ρ' ρ₀ : List PD} {μ μ₁ μ' : q4} {s : Py} {n : Nat} {env cenv : Env} {outer : List Env} {σ σ' : LE} {h h' h₀ : PO} {r : Ev}
theorem L7 : 2 <= Pr := by decide
theorem Ft {x y : Str} {px py : Pos} {f : Expr -> Option Str} (e1 : f (.Name x px) = some x) (e2 : f (.Name y py) = some y) : [Expr.Name x px, .Name y py].filterMap f = [x, y] := by
 rw [TS e1, TS e2]; rfl
theorem MV {x y : Str} (h : (x == y) = false) : [x, y].eraseDups = [x, y] := by
 rw [List.eraseDups_cons, filter_cons, show (y == x) = false from beq_eq_false_iff_ne.mpr fun e => Te ((h.symm.trans (by rw [e])).trans (beq_self_eq_true x))]; rfl
theorem OZ {F : Expr -> Bool} {a b : Expr} (hF : ∀ e, F e = qf e) (ha : qf a = false) (hb : qf b = false) : [a, b].any F = false := by
 show (F a || (F b || false)) = false
 rw [hF, hF, ha, hb]; rfl
theorem Zk {x y : Str} {px py tp vp : Pos} {k k2 : Nat} {a b : Expr} (hk : env.scope.kind = .function) (hx : env.kindOf x = some .local) (hy : env.kindOf y = some .local) (hl : (px.line == py.line) = true) (hne : (x == y) = false)
 (h1 : [a, b].all (aD 8) = false) (h2 : [a, b].all (AI 8) = false) (ha : qf a = false) (hb : qf b = false) :
 swappedStores [.Tuple [.Name x px, .Name y py] k tp] (.Tuple [a, b] k2 vp) env = pure (some [x, y]) := by
 have hbk : env.blockKind = .function := by
  unfold Env.blockKind; rw [hk]; exact ite_self _
 have e1 : (if (env.kindOf x == some .local && px.line == px.line) = true then some x else none) = some x := if_pos (by rw [hx, beq_self_eq_true px.line]; rfl)
 have e2 : (if (env.kindOf y == some .local && py.line == px.line) = true then some y else none) = some y := if_pos (by rw [hy, eq_of_beq hl, beq_self_eq_true py.line]; rfl)
 refine (if5 ?_ ?_ ?_ h1 h2).trans (congrArg (fun l => pure (some l)) (Ft e1 e2))
 ·show (false || (env.blockKind != .function)) = false
  rw [hbk]; rfl
 ·refine OZ (fun e => ?_) ha hb
  induction e using PZ <;> exact rfl
 ·refine (congrArg (fun l : List Str => l.length != 2 || l.eraseDups.length != l.length) (Ft e1 e2)).trans ?_
  show ([x, y].length != 2 || [x, y].eraseDups.length != [x, y].length) = false
  rw [MV hne]; rfl
theorem DC {ts es : List Expr} {tp vp pos : Pos} {k k2 : Nat} (g : jg w hT r n) (X : qL w hT A outer env σ ρ μ s.heap n) : j4 w hT A env ρ s (Ac (.Assign [.Tuple ts k tp] (.Tuple es k2 vp) pos) env) (F0 r σ ts es μ) := by
 intro ht res σ' μ' hm Q E P
 obtain ⟨⟨t1, t2⟩, h1, hm1⟩ := bnd hm
 obtain ⟨⟨a, b⟩, h2, hm2⟩ := bnd hm1
 obtain ⟨⟨x, px⟩, h3, hm2a⟩ := bnd hm2
 obtain ⟨⟨y, py⟩, h4, hm2b⟩ := bnd hm2a
 have e1 := g9 h1
 have e2 := g9 h2
 have e3 := yT h3
 have e4 := yT h4
 clear hm hm1 hm2 hm2a h1 h2 h3 h4
 dsimp only at e1 e2 e3 e4 hm2b
 subst e3 e4 e1 e2
 obtain ⟨hg, hm3⟩ := ifT hm2b
 have g8 := an hg
 have g7 := an g8.1
 have g6 := an g7.1
 have g5 := an g6.1
 have g4 := an g5.1
 have g3 := an g4.1
 have g2 := an g3.1
 have hx : env.kindOf x = some .local := (X.er.kindOf (s := s) x).trans (eq_of_beq g2.1)
 have hy : env.kindOf y = some .local := (X.er.kindOf (s := s) y).trans (eq_of_beq g2.2)
 refine Assign_Tuple_swapped (names := [x, y]) (wpAny_Tuple ?_) (by rfl) (Zk X.er.kind hx hy g3.2 (nt g4.2) (nt g5.2) (nt g6.2) (nt g7.2) (nt g8.2))
 rw [q9 (by rw [Uj, Uj, g7.2, g8.2]; rfl)]
 clear g8 g7 g6 g5 g4 g3 g2 hg hx hy
 refine spliced_cons ((g.ev A _ env σ ρ μ s a X.toAct).thenS X ht hm3 P fun v h₁ tk₁ ρ₁ p μ₁ x1 S1 rv ht1 hm1 P1 X1 => spliced_cons ?_)
 refine (g.ev A _ env σ ρ₁ μ₁ { s with heap := h₁, toks := tk₁ } b X1.toAct).thenS X1 ht1 hm1 P1 fun u h₂ tk₂ ρ₂ q μ₂ x2 S2 ru ht2 hm2 P2 X2 => T9 ⟨L7, ?_⟩
 have hk := qg h₂ { cls := .type "tuple", data := .seq #[v, u] }
 rw [show ([x, y] : List Str).length = (#[v, u] : Array Pu).size from rfl]
 refine wpAny_unpackItems_tuple (items := #[v, u]) (s := { s with heap := h₂.push { cls := .type "tuple", data := .seq #[v, u] }, toks := tk₂ }) X2.rm.1 ⟨_, Rg _ rfl, rfl, 0, rfl⟩ fun h₃ he => ?_
 have keep : ∀ b o, h₂.get? b = some o -> h₃.get? b = some o := fun b o e => he b o (RQ (RJ (hk b o e))) (hk b o e)
 have x3 : Le [] ρ₂ h₂ ρ₂ h₃ := Le.of_keeps keep
 have X3 := X2.le x3 (S2.keeps keep)
 refine bK hm2 fun σ₁ hp1 hm4 => UH (AZ (xx (own := qy env) (s := { s with heap := h₃, toks := tk₂ }) ht2 X3.sr X3.er (ru.le S2 x3) hp1 X3.nt (.head _) (js env y) fun h₄ tk₄ x4 S4 R4 ht4 => ?_))
 have X4 := X3.leOwn x4 S4 R4
 have rv4 := ((rv.le S1 x2).le S2 x3).mono (ρ' := ρ₂) ⟨[], (PQ _).symm⟩ (X3.sr.kv X3.er.ownOK x4)
 exact UH (AZ (RG (gj (s := { s with heap := h₄, toks := tk₄ }) X4 ht4 rv4 hm4 (P2.le (s := { s with heap := h₂, toks := tk₂ }) (tk := tk₄) (x3.any.trans x4))) (fun zz zz q => wpAny_pure q) fun zz zz q => q))
theorem xn (w : Rk) : nsIn (KK w) mainGlobals "ValueError" = some none := by kernel_rfl
theorem F4 {e c : Option Expr} {pos : Pos} (G : GF w hT) (X : qL w hT A outer env σ ρ μ s.heap n) : j4 w hT A env ρ s (Ac (.Raise e c pos) env) (YO σ e c μ) := by
 intro ht res σ' μ' hm Q E P
 obtain ⟨hc, hm1⟩ := ifT hm
 obtain ⟨⟨c0, m⟩, hq, hm2⟩ := bnd hm1
 obtain ⟨hg, hm3⟩ := ifT hm2
 obtain ⟨e0, he, hq⟩ := bnd hq
 obtain ⟨⟨f, x⟩, h1, hq⟩ := bnd hq
 obtain ⟨y, h2, hq⟩ := bnd hq
 obtain ⟨np, cp, e1⟩ := yH h1
 obtain ⟨mk, mp, e2⟩ := Qz h2
 have e3 := TE.mp hc
 have e4 := qk hq
 have e5 := qb (an hg).1
 have g2 := (an hg).2
 have P := P.of hm3
 clear hm hm1 hm2 hm3 hc hq h1 h2 hg
 dsimp only at e1 e2 e4 e5 g2 P
 injection e4 with e6 e7
 subst e2 e1 e3 e6 e7 e5 he
 refine jj ht ?_
 refine wpAny_Raise_call PySem.F.excCall_ValueError PySem.F.excRaise_ValueError X.rm.1 (by rw [q9 (by rfl)]; rfl) ?_
 refine zP (v := .type "ValueError") G X.er X.sr g2 (xn w) (by kernel_rfl) (by decide) (by decide) ⟨rfl, ?_⟩
 refine qO (qI (by rfl)) ?_
 rw [q9 (by rfl)]
 refine spliced_cons (Sj (T9 ⟨rfl, by show 1 <= Pr; decide, fun h₁ ex hme => ?_⟩))
 obtain ⟨t, he, htn, htt⟩ := hme.there
 have hk := hme.keeps
 have x1 : Le [] ρ s.heap ρ h₁ := Le.of_keeps hk
 have S1 := X.sr.keeps hk
 refine fun ht' => P.err ex h₁ _ ρ _ rfl x1.any S1 (X.er.le X.sr x1) (wu.toS ⟨_, _, _, ⟨he, rfl, rfl, rfl, fun m' hm' => ?_, hme.new⟩, rfl⟩) ht'
 cases hm'
 exact ⟨t, _, rfl, _, 0, htt, rfl, rfl⟩
end
end
section
open PySem.Builtin
section
variable {w : Rk} {hT : PO} {A : RE} {l : List Env} {ρ ρ' ρ₀ : List PD} {μ μ₁ μ' : q4} {s : Py} {n : Nat} {env cenv : Env} {outer : List Env} {σ σ' : LE} {h h' h₀ : PO} {r : Ev}
theorem Wr.kv {h₀ h h' : PO} (W : Wr hT ρ h₀ h h') : Kv h h' := fun b o hb hc => by
 obtain ⟨hc1, vs, n, hd⟩ := hc
 rcases W b o hb (.inl fun ws q => by rw [hd] at q; cases q) with z | ⟨_, _, z⟩
 ·exact ⟨o.slots, z⟩
 ·exact z
theorem qN.written (R : qN hT ρ h env σ) (W : Wr hT ρ h₀ h h') : qN hT ρ h' env σ := by
 have kv := W.kv
 have hx : ∃ more, ρ = ρ ++ more := ⟨[], by simp⟩
 have cell : ∀ {c : PD} {v : Option Pu}, h.IsCell c v -> h'.IsCell c v := fun {c v} x => by
  obtain ⟨o, ho, hd⟩ := x
  rcases W c o ho (.inl fun vs q => by rw [hd] at q; cases q) with z | ⟨_, _, sl, z⟩
  ·exact ⟨o, z, hd⟩
  ·exact ⟨_, z, hd⟩
 obtain ⟨m, ⟨o, es, ep, ho, hd, r⟩, hv⟩ := R.ns
 have hn : h'.Ns env.locals m := by
  rcases W _ o ho (.inl fun vs q => by rw [hd] at q; cases q) with z | ⟨_, _, sl, z⟩
  ·exact ⟨o, es, ep, z, hd, r⟩
  ·exact ⟨_, es, ep, z, hd, r⟩
 refine ⟨R.kind, R.names, R.glob, R.blt, R.loc, ⟨m, hn, fun y p hy hk => ?_⟩, fun y p hy hk => ?_, fun q hq => ?_, R.sep, R.has⟩
 ·obtain ⟨v, h1, h2⟩ := hv y p hy hk
  exact ⟨v, h1, h2.mono hx kv⟩
 ·obtain ⟨c, v, hc, hi, hr⟩ := R.cel y p hy hk
  exact ⟨c, v, hc, cell hi, hr.mono hx kv⟩
 ·obtain ⟨h1, h2, v, h3⟩ := R.cells q hq
  exact ⟨h1, h2, v, cell h3⟩
theorem Le.writtenX {own own' : List PD} (Y : Le (own ++ own') ρ₀ h₀ ρ h) (f : ∀ b ∈ own, h₀.get? b = none) (W : Wr hT ρ h₀ h h') : Le own' ρ₀ h₀ ρ h' := by
 have nn : ∀ b o, h₀.get? b = some o -> b ∉ own' -> b ∉ own ++ own' := fun b o e q z => by
  rcases PT.mp z with z | z
  ·rw [f b z] at e; cases e
  ·exact q z
 refine ⟨Y.ext, fun b o hb hn ho => ?_, fun b o hb => ?_, fun b o hb hn ho hd => ?_⟩
 ·obtain ⟨sl, hs⟩ := Y.kp b o hb hn (nn b o hb ho)
  rcases W b _ hs (.inr (by rw [hb]; simp)) with z | ⟨_, z, sl', z'⟩
  ·exact ⟨sl, z⟩
  ·exact ⟨sl', z'⟩
 ·obtain ⟨o', hs⟩ := Y.st b o hb
  rcases W b _ hs (.inr (by rw [hb]; simp)) with z | ⟨_, _, sl', z'⟩
  ·exact ⟨_, z⟩
  ·exact ⟨_, z'⟩
 ·rcases W b o (Y.ex b o hb hn (nn b o hb ho) hd) (.inr (by rw [hb]; simp)) with z | ⟨⟨_, es, ep, q⟩, _⟩
  ·exact z
  ·exact absurd q (hd es ep)
theorem ZH {own : List PD} {e : PD} {x : Exn} {E : Pu -> Py -> Prop} (X : qL w hT A outer env σ ρ μ s.heap n) (Y : Le (own ++ qy env) ρ₀ h₀ ρ s.heap) (f : ∀ b ∈ own, h₀.get? b = none) (hX : kY env.locals h₀ s.heap e x) (T : ∀ b o, hT.get? b = some o -> h₀.get? b = some o)
 (k : ∀ h', Le (qy env) ρ₀ h₀ ρ h' -> SR w hT ρ μ h' -> qN hT ρ h' env σ -> kY env.locals h₀ h' e x -> E (.ref e) { s with heap := h' }) : notedBy (MM w) A env (UJ (MM w) A env E) (.ref e) s := by
 unfold notedBy
 refine Y1 X.sk X.fr hX (fun b hb => ?_) fun h1 W1 N1 => ?_
 ·induction q : h₀.get? b with
  | none => exact absurd q hb
  | some o => obtain ⟨o', ho'⟩ := Y.st b o q; rw [ho']; simp
 unfold UJ
 refine N1.elim fun oe b => b.elim fun vs b => b.elim fun a0 b => b.2.elim fun T' t => t.elim fun oT t => t.elim fun ts t => ?_
 refine wpAny_bind (Un (s := { s with heap := h1 }) b.1.g b.1.d t.r ?_)
 rw [if_neg (show ¬ ((ai T' == U0) = true) from Te)]
 rw [X.fr]
 refine yZ (hT := hT) (ρ := ρ) (s := { s with heap := h1 }) (f := some env.locals) N1 fun h2 W2 N2 => ?_
 have W := W1.trans W2
 exact k h2 (Y.writtenX f W) (X.sr.written T W) (X.er.written W) N2.toS
structure FI (w : Rk) (hT : PO) (A : RE) (outer : List Env) (env : Env) (own : List PD) (ρ₀ : List PD) (h₀ : PO) (src : Src) (I : PD) (i : Nat) (σ : LE) (ρ : List PD) (μ : q4) (h : PO) (n : Nat) : Prop where
 le : Le (own ++ qy env) ρ₀ h₀ ρ h
 act : qL w hT A outer env σ ρ μ h n
 it : zf ρ h own src i I
 nr : ∀ b ∈ own, b ∉ ρ
theorem ZD {own : List PD} {src : Src} {i : Nat} {I : PD} (x : zf ρ h own src i I) : ∀ b ∈ own, ∀ o, h.get? b = some o -> ∀ es ep, o.data ≠ .dict es ep := by
 intro b hb o e es ep hd
 induction src with
 | list n =>
   obtain ⟨rfl, a, _, o', ho', hc, hd'⟩ := x
   rw [Pw.mp hb, ho'] at e; cases e; rw [hd'] at hd; cases hd
 | str x =>
   obtain ⟨rfl, t, o', ho', hc, hd'⟩ := x
   rw [Pw.mp hb, ho'] at e; cases e; rw [hd'] at hd; cases hd
 | enum n =>
   obtain ⟨J, a, old, rfl, _, _, he, o', ho', hc, hd'⟩ := x
   rcases Rq.mp hb with rfl | hb
   ·have he' : h.get? b = _ := he
    rw [he'] at e; cases e; cases hd
   ·rw [Pw.mp hb, ho'] at e; cases e; rw [hd'] at hd; cases hd
theorem Xm {own : List PD} {src : Src} {I : PD} {target : Expr} {body : List Sf} {res : Except Exn j9} {Q : A9 -> Py -> Prop} {E : Pu -> Py -> Prop} (g : jg w hT r n) (f0 : ∀ b ∈ own, h₀.get? b = none) (hn : ∀ b ∈ own, hT.get? b = none) (hd : ∀ b ∈ own, b ∉ qy env)
 (T : ∀ b o, hT.get? b = some o -> h₀.get? b = some o) (hto : jD target = true) (hen : ∀ m, src = .enum m -> zo target = true) {k i : Nat} (F : FI w hT A outer env own ρ₀ h₀ src I i σ ρ μ s.heap n) (ht : 1 <= s.toks)
 (hm : zJ r src target body k i σ μ = some (res, σ', μ')) (P : jT w hT env ρ₀ { s with heap := h₀ } res σ' μ' Q E) :
 TB (MM w) A (.forLoop target (.ref I) body [] env) (fun r s' => match r with | .ok f => Q f s' | .error e => UJ (MM w) A env E e s') s := by
 refine Uw (fun k s' => ∃ i σ ρ μ h tk, s' = { s with heap := h, toks := tk } /\ FI w hT A outer env own ρ₀ h₀ src I i σ ρ μ h n /\ 1 <= tk /\ zJ r src target body k i σ μ = some (res, σ', μ')) ?_ k ⟨i, σ, ρ, μ, s.heap, s.toks, rfl, F, ht, hm⟩
 clear F ht hm
 rintro k s' ⟨i, σ, ρ, μ, h, tk, rfl, F, ht, hm⟩
 induction k using AN with
 | zero => exact no hm
 | succ k =>
   obtain ⟨o, hnx, hm1⟩ := bnd (o := xq src i μ) hm
   clear hm
   have nt := F.it.nt
   induction o with
   | none =>
     exact wa (s := { s with heap := h, toks := tk }) F.act.rm.1 hto hen ht F.act.sr F.it F.nr hnx (fun zz h' tk' kb ht' => wpAny_pure ((P.of hm1).ok .next h' tk' ρ .next rfl (F.le.fin f0 kb) (F.act.sr.kb (fun b hb => ⟨F.nr b hb, hn b hb⟩) kb nt) (F.act.er.kb kb nt hd) .next ht')) fun p v h' tk' e => nomatch e
   | some p =>
     obtain ⟨σ₂, hb, hm2⟩ := bnd (o := qt σ target p) hm1
     clear hm1
     refine wa (s := { s with heap := h, toks := tk }) F.act.rm.1 hto hen ht F.act.sr F.it F.nr hnx (fun e => nomatch e) fun p' v h' tk' e kb rv ht' go => go _ _ fun h₂ kb2 rv2 it2 => ?_
     have e := qk e
     subst e
     have le2 : Le (own ++ qy env) ρ₀ h₀ ρ h₂ := F.le.trans ((Le.kb kb2 it2.there).weaken fun b zz zz q => Ro _ q)
     refine wp (s := { s with heap := h₂, toks := tk' }) (own := qy env) hb F.act.rm.1 ht' (F.act.sr.kb (fun b hb => ⟨F.nr b hb, hn b hb⟩) kb2 nt) (F.act.er.kb kb2 nt hd) rv2 F.act.nt (fun zz q => q) (.head _) (fun x zz => js env x) fun h₃ tk₃ x3 S3 R3 ht3 => ?_
     have x3' : Le (own ++ qy env) ρ h₂ ρ h₃ := x3.weaken fun b zz zz q => Ra _ q
     have le3 := le2.trans x3'
     have it3 := it2.le x3 fun b hb => ⟨F.nr b hb, hd b hb⟩
     have sk3 : Stk hT A ρ h₃ (env :: outer) := F.act.sk.leOwn (((Le.kb kb2 it2.there).weaken fun b zz zz q => Ro _ q).trans x3') R3 F.act.fr fun e he L hL q => by
      rcases PT.mp q with q | q
      ·obtain ⟨_, o, ho, es, ep, hdd⟩ := F.act.sk.out e (.tail _ he) L hL
       exact ZD F.it L q o ho es ep hdd
      ·exact F.act.ap e he L hL q
     have X3 : qL w hT A outer env σ₂ ρ μ h₃ n := ⟨⟨S3, R3, sk3, F.act.rm⟩, F.act.fr, F.act.ap, F.act.nt⟩
     have fin : ∀ {ρ₄ h₄}, Le (qy env) ρ h₃ ρ₄ h₄ -> Le (qy env) ρ₀ h₀ ρ₄ h₄ := fun x4 => (le3.trans (x4.weaken fun b zz zz q => Ra _ q)).weaken fun b o hb q => by
      rcases PT.mp q with q | q
      ·rw [f0 b q] at hb; exact no hb
      ·exact q
     induction hex : r.ex σ₂ body μ with
     | none => rw [hex] at hm2; exact no hm2
     | some z =>
       obtain ⟨r1, σ₁, μ₁⟩ := z
       rw [hex] at hm2
       refine g.ex A outer env σ₂ ρ μ { s with heap := h₃, toks := tk₃ } body X3 ht3 _ _ _ hex _ _ ⟨fun f h₄ tk₄ ρ₄ b e x4 S4 R4 rf ht4 => ?_, fun e h₄ tk₄ ρ₄ x e1 x4 S4 R4 ex ht4 => ?_⟩
       ·subst e
        have again : zJ r src target body k (i + 1) σ₁ μ₁ = some (res, σ', μ') -> ∃ m, m < k + 1 /\ ∃ i σ ρ μ h tk, ({ s with heap := h₄, toks := tk₄ } : Py) = { s with heap := h, toks := tk } /\ FI w hT A outer env own ρ₀ h₀ src I i σ ρ μ h n /\ 1 <= tk /\ zJ r src target body m i σ μ = some (res, σ', μ') := fun hm' =>
         ⟨k, RU k, i + 1, σ₁, ρ₄, μ₁, h₄, tk₄, rfl, ⟨le3.trans (x4.weaken fun b zz zz q => Ra _ q), X3.leOwn x4 S4 R4, it3.le x4 fun b hb => ⟨F.nr b hb, hd b hb⟩, fun b hb => by
           obtain ⟨o, ho⟩ := it3.there b hb
           exact x4.out ho (F.nr b hb)⟩, ht4, hm'⟩
        induction rf with
        | next => exact again hm2
        | cont => exact again hm2
        | brk => exact no hm2
        | ret rv => exact (P.of hm2).ok (.ret _) h₄ tk₄ ρ₄ (.ret _) rfl (fin x4) S4 R4 (.ret rv) ht4
       ·subst e1
        exact ZH (s := { s with heap := h₄, toks := tk₄ }) (X3.leOwn x4 S4 R4) (le3.trans (x4.weaken fun b zz zz q => Ra _ q)) f0 (kY.le le3 ex) T fun h₅ x5 S5 R5 ex5 => (P.of hm2).err e h₅ tk₄ ρ₄ x rfl x5 S5 R5 ex5 ht4
theorem FY {e : Expr} (h : yr e = false) : ∀ x, foldedSetIterable e env x = pure x := by
 intro x
 cases e <;> first | rfl | exact noB h.symm
theorem F2 {p : PV} {src : Src} {k m : Nat} (h : zW p μ = some (src, k)) (e : src = .enum m) : False := by
 unfold zW at h
 induction hp : qx p with
 | some x => rw [hp] at h; rw [(wS h).1] at e; cases e
 | none => rw [hp] at h; obtain ⟨_, _, h⟩ := bnd h; obtain ⟨_, _, h⟩ := mp' h; rw [(wS h).1] at e; cases e
theorem HB {target iter : Expr} {body : List Sf} {pos : Pos} (g : jg w hT r n) (X : qL w hT A outer env σ ρ μ s.heap n) : j4 w hT A env ρ s (Ac (.For target iter body [] pos) env) (if yr iter || !jD target then none else qC σ (r.ev σ iter μ) fun v μ => (zW v μ).bind fun q => zJ r q.1 target body q.2 0 σ μ) := by
 intro ht res σ' μ' hm Q E P
 obtain ⟨hc, hm1⟩ := ifB hm
 refine wpAny_For ((g.ev A _ env σ ρ μ s iter X.toAct).thenS X ht hm1 P fun v h₁ tk₁ ρ₁ p μ₁ x1 S1 rv ht1 hm2 P1 X1 => ?_) (FY (orF hc).1)
 refine bK hm2 fun q hsrc hm3 => QX (s := { s with heap := h₁, toks := tk₁ }) S1 rv hsrc fun h₂ own I x0 => ?_
 have f0 : ∀ b ∈ own, h₁.get? b = none := fun b hb => JN (x0.low b hb).1
 have hn : ∀ b ∈ own, hT.get? b = none := fun b hb => by
  induction q : hT.get? b with
  | none => rfl
  | some o => have := S1.top b o q; rw [f0 b hb] at this; exact no this
 have le0 : Le [] ρ₁ h₁ ρ₁ h₂ := Le.of_keeps x0.keep
 exact Xm (s := { s with heap := h₂, toks := tk₁ }) (h₀ := h₁) (ρ₀ := ρ₁) g f0 hn (fun b hb q => by
  obtain ⟨o, ho⟩ := X1.er.there b q
  rw [f0 b hb] at ho; exact no ho) S1.top (by induction q : jD target with | true => rfl | false => rw [q] at hc; exact noB ((orF hc).2.symm)) (fun m e => (F2 hsrc e).elim) ⟨le0.any, X1.le le0 (S1.keeps x0.keep), x0.it, fun b hb q => absurd (S1.lt q) (Sh.mpr (x0.low b hb).1)⟩ ht1 hm3 P1
end
end
section
open PySem.Builtin
section
variable {w : Rk} {hT : PO} {A : RE} {l : List Env} {ρ ρ' ρ₀ : List PD} {μ μ₁ μ' : q4} {s : Py} {n : Nat} {env cenv : Env} {outer : List Env} {σ σ' : LE} {h h' h₀ : PO} {r : Ev}
theorem KE {a : PD} {kvs : List (Str × Pu)} {ep : Nat} (D : h.DictAt (PN prog w) a kvs ep) : h.DictOf (PN prog w) a kvs := by
 obtain ⟨o, es, ho, r⟩ := D
 exact ⟨o, es, ep, ho, r⟩
theorem va {a : PD} {kvs : List (Str × Pu)} {ep : Nat} (D : h.DictAt (PN prog w) a kvs ep) (k : ∀ b o, h.get? b = some o -> h'.get? b = some o) : h'.DictAt (PN prog w) a kvs ep := by
 obtain ⟨o, es, ho, r⟩ := D
 exact ⟨o, es, k _ _ ho, r⟩
theorem SR.kwAt (S : SR w hT ρ μ h) {m : Nat} {a : PD} {l : Loc} (hn : ρ[m]? = some a) (hl : zj μ m = some l) : ∃ kvs : List (Str × Pu), h.DictAt (PN prog w) a kvs l.length /\ RvD hT ρ h kvs l /\ kvs.length = l.length :=
 let ⟨kvs, D, hr⟩ := S.cells m a _ hn (YW hl)
 ⟨kvs, D, hr, hr.length⟩
theorem kA {d : PD} {kvs : List (Str × Pu)} {ep : Nat} {target : Expr} {body : List Sf} {R : Result -> Py -> Prop} {E : Pu -> Py -> Prop} (D : s.heap.DictAt (PN prog w) d kvs ep)
 (k : ∀ h2 I, s.heap.get? I = none -> (∀ b o, s.heap.get? b = some o -> h2.get? b = some o) -> U3 h2 I d 0 kvs.length ep .none .none -> h2.DictAt (PN prog w) d kvs ep -> I < h2.objs.size -> TB (MM w) A (.forLoop target (.ref I) body [] env) R { s with heap := h2 }) :
 PP (MM w) A (ct (.ref s.heap.objs.size)) (fun it s₂ => TB (MM w) A (.forLoop target it body [] env) R s₂) E { s with heap := s.heap.push { cls := .type "dict_items", data := .fields #[.ref d] } } := by
 have k1 := qg s.heap { cls := .type "dict_items", data := .fields #[.ref d] }
 have D1 := va D k1
 refine wpAny_pyIter_items (s := { s with heap := s.heap.push { cls := .type "dict_items", data := .fields #[.ref d] } }) (knd := PN prog w) ⟨_, Rg _ rfl, rfl, rfl⟩ D1 ?_
 have k2 := qg (s.heap.push { cls := .type "dict_items", data := .fields #[.ref d] }) { cls := .type "dict_itemiterator", data := .fields #[.none, .bool false, .ref d, .int 0 0, .int kvs.length 0, .int ep 0, .none, .none] }
 exact k _ _ (JN (by rw [SK]; exact U4 _)) (fun b o e => k2 _ _ (k1 _ _ e)) (Rg _ rfl) (va D1 k2) (by rw [SK (s.heap.push _)]; exact RU _)
theorem Yp {d I : PD} {k : Str} {v : Pu} {p : PV} {ep : Nat} {target : Expr} {h2 : PO} {Q' : Option Pu -> Py -> Prop} {E' : Pu -> Py -> Prop} (hto : zo target = true) (f0 : s.heap.get? I = none) (k12 : ∀ b o, s.heap.get? b = some o -> h2.get? b = some o)
 (hit : U3 h2 I d 0 1 ep .none .none) (D2 : h2.DictAt (PN prog w) d [(k, v)] ep) (hI : I < h2.objs.size) (hkl : k.length <= Pr) (rv0 : Rv hT ρ s.heap v p)
 (hq : ∀ v h3, (∀ (Q'' : Unit -> Py -> Prop) (E'' : Pu -> Py -> Prop), (∀ h4, (∀ b o, s.heap.get? b = some o -> h4.get? b = some o) -> Rv hT ρ h4 v (.tup [.str k, p]) -> (∃ ok ov, U3 h4 I d 1 1 ep ok ov) -> Q'' () { s with heap := h4 }) -> PP (MM w) A (Ut target (.ref I) v) Q'' E'' { s with heap := h3 }) -> Q' (some v) { s with heap := h3 }) :
 PP (MM w) A (cf (.ref I)) Q' E' { s with heap := h2 } := by
 have hI' : ∀ b o, s.heap.get? b = some o -> b ≠ I := fun b o e z => by rw [z, f0] at e; exact no e
 refine wpAny_pyNext_items_item (s := { s with heap := h2 }) (knd := PN prog w) (kvs := [(k, v)]) hit D2 rfl fun key h3 hkey hout htup hs3 hk3 => ?_
 obtain ⟨t, e⟩ := TM (show Tn k key = true from hkey)
 obtain ⟨tts, tk', tp, e'⟩ := xS hto
 clear hkey hto
 subst e e'
 refine hq _ h3 fun Q'' E'' hq2 => wpAny_letOwnedTupleGo_items (s := { s with heap := h3 }) hout fun h4 hi4 hs4 => ?_
 have k4 : ∀ b o, s.heap.get? b = some o -> h4.get? b = some o := fun b o e => (hs4.2 b (hI' b o e)).trans (hk3 b o (hI' b o e) (k12 b o e))
 exact hq2 h4 k4 (.tup (vs := [.str k t, v]) ⟨_, (hs4.2 _ (RZ hI)).trans htup, rfl, 0, rfl⟩ (.cons (.str k t hkl) (.cons (rv0.mono ⟨[], (PQ _).symm⟩ (Kv.of_keeps k4)) .nil))) ⟨_, _, hi4⟩
theorem Ky {m d I : PD} {ep : Nat} {μ₀ : q4} {σ₀ : LE} {kvs : List (Str × Pu)} {ok ov : Pu} {E : Pu -> Py -> Prop} {Q : Option Pu -> Py -> Prop} {ρ₅ : List PD} (X : qL w hT A outer env σ ρ₅ μ h n) (f0 : h₀.get? I = none) (T0 : ∀ b o, hT.get? b = some o -> h₀.get? b = some o) (ho : I ∉ qy env) (hρ : I ∉ ρ₅) (x5 : Le (qy env) ρ₀ h₀ ρ₅ h)
 (hi : U3 h I d kvs.length kvs.length ep ok ov) (D : h.DictAt (PN prog w) d kvs ep) (hq : ∀ h6, Le (qy env) ρ₀ h₀ ρ₅ h6 -> SR w hT ρ₅ μ h6 -> qN hT ρ₅ h6 env σ -> Q none { s with heap := h6 }) : PP (MM w) A (cf (.ref I)) Q E { s with heap := h } := by
 refine wpAny_pyNext_items_end (s := { s with heap := h }) (knd := PN prog w) (kvs := kvs) (i := kvs.length) X.rm.1 hi D (SS.mpr (PJ _)) fun h6 hx6 => ?_
 have kb : KB [I] h h6 := KB.ext hx6
 have nt : NT [I] h := fun b hb o e hc => by
  rw [Pw.mp hb] at e
  have e' : h.get? I = _ := hi
  rw [e'] at e; cases qk e
  have := hc.1; simp at this
 have hTI : hT.get? I = none := by
  induction q : hT.get? I with
  | none => rfl
  | some o => have := T0 _ o q; rw [f0] at this; exact no this
 exact hq h6 (Le.fin (own := [I]) (own' := qy env) (x5.weaken fun b zz zz q => Ra _ q) (fun b hb => by rw [Pw.mp hb]; exact f0) kb) (X.sr.kb (fun b hb => by rw [Pw.mp hb]; exact ⟨hρ, hTI⟩) kb nt) (X.er.kb kb nt fun b hb => by rw [Pw.mp hb]; exact ho)
structure Mid (w : Rk) (hT : PO) (A : RE) (outer : List Env) (env : Env) (ρ₀ : List PD) (h₀ : PO) (d I : PD) (m : Nat) (n : Nat) (σ : LE) (μ : q4) (h : PO) (tk : Nat) (ρ : List PD) : Prop where
 le : Le (qy env) ρ₀ h₀ ρ h
 act : qL w hT A outer env σ ρ μ h n
 it : ∃ ok ov, U3 h I d 1 1 1 ok ov
 kw : ∃ kv, zj μ m = some [kv]
 nr : I ∉ ρ
 tk : 1 <= tk
theorem K7 {m : Nat} {d I : PD} {k : Str} {v : Pu} {p : PV} {target : Expr} {body : List Sf} {res : Except Exn j9} {σ₂ : LE} {h2 : PO} {Q : A9 -> Py -> Prop} {E : Pu -> Py -> Prop} (g : jg w hT r n) (X : qL w hT A outer env σ ρ μ s.heap n) (ht : 1 <= s.toks) (hto : zo target = true) (hn : ρ[m]? = some d)
 (f0 : s.heap.get? I = none) (k12 : ∀ b o, s.heap.get? b = some o -> h2.get? b = some o) (hit : U3 h2 I d 0 1 1 .none .none) (D2 : h2.DictAt (PN prog w) d [(k, v)] 1) (hI : I < h2.objs.size) (hkl : k.length <= Pr) (rv0 : Rv hT ρ s.heap v p) (hb : qt σ target (.tup [.str k, p]) = some σ₂)
 (hm : (match r.ex σ₂ body μ with
   | some (.ok .next, σ₁, μ₁) => ((zj μ₁ m).bind one).bind fun zz => zg σ₁ .next μ₁
   | some (.error x, σ₁, μ₁) => some (.error x, σ₁, μ₁)
   | _ => none) = some (res, σ', μ')) (P : jT w hT env ρ s res σ' μ' Q E) :
 TB (MM w) A (.forLoop target (.ref I) body [] env) (fun r s' => match r with | .ok f => Q f s' | .error e => UJ (MM w) A env E e s') { s with heap := h2 } := by
 have hIo : I ∉ qy env := fun q => by
  obtain ⟨o, ho⟩ := X.er.there _ q
  rw [f0] at ho; exact no ho
 have hIρ : I ∉ ρ := fun q => by
  obtain ⟨o, ho, _⟩ := X.sr.data q
  rw [f0] at ho; exact no ho
 refine Uw (fun k s' => (k = 2 /\ s' = { s with heap := h2 }) \/ (k = 1 /\ res = .ok .next /\ ∃ h tk ρ₅, s' = { s with heap := h, toks := tk } /\ Mid w hT A outer env ρ s.heap d I m n σ' μ' h tk ρ₅)) ?_ 2 (.inl ⟨rfl, rfl⟩)
 rintro kk s' (⟨rfl, rfl⟩ | ⟨rfl, hres, h, tk, ρ₅, rfl, M⟩)
 ·refine Yp hto f0 k12 hit D2 hI hkl rv0 fun tv h3 go => go _ _ fun h4 k4 rt4 hi4 => ?_
  clear hit D2 hI
  have x4 : Le [] ρ s.heap ρ h4 := Le.of_keeps k4
  have X4 := X.le x4 (X.sr.keeps k4)
  refine wp (s := { s with heap := h4 }) (own := qy env) hb X4.rm.1 ht X4.sr X4.er rt4 X4.nt (fun zz q => q) (.head _) (fun x zz => js env x) fun h₃ tk₃ x3 S3 R3 ht3 => ?_
  have X3 := X4.leOwn x3 S3 R3
  have le3 := x4.any.trans x3
  induction hex : r.ex σ₂ body μ with
  | none => rw [hex] at hm; exact no hm
  | some z =>
    obtain ⟨r1, σ₁, μ₁⟩ := z
    rw [hex] at hm
    refine g.ex A outer env σ₂ ρ μ { s with heap := h₃, toks := tk₃ } body X3 ht3 _ _ _ hex _ _ ⟨fun f h₄ tk₄ ρ₄ b e x4' S4 R4 rf ht4 => ?_, fun e h₄ tk₄ ρ₄ x e1 x4' S4 R4 ex ht4 => ?_⟩
    ·subst e
     induction rf with
     | next =>
       refine bK (o := (zj μ₁ m).bind one) hm fun kv5 h1 h2 => ?_
       have q := No (show some ((.ok .next : Except Exn j9), σ₁, μ₁) = some (res, σ', μ') from h2)
       have hi3 : ∃ ok ov, U3 h₄ I d 1 1 1 ok ov := hi4.elim fun ok z => z.elim fun ov z => ⟨ok, ov, x4'.ex _ _ (x3.ex _ _ z hIρ hIo (fun es ep q => by exact nomatch q)) hIρ hIo (fun es ep q => by cases q)⟩
       exact ⟨1, RU _, .inr ⟨rfl, q.1, h₄, tk₄, ρ₄, rfl, ⟨le3.trans x4', q.2.1 ▸ q.2.2 ▸ X3.leOwn x4' S4 R4, hi3, ⟨kv5, by rw [q.2.2]; exact bK h1 fun l h3 h4 => by rw [h3, jN h4]⟩, hi4.elim fun ok z => z.elim fun ov z => x4'.out (x3.ex _ _ z hIρ hIo (fun es ep q => by exact nomatch q)) hIρ, ht4⟩⟩⟩
     | cont => exact no hm
     | brk => exact no hm
     | ret rv => exact no hm
    ·subst e1
     exact ZH (own := []) (s := { s with heap := h₄, toks := tk₄ }) (X3.leOwn x4' S4 R4) (le3.trans x4') (fun zz q => nomatch q) (kY.le le3 ex) X.sr.top fun h₅ x5 S5 R5 ex5 => (P.of hm).err e h₅ tk₄ ρ₄ x rfl x5 S5 R5 ex5 ht4
 ·exact M.kw.elim fun kv hkw => (M.act.sr.kwAt (jo M.le.pre hn) hkw).elim fun kvs5 z => M.it.elim fun ok y => y.elim fun ov hi5 => Ky (m := m) (μ₀ := μ) (σ₀ := σ) (s := { s with toks := tk }) M.act f0 X.sr.top hIo M.nr M.le (by rw [show kvs5.length = 1 from z.2.2]; exact hi5) z.1 fun h6 a b c => wpAny_pure (P.ok .next h6 tk ρ₅ .next hres a b c .next M.tk)
theorem VF {d I : PD} {target : Expr} {body : List Sf} {res : Except Exn j9} {h2 : PO} {Q : A9 -> Py -> Prop} {E : Pu -> Py -> Prop} (X : qL w hT A outer env σ ρ μ s.heap n) (ht : 1 <= s.toks) (f0 : s.heap.get? I = none) (k12 : ∀ b o, s.heap.get? b = some o -> h2.get? b = some o)
 (hit : U3 h2 I d 0 0 0 .none .none) (D2 : h2.DictAt (PN prog w) d [] 0) (hm : zg σ .next μ = some (res, σ', μ')) (P : jT w hT env ρ s res σ' μ' Q E) :
 TB (MM w) A (.forLoop target (.ref I) body [] env) (fun r s' => match r with | .ok f => Q f s' | .error e => UJ (MM w) A env E e s') { s with heap := h2 } := by
 refine Uw (fun zz s' => s' = { s with heap := h2 }) ?_ 1 rfl
 rintro k s' rfl
 refine wpAny_pyNext_items_end (s := { s with heap := h2 }) (knd := PN prog w) (kvs := []) X.rm.1 hit D2 rfl fun h3 hx => ?_
 have k3 : ∀ b o, s.heap.get? b = some o -> h3.get? b = some o := fun b o e => hx b o (fun z => by rw [z, f0] at e; exact no e) (k12 b o e)
 have x3 : Le [] ρ s.heap ρ h3 := Le.of_keeps k3
 exact wpAny_pure ((P.of hm).ok .next h3 s.toks ρ .next rfl x3.any (X.sr.keeps k3) (X.er.le X.sr x3) .next ht)
theorem Qp {m : Nat} {d : PD} {kl : Loc} {target : Expr} {body : List Sf} {res : Except Exn j9} {Q : A9 -> Py -> Prop} {E : Pu -> Py -> Prop} (g : jg w hT r n) (X : qL w hT A outer env σ ρ μ s.heap n) (ht : 1 <= s.toks) (hto : zo target = true)
 (hn : ρ[m]? = some d) (hl : zj μ m = some kl) (hm : (match (generalizing := false) kl with
   | [] => zg σ .next μ
   | kp :: l => if l.isEmpty && decide (kp.1.length <= Pr) then (qt σ target (.tup [.str kp.1, kp.2])).bind fun σ' => match r.ex σ' body μ with
      | some (.ok .next, σ₁, μ₁) => ((zj μ₁ m).bind one).bind fun zz => zg σ₁ .next μ₁
      | some (.error x, σ₁, μ₁) => some (.error x, σ₁, μ₁)
      | _ => none
     else none) = some (res, σ', μ')) (P : jT w hT env ρ s res σ' μ' Q E) :
 PP (MM w) A (ct (.ref s.heap.objs.size)) (fun it s₂ => TB (MM w) A (.forLoop target it body [] env) (fun r s' => match r with | .ok f => Q f s' | .error e => UJ (MM w) A env E e s') s₂) E { s with heap := s.heap.push { cls := .type "dict_items", data := .fields #[.ref d] } } := by
 obtain ⟨kvs, D, hr, hlen⟩ := X.sr.kwAt hn hl
 induction kl using PC with
 | nil =>
   cases hr
   exact kA D fun h2 I f0 k12 hit D2 zz => VF X ht f0 k12 hit D2 hm P
 | cons kp rest =>
   obtain ⟨hg, hm1⟩ := ifT hm
   have hkl := of_decide_eq_true (an hg).2
   have er := Rf.mp (an hg).1
   clear hm hg hl
   subst er
   obtain ⟨σ₂, hb, hm2⟩ := bnd hm1
   clear hm1 hlen
   cases hr with | cons rv0 rn =>
   cases rn
   exact kA D fun h2 I f0 k12 hit D2 hI => K7 g X ht hto hn f0 k12 hit D2 hI hkl rv0 hb hm2 P
theorem Zp {o target : Expr} {m : Str} {apos cpos pos : Pos} {body : List Sf} (g : jg w hT r n) (X : qL w hT A outer env σ ρ μ s.heap n) :
 j4 w hT A env ρ s (Ac (.For target (.Call (.Attribute o m apos) [] [] cpos) body [] pos) env) (if m == ("items" : Str) && qT o && apos.endLine == cpos.line && zo target then qC σ (r.ev σ o μ) (y7 r σ target body) else none) := by
 intro ht res σ' μ' hm Q E P
 obtain ⟨hg, hm1⟩ := ifT hm
 have g4 := an hg
 have g3 := an g4.1
 have g2 := an g3.1
 have e := qb g2.1
 clear hm hg
 subst e
 refine wpAny_For (ya g2.2 ((g.ev A _ env σ ρ μ s o X.toAct).thenS X ht hm1 P fun v h₁ tk₁ ρ₁ p μ₁ x1 S1 rv ht1 hm2 P1 X1 => ?_)) (FY rfl)
 refine bK hm2 fun m' h1 hm3 => bK hm3 fun kl hkl hm4 => ?_
 obtain ⟨d, e, hn⟩ := rv.lI h1
 subst e
 obtain ⟨kvs, D, hr, hlen⟩ := S1.kwAt hn hkl
 exact fw (s := { s with heap := h₁, toks := tk₁ }) (KE D) (beq_eq_false_iff_ne.mpr (RZ (S1.low.2 d (Rr hn)))) g3.2 (Qp (s := { s with heap := h₁, toks := tk₁ }) g X1 ht1 g4.2 hn hkl hm4 P1)
theorem VV {target iter : Expr} {body : List Sf} {pos : Pos} (g : jg w hT r n) (X : qL w hT A outer env σ ρ μ s.heap n) : j4 w hT A env ρ s (Ac (.For target iter body [] pos) env) (F8 r σ target iter body μ) := by
 unfold F8
 induction hq : xA iter with
 | none => exact HB g X
 | some q => rw [kI hq]; exact Zp g X
end
end
section
open PySem.Builtin
section
variable {w : Rk} {hT : PO} {A A' : RE} {l : List Env} {ρ ρ' ρ₀ : List PD} {μ μ₁ μ' : q4} {s : Py} {n : Nat} {env cenv : Env} {outer : List Env} {σ σ' : LE} {h h' h₀ : PO} {r : Ev}
theorem YT {X nm : String} (FX : bJ X nm) {e t0 : PD} {m : Str} {tk : Tok} {Q : Pu -> Py -> Prop} {E : Pu -> Py -> Prop} (hu : A.in1.in1.units < cj) (x : s.heap.ExcAt e X (.ref t0)) (ht : s.heap.TupAt t0 [.str m tk]) (hq : Q (.str m tk) s) :
 PP (MM w) A (call (.type "str") [.ref e]) Q E s := by
 refine callType_codes (T := "str") (Bi := TX.«object.__init__») (Q₁ := fun r s₁ => ∃ y u, r = .str y u /\ Q r s₁) UK (PySem.F.typeCall_str_1 _) PySem.F.entry_object_init ?_ ?_
 ·refine Av ?_
  show PP _ A.in1.in1 (do checkBuiltinCall "str.__new__" ⟨[.type "str", .ref e], []⟩; again (.builtin "str.__new__" ⟨[.type "str", .ref e], []⟩)) _ _ s
  refine wpAny_bind (UV (PySem.F.newCall_str_1 _) (wpAny_pure ⟨plainId_quiet (by decide +kernel) _, codeAny_builtin PySem.F.entry_str_new ?_⟩))
  rw [RE.under_plainId (by decide +kernel) _]
  rw [str_new_tree]
  refine wpAny_bind (wpAny_pure ?_)
  refine wpAny_bind (UV isSubtype_str_str ?_)
  refine wpAny_bind (RG (strOf_exc_one (Q := fun r s₁ => ∃ y u, r = .str y u /\ Q r s₁) FX hu x ht ⟨_, _, rfl, hq⟩) (fun r s₁ hr => wpAny_pure hr) fun zz zz y => y)
 ·rintro obj s₁ ⟨y, u, rfl, hq⟩
  exact ⟨Sw _ _ _, PySem.F.args_object_init_2 _ _, object_init_meets UK.init.lookup UK.made (by decide) prog w A.in1 _ s₁ ⟨Sw _ _ _, rfl, hq⟩⟩
set_option tactic.hygienic true in
theorem K9 {c : Ul} {k : Nat} {pos : Pos} {p : PV} {Q : Pu -> Py -> Prop} {E : Pu -> Py -> Prop} (hp : wR c = some p) (h : ∀ v tk, s.toks <= tk -> Rv hT ρ s.heap v p -> Q v { s with toks := tk }) : PP (MM w) A (eval (.Constant c k pos) env) Q E s := by
 unfold wR at hp
 split at hp
 ·cases hp; exact av (h _ s.toks (PJ _) .none)
 ·cases hp; exact aw (h _ s.toks (PJ _) (.bool _))
 ·cases hp; exact U1 (h _ _ (by lia) (.int _ _))
 ·split at hp
  ·rename_i hl
   cases hp
   have e : Pr = 16777216 := by decide
   exact Sj (h _ _ (by lia) (.str _ _ (by lia)))
  ·cases hp
 ·cases hp
theorem L2 : To (.type "ValueError") (.type "ValueError") = pure true := by rw [isSubtype_type]; kernel_rfl
theorem Ik : To (.type "IndexError") (.type "IndexError") = pure true := by rw [isSubtype_type]; kernel_rfl
theorem Lm : To (.type "ValueError") (.type "IndexError") = pure false := by rw [isSubtype_type]; kernel_rfl
theorem LV : To (.type "IndexError") (.type "ValueError") = pure false := by rw [isSubtype_type]; kernel_rfl
theorem Fe : To (.type "ValueError") (.type "BaseException") = pure true := by rw [isSubtype_type]; kernel_rfl
theorem B0 : To (.type "IndexError") (.type "BaseException") = pure true := by rw [isSubtype_type]; kernel_rfl
theorem Bn : To (.type ((a8 "ValueError").elim "type" fun x => x.metatype)) (.type "tuple") = pure false := by rw [isSubtype_type]; kernel_rfl
theorem FH : To (.type ((a8 "IndexError").elim "type" fun x => x.metatype)) (.type "tuple") = pure false := by rw [isSubtype_type]; kernel_rfl
theorem w0 (w : Rk) : nsIn (KK w) mainGlobals "IndexError" = some none := by kernel_rfl
theorem QC {c : Str} {x : Exn} (h : J6 c x = true) : ∃ T, c = Pv T /\ To (.type T) (.type "BaseException") = pure true /\ To (.type ((a8 T).elim "type" fun x => x.metatype)) (.type "tuple") = pure false /\
 To (.type x.cls) (.type T) = pure (c == (x.cls : Str)) /\ Ua c = some (.type T) /\ (∀ w, nsIn (KK w) mainGlobals c = some none) /\ c ≠ "__name__" /\ (c == ("__debug__" : Str)) = false /\ ∃ nm, bJ x.cls nm := by
 unfold J6 at h
 simp only [Rl, Tj, beq_iff_eq] at h
 obtain ⟨hc | hc, hx | hx⟩ := h
 ·subst hc; rw [hx]; exact ⟨"ValueError", rfl, Fe, Bn, by rw [L2]; rfl, by kernel_rfl, xn, by decide, by decide, _, UP⟩
 ·subst hc; rw [hx]; exact ⟨"ValueError", rfl, Fe, Bn, by rw [LV]; rfl, by kernel_rfl, xn, by decide, by decide, _, UQ⟩
 ·subst hc; rw [hx]; exact ⟨"IndexError", rfl, B0, FH, by rw [Lm]; rfl, by kernel_rfl, w0, by decide, by decide, _, UP⟩
 ·subst hc; rw [hx]; exact ⟨"IndexError", rfl, B0, FH, by rw [Ik]; rfl, by kernel_rfl, w0, by decide, by decide, _, UQ⟩
end
end
section
open PySem.Builtin
section
variable {w : Rk} {hT : PO} {A A' : RE} {l : List Env} {ρ ρ' ρ₀ : List PD} {μ μ₁ μ' : q4} {s : Py} {n : Nat} {env cenv : Env} {outer : List Env} {σ σ₂ σ' : LE} {h h' h₀ : PO} {r : Ev}
theorem MZ {f : Str} {u : Option Pu} {m : Str -> Option Pu} (S : SR w hT ρ μ h) (R : qN hT ρ h env σ₂) (hsc : σ₂.sc = σ.sc) (hv : ∀ y, y ≠ f -> σ₂.vs.lookup y = σ.vs.lookup y) (hf : σ.vs.lookup f = none) (hl : σ.sc.lookup f = some .local) (hT0 : hT.get? env.locals = none)
 (hm : ∀ y q, σ₂.vs.lookup y = some q -> σ₂.sc.lookup y = some .local -> ∃ v, m y = some v /\ Rv hT ρ h v q)
 (hn : h'.Ns env.locals (fun z => if z = f then u else m z)) (hs : RK env.locals h h') : Le [env.locals] ρ h ρ h' /\ SR w hT ρ μ h' /\ qN hT ρ h' env σ := by
 have kb := KB.same hs
 have nt : NT [env.locals] h := fun b hb o e => R.nt b (by rw [Pw.mp hb]; exact .head _) o e
 have kv := kb.kv nt
 have hx : ∃ more, ρ = ρ ++ more := ⟨[], by simp⟩
 obtain ⟨o, es, ep, ho, hd, r⟩ := id hn
 refine ⟨Le.kb kb fun b hb => ?_, S.kb (fun b hb => ?_) kb nt, ?_⟩
 ·rw [Pw.mp hb]; exact ⟨o, ho⟩
 ·rw [Pw.mp hb]; exact ⟨R.loc, hT0⟩
 ·have cell : ∀ q ∈ env.cells, ∀ {v}, h.IsCell q.2 v -> h'.IsCell q.2 v := fun q hq v x => by
   obtain ⟨o, ho, hd⟩ := x
   exact ⟨o, (hs.2 _ (R.cells q hq).2.1).trans ho, hd⟩
  refine ⟨R.kind, hsc ▸ R.names, R.glob, R.blt, R.loc, ⟨_, hn, fun y q hy hk => ?_⟩, fun y q hy hk => ?_, fun q hq => ?_, R.sep, hsc ▸ R.has⟩
  ·have e : y ≠ f := fun z => by rw [z, hf] at hy; cases hy
   rw [if_neg e]
   obtain ⟨v', h1, h2⟩ := hm y q ((hv y e).trans hy) (hsc ▸ hk)
   exact ⟨v', h1, h2.mono hx kv⟩
  ·have e : y ≠ f := fun z => by rw [z, hf] at hy; cases hy
   obtain ⟨c, v', hc, hi, hr⟩ := R.cel y q ((hv y e).trans hy) (hsc ▸ hk)
   exact ⟨c, v', hc, cell (y, c) (mem_of_lookup hc) hi, hr.mono hx kv⟩
  ·obtain ⟨h1, h2, v', h3⟩ := R.cells q hq
   exact ⟨h1, h2, v', cell q hq h3⟩
theorem vj.typeIs {fl : Pu} {e : PD} {x : Exn} (N : vj fl h₀ s.heap e x) : s.TypeIs (.ref e) x.cls :=
 let ⟨oe, _, _, b, _⟩ := N
 ⟨oe, b.g, b.c⟩
theorem BC {e : PD} {x : Exn} {h2 h3 : PO} {t : Str} (S2 : SR w hT ρ μ h2) (R2 : qN hT ρ h2 env σ) (N : vj .none h₀ h2 e x) (x3 : Le (qy env) ρ h2 ρ h3) (hm : x.msg = some t) : ∃ t0 tk0, h3.ExcAt e x.cls (.ref t0) /\ h3.TupAt t0 [.str t tk0] := by
 obtain ⟨oe, vs, a0, ⟨h1, h2', h3', h4, h5, h6⟩, N⟩ := N
 clear N
 obtain ⟨t0, tk0, rfl, otup⟩ := h5 t hm
 have n1 : e ∉ ρ := fun q => by
  obtain ⟨o', ho', _, z, _⟩ := S2.data q
  rw [h1] at ho'; cases qk ho'
  exact z vs h3'
 have n2 : e ∉ qy env := fun q => by
  rcases R2.ownOK e q oe h1 with ⟨es, ep, z⟩ | ⟨v, z⟩ <;> (rw [h3'] at z; cases z)
 refine ⟨t0, tk0, ⟨oe, vs, x3.ex e oe h1 n1 n2 (fun es ep q => by rw [h3'] at q; cases q), h2', h3', h4⟩, ?_⟩
 obtain ⟨o, k, ho, hc, hd⟩ := otup
 obtain ⟨sl, ho'⟩ := S2.kv R2.ownOK x3 t0 o ho ⟨hc, _, _, hd⟩
 exact ⟨_, k, ho', hc, hd⟩
theorem Y2 {st : Sf} {e : Expr} (h : G9 st = some e) : ∃ p, st = .Expr e p := fin (P := fun e => ∃ p, st = .Expr e p) (by clear h; induction st using Tb <;> first | exact TZ | exact ⟨_, rfl⟩) h
theorem Y8 {b : List Sf} {q : Str × Str × Pos × Str × Str × Pos} (h : Qa b = some q) : ∃ yp fp gp gp2 ep, b = [.Expr (.Call (.Attribute (.Name q.1 yp) q.2.1 q.2.2.1) [.Call (.Name q.2.2.2.1 gp) [.Name q.2.2.2.2.1 fp] [] gp2] [] q.2.2.2.2.2) ep] := by
 refine bK h fun s0 z1 h => bK h fun e0 z2 h => bK h fun c z3 h => bK h fun a z4 h => bK h fun y1 z5 h => bK h fun x1 z6 h => bK h fun u z7 h => bK h fun f1 z8 h => iT h fun z9 h => ?_
 have eh := qk h
 clear h
 refine (Y2 z2).elim fun ep z2 => (jc z5).elim fun yp z5 => (jc z8).elim fun fp z8 => (yH z7).elim fun gp z7 => z7.elim fun gp2 z7 => ?_
 exact ⟨yp, fp, gp, gp2, ep, by rw [jN z1, z2, wK z3, wQ z4, z5, jN z6, z7, z8, Rf.mp z9, <- eh]⟩
set_option tactic.hygienic true in
theorem Kd {st : Sf} {e : Expr} (h : EP st = some e) : ∃ p, st = .Return (some e) p := fin (P := fun e => ∃ p, st = .Return (some e) p) (by
 clear h
 induction st using Tb <;> first
 | exact TZ
 | (rename_i v p; induction v <;> first | exact TZ | exact ⟨_, rfl⟩)) h
theorem W9 {b : List Sf} {k : Ul} (h : JT b = some k) : ∃ kk kp rp, b = [.Return (some (.Constant k kk kp)) rp] := by
 refine bK h fun s z1 h => bK h fun e z2 h => (Kd z2).elim fun rp z2 => (xB h).elim fun kk z3 => z3.elim fun kp z3 => ?_
 exact ⟨kk, kp, rp, by rw [jN z1, z2, z3]⟩
theorem BU {e : PD} {cls nm : String} {fs ys : Str} {t : Str} {m : Nat} {ll : List PV} {t0 : PD} {tk0 : Tok} {yp fp gp gp2 apos cpos ep : Pos} {Q : A9 -> Py -> Prop} {E : Pu -> Py -> Prop} (G : GF w hT) (S : SR w hT ρ μ s.heap) (R : qN hT ρ s.heap env σ) (hu : A.in1.in1.units < cj) (ht : 1 <= s.toks)
 (FX : bJ cls nm) (he : s.heap.ExcAt e cls (.ref t0)) (htup : s.heap.TupAt t0 [.str t tk0]) (k4 : σ.isG "str" = true) (k11 : (apos.endLine == cpos.line) = true) (k12 : (fs == ("__debug__" : Str)) = false) (k13 : (ys == ("__debug__" : Str)) = false)
 (hy : σ.get ys = some (.loc m)) (hf : σ.get fs = some (.val (.ref e))) (hl : q5 μ m = some ll) (hlen : ll.length + 1 <= Pr /\ t.length <= Pr)
 (k : ∀ h4 tk4 ρ4, Le [] ρ s.heap ρ4 h4 -> SR w hT ρ4 (qj μ m (.list (ll ++ [.str t]))) h4 -> 1 <= tk4 -> Q .next { s with heap := h4, toks := tk4 }) :
 PP (MM w) A (execs [.Expr (.Call (.Attribute (.Name ys yp) "append" apos) [.Call (.Name "str" gp) [.Name fs fp] [] gp2] [] cpos) ep] env) Q E s := by
 refine wpAny_execs_cons (wpAny_Expr ?_ (by unfold interactive; rw [R.kind]; rfl) rfl)
 refine ya (o := .Name ys yp) rfl (vw R hy k13 fun a ra => ?_)
 obtain ⟨b, e1, hn⟩ := ra.inv
 subst e1
 obtain ⟨_, us, hp, hv⟩ := S.listAt hn hl
 refine qY (yF rfl (show 1 < 10 by decide)) k11 fun pl => yj (yL hp (show gu.lookup (Pv "append") = some "list.append" from rfl)) ?_
 refine callWith_builtin (by rw [q9 rfl]; rfl) (qO (qI rfl) ?_)
 rw [q9 rfl]
 refine spliced_cons (jZ (zP (v := .type "str") G R S k4 (by kernel_rfl) (by kernel_rfl) (by decide) rfl ?_))
 refine TO (by rw [q9 rfl]; rfl) (qO (qI rfl) ?_)
 rw [q9 rfl]
 refine spliced_cons (vw R hf k12 fun v rv => T9 ?_)
 have e2 : v = .ref e := rv.inv
 subst e2
 refine YT FX hu he htup (T9 ?_)
 exact Q5 hn S (.str t tk0 hlen.2) ht _ _ (show ye m (.str t) μ = some (.ok .none, qj μ m (.list (ll ++ [.str t]))) by unfold ye; rw [hl, PK, if_pos hlen.1]) _ _ ⟨fun rv h4 tk4 ρ4 b eb x4 S4 rb ht4 => by
  cases eb
  rw [show rv = .none from rb.inv]
  exact Ax (k h4 tk4 ρ4 x4 S4 ht4), fun e h' tk ρ' x e1 => nomatch e1⟩
theorem YH {f : Str} {pos : Pos} {σ₁ : LE} {Q : Unit -> Py -> Prop} {E : Pu -> Py -> Prop} (S : SR w hT ρ μ s.heap) (R : qN hT ρ s.heap env σ₁) (ht : 1 <= s.toks) (hnt : ∀ b ∈ qy env, hT.get? b = none) (hsc : σ₁.sc = σ.sc) (hv : ∀ y, y ≠ f -> σ₁.vs.lookup y = σ.vs.lookup y) (k10 : σ.vs.lookup f = none) (k5 : σ.sc.lookup f = some .local)
 (k : ∀ h6 tk, Le (qy env) ρ s.heap ρ h6 -> SR w hT ρ μ h6 -> qN hT ρ h6 env σ -> 1 <= tk -> Q () { s with heap := h6, toks := tk }) : PP (MM w) A (do bindName env f .none; a9 env f pos) Q E s := by
 have hp2 : LE.put σ₁ f .none = some { σ₁ with vs := upd σ₁.vs f .none } := by unfold LE.put; rw [hsc, k5]; rfl
 refine wpAny_bind (AZ (xx (own := qy env) ht S R .none hp2 hnt (.head _) (js env f) fun h5 tk5 x5 S5 R5 ht5 => ?_))
 unfold a9
 refine aG ?_
 obtain ⟨mm, hns, hv5⟩ := R5.ns
 obtain ⟨v, hmf, _⟩ := hv5 f .none (by rw [j3, if_pos rfl]) (by show σ₁.sc.lookup f = _; rw [hsc]; exact k5)
 refine wpAny_unbindName_local (s := { s with heap := h5, toks := tk5 }) ((R5.kindOf (s := { s with heap := h5, toks := tk5 }) f).trans (by show σ₁.sc.lookup f = _; rw [hsc]; exact k5)) hns hmf (by rw [R5.kind]; rfl) fun h6 u hn6 hs6 => ?_
 have z := MZ (σ := σ) S5 R5 hsc (fun y hy => by rw [j3, if_neg hy]; exact hv y hy) k10 k5 (hnt _ (.head _)) hv5 hn6 hs6
 exact k h6 tk5 (x5.trans (z.1.weaken fun b zz zz q => by rw [Pw.mp q]; exact .head _)) z.2.1 z.2.2 ht5
structure CAF (σ : LE) (x : Exn) (c f y : Str) (ap cp : Pos) (μ : q4) (m : Nat) (t : Str) (ll : List PV) : Prop where
 ex : J6 c x = true
 eq : (c == (x.cls : Str)) = true
 gc : σ.isG c = true
 gs : σ.isG "str" = true
 fl : σ.sc.lookup f = some .local
 fy : ¬ y = f
 fn : σ.vs.lookup f = none
 ln : (ap.endLine == cp.line) = true
 df : (f == ("__debug__" : Str)) = false
 dy : (y == ("__debug__" : Str)) = false
 gy : σ.get y = some (.loc m)
 ms : x.msg = some t
 pl : q5 μ m = some ll
 le : ll.length + 1 <= Pr /\ t.length <= Pr
theorem Lr {G : Prop} {x : Exn} {c f : Str} {b : List Sf} {q : Str × Str × Pos × Str × Str × Pos} {R : Except Exn j9 × LE × q4} (hb : Qa b = some q) (hm : M3 σ x c f q μ = some R)
 (k : ∀ m t ll yp fp gp gp2 ep, b = [.Expr (.Call (.Attribute (.Name q.1 yp) "append" q.2.2.1) [.Call (.Name "str" gp) [.Name f fp] [] gp2] [] q.2.2.2.2.2) ep] -> CAF σ x c f q.1 q.2.2.1 q.2.2.2.2.2 μ m t ll -> zg σ .next (qj μ m (.list (ll ++ [.str t]))) = some R -> G) : G := by
 refine iT hm fun hg hm1 => bK hm1 fun p hy hm2 => bK hm2 fun m hpl hm3 => bK hm3 fun t hmsg hm4 => bK hm4 fun ll hl hm5 => iT hm5 fun hlen hm6 => ?_
 have k13 := an hg
 have k12 := an k13.1
 have k11 := an k12.1
 have k10 := an k11.1
 have k9 := an k10.1
 have k8 := an k9.1
 have k7 := an k8.1
 have k6 := an k7.1
 have k5 := an k6.1
 have k4 := an k5.1
 have k3 := an k4.1
 have k2 := an k3.1
 have e8 := qb k8.2
 have e6 := qb k6.2
 have e7 := qb k7.2
 refine (Y8 hb).elim fun yp eb => eb.elim fun fp eb => eb.elim fun gp eb => eb.elim fun gp2 eb => eb.elim fun ep eb => ?_
 refine k m t ll yp fp gp gp2 ep (by rw [eb, e6, e7, <- e8]) ⟨k2.1, k2.2, k3.2, by rw [<- e7]; exact k4.2, eq_of_beq k5.2, fun z => ?_, TE.mp k10.2, k11.2, nt k12.2, nt k13.2, by rw [hy, jI hpl], hmsg, hl, hlen⟩ hm6
 have h9 := nt k9.2
 rw [z, beq_self_eq_true] at h9
 exact nomatch h9
theorem Vy {e : PD} {x : Exn} {c f : Str} {b : List Sf} {np hp : Pos} {rest : List Tl} {q : Str × Str × Pos × Str × Str × Pos} {res : Except Exn j9} {Q : A9 -> Py -> Prop} {E : Pu -> Py -> Prop} (G : GF w hT) (T0 : ∀ b o, hT.get? b = some o -> h₀.get? b = some o) (X : qL w hT A outer env σ ρ μ s.heap n) (ht : 1 <= s.toks)
 (LE0 : Le (qy env) ρ₀ h₀ ρ s.heap) (N : vj .none h₀ s.heap e x) (hb : Qa b = some q) (hm : M3 σ x c f q μ = some (res, σ', μ')) (P : jT w hT env ρ₀ { s with heap := h₀ } res σ' μ' Q E) :
 PP (MM w) A (ci (.ref e) env (.ExceptHandler (some (.Name c np)) (some f) b hp :: rest)) Q E s := by
 refine Lr hb hm fun m t ll yp fp gp gp2 ep eb F hm6 => ?_
 have P := P.of hm6
 subst eb
 refine ZA ?_
 intro G0 kk
 obtain ⟨T, e1, f1, f2, f3, f4, f5, f6, f7, nm, FX⟩ := QC F.ex
 subst e1
 refine kk ?_
 have hp1 : σ.put f (.val (.ref e)) = some { σ with vs := upd σ.vs f (.val (.ref e)) } := by unfold LE.put; rw [F.fl]; rfl
 have hy1 : LE.get { σ with vs := upd σ.vs f (.val (.ref e)) } q.1 = some (.loc m) := by
  rw [<- F.gy]
  unfold LE.get
  rw [j3, if_neg F.fy]
 have hf1 : LE.get { σ with vs := upd σ.vs f (.val (.ref e)) } f = some (.val (.ref e)) := by
  unfold LE.get
  rw [j3, if_pos rfl, F.fl]; rfl
 refine wpAny_handleBy_builtin_as (X := x.cls) (T := T) (b := true) f1 f2 (f3.trans (by rw [F.eq])) ?_
 refine zP (v := .type T) G X.er X.sr F.gc (f5 w) f4 f6 f7 ⟨rfl, N.typeIs, ?_⟩
 rw [if_pos rfl]
 refine yZ (hT := hT) (ρ := ρ) (f := none) N fun h2 W N2 => ?_
 have S2 := X.sr.written T0 W
 have R2 := X.er.written W
 have le2 : Le (qy env) ρ₀ h₀ ρ h2 := Le.writtenX (own := []) LE0 (fun zz q => nomatch q) W
 refine xx (own := qy env) (s := { s with heap := h2 }) ht S2 R2 (.val (.ref e)) hp1 X.nt (.head _) (js env f) fun h3 tk3 x3 S3 R3 ht3 => ?_
 obtain ⟨t0, tk0, hexc, htup⟩ := BC S2 R2 N2 x3 F.ms
 refine BU (s := { s with heap := h3, toks := tk3 }) G S3 R3 (show A.units + (1 + 1) < cj from RI (So (by decide : 1 + 1 <= 200) _) (gR X.rm)) ht3 FX hexc htup F.gs F.ln F.df F.dy hy1 hf1 F.pl F.le fun h4 tk4 ρ4 x4 S4 ht4 => ?_
 refine YH (σ := σ) (s := { s with heap := h4, toks := tk4 }) S4 (R3.le S3 x4) ht4 X.nt rfl (fun y hy => by rw [j3, if_neg hy]) F.fn F.fl fun h6 tk6 x6 S6 R6 ht6 => ?_
 exact P.ok .next h6 tk6 ρ4 .next rfl (((le2.trans x3).trans x4.any).trans x6) S6 R6 .next ht6
theorem Vv {e : PD} {x : Exn} {c : Str} {k : Ul} {b : List Sf} {np hp : Pos} {rest : List Tl} {res : Except Exn j9} {Q : A9 -> Py -> Prop} {E : Pu -> Py -> Prop} (G : GF w hT) (T0 : ∀ b o, hT.get? b = some o -> h₀.get? b = some o) (X : qL w hT A outer env σ ρ μ s.heap n) (ht : 1 <= s.toks)
 (LE0 : Le (qy env) ρ₀ h₀ ρ s.heap) (N : vj .none h₀ s.heap e x) (hb : JT b = some k) (hg : (σ.isG c && J6 c x) = true) (hm : (if c == (x.cls : Str) then (wR k).bind fun p => zg σ (.ret p) μ else yO σ x rest μ) = some (res, σ', μ')) (P : jT w hT env ρ₀ { s with heap := h₀ } res σ' μ' Q E)
 (ih : yO σ x rest μ = some (res, σ', μ') -> PP (MM w) A (ci (.ref e) env rest) Q E s) :
 PP (MM w) A (ci (.ref e) env (.ExceptHandler (some (.Name c np)) none b hp :: rest)) Q E s := by
 obtain ⟨T, e1, f1, f2, f3, f4, f5, f6, f7, f8⟩ := QC (an hg).2
 obtain ⟨kk, kp, rp, eb⟩ := W9 hb
 clear hb
 subst e1 eb
 refine wpAny_handleBy_builtin (X := x.cls) (T := T) f1 f2 f3 ?_
 refine zP (v := .type T) G X.er X.sr (an hg).1 (f5 w) f4 f6 f7 ⟨rfl, N.typeIs, ?_⟩
 cases hc : (Pv T == Pv x.cls) with
 | true =>
   rw [hc] at hm
   obtain ⟨p, hpc, hm⟩ := bnd hm
   rw [if_pos rfl]
   refine yZ (hT := hT) (ρ := ρ) (f := none) N fun h2 W N2 => ?_
   have le2 : Le (qy env) ρ₀ h₀ ρ h2 := Le.writtenX (own := []) LE0 (fun zz q => nomatch q) W
   exact wpAny_execs_cons (wpAny_Return_some (K9 (hT := hT) (ρ := ρ) (s := { s with heap := h2 }) hpc fun v tk htk rv => (P.of hm).ok (.ret v) h2 tk ρ (.ret p) rfl le2 (X.sr.written T0 W) (X.er.written W) (.ret rv) (Pq ht htk)))
 | false =>
   rw [hc] at hm
   rw [if_neg (by decide)]
   exact ih hm
theorem VT {e : PD} {x : Exn} {res : Except Exn j9} {Q : A9 -> Py -> Prop} {E : Pu -> Py -> Prop} (G : GF w hT) (T0 : ∀ b o, hT.get? b = some o -> h₀.get? b = some o) (X : qL w hT A outer env σ ρ μ s.heap n) (ht : 1 <= s.toks)
 (LE0 : Le (qy env) ρ₀ h₀ ρ s.heap) (N : vj .none h₀ s.heap e x) (P : jT w hT env ρ₀ { s with heap := h₀ } res σ' μ' Q E) (hs : List Tl) :
 yO σ x hs μ = some (res, σ', μ') -> PP (MM w) A (ci (.ref e) env hs) Q E s := by
 induction hs with
 | nil => exact fun hm => no hm
 | cons hd rest ih =>
   obtain ⟨t, f, b, hp⟩ := hd
   intro hm
   obtain ⟨c, hc, hm⟩ := bnd (o := t.bind qW) hm
   obtain ⟨e0, ht0, hc⟩ := bnd hc
   obtain ⟨np, hc⟩ := jc hc
   rw [ht0, hc]
   cases f with
   | some f => obtain ⟨q, hb, hm⟩ := bnd (o := Qa b) hm; exact Vy G T0 X ht LE0 N hb hm P
   | none =>
     obtain ⟨k, hb, hm⟩ := bnd (o := JT b) hm
     obtain ⟨hg, hm⟩ := ifT hm
     exact Vv G T0 X ht LE0 N hb hg hm P ih
end
end
section
open PySem.Builtin
section
variable {w : Rk} {hT : PO} {A A' : RE} {l : List Env} {ρ ρ' ρ₀ : List PD} {μ μ₁ μ' : q4} {s : Py} {n : Nat} {env cenv : Env} {outer : List Env} {σ σ₂ σ' : LE} {h h' h₀ : PO} {r : Ev}
theorem L4 {body : List Sf} {hs : List Tl} {pos : Pos} (G : GF w hT) (g : jg w hT r n) (X : qL w hT A outer env σ ρ μ s.heap n) (hne : (!hs.isEmpty) = true) : j4 w hT A env ρ s (Ac (.Try body hs [] [] pos) env) (Kf r σ body hs μ) := by
 induction hs using PC with
 | nil => exact noB hne
 | cons hd hs =>
 intro ht res σ' μ' hm Q E P
 unfold Kf at hm
 refine wpAny_Try_except ?_
 induction hex : r.ex σ body μ with
 | none => rw [hex] at hm; exact no hm
 | some z =>
   obtain ⟨r1, σ₁, μ₁⟩ := z
   rw [hex] at hm
   refine g.ex A outer env σ ρ μ s body X ht _ _ _ hex _ _ ⟨fun f h₄ tk₄ ρ₄ b e x4 S4 R4 rf ht4 => ?_, fun e h₄ tk₄ ρ₄ x e1 x4 S4 R4 ex ht4 => ?_⟩
   ·subst e
    have P := P.of hm
    induction rf with
    | next => exact Ax (P.ok .next h₄ tk₄ ρ₄ .next rfl x4 S4 R4 .next ht4)
    | cont => exact P.ok .cont h₄ tk₄ ρ₄ .cont rfl x4 S4 R4 .cont ht4
    | brk => exact P.ok .brk h₄ tk₄ ρ₄ .brk rfl x4 S4 R4 .brk ht4
    | ret rv => exact P.ok (.ret _) h₄ tk₄ ρ₄ (.ret _) rfl x4 S4 R4 (.ret rv) ht4
   ·subst e1
    obtain ⟨_, hm1⟩ := ifB (show (if x.here = true then none else yO σ₁ x (hd :: hs) μ₁) = some (res, σ', μ') from hm)
    have X4 := X.leOwn x4 S4 R4
    have there : ∀ {h'}, Le (qy env) ρ s.heap ρ₄ h' -> ∀ b, s.heap.get? b ≠ none -> h'.get? b ≠ none := fun y b hb => by
     induction q : s.heap.get? b with
     | none => exact absurd q hb
     | some o => obtain ⟨o', ho'⟩ := y.st b o q; rw [ho']; simp
    refine Y1 (s := { s with heap := h₄, toks := tk₄ }) X4.sk X4.fr ex (there x4) fun h1 W1 N1 => ?_
    refine yZ (hT := hT) (ρ := ρ₄) (s := { s with heap := h1, toks := tk₄ }) (f := none) N1 fun h2 W2 N2 => ?_
    have W := W1.trans W2
    have X5 : qL w hT A outer env σ₁ ρ₄ μ₁ h2 n := ⟨⟨S4.written X.sr.top W, R4.written W, X4.sk.written W, X4.rm⟩, X4.fr, X4.ap, X4.nt⟩
    exact VT (h₀ := s.heap) (ρ₀ := ρ) (s := { s with heap := h2, toks := tk₄ }) G X.sr.top X5 ht4 (Le.writtenX (own := []) x4 (fun zz q => nomatch q) W) N2 ⟨fun f h' tk ρ' b e => P.ok f h' tk ρ' b e, fun e h' tk ρ' x e1 => P.err e h' tk ρ' x e1⟩ (hd :: hs) hm1
set_option tactic.hygienic true in
theorem DJ {t e : Expr} {pos : Pos} (G : GF w hT) (g : jg w hT r n) (X : qL w hT A outer env σ ρ μ s.heap n) : j4 w hT A env ρ s (Ac (.Assign [t] e pos) env) (XD r σ t e μ) := by
 cases t with
 | Name x p => exact fe g X
 | Tuple ts k p =>
   induction he : zo e with
   | true => obtain ⟨es, k2, vp, e1⟩ := xS he; subst e1; exact DC g X
   | false =>
     rw [show XD r σ (.Tuple ts k p) e μ = if ts.any qf then none else qC σ (r.ev σ e μ) (xv σ ts) by cases e <;> first | rfl | exact noB he.symm]
     exact gv g X he
 | Attribute o name p =>
   show j4 w hT A env ρ s _ ((qW o).bind fun y => Ve r σ y name e μ)
   induction ho : qW o with
   | none => exact j4.none
   | some y => obtain ⟨py, e1⟩ := jc ho; subst e1; exact Jx G g X
 | Subscript o i p =>
   induction hi : vk i with
   | true =>
     cases i <;> first | exact noB hi | skip
     rename_i lo up st sp
     induction lo with
     | some _ => exact j4.none
     | none => induction up with
       | some _ => exact j4.none
       | none => induction st with
         | some _ => exact j4.none
         | none => exact Qi g X
   | false =>
     rw [show XD r σ (.Subscript o i p) e μ = FO r σ o i e μ by cases i <;> first | rfl | exact noB hi.symm]
     exact XC G g X
 | _ => exact j4.none
theorem IA {ts : List Expr} {e : Expr} {pos : Pos} (G : GF w hT) (g : jg w hT r n) (X : qL w hT A outer env σ ρ μ s.heap n) : j4 w hT A env ρ s (Ac (.Assign ts e pos) env) (I3 r σ ts e μ) := by
 induction ts using PC with
 | nil => exact j4.none
 | cons t ts => induction ts using PC with
   | nil => exact DJ G g X
   | cons u us => induction us using PC with
     | cons _ _ => exact j4.none
     | nil =>
       show j4 w hT A env ρ s _ ((qW t).bind fun x => (qW u).bind fun y => qC σ (r.ev σ e μ) fun v μ => (σ.put x v).bind fun σ => kQ σ y v μ)
       induction h1 : qW t with
       | none => exact j4.none
       | some x => induction h2 : qW u with
         | none => exact j4.none
         | some y => obtain ⟨_, e1⟩ := jc h1; obtain ⟨_, e2⟩ := jc h2; subst e1 e2; exact YF g X
theorem DA (G : GF w hT) (g : jg w hT r n) {st : Sf} (X : qL w hT A outer env σ ρ μ s.heap n) : j4 w hT A env ρ s (Ac st env) (wI r σ st μ) := by
 cases st with
 | Expr e p => exact CT g X
 | Return e p => induction e with
   | some e => exact Ki g X
   | none => exact j4.none
 | Continue p => exact Xz X
 | Assign ts e p => exact IA G g X
 | Delete ts p =>
   intro ht res σ' μ' hm Q E P
   obtain ⟨t, h1, hm1⟩ := bnd (o := one ts) hm
   have e1 := jN h1
   clear hm h1
   subst e1
   cases t <;> first | exact no hm1 | exact Kr G g X ht _ _ _ hm1 Q E P
 | AugAssign t op e p => exact IC g X
 | If t b o p => exact O9 G g X
 | For t it b o p => induction o using PC with
   | nil => exact VV g X
   | cons _ _ => exact j4.none
 | Raise e c p => exact F4 G X
 | Try b hs o f p =>
   intro ht res σ' μ' hm Q E P
   obtain ⟨hg, hm1⟩ := ifT (x := Kf r σ b hs μ) hm
   have e1 := Rf.mp (an hg).2
   have e2 := Rf.mp (an (an hg).1).2
   subst e1 e2
   exact L4 G g X (an (an hg).1).1 ht _ _ _ hm1 Q E P
 | _ => exact j4.none
theorem KU (G : GF w hT) (g : jg w hT r n) (body : List Sf) : ∀ {σ : LE} {ρ : List PD} {μ : q4} {s : Py}, qL w hT A outer env σ ρ μ s.heap n -> j4 w hT A env ρ s (execs body env) (zw r σ body μ) := by
 induction body with
 | nil => exact fun X ht res σ' μ' hm Q E P => Ax ((P.of hm).ok .next _ _ _ .next rfl (Le.refl _ _ _) X.sr X.er .next ht)
 | cons st rest ih =>
   intro σ ρ μ s X ht res σ' μ' hm Q E P
   rw [zw.eq_2] at hm
   refine wpAny_execs_cons ?_
   induction hst : wI r σ st μ with
   | none => rw [hst] at hm; exact no hm
   | some z =>
     obtain ⟨r1, σ₁, μ₁⟩ := z
     rw [hst] at hm
     refine DA G g X ht _ _ _ hst _ _ ⟨fun f h₄ tk₄ ρ₄ b e x4 S4 R4 rf ht4 => ?_, fun e h₄ tk₄ ρ₄ x e1 x4 S4 R4 ex ht4 => ?_⟩
     ·subst e
      induction rf with
      | next => exact ih (s := { s with heap := h₄, toks := tk₄ }) (X.leOwn x4 S4 R4) ht4 _ _ _ hm Q E (P.le x4)
      | cont => exact (P.of hm).ok .cont h₄ tk₄ ρ₄ .cont rfl x4 S4 R4 .cont ht4
      | brk => exact (P.of hm).ok .brk h₄ tk₄ ρ₄ .brk rfl x4 S4 R4 .brk ht4
      | ret rv => exact (P.of hm).ok (.ret _) h₄ tk₄ ρ₄ (.ret _) rfl x4 S4 R4 (.ret rv) ht4
     ·subst e1
      exact (P.of hm).err e h₄ tk₄ ρ₄ x rfl x4 S4 R4 ex ht4
theorem Kq (G : GF w hT) (g : jg w hT r n) : jg w hT (Go (ftK w) r) (n + 1) where
 ev := fun A l env σ ρ μ s e X => E3 G g.ev g.call A l env σ ρ μ s e X
 ex := fun A outer env σ ρ μ s body X => KU G g body X.down
 call := fun A l ρ μ s a vs ps kws kps S K R rvs rkw => Gh G S K R rvs rkw g.ex
 use := FQ G g.ev
theorem KT (G : GF w hT) (n : Nat) : jg w hT (evN (ftK w) n) n := by
 induction n with
 | zero => exact ⟨fun zz zz zz zz zz zz zz zz zz => Sim.none, fun zz zz zz zz zz zz zz zz zz => j4.none, fun zz zz zz zz zz zz zz zz zz zz zz zz zz zz zz zz zz zz hm => no hm, fun zz zz zz zz zz zz zz zz zz zz zz zz zz zz => j4.none⟩
 | succ n ih => exact Kq G ih
end
end
section
variable {w : Rk} {hT : PO} {A : RE} {ρ ρ' : List PD} {μ μ₁ μ' : q4} {s : Py} {n : Nat} {env : Env} {outer : List Env} {σ σ' : LE} {h h' : PO}
set_option tactic.hygienic true in
theorem FD {a : PD} {fd : UG} {body : List Sf} {x : Str} {v : Pu} {p : PV} {m : SR'} (G : GF w hT) (hfd : yX w a = some fd) (hok : G5 (KK w) fd = true) (hbody : fd.body = .stmts body)
 (S : SR w hT ρ μ s.heap) (K : Stk hT A ρ s.heap outer) (R : jW A (n + 1)) (hx : fd.scope.names.lookup x = some .local) (hcl : ∀ q ∈ fd.scope.names, q.2 ≠ .cell) (rv : Rv hT ρ s.heap v p)
 (hbind : RW fd ⟨[v], []⟩ = pure [(x, v)])
 (hex : ∀ env ρ₁ s₁, qL w hT (A.deeper env) outer env ⟨fd.scope.names, [(x, p)]⟩ ρ₁ μ s₁.heap n -> j4 w hT (A.deeper env) env ρ₁ s₁ (execs body env) m) {b : PV} {μ' : q4} (hm : zX m = some (.ok b, μ')) {Q : Pu -> Py -> Prop} {E : Pu -> Py -> Prop}
 (hQ : ∀ a h' tk ρ', Le [] ρ s.heap ρ' h' -> SR w hT ρ' μ' h' -> Rv hT ρ' h' a b -> Q a { s with heap := h', toks := tk }) :
 PP (MM w) A (call (.ref a) [v]) Q E s := by
 refine Ak ?_
 unfold G5 at hok
 simp only [Rl, beq_iff_eq, decide_eq_true_eq, S8] at hok
 obtain ⟨⟨⟨⟨⟨⟨⟨g1, g2⟩, g3⟩, g4⟩, g5⟩, g6⟩, g7⟩, g8⟩ := hok
 have hlook : ∃ c d sl, (KK w).lookup a = some ⟨c, d, .func fd, sl⟩ := by
  unfold yX at hfd
  split at hfd
  ·rename_i c d fd' sl e
   cases hfd
   exact ⟨c, d, sl, e⟩
  ·cases hfd
 obtain ⟨oc, od, osl, hlook⟩ := hlook
 obtain ⟨X, mean, mg, mb, T⟩ := G
 have hin : ∀ {hh : PO}, (∀ b o, hT.get? b = some o -> hh.get? b = some o) -> (KK w).In hh := fun k => X.keeps k
 have hclo : fd.closure = [] := Rf.mp g2
 refine Az (fd := fd) (body := body) (by have := R.2.1; lia) (hin S.top a _ hlook) rfl g5 g4 hbody (codeRec_of (hin S.top) g7) ?_
 rw [hbind]
 refine wpAny_pure ?_
 rw [hclo]
 refine wpAny_newFunctionEnv hcl (fun q hq => by rw [Pw.mp hq]; exact hx) (fun h₂ hns hsb => ?_) g6
 simp only [Td, R7, if_false] at hsb
 obtain ⟨env, he⟩ : ∃ env, env = newEnv fd.scope s.heap.objs.size fd.globals [] (fd.qualname ++ ".<locals>.") (some a) fd.code none fd.builtins := ⟨_, rfl⟩
 rw [<- he]
 have hloc : env.locals = s.heap.objs.size := by rw [he]; rfl
 have hcells : env.cells = [] := by rw [he]; rfl
 have hown : qy env = [s.heap.objs.size] := by unfold qy; rw [hloc, hcells]; rfl
 have hks : ∀ b o, s.heap.get? b = some o -> h₂.get? b = some o := fun b o e => (hsb.2 b (RQ (RJ e))).trans (qg _ _ b o e)
 have hf0 : ∀ b ∈ qy env, s.heap.get? b = none := fun b hb => by rw [hown] at hb; rw [Pw.mp hb]; exact XG _
 have hρ : ∀ b ∈ qy env, b ∉ ρ := fun b hb q => by
  obtain ⟨o, ho, _⟩ := S.data q
  rw [hf0 b hb] at ho; cases ho
 have x2 : Le [] ρ s.heap ρ h₂ := Le.of_keeps hks
 have S2 : SR w hT ρ μ h₂ := S.keeps hks
 have hnt : ∀ b ∈ qy env, hT.get? b = none := fun b hb => by
  induction q : hT.get? b with
  | none => rfl
  | some o => have := S.top b o q; rw [hf0 b hb] at this; cases this
 have hfrm : env.frame = some env.locals := by rw [he]; rfl
 have kv : Kv s.heap h₂ := Kv.of_keeps hks
 have ER : qN hT ρ h₂ env ⟨fd.scope.names, [(x, p)]⟩ := by
  refine ⟨by rw [he]; exact g6, by rw [he]; rfl, by rw [he]; exact g1, by rw [he]; exact g3, hρ _ (.head _), ⟨_, by rw [hloc]; exact hns, fun y q hy hk => ?_⟩, fun y q hy hk => ?_, fun q hq => ?_, fun q hq => ?_, fun y hy => ?_⟩
  ·simp only [Ry, List.lookup_nil] at hy
   show ∃ u, ([(x, v)] : List (Str × Pu)).lookup y = some u /\ _
   rw [Ry]
   induction hb : (y == x) with
   | true =>
     rw [hb] at hy
     cases hy
     exact ⟨v, rfl, rv.mono ⟨[], by simp⟩ kv⟩
   | false => rw [hb] at hy; cases hy
  ·exact absurd rfl (hcl _ (mem_of_lookup hk))
  ·rw [hcells] at hq; cases hq
  ·rw [hcells] at hq; cases hq
  ·exact absurd rfl (hcl _ (mem_of_lookup hy))
 have K3 : Stk hT (A.deeper env) ρ h₂ (env :: outer) := by
  obtain ⟨o, es, ep, ho, hd, _⟩ := hns
  have hfl : env.frame = some s.heap.objs.size := hfrm.trans (by rw [hloc])
  have hm0 : s.heap.objs.size ∈ qy env := by rw [hown]; exact .head _
  refine ⟨by show A.frames.map (env :: ·) = _; rw [K.fr]; rfl, ⟨by rw [ER.kind]; decide, ⟨_, o, hfl, hnt _ hm0, ho, fun vs q => by rw [hd] at q; exact nomatch q⟩, (K.le x2).ff⟩, fun e' he' L hL => ?_⟩
  rcases Rq.mp he' with rfl | he'
  ·rw [hfl] at hL; cases hL
   exact ⟨hρ _ hm0, o, ho, es, ep, hd⟩
  ·exact (K.le x2).out e' he' L hL
 have act : qL w hT (A.deeper env) outer env ⟨fd.scope.names, [(x, p)]⟩ ρ μ h₂ n := by
  refine ⟨⟨S2, ER, K3, ⟨R.1, ?_, ?_⟩⟩, hfrm, fun e' he' L hL hm => ?_, hnt⟩
  ·have := R.2.1; show A.depth + 1 + n + 20 < _; lia
  ·have := R.2.2; show A.units + 3 + 20 * n + 200 < _; lia
  ·obtain ⟨_, o, ho, _⟩ := K.out e' he' L hL
   rw [hf0 L hm] at ho; cases ho
 refine ⟨(T.nolimit.keeps S.top).keeps hks, codeAny_func ?_⟩
 have strip : ∀ {ρ' : List PD} {h' : PO}, Le (qy env) ρ h₂ ρ' h' -> Le [] ρ s.heap ρ' h' := fun y => (x2.any.trans y).weaken fun b o e q => by rw [hf0 b q] at e; cases e
 obtain ⟨⟨r1, σ', μ₂⟩, e1, hm1⟩ := bnd hm
 clear hm
 subst e1
 induction r1 with
 | error x => have q := wS (show some ((.error { x with here := false } : Except Exn PV), μ₂) = some (.ok b, μ') from hm1); exact nomatch q.1
 | ok f =>
   refine hex env ρ { s with heap := h₂, toks := s.toks + [(x, v)].length } act (Rb (Rj _)) _ _ _ rfl _ _ ⟨fun f h' tk ρ' b e y S' E' rf ht' => ?_, fun e h' tk ρ' x e' => (nomatch e')⟩
   cases e
   induction rf with
   | next => have q := wS (show some ((.ok .none : Except Exn PV), μ₂) = some (.ok _, μ') from hm1); cases q.1; exact hQ _ h' tk ρ' (strip y) (q.2 ▸ S') .none
   | ret rv => have q := wS (show some ((.ok _ : Except Exn PV), μ₂) = some (.ok _, μ') from hm1); cases q.1; exact hQ _ h' tk ρ' (strip y) (q.2 ▸ S') rv
   | _ => exact no hm1
end
theorem L5 (w : Rk) : nsIn (KK w) mainGlobals "law" = some (some (.ref 250)) := by kernel_rfl
theorem Lk (w : Rk) : ((j7 w 250).scope.names.all (fun q => !(q.2 == .cell)) && (j7 w 250).scope.names.lookup (Pv "script") == some Sm.local && jy w 250 == [Pv "script"] && Y5 w 250 (jy w 250) [] none) = true := by kernel_rfl
theorem Ch (w : Rk) : ((KK w).lookup 250).isSome = true := by kernel_rfl
def Ij : Prop := ∀ (w : Rk) (xs : List Int), xs.length <= 63 -> ∃ μ', (evN (ftK w) 201).call 250 [.il xs] [] [] = some (.ok (.bool true), μ')
theorem Df (L : Ij) {w : Rk} {hT : PO} {s : Py} {a : PD} {vs : List Pu} {xs : List Int} (G : GF w hT) (hs : s.heap = hT) (hl : hT.IsList a vs.toArray) (hi : bU vs xs) (hlen : xs.length <= 63)
 {Q : Pu -> Py -> Prop} {E : Pu -> Py -> Prop} (h : ∀ h' tk, (∀ b o, hT.get? b = some o -> h'.get? b = some o) -> Q (.bool true) { s with heap := h', toks := tk }) :
 PP (MM w) callerA (call (.ref 250) [.ref a]) Q E s := by
 obtain ⟨μ', hm⟩ := L w xs hlen
 obtain ⟨o, ho⟩ := Se.mp (Ch w)
 have S : SR w hT [] [] s.heap := ⟨fun b o e => hs ▸ e, UL, rfl, fun zz q => (nomatch q), ⟨⟨250, o, by decide, G.1 _ _ ho⟩, fun zz q => (nomatch q)⟩, fun zz zz zz q => (nomatch q)⟩
 have K : Stk hT callerA [] s.heap [] := ⟨rfl, trivial, fun zz q => (nomatch q)⟩
 have R : jW callerA (200 + 1) := ⟨rfl, by decide, by decide⟩
 obtain ⟨q3, ok⟩ := an (Lk w)
 obtain ⟨q2, q1⟩ := an q3
 obtain ⟨q0, qs⟩ := an q2
 have q1 := eq_of_beq q1
 obtain ⟨ok, o6⟩ := an ok
 obtain ⟨ok, o5⟩ := an ok
 obtain ⟨ok, o4⟩ := an ok
 obtain ⟨ok, o3⟩ := an ok
 obtain ⟨o1, o2⟩ := an ok
 have hfd := Wt o1
 have hm : yt (ftK w) (evN (ftK w) 200) 250 [.il xs] [] [] = some (.ok (.bool true), μ') := hm
 obtain ⟨f, hf, hm1⟩ := bnd hm
 obtain ⟨⟨σ, μ₁⟩, hbp, hm2⟩ := bnd hm1
 obtain ⟨_, hf⟩ := ifT hf
 rw [hfd] at hf
 have hf : gA (j7 w 250) = some f := hf
 unfold gA at hf
 induction hbd : (j7 w 250).body with
 | stmts body =>
   rw [hbd] at hf
   have hf := qk hf
   have n1 : f.names = [Pv "script"] := by rw [<- hf]; exact q1
   obtain ⟨_, _, _, e1, e2⟩ := xZ (by rw [<- hf]; exact eq_of_beq o4) (by rw [<- hf]; exact eq_of_beq o5) hbp
   rw [n1] at e1
   have e1 : σ = ⟨f.sc, [(Pv "script", .il xs)]⟩ := e1
   have e3 : f.body = body := by rw [<- hf]
   have e4 : f.sc = (j7 w 250).scope.names := by rw [<- hf]
   rw [e1, e2, e3, e4] at hm2
   refine FD (n := 200) (μ := []) (ρ := []) (s := s) (x := Pv "script") (p := .il xs) (b := .bool true) (μ' := μ') (m := (evN (ftK w) 200).ex ⟨(j7 w 250).scope.names, [(Pv "script", .il xs)]⟩ body []) G hfd o2 hbd S K R (eq_of_beq qs) (fun q hq e => ?_) (.il hl hi) ?_ (fun env ρ₁ s₁ act => (KT G 200).ex _ [] env _ ρ₁ [] s₁ body act) hm2 fun v h' tk ρ' y S' rv => ?_
   ·have := nt (PS.mp q0 q hq)
    rw [e] at this; exact noB this.symm
   ·exact (gG w (250, 1) (by decide) [.ref a] rfl).trans (by rw [q1]; rfl)
   ·exact rv.inv ▸ h h' tk S'.top
 | _ => rw [hbd] at hf; exact no hf
set_option tactic.hygienic true in
theorem link (L : Ij) : Uq.Holds := by
 refine holds_law (by decide +kernel) fun zz => Mine.hd ?_
 intro w s₀ s₁ mg mb Gr Y fa o pm cd doc dV kV ho hd hcd hD hg hgens args vals as hpre hlay hrd hwl hlo
 have KI : (KK w).In s₁.heap := kIn_of Y
 have T := Gr.T
 have hfa : fa = 250 := by
  have := mg_of KI T.g (L5 w)
  rw [show mg "law" = some (.ref fa) from hg] at this
  cases this; rfl
 subst hfa
 have GFw : GF w s₁.heap := ⟨KI, _, mg, mb, T⟩
 wrow_args hpre hlay hrd hwl hlo
 rename_i xs _ _ _ _ _ as1 as2 la us as3 hL ra _ _ hI _ hlen _
 have hlen : xs.length <= 63 := by omega
 refine Df L GFw rfl hL hI hlen fun h' tk keep => ?_
 refine ⟨.inl ⟨.bool true, .bool true, [], rfl, fun zz => rfl, .bool _, ?_, fun zz => ⟨UL, fun zz q => nomatch q⟩⟩, .of_keep keep, rfl, .of_eq hgens⟩
 wrow_post
noncomputable def ZB : Sf -> Option (Str × Fn)
 | .FunctionDef n a b _ _ _ sc _ _ _ => some (n, { sc := sc.names, names := a.args.map (·.arg), kwonly := a.kwonlyargs.map (·.arg), kwarg := a.kwarg.map (·.arg), body := b })
 | _ => none
noncomputable def Lg : List (Str × Fn) := PySem.Challenge.pw_pk0114_01.main.body.flatMap fun st => match st with
 | .ClassDef _ _ _ b _ _ _ _ _ _ _ => b.filterMap ZB
 | s => (ZB s).toList
noncomputable def WG : List (PD × Str) := (fns.map fun (n, a) => (a, n)) ++ (vm.map fun (n, a) => (a, n)) ++ ([(81, "__init__"), (102, "__setitem__"), (107, "__delitem__"), (121, "__contains__"), (163, "__str__"), (250, "law")] : List (PD × Str))
noncomputable def ftT : FT := fun a => (WG.lookup a).bind fun n => Lg.lookup n
theorem MA (w : Rk) : ∀ a ∈ ([38, 43, 196, 201, 208, 215, 220, 225, 230, 235, 240, 245, 250, 102, 107, 121, 126, 163, 177, 66, 81, 134, 88, 184] : List PD), ftK w a = ftT a :=
 open List in
 forall_mem_cons.mpr ⟨(by kernel_rfl : ftK w 38 = ftT 38),
 forall_mem_cons.mpr ⟨(by kernel_rfl : ftK w 43 = ftT 43),
 forall_mem_cons.mpr ⟨(by kernel_rfl : ftK w 196 = ftT 196),
 forall_mem_cons.mpr ⟨(by kernel_rfl : ftK w 201 = ftT 201),
 forall_mem_cons.mpr ⟨(by kernel_rfl : ftK w 208 = ftT 208),
 forall_mem_cons.mpr ⟨(by kernel_rfl : ftK w 215 = ftT 215),
 forall_mem_cons.mpr ⟨(by kernel_rfl : ftK w 220 = ftT 220),
 forall_mem_cons.mpr ⟨(by kernel_rfl : ftK w 225 = ftT 225),
 forall_mem_cons.mpr ⟨(by kernel_rfl : ftK w 230 = ftT 230),
 forall_mem_cons.mpr ⟨(by kernel_rfl : ftK w 235 = ftT 235),
 forall_mem_cons.mpr ⟨(by kernel_rfl : ftK w 240 = ftT 240),
 forall_mem_cons.mpr ⟨(by kernel_rfl : ftK w 245 = ftT 245),
 forall_mem_cons.mpr ⟨(by kernel_rfl : ftK w 250 = ftT 250),
 forall_mem_cons.mpr ⟨(by kernel_rfl : ftK w 102 = ftT 102),
 forall_mem_cons.mpr ⟨(by kernel_rfl : ftK w 107 = ftT 107),
 forall_mem_cons.mpr ⟨(by kernel_rfl : ftK w 121 = ftT 121),
 forall_mem_cons.mpr ⟨(by kernel_rfl : ftK w 126 = ftT 126),
 forall_mem_cons.mpr ⟨(by kernel_rfl : ftK w 163 = ftT 163),
 forall_mem_cons.mpr ⟨(by kernel_rfl : ftK w 177 = ftT 177),
 forall_mem_cons.mpr ⟨(by kernel_rfl : ftK w 66 = ftT 66),
 forall_mem_cons.mpr ⟨(by kernel_rfl : ftK w 81 = ftT 81),
 forall_mem_cons.mpr ⟨(by kernel_rfl : ftK w 134 = ftT 134),
 forall_mem_cons.mpr ⟨(by kernel_rfl : ftK w 88 = ftT 88),
 forall_mem_cons.mpr ⟨(by kernel_rfl : ftK w 184 = ftT 184),
 fun zz h => nomatch h⟩⟩⟩⟩⟩⟩⟩⟩⟩⟩⟩⟩⟩⟩⟩⟩⟩⟩⟩⟩⟩⟩⟩⟩
theorem Fa : (WG.all fun q => Q6.contains q.1) = true := by rfl
theorem Y9 {α β : Type} [BEq α] [LawfulBEq α] {l : List (α × β)} {a : α} {b : β} (h : l.lookup a = some b) : (a, b) ∈ l := by
 induction l with
 | nil => exact no h
 | cons q l ih =>
   obtain ⟨k, u⟩ := q
   rw [Ry] at h
   induction hb : (a == k) with
   | true => rw [hb] at h; rw [eq_of_beq hb, <- qk h]; exact .head _
   | false => rw [hb] at h; exact .tail _ (ih h)
theorem MF (w : Rk) : ftK w = ftT := by
 funext a
 by_cases ha : Q6.contains a = true
 ·exact MA w a (RR.mp ha)
 ·have h2 : WG.lookup a = none := by
   induction q : WG.lookup a with
   | none => rfl
   | some v => exact absurd (PS.mp Fa _ (Y9 q)) ha
  unfold ftK ftT
  rw [if_neg ha, h2]; rfl
noncomputable def Pa : Prop := ∀ xs : List Int, xs.length <= 63 -> ∃ μ', (evN ftT 201).call 250 [.il xs] [] [] = some (.ok (.bool true), μ')
theorem lawP_of (h : Pa) : Ij := fun w xs hl => by rw [MF w]; exact h xs hl
inductive Orc where
 | d
 | p
 | v (m : PR PV)
 | b (m : PR Bool)
 | s (m : SR')
 | n (p : PV)
 | i (o : Option Nat)
 | l (l : List PV)
 | r (q : Src × Nat)
abbrev Os := List Orc
abbrev KOv := PR PV -> Os -> Prop
abbrev KOb := PR Bool -> Os -> Prop
abbrev KOl := PR (List PV) -> Os -> Prop
abbrev KOs := SR' -> Os -> Prop
noncomputable def aV (m : PR PV) (O : Os) (K : KOv) : Prop := match O with
 | .v x :: O => m = x /\ K x O
 | .d :: O => K m O
 | .p :: O => False /\ m = m
 | O => K m O
noncomputable def aB (m : PR Bool) (O : Os) (K : KOb) : Prop := match O with
 | .b x :: O => m = x /\ K x O
 | .d :: O => K m O
 | .p :: O => False /\ m = m
 | O => K m O
noncomputable def aS (m : SR') (O : Os) (K : KOs) : Prop := match O with
 | .s x :: O => m = x /\ K x O
 | .d :: O => K m O
 | .p :: O => False /\ m = m
 | O => K m O
noncomputable def aI (m : Option Nat) (O : Os) (K : Option Nat -> Os -> Prop) : Prop := match O with
 | .i x :: O => m = x /\ K x O
 | .d :: O => K m O
 | .p :: O => False /\ m = m
 | O => K m O
noncomputable def aL (m : Option (List PV)) (O : Os) (K : Option (List PV) -> Os -> Prop) : Prop := match O with
 | .l x :: O => m = some x /\ K (some x) O
 | .d :: O => K m O
 | .p :: O => False /\ m = m
 | O => K m O
noncomputable def aR (m : Option (Src × Nat)) (O : Os) (K : Option (Src × Nat) -> Os -> Prop) : Prop := match O with
 | .r x :: O => m = some x /\ K (some x) O
 | .d :: O => K m O
 | .p :: O => False /\ m = m
 | O => K m O
noncomputable def bW {α β : Type} (m : PR α) (O : Os) (K : PR β -> Os -> Prop) (f : α -> q4 -> Os -> Prop) : Prop := match m with
 | none => K none O
 | some (.error x, μ) => K (some (.error x, μ)) O
 | some (.ok a, μ) => f a μ O
noncomputable def bS {α : Type} (σ : LE) (m : PR α) (O : Os) (K : KOs) (f : α -> q4 -> Os -> Prop) : Prop := match m with
 | none => K none O
 | some (.error x, μ) => K (some (.error x, σ, μ)) O
 | some (.ok a, μ) => f a μ O
noncomputable def oW {α β : Type} (o : Option α) (O : Os) (K : Option β -> Os -> Prop) (f : α -> Prop) : Prop := match o with
 | none => K none O
 | some a => f a
structure WEv where
 ev : Os -> LE -> Expr -> q4 -> KOv -> Prop
 ex : Os -> LE -> List Sf -> q4 -> KOs -> Prop
section
variable (ft : FT) (r : Ev) (W : WEv)
noncomputable def wL (σ : LE) : List Expr -> Os -> q4 -> KOl -> Prop
 | [], O, μ, K => K (some (.ok [], μ)) O
 | e :: es, O, μ, K => W.ev O σ e μ fun m O => bW m O K fun v μ O => wL σ es O μ fun m O => bW m O K fun vs μ O => K (some (.ok (v :: vs), μ)) O
noncomputable def FN (O : Os) (σ : LE) (x : Str) (μ : q4) (K : KOv) : Prop := match O with
 | .n p :: O => if !(x == ("__debug__" : Str)) && xC (σ.sc.lookup x) then (σ.vs.lookup x = some p /\ K (some (.ok p, μ)) O) else False
 | .d :: O => K (Q4 σ x μ) O
 | .p :: O => False /\ σ.vs.lookup x = σ.vs.lookup x
 | O => K (Q4 σ x μ) O
noncomputable def LF (O : Os) (σ : LE) (x : Str) (K : Option PV -> Os -> Prop) : Prop := match O with
 | .n p :: O => if xC (σ.sc.lookup x) then (σ.vs.lookup x = some p /\ K (some p) O) else False
 | .d :: O => K (σ.get x) O
 | .p :: O => False /\ σ.vs.lookup x = σ.vs.lookup x
 | O => K (σ.get x) O
noncomputable def EK (O : Os) (σ : LE) (l : Expr) (ops : List Uv) (xs : List Expr) (μ : q4) (K : KOb) : Prop := match ops, xs with
 | [op], [x] => if yr x then False else W.ev O σ l μ fun m O => bW m O K fun a μ O => W.ev O σ x μ fun m O => bW m O K fun b μ O => aV (qZ op a b μ) O fun m O => bW m O K fun c μ O => aB (tru c μ) O K
 | _, _ => False
noncomputable def W8 (O : Os) (σ : LE) (f : Expr) (args : List Expr) (kws : List SD) (pos : Pos) (μ : q4) (K : KOb) : Prop := match vG f, args with
 | some a, [e] => if a.2.1 == ("search" : Str) && kws.isEmpty && qT a.1 && a.2.2.endLine == pos.line && !qf e then
    W.ev O σ a.1 μ fun m O => bW m O K fun p μ O => if F9 p then W.ev O σ e μ fun m O => bW m O K fun v μ O => aB (vo p v μ) O K else False
   else False
 | _, _ => False
mutual
noncomputable def kH (σ : LE) : Expr -> Os -> q4 -> KOb -> Prop
 | .UnaryOp op x _ => fun O μ K => match op with
   | .Not => kH σ x O μ fun m O => bW m O K fun b μ O => K (some (.ok (!b), μ)) O
   | _ => False
 | .BoolOp op es _ => fun O μ K => wTests σ (ZX op) es O μ K
 | .Compare l ops xs _ => fun O μ K => EK W O σ l ops xs μ K
 | .Call f args kws pos => fun O μ K => W8 W O σ f args kws pos μ K
 | .Name x p => fun O μ K => W.ev O σ (.Name x p) μ fun m O => bW m O K fun c μ O => aB (tru c μ) O K
 | .Constant x k p => fun O μ K => W.ev O σ (.Constant x k p) μ fun m O => bW m O K fun c μ O => aB (tru c μ) O K
 | _ => fun zz zz zz => False
noncomputable def wTests (σ : LE) (t : Bool) : List Expr -> Os -> q4 -> KOb -> Prop
 | [] => fun O μ K => K (some (.ok t, μ)) O
 | e :: es => fun O μ K => kH σ e O μ fun m O => bW m O K fun b μ O => if b == t then wTests σ t es O μ K else K (some (.ok b, μ)) O
end
noncomputable def NJ (O : Os) (σ : LE) (f : PD) (a : PV) (args : List Expr) (kws : List SD) (μ : q4) (K : KOv) : Prop := match kws with
 | [] => wL W σ args O μ fun m O => bW m O K fun vs μ O => aV (r.call f (a :: vs) [] μ) O K
 | k :: ks => if !ks.isEmpty then False else wL W σ args O μ fun m O => bW m O K fun vs μ O => match k.arg with
   | some x => W.ev O σ k.value μ fun m O => bW m O K fun v μ O => aV (r.call f (a :: vs) [(x, v)] μ) O K
   | none => W.ev O σ k.value (μ ++ [.dict []]) fun m O => bW m O K fun dv μ₂ O => aV (fO r f (a :: vs) μ.length dv μ₂) O K
noncomputable def Bq (O : Os) (σ : LE) (a : PV) (name : Str) (args : List Expr) (μ : q4) (K : KOv) : Prop := match qx a with
 | some x => (match jq args with
   | some cs => if cs.isEmpty then aV (j0 a name [] μ) O K else aV (jV x name cs μ) O K
   | none => wL W σ args O μ fun m O => bW m O K fun vs μ O => aV (j0 a name vs μ) O K)
 | none => aL (j2 μ a) O fun o O => oW o O K fun zz => wL W σ args O μ fun m O => bW m O K fun vs μ O => aV (j0 a name vs μ) O K
noncomputable def Ge (O : Os) (σ : LE) (o : Expr) (name : Str) (apos pos : Pos) (args : List Expr) (kws : List SD) (μ : q4) (K : KOv) : Prop :=
 if qT o && apos.endLine == pos.line && args.all (!qf ·) && decide (args.length < 10) then W.ev O σ o μ fun m O => bW m O K fun a μ O => aI (qv μ a) O fun i O => match i with
  | some d => ql μ d name = true /\ oW (vm.lookup name) O K fun f => NJ r W O σ f a args kws μ K
  | none => if kws.isEmpty && (Z2 a name).isSome then Bq W O σ a name args μ K else False
 else False
noncomputable def wB1 (O : Os) (f : Str) (v : PV) (μ : q4) (K : KOv) : Prop :=
 if f == ("len" : Str) then aV (Bo v μ) O K else if f == ("type" : Str) then aV (ZQ v μ) O K else if f == ("ord" : Str) then aV (HL v μ) O K else if f == ("chr" : Str) then aV (LT v μ) O K
 else if f == ("str" : Str) then aI (qv μ v) O fun i O => oW i O K fun zz => aV (r.call 163 [v] [] μ) O fun m O => bW m O K fun v μ O => if zy v then K (some (.ok v, μ)) O else False else False
noncomputable def YD (O : Os) (σ : LE) (args : List Expr) (μ : q4) (K : KOv) : Prop := match one args with
 | some e => (match xA e with
   | some q => if q.2.1 == ("items" : Str) && qT q.1 && q.2.2.1.endLine == q.2.2.2.line then W.ev O σ q.1 μ fun m O => bW m O K fun v μ O => aV (JH v μ) O K else False
   | none => False)
 | none => False
noncomputable def Fh (O : Os) (σ : LE) (f : Str) (args : List Expr) (μ : q4) (K : KOv) : Prop := if σ.isG f && args.all (!qf ·) && decide (args.length < 10) then match fns.lookup f with
 | some a => wL W σ args O μ fun m O => bW m O K fun vs μ O => aV (r.call a vs [] μ) O K
 | none => if f == ("Headers" : Str) then wL W σ args O μ fun m O => bW m O K fun vs μ O => aV (QY r vs μ) O K else if f == ("list" : Str) then YD W O σ args μ K
   else if (pB1 r f).isSome then wL W σ args O μ fun m O => bW m O K fun vs μ O => oW (one vs) O K fun v => wB1 r O f v μ K else False
 else False
noncomputable def IG (O : Os) (σ : LE) (o : Option Expr) (μ : q4) (K : PR (Option PV) -> Os -> Prop) : Prop := match o with
 | none => K (some (.ok none, μ)) O
 | some e => W.ev O σ e μ fun m O => bW m O K fun v μ O => K (some (.ok (some v), μ)) O
noncomputable def Yw (σ : LE) : List (Option Expr) -> List Expr -> Os -> q4 -> (PR (Loc) -> Os -> Prop) -> Prop
 | [], vs, O, μ, K => if vs.isEmpty then K (some (.ok [], μ)) O else False
 | k :: ks, vs, O, μ, K => match k, vs with
   | some k, v :: vs => W.ev O σ k μ fun m O => bW m O K fun a μ O => W.ev O σ v μ fun m O => bW m O K fun b μ O => Yw σ ks vs O μ fun m O => bW m O K fun l μ O => oW (qx a) O K fun x => K (some (.ok ((x, b) :: l), μ)) O
   | _, _ => False
noncomputable def Iq (O : Os) (σ : LE) (l : Expr) (ops : List Uv) (xs : List Expr) (μ : q4) (K : KOv) : Prop := match ops, xs with
 | [op], [x] => if yr x then False else W.ev O σ l μ fun m O => bW m O K fun a μ O => W.ev O σ x μ fun m O => bW m O K fun b μ O =>
   if C8 op && zy a then aI (qv μ b) O fun i O => match i with
    | some _ => aV (r.call 121 [b, a] [] μ) O fun m O => bW m O K fun c μ O => aB (tru c μ) O fun m O => bW m O K fun t μ O => K (some (.ok (.bool t), μ)) O
    | none => aV (qZ op a b μ) O K
   else aV (qZ op a b μ) O K
 | _, _ => False
noncomputable def Zn (σ : LE) : List Expr -> Str -> Os -> q4 -> KOv -> Prop
 | [], out, O, μ, K => aV (yx out μ) O K
 | e :: es, out, O, μ, K => match QZ e with
   | some x => (out.length + x.length <= Pr) /\ Zn σ es (out ++ x) O μ K
   | none => oW (Gm e) O K fun e => W.ev O σ e μ fun m O => bW m O K fun v μ O => oW (qx v) O K fun x => (out.length + x.length <= Pr) /\ Zn σ es (out ++ x) O μ K
noncomputable def Nm (O : Os) (σ : LE) (v : Expr) (lo hi st : Option Expr) (μ : q4) (K : KOv) : Prop := if st.isNone then W.ev O σ v μ fun m O => bW m O K fun a μ O => IG W O σ lo μ fun m O => bW m O K fun l μ O => IG W O σ hi μ fun m O => bW m O K fun h μ O => aV (wM a l h μ) O K else False
noncomputable def wIt (O : Os) (σ : LE) (v i : Expr) (μ : q4) (K : KOv) : Prop := W.ev O σ v μ fun m O => bW m O K fun a μ O => W.ev O σ i μ fun m O => bW m O K fun b μ O => aV (zb a b μ) O K
noncomputable def Hb (O : Os) (σ : LE) (v i : Expr) (μ : q4) (K : KOv) : Prop := match i with
 | .Slice lo hi st _ => Nm W O σ v lo hi st μ K
 | i => wIt W O σ v i μ K
noncomputable def wJn (O : Os) (σ : LE) (es : List Expr) (μ : q4) (K : KOv) : Prop := if 2 <= es.length then Zn W σ es PE O μ K else False
noncomputable def EY (O : Os) (σ : LE) (ks : List (Option Expr)) (vs : List Expr) (μ : q4) (K : KOv) : Prop := if ks.length < 10 /\ ks.length = vs.length /\ ks.all (·.isSome) = true then Yw W σ ks vs O (μ ++ [.dict []]) fun m O => bW m O K fun l μ₁ O =>
 aV (if (l.map (·.1)).Nodup /\ (qe μ₁ μ.length).any (·.isEmpty) = true then some (.ok (.loc μ.length), qj μ₁ μ.length (.dict l)) else none) O K else False
noncomputable def Hq (O : Os) (σ : LE) (op : UY) (es : List Expr) (μ : q4) (K : KOv) : Prop := if ZX op then False else match two es with
 | some q => W.ev O σ q.1 μ fun m O => bW m O K fun a μ O => aB (tru a μ) O fun m O => bW m O K fun t μ O => if t then K (some (.ok a, μ)) O else W.ev O σ q.2 μ K
 | none => False
noncomputable def BW (a : PV) (name : Str) (μ : q4) : PR PV := (qv μ a).bind fun d => (qe μ d).bind fun l => (x8 l name).bind fun v => if Wb v then none else some (.ok v, μ)
noncomputable def MO (O : Os) (σ : LE) (o : Expr) (name : Str) (μ : q4) (K : KOv) : Prop := if qT o && name == ("_headers" : Str) then W.ev O σ o μ fun m O => bW m O K fun a μ O => aV (BW a name μ) O K else False
noncomputable def Mj (O : Os) (σ : LE) (ifs : List Expr) (μ : q4) (K : KOb) : Prop := match ifs with
 | [] => K (some (.ok true, μ)) O
 | c :: cs => if cs.isEmpty then kH W σ c O μ K else False
noncomputable def I4 (O : Os) (σ : LE) (target iter : Expr) (μ : q4) (K : PR (Src × Nat) -> Os -> Prop) : Prop := match (yb iter).filter (fun q => q.1 == ("enumerate" : Str)) with
 | some q => if σ.isG q.1 && !qf q.2 && zo target then W.ev O σ q.2 μ fun m O => bW m O K fun v μ O => oW (jr v) O K fun n => aL (q5 μ n) O fun o O => oW o O K fun l => K (some (.ok (.enum n, l.length + 1), μ)) O else False
 | none => W.ev O σ iter μ fun m O => bW m O K fun v μ O => aR (zW v μ) O fun o O => oW o O K fun q => K (some (.ok q, μ)) O
noncomputable def wLC (O : Os) (σ : LE) (elt : Expr) (gens : List TQ) (sc : Um) (μ : q4) (K : KOv) : Prop := oW (one gens) O K fun g => if g.is_async = 0 then (if yr g.iter || !vZ σ sc || !Bt g.target sc then False else I4 W O σ g.target g.iter μ fun m O => bW m O K fun q μ O => aV (qG r (σ.comp sc.names) elt g.target g.ifs q μ) O K) else False
noncomputable def EI (O : Os) (σ : LE) (e : Expr) (μ : q4) (K : KOv) : Prop := match e with
 | .Constant c _ _ => K ((wR c).map fun p => (.ok p, μ)) O
 | .Name x _ => FN O σ x μ K
 | .Tuple es _ _ => if es.any qf then False else wL W σ es O μ fun m O => bW m O K fun vs μ O => if vs.length <= Pr then K (some (.ok (.tup vs), μ)) O else False
 | .List es _ => if es.any qf then False else wL W σ es O μ fun m O => bW m O K fun vs μ O => aV (jp vs μ) O K
 | .Dict ks vs _ => EY W O σ ks vs μ K
 | .BinOp l op x _ => W.ev O σ l μ fun m O => bW m O K fun a μ O => W.ev O σ x μ fun m O => bW m O K fun b μ O => aV (kZ op a b μ) O K
 | .UnaryOp op x _ => K (eUn op x μ) O
 | .BoolOp op es _ => Hq W O σ op es μ K
 | .Compare l ops xs _ => Iq r W O σ l ops xs μ K
 | .IfExp t b o _ => kH W σ t O μ fun m O => bW m O K fun c μ O => if c then W.ev O σ b μ K else W.ev O σ o μ K
 | .Subscript v i _ => Hb W O σ v i μ K
 | .Attribute o name p => MO W O σ o name μ K
 | .JoinedStr es _ => wJn W O σ es μ K
 | .Call f args kws pos => (match f with
   | .Attribute o name apos => Ge r W O σ o name apos pos args kws μ K
   | .Name f _ => if kws.isEmpty then Fh r W O σ f args μ K else False
   | _ => False)
 | .ListComp elt gens sc _ => wLC r W O σ elt gens sc μ K
 | _ => False
noncomputable def B5 (O : Os) (σ : LE) (x : Str) (v : PV) (μ : q4) (K : KOs) : Prop := oW (σ.put x v) O K fun σ' => K (some (.ok .next, σ', μ)) O
noncomputable def I1 (σ : LE) (ts : List Expr) (l : List PV) (μ : q4) : SR' := if l.length = 1 /\ ts.length = 2 then some (.error wT, σ, μ) else if l.length = ts.length then (vR σ ts l).map fun σ' => (.ok .next, σ', μ) else none
noncomputable def MW (O : Os) (σ : LE) (ts : List Expr) (e : Expr) (μ : q4) (K : KOs) : Prop := if ts.any qf then False else W.ev O σ e μ fun m O => bS σ m O K fun v μ O => match wB v with
 | some _ => K (xv σ ts v μ) O
 | none => aL (j2 μ v) O fun o O => oW o O K fun l => K (I1 σ ts l μ) O
noncomputable def Hm (O : Os) (σ : LE) (ts es : List Expr) (μ : q4) (K : KOs) : Prop := oW (two ts) O K fun t => oW (two es) O K fun q => oW (wh t.1) O K fun x => oW (wh t.2) O K fun y =>
 if σ.sc.lookup x.1 == some .local && σ.sc.lookup y.1 == some .local && x.2.line == y.2.line && !(x.1 == y.1) && !(es.all (aD 8)) && !(es.all (AI 8)) && !qf q.1 && !qf q.2 then
  W.ev O σ q.1 μ fun m O => bS σ m O K fun v μ O => W.ev O σ q.2 μ fun m O => bS σ m O K fun u μ O => oW (σ.put y.1 u) O K fun σ' => B5 O σ' x.1 v μ K
 else False
noncomputable def Nw (O : Os) (σ : LE) (ts : List Expr) (e : Expr) (μ : q4) (K : KOs) : Prop := match e with
 | .Tuple es _ _ => Hm W O σ ts es μ K
 | e => MW W O σ ts e μ K
noncomputable def XL (a : PV) (x : Str) (v : PV) (μ : q4) : PR PV := (jr a).bind fun n => (qe μ n).bind fun l => if l.length + 1 <= Pr then some (.ok .none, qj μ n (.dict (qU l x v))) else none
noncomputable def H8 (O : Os) (σ : LE) (a k v : PV) (μ : q4) (K : KOs) : Prop := oW (qx k) O K fun x => aI (qv μ a) O fun i O => match i with
 | some _ => aV (r.call 102 [a, k, v] [] μ) O fun m O => bS σ m O K fun zz μ O => K (some (.ok .next, σ, μ)) O
 | none => aV (XL a x v μ) O fun m O => bS σ m O K fun zz μ O => K (some (.ok .next, σ, μ)) O
noncomputable def ES (O : Os) (σ : LE) (o i e : Expr) (μ : q4) (K : KOs) : Prop := W.ev O σ e μ fun m O => bS σ m O K fun v μ O => W.ev O σ o μ fun m O => bS σ m O K fun a μ O => W.ev O σ i μ fun m O => bS σ m O K fun k μ O => H8 r O σ a k v μ K
noncomputable def Vf (a v : PV) (μ : q4) : PR PV := (jr a).bind fun n => (jr v).bind fun m => (q5 μ n).bind fun l₀ => (q5 μ m).bind fun l => if n = m \/ Pr < l₀.length + l.length then none else some (.ok .none, qj μ n (.list l))
noncomputable def He (O : Os) (σ : LE) (o e : Expr) (μ : q4) (K : KOs) : Prop := W.ev O σ e μ fun m O => bS σ m O K fun v μ O => W.ev O σ o μ fun m O => bS σ m O K fun a μ O => aV (Vf a v μ) O fun m O => bS σ m O K fun zz μ O => K (some (.ok .next, σ, μ)) O
noncomputable def Zo (p : PV) (name : Str) (v : PV) (μ : q4) : PR PV := (qv μ p).bind fun d => (qe μ d).bind fun l => if l.isEmpty then some (.ok .none, qj μ d (.dict [(name, v)])) else none
noncomputable def Hd (O : Os) (σ : LE) (y name : Str) (e : Expr) (μ : q4) (K : KOs) : Prop := if name == ("_headers" : Str) && !(y == ("__debug__" : Str)) then W.ev O σ e μ fun m O => bS σ m O K fun v μ O => oW (σ.get y) O K fun p => aV (Zo p name v μ) O fun m O => bS σ m O K fun zz μ O => K (some (.ok .next, σ, μ)) O else False
noncomputable def Nk (O : Os) (σ : LE) (o i : Expr) (μ : q4) (K : KOs) : Prop := W.ev O σ o μ fun m O => bS σ m O K fun a μ O => W.ev O σ i μ fun m O => bS σ m O K fun k μ O => aI (qv μ a) O fun i O => oW i O K fun zz => if zy k then aV (r.call 107 [a, k] [] μ) O fun m O => bS σ m O K fun zz μ O => K (some (.ok .next, σ, μ)) O else False
noncomputable def V6 : Expr -> Option (Expr × Expr)
 | .Subscript o i _ => some (o, i)
 | _ => none
noncomputable def Mr (σ : LE) (o i e : Expr) (μ : q4) : SR' := match i with
 | .Slice lo hi st _ => if lo.isNone && hi.isNone && st.isNone then Z0 r σ o e μ else none
 | i => FO r σ o i e μ
noncomputable def EU (O : Os) (σ : LE) (o i e : Expr) (μ : q4) (K : KOs) : Prop := match i with
 | .Slice lo hi st _ => if lo.isNone && hi.isNone && st.isNone then He W O σ o e μ K else False
 | i => ES r W O σ o i e μ K
noncomputable def Hs (O : Os) (σ : LE) (t e : Expr) (μ : q4) (K : KOs) : Prop := match t with
 | .Name x _ => if gl e then False else W.ev O σ e μ fun m O => bS σ m O K fun v μ O => B5 O σ x v μ K
 | .Tuple ts _ _ => Nw W O σ ts e μ K
 | .Attribute o name _ => oW (qW o) O K fun y => Hd W O σ y name e μ K
 | .Subscript o i _ => EU r W O σ o i e μ K
 | _ => False
noncomputable def NP (O : Os) (σ : LE) (ts : List Expr) (e : Expr) (μ : q4) (K : KOs) : Prop := match ts with
 | [] => False
 | t :: ts => (match ts with
   | [] => Hs r W O σ t e μ K
   | u :: us => if us.isEmpty then oW (qW t) O K fun x => oW (qW u) O K fun y => W.ev O σ e μ fun m O => bS σ m O K fun v μ O => oW (σ.put x v) O K fun σ => B5 O σ y v μ K else False)
noncomputable def HH (O : Os) (σ : LE) (target iter : Expr) (body : List Sf) (μ : q4) (K : KOs) : Prop := match xA iter with
 | some q => if q.2.1 == ("items" : Str) && qT q.1 && q.2.2.1.endLine == q.2.2.2.line && zo target then W.ev O σ q.1 μ fun m O => bS σ m O K fun v μ O => aS (y7 r σ target body v μ) O K else False
 | none => if yr iter || !jD target then False else W.ev O σ iter μ fun m O => bS σ m O K fun v μ O => aR (zW v μ) O fun o O => oW o O K fun q => aS (zJ r q.1 target body q.2 0 σ μ) O K
noncomputable def Fm (O : Os) (σ : LE) (st : Sf) (μ : q4) (K : KOs) : Prop := match st with
 | .Expr e _ => if Z9 e then False else W.ev O σ e μ fun m O => bS σ m O K fun v μ O => if vC v then K (some (.ok .next, σ, μ)) O else False
 | .Return e _ => oW e O K fun e => W.ev O σ e μ fun m O => bS σ m O K fun v μ O => K (some (.ok (.ret v), σ, μ)) O
 | .Continue _ => K (some (.ok .cont, σ, μ)) O
 | .Assign ts e _ => NP r W O σ ts e μ K
 | .Delete ts _ => (match (one ts).bind V6 with
   | some q => Nk r W O σ q.1 q.2 μ K
   | none => False)
 | .AugAssign t op e _ => oW (qW t) O K fun x => LF O σ x fun o O => oW o O K fun old => W.ev O σ e μ fun m O => bS σ m O K fun v μ O => if Hn op then (match qx old, qx v with
   | some a, some b => aV (yx (a ++ b) μ) O fun m O => bS σ m O K fun u μ O => B5 O σ x u μ K
   | _, _ => False) else False
 | .If t b o _ => kH W σ t O μ fun m O => bS σ m O K fun c μ O => if c then W.ex O σ b μ K else W.ex O σ o μ K
 | .For target iter body o _ => if o.isEmpty then HH r W O σ target iter body μ K else False
 | .Raise e c _ => K (YO σ e c μ) O
 | .Try body hs o f _ => if !hs.isEmpty && o.isEmpty && f.isEmpty then W.ex O σ body μ fun m O => match m with
   | some (.error x, σ₁, μ₁) => if x.here then False else aS (yO σ₁ x hs μ₁) O K
   | o => K o O else False
 | _ => False
noncomputable def XU (σ : LE) : List Sf -> Os -> q4 -> KOs -> Prop
 | [], O, μ, K => K (some (.ok .next, σ, μ)) O
 | st :: rest, O, μ, K => Fm r W O σ st μ fun m O => match m with
   | some (.ok .next, σ₁, μ₁) => XU σ₁ rest O μ₁ K
   | o => K o O
end
noncomputable def wN (ft : FT) (n : Nat) : Nat -> WEv
 | 0 => { ev := fun O σ e μ K => K ((evN ft n).ev σ e μ) O, ex := fun O σ b μ K => K ((evN ft n).ex σ b μ) O }
 | k + 1 => { ev := fun O σ e μ K => EI (evN ft (n + k)) (wN ft n k) O σ e μ K, ex := fun O σ b μ K => XU (evN ft (n + k)) (wN ft n k) σ b O μ K }
theorem zD {m : PR PV} {O : Os} {K : KOv} (h : aV m O K) : ∃ O, K m O := by
 induction O using PC with
 | nil => exact ⟨_, h⟩
 | cons o O => cases o <;> first | exact ⟨_, h⟩ | exact h.1.elim | exact ⟨O, h.1.symm ▸ h.2⟩
theorem BA {m : PR Bool} {O : Os} {K : KOb} (h : aB m O K) : ∃ O, K m O := by
 induction O using PC with
 | nil => exact ⟨_, h⟩
 | cons o O => cases o <;> first | exact ⟨_, h⟩ | exact h.1.elim | exact ⟨O, h.1.symm ▸ h.2⟩
theorem M4 {m : SR'} {O : Os} {K : KOs} (h : aS m O K) : ∃ O, K m O := by
 induction O using PC with
 | nil => exact ⟨_, h⟩
 | cons o O => cases o <;> first | exact ⟨_, h⟩ | exact h.1.elim | exact ⟨O, h.1.symm ▸ h.2⟩
theorem Fl {m : Option Nat} {O : Os} {K : Option Nat -> Os -> Prop} (h : aI m O K) : ∃ O, K m O := by
 induction O using PC with
 | nil => exact ⟨_, h⟩
 | cons o O => cases o <;> first | exact ⟨_, h⟩ | exact h.1.elim | exact ⟨O, h.1.symm ▸ h.2⟩
theorem M0 {m : Option (List PV)} {O : Os} {K : Option (List PV) -> Os -> Prop} (h : aL m O K) : ∃ O, K m O := by
 induction O using PC with
 | nil => exact ⟨_, h⟩
 | cons o O => cases o <;> first | exact ⟨_, h⟩ | exact h.1.elim | exact ⟨O, h.1.symm ▸ h.2⟩
theorem Ml {m : Option (Src × Nat)} {O : Os} {K : Option (Src × Nat) -> Os -> Prop} (h : aR m O K) : ∃ O, K m O := by
 induction O using PC with
 | nil => exact ⟨_, h⟩
 | cons o O => cases o <;> first | exact ⟨_, h⟩ | exact h.1.elim | exact ⟨O, h.1.symm ▸ h.2⟩
theorem vK {α β : Type} {m : PR α} {O : Os} {K : PR β -> Os -> Prop} {f : α -> q4 -> Os -> Prop} {g : α -> PM β} (h : bW m O K f) (k : ∀ a μ O, f a μ O -> ∃ O, K (g a μ) O) : ∃ O, K (qa m g) O := by
 induction m with
 | none => exact ⟨O, h⟩
 | some q => obtain ⟨q, μ⟩ := q; induction q with
   | error x => exact ⟨O, h⟩
   | ok a => exact k a μ O h
theorem Ct {α : Type} {σ : LE} {m : PR α} {O : Os} {K : KOs} {f : α -> q4 -> Os -> Prop} {g : α -> q4 -> SR'} (h : bS σ m O K f) (k : ∀ a μ O, f a μ O -> ∃ O, K (g a μ) O) : ∃ O, K (qC σ m g) O := by
 induction m with
 | none => exact ⟨O, h⟩
 | some q => obtain ⟨q, μ⟩ := q; induction q with
   | error x => exact ⟨O, h⟩
   | ok a => exact k a μ O h
theorem zL {α β : Type} {o : Option α} {O : Os} {K : Option β -> Os -> Prop} {f : α -> Prop} {g : α -> Option β} (h : oW o O K f) (k : ∀ a, f a -> ∃ O, K (g a) O) : ∃ O, K (o.bind g) O := by
 induction o with
 | none => exact ⟨O, h⟩
 | some a => exact k a h
theorem fW {c : Bool} {p : Prop} {β : Type} {K : β -> Os -> Prop} {x y : β} (h : if c = true then p else False) (k : p -> ∃ O, K x O) : ∃ O, K (if c = true then x else y) O := by
 cases c
 ·exact h.elim
 ·exact k h
theorem fP {c : Prop} [Decidable c] {p : Prop} {β : Type} {K : β -> Os -> Prop} {x y : β} (h : if c then p else False) (k : p -> ∃ O, K x O) : ∃ O, K (if c then x else y) O := by
 by_cases hc : c
 ·rw [if_pos hc] at h ⊢; exact k h
 ·rw [if_neg hc] at h; exact h.elim
theorem fN {c : Bool} {p : Prop} {β : Type} {K : β -> Os -> Prop} {x y : β} (h : if c = true then False else p) (k : p -> ∃ O, K x O) : ∃ O, K (if c = true then y else x) O := by
 cases c
 ·exact k h
 ·exact h.elim
theorem fC {c : Bool} {p q : Prop} {β : Type} {K : β -> Os -> Prop} {x y : β} (h : if c = true then p else q) (k : p -> ∃ O, K x O) (k' : q -> ∃ O, K y O) : ∃ O, K (if c = true then x else y) O := by
 cases c
 ·exact k' h
 ·exact k h
theorem fCm {c : Bool} {p q : Prop} {β : Type} {K : β -> Os -> Prop} {x y : q4 -> β} {μ : q4} (h : if c = true then p else q) (k : p -> ∃ O, K (x μ) O) (k' : q -> ∃ O, K (y μ) O) : ∃ O, K ((if c = true then x else y) μ) O := by
 cases c
 ·exact k' h
 ·exact k h
theorem fWm {c : Bool} {p : Prop} {β : Type} {K : β -> Os -> Prop} {x y : q4 -> β} {μ : q4} (h : if c = true then p else False) (k : p -> ∃ O, K (x μ) O) : ∃ O, K ((if c = true then x else y) μ) O := fCm h k False.elim
structure WS (r : Ev) (W : WEv) : Prop where
 ev : ∀ {O σ e μ K}, W.ev O σ e μ K -> ∃ O, K (r.ev σ e μ) O
 ex : ∀ {O σ b μ K}, W.ex O σ b μ K -> ∃ O, K (r.ex σ b μ) O
theorem WS.evb {r : Ev} {W : WEv} (S : WS r W) {O σ e μ} {α : Type} {K : PR α -> Os -> Prop} {f : PV -> q4 -> Os -> Prop} {g : PV -> PM α} (h : W.ev O σ e μ fun m O => bW m O K f) (k : ∀ a μ O, f a μ O -> ∃ O, K (g a μ) O) : ∃ O, K (qa (r.ev σ e μ) g) O := (S.ev h).elim fun zz h => vK h k
theorem WS.evs {r : Ev} {W : WEv} (S : WS r W) {O σ σ' e μ} {K : KOs} {f : PV -> q4 -> Os -> Prop} {g : PV -> q4 -> SR'} (h : W.ev O σ e μ fun m O => bS σ' m O K f) (k : ∀ a μ O, f a μ O -> ∃ O, K (g a μ) O) : ∃ O, K (qC σ' (r.ev σ e μ) g) O := (S.ev h).elim fun zz h => Ct h k
section
variable {ft : FT} {r : Ev} {W : WEv} (S : WS r W)
include S
theorem Pe {σ : LE} {es : List Expr} : ∀ {O μ K}, wL W σ es O μ K -> ∃ O, K (evL r σ es μ) O := by
 induction es with
 | nil => exact fun h => ⟨_, h⟩
 | cons e es ih => exact fun h => S.evb h fun v μ O h => (ih h).elim fun zz h => vK h fun vs μ O h => ⟨O, h⟩
omit S in
theorem aVb {m : PR PV} {O : Os} {α : Type} {K : PR α -> Os -> Prop} {f : PV -> q4 -> Os -> Prop} {g : PV -> PM α} (h : aV m O fun m O => bW m O K f) (k : ∀ a μ O, f a μ O -> ∃ O, K (g a μ) O) : ∃ O, K (qa m g) O := (zD h).elim fun zz h => vK h k
omit S in
theorem aBb {m : PR Bool} {O : Os} {α : Type} {K : PR α -> Os -> Prop} {f : Bool -> q4 -> Os -> Prop} {g : Bool -> PM α} (h : aB m O fun m O => bW m O K f) (k : ∀ a μ O, f a μ O -> ∃ O, K (g a μ) O) : ∃ O, K (qa m g) O := (BA h).elim fun zz h => vK h k
theorem wLb {σ : LE} {es : List Expr} {O μ} {α : Type} {K : PR α -> Os -> Prop} {f : List PV -> q4 -> Os -> Prop} {g : List PV -> PM α} (h : wL W σ es O μ fun m O => bW m O K f) (k : ∀ a μ O, f a μ O -> ∃ O, K (g a μ) O) : ∃ O, K (qa (evL r σ es μ) g) O := (Pe S h).elim fun zz h => vK h k
omit S in
set_option tactic.hygienic true in
theorem DX {O : Os} {σ : LE} {x : Str} {μ : q4} {K : KOv} (h : FN O σ x μ K) : ∃ O, K (Q4 σ x μ) O := by
 induction O using PC with
 | nil => exact ⟨_, h⟩
 | cons o O => cases o <;> first | exact ⟨_, h⟩ | exact h.1.elim | skip
               rename_i p
               unfold FN at h
               cases hd : (x == ("__debug__" : Str)) <;> cases hs : xC (σ.sc.lookup x) <;> rw [hd, hs] at h <;> first | exact h.elim | skip
               refine ⟨O, ?_⟩
               unfold Q4 LE.get
               rw [hd, hs]
               show K (match σ.vs.lookup x with | some p => pret p μ | none => _) O
               rw [h.1]; exact h.2
omit S in
set_option tactic.hygienic true in
theorem Ir {O : Os} {σ : LE} {x : Str} {K : Option PV -> Os -> Prop} (h : LF O σ x K) : ∃ O, K (σ.get x) O := by
 induction O using PC with
 | nil => exact ⟨_, h⟩
 | cons o O => cases o <;> first | exact ⟨_, h⟩ | exact h.1.elim | skip
               rename_i p
               unfold LF at h
               cases hs : xC (σ.sc.lookup x) <;> rw [hs] at h
               ·exact h.elim
               ·refine ⟨O, ?_⟩
                unfold LE.get
                rw [hs]
                show K (σ.vs.lookup x) O
                rw [h.1]; exact h.2
theorem Ea {O : Os} {σ : LE} {l : Expr} {ops : List Uv} {xs : List Expr} {μ : q4} {K : KOb} (h : EK W O σ l ops xs μ K) : ∃ O, K (Lw r σ l ops xs μ) O := by
 induction ops using PC with
 | nil => exact h.elim
 | cons op t => induction t using PC with
   | cons => exact h.elim
   | nil => induction xs using PC with
     | nil => exact h.elim
     | cons x t => induction t using PC with
       | cons => exact h.elim
       | nil => exact fN h fun h => S.evb h fun a μ O h => S.evb h fun b μ O h => aVb h fun c μ O h => BA h
theorem Bs {O : Os} {σ : LE} {f : Expr} {args : List Expr} {kws : List SD} {pos : Pos} {μ : q4} {K : KOb} (h : W8 W O σ f args kws pos μ K) : ∃ O, K (WK r σ f args kws pos μ) O := by
 unfold W8 at h
 unfold WK
 induction ha : vG f with
 | none => rw [ha] at h; exact h.elim
 | some a =>
   rw [ha] at h
   induction args using PC with
   | nil => exact h.elim
   | cons e t => induction t using PC with
     | cons => exact h.elim
     | nil => exact fW h fun h => S.evb h fun p μ O h => fW h fun h => S.evb h fun v μ O h => BA h
omit S in
theorem VG {σ : LE} {t : Bool} {k : Nat} (ih : ∀ e, c9 e < k -> ∀ {O μ K}, kH W σ e O μ K -> ∃ O, K (xh r σ e μ) O) (es : List Expr) : c9 es < k -> ∀ {O μ K}, wTests W σ t es O μ K -> ∃ O, K (evTests r σ t es μ) O := by
 induction es with
 | nil => exact fun zz zz zz zz h => ⟨_, h⟩
 | cons e es ihs =>
   intro hk O μ K h
   rw [AD] at hk
   exact (ih e (by lia) h).elim fun zz h => vK h fun b μ O h => fCm h (ihs (by lia)) fun h => ⟨O, h⟩
theorem B7 {σ : LE} (k : Nat) : ∀ (e : Expr), c9 e < k -> ∀ {O μ K}, kH W σ e O μ K -> ∃ O, K (xh r σ e μ) O := by
 induction k with
 | zero => exact fun zz h => absurd h (Au _)
 | succ k ih =>
   intro e hk O μ K h
   cases e with
   | UnaryOp op x p =>
     rw [A0] at hk
     induction op with
     | Not => exact (ih x (by lia) h).elim fun zz h => vK h fun b μ O h => ⟨O, h⟩
     | _ => exact h.elim
   | BoolOp op es p =>
     rw [Aa] at hk
     exact VG ih es (by lia) h
   | Compare a ops bs p => exact Ea S h
   | Call f args kws p => exact Bs S h
   | Name x p => exact S.evb h fun c μ O h => BA h
   | Constant c k p => exact S.evb h fun c μ O h => BA h
   | _ => exact h.elim
theorem JQ {σ : LE} {e : Expr} {O : Os} {μ : q4} {K : KOb} (h : kH W σ e O μ K) : ∃ O, K (xh r σ e μ) O := B7 S _ e (RU _) h
theorem IT {O : Os} {σ : LE} {f : PD} {a : PV} {args : List Expr} {kws : List SD} {μ : q4} {K : KOv} (h : NJ r W O σ f a args kws μ K) : ∃ O, K (Md r σ f a args kws μ) O := by
 induction kws using PC with
 | nil => exact wLb S h fun vs μ O h => zD h
 | cons k ks =>
   refine fN h fun h => wLb S h fun vs μ O h => ?_
   obtain ⟨ko, kv, kp⟩ := k
   induction ko with
   | some x => exact S.evb h fun v μ O h => zD h
   | none => exact S.evb h fun v μ O h => zD h
theorem CP {O : Os} {σ : LE} {a : PV} {name : Str} {args : List Expr} {μ : q4} {K : KOv} (h : Bq W O σ a name args μ K) : ∃ O, K (Wd r σ a name args μ) O := by
 unfold Bq at h; unfold Wd
 induction ha : qx a with
 | none => rw [ha] at h; exact (M0 h).elim fun zz h => zL h fun zz h => wLb S h fun vs μ O h => zD h
 | some x =>
   rw [ha] at h
   induction hc : jq args with
   | none => rw [hc] at h; exact wLb S h fun vs μ O h => zD h
   | some cs => rw [hc] at h; exact fC h zD zD
theorem GN {O : Os} {σ : LE} {o : Expr} {name : Str} {apos pos : Pos} {args : List Expr} {kws : List SD} {μ : q4} {K : KOv} (h : Ge r W O σ o name apos pos args kws μ K) : ∃ O, K (Jz r σ o name apos pos args kws μ) O := by
 refine fW h fun h => S.evb h fun a μ O h => ?_
 obtain ⟨O, h⟩ := Fl h
 induction hi : qv μ a with
 | none => rw [hi] at h; exact fW h (CP S)
 | some d => rw [hi] at h; dsimp only at h ⊢; rw [if_pos h.1]; exact zL h.2 fun f h => IT S h
omit S in
theorem MK {O : Os} {f : Str} {v : PV} {μ : q4} {K : KOv} (h : wB1 r O f v μ K) : ∃ g, pB1 r f = some g /\ ∃ O, K (g v μ) O := by
 unfold wB1 at h; unfold pB1
 cases h1 : (f == ("len" : Str)) <;> rw [h1] at h
 ·cases h2 : (f == ("type" : Str)) <;> rw [h2] at h
  ·cases h3 : (f == ("ord" : Str)) <;> rw [h3] at h
   ·cases h4 : (f == ("chr" : Str)) <;> rw [h4] at h
    ·cases h5 : (f == ("str" : Str)) <;> rw [h5] at h
     ·exact h.elim
     ·exact ⟨_, rfl, (Fl h).elim fun zz h => zL h fun i h => aVb h fun v μ O h => by
       cases hv : zy v <;> rw [hv] at h
       ·exact h.elim
       ·exact ⟨O, h⟩⟩
    ·exact ⟨_, rfl, zD h⟩
   ·exact ⟨_, rfl, zD h⟩
  ·exact ⟨_, rfl, zD h⟩
 ·exact ⟨_, rfl, zD h⟩
theorem KM {O : Os} {σ : LE} {args : List Expr} {μ : q4} {K : KOv} (h : YD W O σ args μ K) : ∃ O, K (Jr r σ args μ) O := by
 unfold YD at h; unfold Jr
 induction h1 : one args with
 | none => rw [h1] at h; exact h.elim
 | some e => rw [h1] at h; dsimp only at h; induction h2 : xA e with
   | none => rw [h2] at h; exact h.elim
   | some q => rw [h2] at h; rw [PK, h2]; exact fW h fun h => S.evb h fun v μ O h => zD h
theorem Pf {O : Os} {σ : LE} {f : Str} {args : List Expr} {μ : q4} {K : KOv} (h : if (pB1 r f).isSome = true then (wL W σ args O μ fun m O => bW m O K fun vs μ O => oW (one vs) O K fun v => wB1 r O f v μ K) else False) : ∃ O, K ((pB1 r f).bind fun g => qa (evL r σ args μ) fun vs μ => (one vs).bind fun v => g v μ) O := by
 induction hp : pB1 r f with
 | none => rw [hp] at h; exact h.elim
 | some g =>
   rw [hp] at h
   refine wLb S h fun vs μ O h => zL h fun v h => ?_
   obtain ⟨g', h1, h2⟩ := MK h
   rw [hp] at h1
   rw [qk h1]; exact h2
theorem FJ {O : Os} {σ : LE} {f : Str} {args : List Expr} {μ : q4} {K : KOv} (h : Fh r W O σ f args μ K) : ∃ O, K (JO r σ f args μ) O := by
 refine fW h fun h => ?_
 induction hl : fns.lookup f with
 | some a => rw [hl] at h; exact wLb S h fun vs μ O h => zD h
 | none =>
   rw [hl] at h
   exact fC h (fun h => wLb S h fun vs μ O h => zD h) fun h => fC h (KM S) (Pf S)
theorem B9 {O : Os} {σ : LE} {o : Option Expr} {μ : q4} {K : PR (Option PV) -> Os -> Prop} (h : IG W O σ o μ K) : ∃ O, K (WC r σ o μ) O := by
 induction o with
 | none => exact ⟨O, h⟩
 | some e => exact S.evb h fun v μ O h => ⟨O, h⟩
theorem GI {σ : LE} {ks : List (Option Expr)} : ∀ {vs : List Expr} {O : Os} {μ : q4} {K : PR (Loc) -> Os -> Prop}, Yw W σ ks vs O μ K -> ∃ O, K (gi r σ ks vs μ) O := by
 induction ks with
 | nil =>
   intro vs O μ K h
   induction vs using PC with
   | nil => exact ⟨O, h⟩
   | cons => exact h.elim
 | cons k ks ih =>
   intro vs O μ K h
   induction k with
   | none => exact h.elim
   | some k => induction vs using PC with
     | nil => exact h.elim
     | cons v vs => exact S.evb h fun a μ O h => S.evb h fun b μ O h => (ih h).elim fun zz h => vK h fun l μ O h => zL h fun x h => ⟨O, h⟩
set_option tactic.hygienic true in
theorem HA {O : Os} {σ : LE} {l : Expr} {ops : List Uv} {xs : List Expr} {μ : q4} {K : KOv} (h : Iq r W O σ l ops xs μ K) : ∃ O, K (LP r σ l ops xs μ) O := by
 unfold Iq at h
 split at h
 ·rename_i op x
  refine fN h fun h => S.evb h fun a μ O h => S.evb h fun b μ O h => ?_
  unfold Wa
  cases hc : (C8 op && zy a) <;> rw [hc] at h
  ·exact zD h
  ·obtain ⟨O, h⟩ := Fl h
   induction hi : qv μ b with
   | none => rw [hi] at h; exact zD h
   | some d => rw [hi] at h; exact aVb h fun c μ O h => aBb h fun t μ O h => ⟨O, h⟩
 ·exact h.elim
theorem Cu {σ : LE} {es : List Expr} : ∀ {out : Str} {O : Os} {μ : q4} {K : KOv}, Zn W σ es out O μ K -> ∃ O, K (zR r σ out es μ) O := by
 induction es with
 | nil => exact zD
 | cons e es ih =>
   intro out O μ K h
   unfold Zn at h; unfold zR
   induction hp : QZ e with
   | some x =>
     rw [hp] at h
     show ∃ O, K ((VA out x).bind fun out => zR r σ out es μ) O
     unfold VA; rw [if_pos h.1]; exact ih h.2
   | none =>
     rw [hp] at h
     refine zL h fun e h => S.evb h fun v μ O h => zL h fun x h => ?_
     unfold VA; rw [if_pos h.1]; exact ih h.2
theorem Hv {O : Os} {σ : LE} {v : Expr} {lo hi st : Option Expr} {μ : q4} {K : KOv} (h : Nm W O σ v lo hi st μ K) : ∃ O, K (YG r σ v lo hi st μ) O := fW h fun h => S.evb h fun a μ O h => (B9 S h).elim fun zz h => vK h fun l μ O h => (B9 S h).elim fun zz h => vK h fun b μ O h => zD h
theorem Mb {O : Os} {σ : LE} {v i : Expr} {μ : q4} {K : KOv} (h : wIt W O σ v i μ K) : ∃ O, K (qa (r.ev σ v μ) fun a μ => qa (r.ev σ i μ) fun b => zb a b) O := S.evb h fun a μ O h => S.evb h fun b μ O h => zD h
theorem C4 {O : Os} {σ : LE} {v i : Expr} {μ : q4} {K : KOv} (h : Hb W O σ v i μ K) : ∃ O, K (LN r σ v i μ) O := by
 cases i <;> first | exact Hv S h | exact Mb S h
theorem D9 {O : Os} {σ : LE} {ks : List (Option Expr)} {vs : List Expr} {μ : q4} {K : KOv} (h : EY W O σ ks vs μ K) : ∃ O, K (FZ r σ ks vs μ) O := fP h fun h => (GI S h).elim fun zz h => vK h fun l μ O h => zD h
theorem D4 {O : Os} {σ : LE} {op : UY} {es : List Expr} {μ : q4} {K : KOv} (h : Hq W O σ op es μ K) : ∃ O, K (Fx r σ op es μ) O := by
 refine fN h fun h => ?_
 induction h2 : two es with
 | none => rw [h2] at h; exact h.elim
 | some q => rw [h2] at h; exact S.evb h fun a μ O h => aBb h fun t μ O h => fCm h (fun h => ⟨O, h⟩) S.ev
theorem MR {O : Os} {σ : LE} {es : List Expr} {μ : q4} {K : KOv} (h : wJn W O σ es μ K) : ∃ O, K ((if 2 <= es.length then zR r σ PE es else fun zz => none) μ) O := by
 unfold wJn at h
 by_cases hl : 2 <= es.length
 ·rw [if_pos hl] at h ⊢; exact Cu S h
 ·rw [if_neg hl] at h; exact h.elim
omit S in
theorem NW {α β : Type} {o : Option α} {O : Os} {K : Option β -> Os -> Prop} {f : α -> Prop} {g : α -> β} (h : oW o O K f) (k : ∀ a, f a -> ∃ O, K (some (g a)) O) : ∃ O, K (o.map g) O := by
 induction o with
 | none => exact ⟨O, h⟩
 | some a => exact k a h
theorem IE {O : Os} {σ : LE} {o : Expr} {name : Str} {μ : q4} {K : KOv} (h : MO W O σ o name μ K) : ∃ O, K (FS r σ o name μ) O := fW h fun h => S.evb h fun a μ O h => zD h
theorem Lx {O : Os} {σ : LE} {ifs : List Expr} {μ : q4} {K : KOb} (h : Mj W O σ ifs μ K) : ∃ O, K (zY r σ ifs μ) O := by
 induction ifs using PC with
 | nil => exact ⟨O, h⟩
 | cons c cs => exact fWm h (JQ S)
theorem IY {O : Os} {σ : LE} {target iter : Expr} {μ : q4} {K : PR (Src × Nat) -> Os -> Prop} (h : I4 W O σ target iter μ K) : ∃ O, K (vn r σ target iter μ) O := by
 unfold I4 at h; unfold vn
 cases ha : (yb iter).filter (fun q => q.1 == ("enumerate" : Str)) with
 | some q => rw [ha] at h; exact fW h fun h => S.evb h fun v μ O h => zL h fun n h => (M0 h).elim fun zz h => NW h fun l h => ⟨_, h⟩
 | none => rw [ha] at h; exact S.evb h fun v μ O h => (Ml h).elim fun zz h => NW h fun q h => ⟨_, h⟩
theorem NO {O : Os} {σ : LE} {elt : Expr} {gens : List TQ} {sc : Um} {μ : q4} {K : KOv} (h : wLC r W O σ elt gens sc μ K) : ∃ O, K (eLC r σ elt gens sc μ) O := zL h fun g h => fP h fun h => fN h fun h => (IY S h).elim fun zz h => vK h fun q μ O h => zD h
theorem CD {O : Os} {σ : LE} {e : Expr} {μ : q4} {K : KOv} (h : EI r W O σ e μ K) : ∃ O, K (Jn r σ e μ) O := by
 cases e with
 | Constant c k p => exact ⟨O, h⟩
 | Name x p => exact DX h
 | Tuple es c p => exact fN h fun h => wLb S h fun vs μ O h => fP h fun h => ⟨O, h⟩
 | List es p => exact fN h fun h => wLb S h fun vs μ O h => zD h
 | Dict ks vs p => exact D9 S h
 | BinOp l op x p => exact S.evb h fun a μ O h => S.evb h fun b μ O h => zD h
 | UnaryOp op x p => exact ⟨O, h⟩
 | BoolOp op es p => exact D4 S h
 | Compare l ops xs p => exact HA S h
 | IfExp t b o p => exact (JQ S h).elim fun zz h => vK h fun c μ O h => fCm h S.ev S.ev
 | Subscript v i p => exact C4 S h
 | Attribute o name p => exact IE S h
 | JoinedStr es p => exact MR S h
 | Call f args kws pos =>
   cases f with
   | Attribute o name apos => exact GN S h
   | Name f p => exact fWm h (FJ S)
   | _ => exact h.elim
 | ListComp elt gens sc p => exact NO S h
 | _ => exact h.elim
omit S in
theorem Jf {O : Os} {σ : LE} {x : Str} {v : PV} {μ : q4} {K : KOs} (h : B5 O σ x v μ K) : ∃ O, K (kQ σ x v μ) O := zL h fun zz h => ⟨O, h⟩
omit S in
theorem FC {σ : LE} {m : PR PV} {O : Os} {K : KOs} (h : aV m O fun m O => bS σ m O K fun zz μ O => K (some (.ok .next, σ, μ)) O) : ∃ O, K (qC σ m fun zz => zg σ .next) O := (zD h).elim fun zz h => Ct h fun zz μ O h => ⟨O, h⟩
omit S in
theorem Dz {O : Os} {σ : LE} {a k v : PV} {μ : q4} {K : KOs} (h : H8 r O σ a k v μ K) : ∃ O, K (Gq r σ a k v μ) O := by
 refine zL h fun x h => (Fl h).elim fun O h => ?_
 induction hi : qv μ a with
 | some d => rw [hi] at h; exact FC h
 | none =>
   rw [hi] at h
   obtain ⟨O, h⟩ := FC h
   refine ⟨O, ?_⟩
   unfold XL at h
   induction h1 : jr a with
   | none => rw [h1] at h; exact h
   | some n => rw [h1] at h; rw [PK] at h ⊢; induction h2 : qe μ n with
     | none => rw [h2] at h; exact h
     | some l => rw [h2] at h; rw [PK] at h ⊢; by_cases h3 : l.length + 1 <= Pr
                 ·rw [if_pos h3] at h ⊢; exact h
                 ·rw [if_neg h3] at h ⊢; exact h
theorem DS {O : Os} {σ : LE} {o i e : Expr} {μ : q4} {K : KOs} (h : ES r W O σ o i e μ K) : ∃ O, K (FO r σ o i e μ) O := S.evs h fun v μ O h => S.evs h fun a μ O h => S.evs h fun k μ O h => Dz h
omit S in
theorem Eg {σ : LE} {a v : PV} {μ : q4} : (qC σ (Vf a v μ) fun zz => zg σ .next) = ga σ a v μ := by
 unfold Vf ga
 induction jr a with
 | none => rfl
 | some n => induction jr v with
   | none => rfl
   | some m => rw [PK, PK, PK, PK]; induction q5 μ n with
     | none => rfl
     | some l₀ => induction q5 μ m with
       | none => rfl
       | some l => rw [PK, PK, PK, PK]; split <;> rfl
theorem Ef {O : Os} {σ : LE} {o e : Expr} {μ : q4} {K : KOs} (h : He W O σ o e μ K) : ∃ O, K (Z0 r σ o e μ) O := S.evs h fun v μ O h => S.evs h fun a μ O h => Eg ▸ FC h
omit S in
theorem Dy {σ : LE} {p v : PV} {name : Str} {μ : q4} : (qC σ (Zo p name v μ) fun zz => zg σ .next) = (qv μ p).bind fun d => (qe μ d).bind fun l => if l.isEmpty then zg σ .next (qj μ d (.dict [(name, v)])) else none := by
 unfold Zo
 induction qv μ p with
 | none => rfl
 | some d => rw [PK, PK]; induction qe μ d with
   | none => rfl
   | some l => rw [PK, PK]; split <;> rfl
theorem Cr {O : Os} {σ : LE} {y name : Str} {e : Expr} {μ : q4} {K : KOs} (h : Hd W O σ y name e μ K) : ∃ O, K (Ve r σ y name e μ) O := fW h fun h => S.evs h fun v μ O h => zL h fun p h => Dy ▸ FC h
omit S in
theorem VN {e : Expr} {q : Expr × Expr} (h : V6 e = some q) : ∃ p, e = .Subscript q.1 q.2 p := by cases e <;> first | exact no h | exact ⟨_, by rw [<- qk h]⟩
theorem Ih {O : Os} {σ : LE} {ts : List Expr} {μ : q4} {K : KOs} {q : Expr × Expr} (hq : (one ts).bind V6 = some q) (h : Nk r W O σ q.1 q.2 μ K) : ∃ O, K (Im r σ ts μ) O := by
 obtain ⟨t, h1, h2⟩ := bnd hq
 obtain ⟨p, rfl⟩ := VN h2
 unfold Im; rw [h1]
 exact S.evs h fun a μ O h => S.evs h fun k μ O h => (Fl h).elim fun zz h => zL h fun zz h => fW h FC
theorem Li {O : Os} {σ : LE} {ts : List Expr} {e : Expr} {μ : q4} {K : KOs} (h : MW W O σ ts e μ K) : ∃ O, K (if ts.any qf then none else qC σ (r.ev σ e μ) (xv σ ts)) O := by
 refine fN h fun h => S.evs h fun v μ O h => ?_
 induction ht : wB v with
 | some l => rw [ht] at h; exact ⟨O, h⟩
 | none =>
   rw [ht] at h
   obtain ⟨O, h⟩ := M0 h
   refine ⟨O, ?_⟩
   unfold xv Za
   rw [ht]
   induction ha : j2 μ v with
   | none => rw [ha] at h; exact h
   | some l =>
     rw [ha] at h
     have h : K (I1 σ ts l μ) O := h
     unfold I1 at h
     dsimp only [PK]
     by_cases h1 : l.length = 1 /\ ts.length = 2
     ·rw [if_pos h1] at h ⊢; exact h
     ·rw [if_neg h1] at h ⊢; by_cases h2 : l.length = ts.length
      ·rw [if_pos h2] at h ⊢; induction h3 : vR σ ts l with
       | none => rw [h3] at h; exact h
       | some σ' => rw [h3] at h; exact h
      ·rw [if_neg h2] at h ⊢; exact h
theorem D8 {O : Os} {σ : LE} {ts es : List Expr} {μ : q4} {K : KOs} (h : Hm W O σ ts es μ K) : ∃ O, K (F0 r σ ts es μ) O := zL h fun t h => zL h fun q h => zL h fun x h => zL h fun y h => fW h fun h => S.evs h fun v μ O h => S.evs h fun u μ O h => zL h fun σ h => Jf h
theorem Iz {O : Os} {σ : LE} {ts : List Expr} {e : Expr} {μ : q4} {K : KOs} (h : Nw W O σ ts e μ K) : ∃ O, K (Bp r σ ts e μ) O := by
 cases e <;> first | exact D8 S h | exact Li S h
theorem Eh {O : Os} {σ : LE} {o i e : Expr} {μ : q4} {K : KOs} (h : EU r W O σ o i e μ K) : ∃ O, K (Mr r σ o i e μ) O := by
 cases i <;> first | exact fW h (Ef S) | exact DS S h
theorem C3 {O : Os} {σ : LE} {t e : Expr} {μ : q4} {K : KOs} (h : Hs r W O σ t e μ K) : ∃ O, K (XD r σ t e μ) O := by
 cases t with
 | Name x p => exact fN h fun h => S.evs h fun v μ O h => Jf h
 | Tuple ts c p => exact Iz S h
 | Attribute o name p => exact zL h fun y h => Cr S h
 | Subscript o i p => exact Eh S h
 | _ => exact h.elim
theorem M1 {O : Os} {σ : LE} {ts : List Expr} {e : Expr} {μ : q4} {K : KOs} (h : NP r W O σ ts e μ K) : ∃ O, K (I3 r σ ts e μ) O := by
 induction ts using PC with
 | nil => exact h.elim
 | cons t ts =>
   induction ts using PC with
   | nil => exact C3 S h
   | cons u us => exact fW h fun h => zL h fun x h => zL h fun y h => S.evs h fun v μ O h => zL h fun σ h => Jf h
theorem IW {O : Os} {σ : LE} {target iter : Expr} {body : List Sf} {μ : q4} {K : KOs} (h : HH r W O σ target iter body μ K) : ∃ O, K (F8 r σ target iter body μ) O := by
 unfold HH at h; unfold F8
 induction ha : xA iter with
 | some q => rw [ha] at h; exact fW h fun h => S.evs h fun v μ O h => M4 h
 | none => rw [ha] at h; exact fN h fun h => S.evs h fun v μ O h => (Ml h).elim fun zz h => zL h fun q h => M4 h
theorem Ex {O : Os} {σ : LE} {st : Sf} {μ : q4} {K : KOs} (h : Fm r W O σ st μ K) : ∃ O, K (wI r σ st μ) O := by
 cases st with
 | Expr e p => exact fN h fun h => S.evs h fun v μ O h => fW h fun h => ⟨O, h⟩
 | Return e p => exact zL h fun e h => S.evs h fun v μ O h => ⟨O, h⟩
 | Continue p => exact ⟨O, h⟩
 | Assign ts e p => exact M1 S h
 | Delete ts p =>
   unfold Fm at h
   dsimp only at h
   induction hq : (one ts).bind V6 with
   | none => rw [hq] at h; exact h.elim
   | some q => rw [hq] at h; exact Ih S hq h
 | AugAssign t op e p =>
   refine zL h fun x h => (Ir h).elim fun zz h => zL h fun old h => S.evs h fun v μ O h => fW h fun h => ?_
   induction ha : qx old with
   | none => rw [ha] at h; exact h.elim
   | some a => rw [ha] at h; induction hb : qx v with
     | none => rw [hb] at h; exact h.elim
     | some b => rw [hb] at h; exact (zD h).elim fun zz h => Ct h fun u μ O h => Jf h
 | If t b o p => exact (JQ S h).elim fun zz h => Ct h fun c μ O h => fC h S.ex S.ex
 | For target iter body o p => exact fW h (IW S)
 | Raise e c p => exact ⟨O, h⟩
 | Try body hs o f p =>
   refine fW h fun h => (S.ex h).elim fun O h => ?_
   show ∃ O, K (Kf r σ body hs μ) O
   unfold Kf
   induction hm : r.ex σ body μ with
   | none => rw [hm] at h; exact ⟨O, h⟩
   | some q =>
     rw [hm] at h
     obtain ⟨q, σ₁, μ₁⟩ := q
     induction q with
     | ok f => exact ⟨O, h⟩
     | error x => exact fN h M4
 | _ => exact h.elim
theorem FU {b : List Sf} : ∀ {O μ K} {σ : LE}, XU r W σ b O μ K -> ∃ O, K (zw r σ b μ) O := by
 induction b with
 | nil => exact fun {O μ K σ} h => ⟨O, h⟩
 | cons st rest ih =>
   intro O μ K σ h
   obtain ⟨O, h⟩ := Ex S h
   unfold zw
   induction hm : wI r σ st μ with
   | none => rw [hm] at h; exact ⟨O, h⟩
   | some q =>
     rw [hm] at h
     obtain ⟨q, σ₁, μ₁⟩ := q
     induction q with
     | error x => exact ⟨O, h⟩
     | ok f => induction f with
       | next => exact ih h
       | _ => exact ⟨O, h⟩
end
theorem DB (ft : FT) (n k : Nat) : WS (evN ft (n + k)) (wN ft n k) := by
 induction k with
 | zero => exact ⟨fun h => ⟨_, h⟩, fun h => ⟨_, h⟩⟩
 | succ k ih => exact ⟨CD ih, FU ih⟩
inductive jt where
 | d
 | c {P : Prop} (h : P)
 | a (o : Orc) {P : Prop} (h : P)
noncomputable def jt.os : List jt -> Os
 | [] => []
 | f :: F => match f with
   | .d => .d :: jt.os F
   | .c _ => jt.os F
   | .a o _ => o :: jt.os F
noncomputable def jt.all (p : Prop) : List jt -> Prop
 | [] => p
 | f :: F => match f with
   | .d => jt.all p F
   | .c (P := P) _ => P /\ jt.all p F
   | .a _ (P := P) _ => P /\ jt.all p F
noncomputable abbrev fV {m x : PR PV} (h : m = x) : jt := .a (.v x) h
noncomputable abbrev fT {m x : PR Bool} (h : m = x) : jt := .a (.b x) h
noncomputable abbrev fS {m x : SR'} (h : m = x) : jt := .a (.s x) h
noncomputable abbrev fG {m : Option PV} {p : PV} (h : m = some p) : jt := .a (.n p) h
noncomputable abbrev fI {m x : Option Nat} (h : m = x) : jt := .a (.i x) h
noncomputable abbrev fL {m : Option (List PV)} {x : List PV} (h : m = some x) : jt := .a (.l x) h
noncomputable abbrev fR {m : Option (Src × Nat)} {x : Src × Nat} (h : m = some x) : jt := .a (.r x) h
theorem jt.get (F : List jt) {p : Prop} (h : p) : jt.all p F := by
 induction F with
 | nil => exact h
 | cons f F ih => induction f with
   | d => exact ih
   | c h' => exact ⟨h', ih⟩
   | a o h' => exact ⟨h', ih⟩
theorem qm {ft : FT} {n k : Nat} {σ : LE} {b : List Sf} {μ : q4} {R : SR'} (F : List jt) (h : jt.all (R = R) F = (wN ft n k).ex (jt.os F) σ b μ fun m zz => m = R) : (evN ft (n + k)).ex σ b μ = R :=
 let ⟨_, h⟩ := (DB ft n k).ex (h ▸ jt.get F rfl); h
theorem y5 {ft : FT} {n k : Nat} {σ : LE} {e : Expr} {μ : q4} {R : PR PV} (F : List jt) (h : jt.all (R = R) F = (wN ft n k).ev (jt.os F) σ e μ fun m zz => m = R) : (evN ft (n + k)).ev σ e μ = R :=
 let ⟨_, h⟩ := (DB ft n k).ev (h ▸ jt.get F rfl); h
theorem Qw {ft : FT} {n k : Nat} {σ : LE} {e : List Expr} {μ : q4} {R : PR Bool} (F : List jt) (h : jt.all (R = R) F = Mj (wN ft n k) (jt.os F) σ e μ fun m zz => m = R) : zY (evN ft (n + k)) σ e μ = R :=
 let ⟨_, h⟩ := Lx (DB ft n k) (h ▸ jt.get F rfl); h
noncomputable def G4 (ft : FT) (W : WEv) (O : Os) (a : PD) (vs : List PV) (kw : Loc) (μ : q4) (K : KOv) : Prop := match (ft a).bind fun f => (jG a f vs kw μ).map fun b => (f.body, b) with
 | some (b, σ, μ) => W.ex O σ b μ fun m O => K (zX m) O
 | none => False
theorem jv {ft : FT} {n k : Nat} {a : PD} {vs : List PV} {kw : Loc} {μ : q4} {R : PR PV} (F : List jt) (h : jt.all (R = R) F = G4 ft (wN ft n k) (jt.os F) a vs kw μ fun m zz => m = R) : (evN ft (n + (k + 1))).call a vs kw μ = R := by
 have h : G4 ft (wN ft n k) (jt.os F) a vs kw μ fun m zz => m = R := h ▸ jt.get F rfl
 show ((ft a).bind fun f => (jG a f vs kw μ).bind fun b => zX ((evN ft (n + k)).ex b.1 f.body b.2)) = R
 unfold G4 at h
 induction hf : ft a with
 | none => rw [hf] at h; exact h.elim
 | some f =>
   rw [hf, PK] at h
   induction hb : jG a f vs kw μ with
   | none => rw [hb] at h; exact h.elim
   | some b =>
     rw [hb] at h
     obtain ⟨_, h⟩ := (DB ft n k).ex h
     rw [PK, hb]; exact h
noncomputable def qo (a : PD) : Fn := (ftT a).getD ⟨[], [], none, [], []⟩
noncomputable def stP : Sf -> Option (Nat × Expr × List Sf)
 | .For t _ b _ _ => some (1, t, b)
 | .Return e _ => e.map fun e => (0, e, [])
 | .Assign _ e _ => some (2, e, [])
 | .Expr e _ => some (3, e, [])
 | _ => none
noncomputable def pick (k i : Nat) (b : List Sf) : Expr × List Sf := ((((b.filterMap stP).filter fun q => q.1 == k)[i]?).map fun q => q.2).getD (.Constant .none 0 ⟨0, 0, 0, 0⟩, [])
noncomputable abbrev xO (b : List Sf) : Expr := (pick 1 0 b).1
noncomputable abbrev qR (b : List Sf) : List Sf := (pick 1 0 b).2
noncomputable abbrev Iy (b : List Sf) : Expr := (pick 0 0 b).1
noncomputable abbrev Op (i : Nat) (b : List Sf) : Expr := (pick 2 i b).1
noncomputable def DQ : Expr -> Option (Expr × List TQ × Um)
 | .ListComp e g s _ => some (e, g, s)
 | _ => none
noncomputable abbrev lcE (e : Expr) : Expr := ((DQ e).map fun q => q.1).getD e
noncomputable abbrev lcN (e : Expr) : List (Str × Sm) := ((DQ e).map fun q => q.2.2.names).getD []
noncomputable abbrev qu (e : Expr) : Expr := ((DQ e).bind fun q => (one q.2.1).map fun g => g.target).getD e
noncomputable abbrev qD (e : Expr) : List Expr := ((DQ e).bind fun q => (one q.2.1).map fun g => g.ifs).getD []
noncomputable abbrev qn (a : PD) : List (Str × Sm) := (qo a).sc
theorem qX {n : Nat} {a : PD} {vs : List PV} {kw : Loc} {μ μ₁ : q4} {σ : LE} (hf : (ftT a).isSome = true) (hb : jG a (qo a) vs kw μ = some (σ, μ₁)) :
 (evN ftT (n + 2)).call a vs kw μ = zX ((evN ftT (n + 1)).ex σ (qo a).body μ₁) := by
 obtain ⟨f, hf⟩ := Se.mp hf
 have e : qo a = f := by unfold qo; rw [hf]; rfl
 show yt ftT _ a vs kw μ = _
 unfold yt
 rw [hf]
 rw [e] at hb ⊢
 show (jG a f vs kw μ).bind _ = _
 rw [hb]; rfl
theorem zF {μ : q4} {x : Str} (h : Pz x = true) : jd μ (.str x) = some (.str x) := by
 have e : (Ao x).canLay0 = Pz x := rfl
 show (if (Ao x).canLay0 && decide ((Ao x).depth <= 64) then _ else _) = _
 rw [e, h]; rfl
theorem Vg {μ : q4} {a b : Str} (ha : Pz a = true) (hb : Pz b = true) : peq μ (.str a) (.str b) = some (a == b) := by
 unfold peq
 rw [zF ha, zF hb]; rfl
theorem j1 {x : Str} {μ : q4} (h : x.length <= Pr) : yx x μ = some (.ok (.str x), μ) := by
 unfold yx; rw [if_pos h]; rfl
theorem jh {l : List PV} {μ : q4} (h : l.length <= Pr) : jp l μ = some (.ok (.loc μ.length), μ ++ [.list l]) := by
 unfold jp; rw [if_pos h]; rfl
theorem gb {μ : q4} {c : q8} : (μ ++ [c])[μ.length]? = some c := List.getElem?_concat_length ..
theorem q6 {μ : q4} {l : List PV} : q5 (μ ++ [.list l]) μ.length = some l := by unfold q5; rw [gb]; rfl
theorem ji {μ : q4} {m : Nat} {l : List PV} (h : q5 μ m = some l) : qv μ (.loc m) = none := by
 show (μ[m]?).bind xz = none
 have h : (μ[m]?).bind kB = some l := h
 induction hc : μ[m]? with
 | none => rfl
 | some c => rw [hc] at h; cases c <;> first | rfl | exact no h
theorem jf {μ : q4} {m : Nat} {l : List PV} (h : q5 μ m = some l) : j2 μ (.loc m) = some l := h
theorem xe {μ : q4} {l : List PV} : qv (μ ++ [.list l]) (.loc μ.length) = none := ji q6
theorem zC {μ : q4} {l : List PV} : j2 (μ ++ [.list l]) (.loc μ.length) = some l := q6
theorem XS {μ : q4} {m : Nat} {l : List PV} {v : PV} (h : q5 μ m = some l) (hl : l.length + 1 <= Pr) : j0 (.loc m) "append" [v] μ = some (.ok .none, qj μ m (.list (l ++ [v]))) := by
 show ye m v μ = _
 unfold ye; rw [h]; exact if_pos hl
theorem GY {μ : q4} {l : List PV} {v : PV} (hl : l.length + 1 <= Pr) : j0 (.loc μ.length) "append" [v] (μ ++ [.list l]) = some (.ok .none, μ ++ [.list (l ++ [v])]) := by
 rw [XS q6 hl, wb]
theorem ju {a b : Str} {μ : q4} (h : (a ++ b).length <= Pr) : kZ .Add (.str a) (.str b) μ = some (.ok (.str (a ++ b)), μ) := j1 h
theorem gz {c : Nat} (h : c < 0x110000) : Pz ⟨#[c]⟩ = true := by
 show (#[c].all fun x => decide (x < 0x110000)) = true
 rw [bh]
 intro i hi
 have : i = 0 := c7.mp hi
 subst this
 exact decide_eq_true h
theorem yN {a b : Str} {μ : q4} {t : Bool} (ha : Pz a = true) (hb : Pz b = true) (h : (a == b) = t) : qZ .Eq (.str a) (.str b) μ = some (.ok (.bool t), μ) := by
 show (peq μ (.str a) (.str b)).map _ = _
 rw [Vg ha hb, h]; rfl
theorem Hc {c d : Nat} : ((⟨#[c]⟩ : Str) == ⟨#[d]⟩) = decide (c = d) := by
 by_cases h : c = d
 ·subst h; rw [decide_eq_true rfl]; exact beq_self_eq_true _
 ·rw [decide_eq_false h]; exact beq_eq_false_iff_ne.mpr fun e => h (by cases e; rfl)
theorem Qq {c d : Nat} {μ : q4} (h : c = d) (hc : c < 0x110000) : qZ .Eq (.str ⟨#[c]⟩) (.str ⟨#[d]⟩) μ = some (.ok (.bool true), μ) := yN (gz hc) (gz (h ▸ hc)) (Hc.trans (decide_eq_true h))
theorem Qf {c d : Nat} {μ : q4} (h : c ≠ d) (hc : c < 0x110000) (hd : d < 0x110000) : qZ .Eq (.str ⟨#[c]⟩) (.str ⟨#[d]⟩) μ = some (.ok (.bool false), μ) := yN (gz hc) (gz hd) (Hc.trans (decide_eq_false h))
theorem ZP {x : Str} {μ : q4} (h : x.length = 0) : tru (.str x) μ = some (.ok false, μ) := by
 show some (Rs (decide (x.length ≠ 0)), μ) = _
 rw [decide_eq_false (not_not_intro h)]
theorem vx {x : Str} {μ : q4} (h : x.length ≠ 0) : tru (.str x) μ = some (.ok true, μ) := by
 show some (Rs (decide (x.length ≠ 0)), μ) = _
 rw [decide_eq_true h]
theorem Ga {r : Ev} {src : Src} {target : Expr} {body : List Sf} {N : Nat} {α : Type} (S : α -> LE) (M : α -> q4) (P : Nat -> α -> Prop) (Q : SR' -> Prop)
 (step : ∀ i a, i < N -> P i a -> ∃ v σ', xq src i (M a) = some (some v) /\ qt (S a) target v = some σ' /\
   ((∃ f a', (f = .next \/ f = .cont) /\ r.ex σ' body (M a) = some (.ok f, S a', M a') /\ P (i + 1) a') \/ (∃ x σ₁ μ₁, r.ex σ' body (M a) = some (.error x, σ₁, μ₁) /\ Q (some (.error x, σ₁, μ₁))) \/ (∃ p σ₁ μ₁, r.ex σ' body (M a) = some (.ok (.ret p), σ₁, μ₁) /\ Q (some (.ok (.ret p), σ₁, μ₁)))))
 (fin : ∀ a, P N a -> xq src N (M a) = some none /\ Q (some (.ok .next, S a, M a))) (k : Nat) : ∀ i a, k + i = N + 1 -> i <= N -> P i a -> Q (zJ r src target body k i (S a) (M a)) := by
 induction k with
 | zero => intro i a h1 h2; exact absurd h2 (by lia)
 | succ k ih =>
   intro i a h1 h2 h
   unfold zJ
   by_cases hi : i < N
   ·obtain ⟨v, σ', a1, a2, a3⟩ := step i a hi h
    rw [a1]
    show Q ((qt (S a) target v).bind _)
    rw [a2]
    rcases a3 with ⟨f, a', hf, b1, b2⟩ | ⟨x, σ₁, μ₁, b1, b2⟩ | ⟨x, σ₁, μ₁, b1, b2⟩ <;> (dsimp only [PK]; rw [b1])
    ·have := ih (i + 1) a' (by lia) hi b2
     rcases hf with rfl | rfl <;> exact this
    ·exact b2
    ·exact b2
   ·have e : i = N := by lia
    subst e
    obtain ⟨a1, a2⟩ := fin a h
    rw [a1]; exact a2
theorem xw {r : Ev} {src : Src} {target : Expr} {body : List Sf} {N : Nat} {α : Type} {S : α -> LE} {M : α -> q4} {P : Nat -> α -> Prop} {Q : SR' -> Prop} {a : α}
 (step : ∀ i a, i < N -> P i a -> ∃ v σ', xq src i (M a) = some (some v) /\ qt (S a) target v = some σ' /\
   ((∃ f a', (f = .next \/ f = .cont) /\ r.ex σ' body (M a) = some (.ok f, S a', M a') /\ P (i + 1) a') \/ (∃ x σ₁ μ₁, r.ex σ' body (M a) = some (.error x, σ₁, μ₁) /\ Q (some (.error x, σ₁, μ₁))) \/ (∃ p σ₁ μ₁, r.ex σ' body (M a) = some (.ok (.ret p), σ₁, μ₁) /\ Q (some (.ok (.ret p), σ₁, μ₁)))))
 (fin : ∀ a, P N a -> xq src N (M a) = some none /\ Q (some (.ok .next, S a, M a))) (h : P 0 a) : Q (zJ r src target body (N + 1) 0 (S a) (M a)) := Ga S M P Q step fin (N + 1) 0 a rfl (Rj _) h
theorem qV {r : Ev} {src : Src} {target elt : Expr} {ifs : List Expr} {α : Type} {l : List α} {μ : q4} {Inv : LE -> Prop} {f : α -> PV} {g : α -> Bool} (V : α -> PV) (hn : ∀ i, xq src i μ = some ((l[i]?).map V))
 (h : ∀ σ v, Inv σ -> v ∈ l -> ∃ σ', qt σ target (V v) = some σ' /\ Inv σ' /\ zY r σ' ifs μ = some (.ok (g v), μ) /\ (g v = true -> r.ev σ' elt μ = some (.ok (f v), μ))) (k : Nat) :
 ∀ (i : Nat) (σ : LE), Inv σ -> k + i = l.length + 1 -> i <= l.length -> zV r src target ifs elt k i σ μ = some (.ok (((l.drop i).filter g).map f), μ) := by
 induction k with
 | zero => intro i σ _ h1 h2; exact absurd h2 (by lia)
 | succ k ih =>
   intro i σ hI h1 h2
   unfold zV
   rw [hn]
   by_cases hi : i < l.length
   ·obtain ⟨σ', a1, a2, a3, a4⟩ := h σ l[i] hI (Rx hi)
    rw [PW hi]
    show (qt σ target (V l[i])).bind _ = _
    rw [a1]
    show qa (zY r σ' ifs μ) _ = _
    have hr := ih (i + 1) σ' a2 (by lia) hi
    rw [a3, S9 hi, filter_cons]
    show (if g l[i] = true then _ else _) = _
    by_cases hg : g l[i] = true
    ·rw [if_pos hg, if_pos hg, a4 hg]
     show qa (zV r src target ifs elt k (i + 1) σ' μ) _ = _
     rw [hr]; rfl
    ·rw [if_neg hg, if_neg hg]; exact hr
   ·have e : i = l.length := by lia
    subst e
    rw [RC (PJ _), TD]; rfl
theorem qA {r : Ev} {σ : LE} {elt target : Expr} {ifs : List Expr} {q : Src × Nat} {μ μ' : q4} {ys : List PV} (h : zV r q.1 target ifs elt q.2 0 σ μ = some (.ok ys, μ')) (hl : ys.length <= Pr) : qG r σ elt target ifs q μ = some (.ok (.loc μ'.length), μ' ++ [.list ys]) := by
 unfold qG; rw [h]; exact jh hl
theorem qK {μ : q4} {m : Nat} {l : List PV} (h : q5 μ m = some l) : zW (.loc m) μ = some (.list m, l.length + 1) := by
 show (q5 μ m).map _ = _
 rw [h]; rfl
theorem qF {μ : q4} {m : Nat} {α : Type} {l : List α} {V : α -> PV} (h : q5 μ m = some (l.map V)) (i : Nat) : xq (.list m) i μ = some ((l[i]?).map V) := by
 show (q5 μ m).map _ = _
 rw [h, Ay, SV]
noncomputable def ch (c : Nat) : Str := ⟨#[c]⟩
structure PM' where
 l : List Str
 p : Str
 e : Bool
 q : Bool
noncomputable def yB (s : PM') (c : Nat) : PM' :=
 if s.e = true then ⟨s.l, s.p ++ ch c, false, s.q⟩
 else if s.q = true then (if c = 92 then ⟨s.l, s.p, true, s.q⟩ else if c = 34 then ⟨s.l, s.p ++ ch c, s.e, false⟩ else ⟨s.l, s.p ++ ch c, s.e, s.q⟩)
 else if c = 44 then ⟨s.l ++ [s.p], PE, s.e, s.q⟩
 else if c = 34 then ⟨s.l, s.p ++ ch c, s.e, true⟩
 else ⟨s.l, s.p ++ ch c, s.e, s.q⟩
noncomputable def xo (s : PM') : List Nat -> PM'
 | [] => s
 | c :: cs => xo (yB s c) cs
noncomputable def m0 : PM' := ⟨[], PE, false, false⟩
noncomputable def Kj (s : PM') : List Str := (if s.p.length = 0 then s.l else s.l ++ [s.p]).map RT
noncomputable def qH (x : Str) : List Str := Kj (xo m0 x.cps.toList)
noncomputable def YN (x : Str) (m : Nat) (s : PM') (t : Loc) : Loc := ("s", .str x) :: ("res", .loc m) :: ("part", .str s.p) :: ("escape", .bool s.e) :: ("quote", .bool s.q) :: t
noncomputable abbrev ls (l : List Str) : q8 := .list (l.map .str)
theorem Ln {l : List Str} {p : Str} : .list (l.map .str ++ [.str p]) = ls (l ++ [p]) := (congrArg q8.list (Rt (f := PV.str) (l₁ := l) (l₂ := [p]))).symm
noncomputable abbrev T43 (n : Nat) (x : Str) (c : Nat) (μ : q4) (f : j9) (s s' : PM') : Prop := (evN ftT (n + 9)).ex ⟨qn 43, YN x μ.length s [("cur", .str ⟨#[c]⟩)]⟩ (qR (qo 43).body) (μ ++ [ls s.l]) = some (.ok f, ⟨qn 43, YN x μ.length s' [("cur", .str ⟨#[c]⟩)]⟩, μ ++ [ls s'.l])
theorem Yr {μ : q4} {l : List Str} {v : Str} (hl : l.length + 1 <= Pr) : j0 (.loc μ.length) "append" [.str v] (μ ++ [ls l]) = some (.ok .none, μ ++ [ls (l ++ [v])]) := by
 rw [GY (by rw [PH]; exact hl), Ln]
section
variable {n : Nat} {x : Str} {c : Nat} {μ : q4} {l : List Str} {p : Str} {q : Bool} (hc : c < 0x110000)
theorem E5 (hp : (p ++ ch c).length <= Pr) : T43 n x c μ .cont ⟨l, p, true, q⟩ ⟨l, p ++ ch c, false, q⟩ := by
 exact qm [fV (j1 (μ := μ ++ [ls (PM'.l (PM'.mk l p true q))]) hp)] (by kernel_rfl)
include hc
theorem Ek (h : c = 92) : T43 n x c μ .cont ⟨l, p, false, true⟩ ⟨l, p, true, true⟩ := by
 exact qm [fV (Qq (μ := μ ++ [ls (PM'.l (PM'.mk l p false true))]) h hc)] (by kernel_rfl)
theorem Da (hp : (p ++ ch c).length <= Pr) (h1 : c ≠ 92) (h : c = 34) : T43 n x c μ .cont ⟨l, p, false, true⟩ ⟨l, p ++ ch c, false, false⟩ := by
 exact qm [fV (Qf (μ := μ ++ [ls (PM'.l (PM'.mk l p false true))]) h1 hc (by decide)), fV (Qq (μ := μ ++ [ls (PM'.l (PM'.mk l p false true))]) h hc), fV (j1 (μ := μ ++ [ls (PM'.l (PM'.mk l p false true))]) hp)] (by kernel_rfl)
theorem HS (hp : (p ++ ch c).length <= Pr) (h1 : c ≠ 92) (h : c ≠ 34) : T43 n x c μ .cont ⟨l, p, false, true⟩ ⟨l, p ++ ch c, false, true⟩ := by
 exact qm [fV (Qf (μ := μ ++ [ls (PM'.l (PM'.mk l p false true))]) h1 hc (by decide)), fV (Qf (μ := μ ++ [ls (PM'.l (PM'.mk l p false true))]) h hc (by decide)), fV (j1 (μ := μ ++ [ls (PM'.l (PM'.mk l p false true))]) hp)] (by kernel_rfl)
theorem HY (hl : l.length + 1 <= Pr) (h : c = 44) : T43 n x c μ .cont ⟨l, p, false, false⟩ ⟨l ++ [p], PE, false, false⟩ := by
 exact qm [fV (Qq (μ := μ ++ [ls (PM'.l (PM'.mk l p false false))]) h hc), fI (xe (μ := μ) (l := Rm PV.str (PM'.l (PM'.mk l p false false)))), fL (zC (μ := μ) (l := Rm PV.str (PM'.l (PM'.mk l p false false)))), fV (Yr (μ := μ) (v := PM'.p (PM'.mk l p false false)) hl)] (by kernel_rfl)
theorem IU (hp : (p ++ ch c).length <= Pr) (h1 : c ≠ 44) (h : c = 34) : T43 n x c μ .next ⟨l, p, false, false⟩ ⟨l, p ++ ch c, false, true⟩ := by
 exact qm [fV (Qf (μ := μ ++ [ls (PM'.l (PM'.mk l p false false))]) h1 hc (by decide)), fV (Qq (μ := μ ++ [ls (PM'.l (PM'.mk l p false false))]) h hc), fV (j1 (μ := μ ++ [ls (PM'.l (PM'.mk l p false false))]) hp)] (by kernel_rfl)
theorem Oi (hp : (p ++ ch c).length <= Pr) (h1 : c ≠ 44) (h : c ≠ 34) : T43 n x c μ .next ⟨l, p, false, false⟩ ⟨l, p ++ ch c, false, false⟩ := by
 exact qm [fV (Qf (μ := μ ++ [ls (PM'.l (PM'.mk l p false false))]) h1 hc (by decide)), fV (Qf (μ := μ ++ [ls (PM'.l (PM'.mk l p false false))]) h hc (by decide)), fV (j1 (μ := μ ++ [ls (PM'.l (PM'.mk l p false false))]) hp)] (by kernel_rfl)
theorem IJ {s : PM'} (hl : s.l.length + 1 <= Pr) (hp : s.p.length + 1 <= Pr) : ∃ f, (f = .next \/ f = .cont) /\ T43 n x c μ f s (yB s c) := by
 obtain ⟨l, p, e, q⟩ := s
 have hp' : (p ++ ch c).length <= Pr := by rw [PL]; exact hp
 induction e with
 | true => exact ⟨.cont, .inr rfl, E5 hp'⟩
 | false =>
   induction q with
   | true =>
     show ∃ f, _ /\ T43 n x c μ f _ (if c = 92 then _ else if c = 34 then _ else _)
     by_cases h : c = 92
     ·rw [if_pos h]; exact ⟨.cont, .inr rfl, Ek hc h⟩
     ·rw [if_neg h]
      by_cases h' : c = 34
      ·rw [if_pos h']; exact ⟨.cont, .inr rfl, Da hc hp' h h'⟩
      ·rw [if_neg h']; exact ⟨.cont, .inr rfl, HS hc hp' h h'⟩
   | false =>
     show ∃ f, _ /\ T43 n x c μ f _ (if c = 44 then _ else if c = 34 then _ else _)
     by_cases h : c = 44
     ·rw [if_pos h]; exact ⟨.cont, .inr rfl, HY hc hl h⟩
     ·rw [if_neg h]
      by_cases h' : c = 34
      ·rw [if_pos h']; exact ⟨.next, .inl rfl, IU hc hp' h h'⟩
      ·rw [if_neg h']; exact ⟨.next, .inl rfl, Oi hc hp' h h'⟩
end
structure PI (s : PM') (i : Nat) : Prop where
 l : s.l.length <= i
 p : s.p.length <= i
 m : ∀ y ∈ s.l, y.length <= i
theorem PI.step {s : PM'} {i c : Nat} (h : PI s i) : PI (yB s c) (i + 1) := by
 have hp : (s.p ++ ch c).length <= i + 1 := by rw [PL]; exact Rb h.p
 have hm : ∀ y ∈ s.l, y.length <= i + 1 := fun y q => Ru (h.m y q)
 have hl := Ru h.l
 have h1 : ∀ e q, PI ⟨s.l, s.p ++ ch c, e, q⟩ (i + 1) := fun zz zz => ⟨hl, hp, hm⟩
 unfold yB
 split
 ·exact h1 _ _
 ·split
  ·split
   ·exact ⟨hl, Ru h.p, hm⟩
   ·split <;> exact h1 _ _
  ·split
   ·refine ⟨?_, Rj _, fun y q => ?_⟩
    ·rw [PB]; exact Rb h.l
    ·rcases PT.mp q with q | q
     ·exact hm y q
     ·rw [Pw.mp q]; exact Ru h.p
   ·split <;> exact h1 _ _
noncomputable def tOf : Option PV -> Loc
 | none => []
 | some v => [("cur", v)]
theorem N3 {x : Str} {m : Nat} {s : PM'} {t : Option PV} {v : PV} : qt ⟨qn 43, YN x m s (tOf t)⟩ (xO (qo 43).body) v = some ⟨qn 43, YN x m s [("cur", v)]⟩ := by
 cases t <;> kernel_rfl
structure P43 (x : Str) (i : Nat) (a : PM' × Option PV) : Prop where
 r : xo a.1 (x.cps.toList.drop i) = xo m0 x.cps.toList
 p : PI a.1 i
noncomputable abbrev S43 (x : Str) (μ : q4) (a : PM' × Option PV) : LE := ⟨qn 43, YN x μ.length a.1 (tOf a.2)⟩
noncomputable abbrev M43 (μ : q4) (a : PM' × Option PV) : q4 := μ ++ [ls a.1.l]
theorem M6 {x : Str} {i : Nat} {μ : q4} (h : i < x.cps.toList.length) : xq (.str x) i μ = some (some (.str ⟨#[x.cps.toList[i]]⟩)) := by
 show some ((x.cps[i]?).map _) = _
 rw [<- AE, PW h]; rfl
theorem Cg {x : Str} {μ : q4} : xq (.str x) x.length μ = some none := by
 show some ((x.cps[x.length]?).map _) = _
 rw [show x.cps[x.length]? = none from Array.getElem?_eq_none (PJ _)]; rfl
theorem L1 {n : Nat} {x : Str} {μ : q4} (hx : ∀ c ∈ x.cps.toList, c < 0x110000) (hlen : x.length + 1 <= Pr) : ∃ a, P43 x x.length a /\ zJ (evN ftT (n + 9)) (.str x) (xO (qo 43).body) (qR (qo 43).body) (x.length + 1) 0 (S43 x μ (m0, none)) (M43 μ (m0, none)) = some (.ok .next, S43 x μ a, M43 μ a) := by
 have hsz : x.cps.toList.length = x.length := TK
 refine xw (P := P43 x) (Q := fun R => ∃ a, P43 x x.length a /\ R = some (.ok .next, S43 x μ a, M43 μ a)) (fun i a hi h => ?_) (fun a h => ⟨Cg, a, h, rfl⟩) ⟨rfl, PJ _, PJ _, fun zz h => nomatch h⟩
 have hi' : i < x.cps.toList.length := hsz ▸ hi
 have hr := h.r
 rw [S9 hi'] at hr
 have hl : i + 1 <= Pr := Pq (Rb (Tf hi)) hlen
 obtain ⟨f, hf, he⟩ := IJ (n := n) (x := x) (μ := μ) (s := a.1) (hx _ (Rx hi')) (Pq (Rb h.p.l) hl) (Pq (Rb h.p.p) hl)
 exact ⟨_, _, M6 hi', N3, .inl ⟨f, (yB a.1 x.cps.toList[i], some _), hf, he, hr, h.p.step⟩⟩
theorem Ke (x : Str) (h : x.length <= Pr) : (RT x).length <= Pr := by
 unfold RT bH
 split
 ·exact h
 ·exact fits_stripped _ _ _ h
theorem zB {α : Type} (l : List α) : l.filter (fun zz => true) = l := ax.mpr fun zz zz => rfl
noncomputable abbrev e43 : Expr := Iy (qo 43).body
theorem zu {x : Str} {p : PV} {l : Loc} : Sg x (upd l x p) = some p := by rw [j3, if_pos rfl]
theorem jM {x y : Str} {p : PV} {l : Loc} (h : (x == y) = false) : Sg x (upd l y p) = Sg x l := by rw [j3, if_neg (by intro e; rw [e] at h; exact absurd (beq_self_eq_true y) (h ▸ Te))]
theorem Oh {n : Nat} {y : Str} {μ : q4} {vs vs' : Loc} (hv : vs'.lookup ("part" : Str) = some (.str y)) (h2 : j0 (.str y) "strip" [] μ = some (.ok (.str (RT y)), μ)) : (evN ftT (n + 3)).ev ⟨(LE.comp ⟨qn 43, vs⟩ (lcN e43)).sc, vs'⟩ (lcE e43) μ = some (.ok (.str (RT y)), μ) := by
 exact y5 [fG (hv), fV (h2)] (by kernel_rfl)
theorem KY {n : Nat} {vs : Loc} {l : List Str} {μ : q4} {m : Nat} (hm : q5 μ m = some (l.map .str)) (hl : l.length <= Pr) (hs : ∀ y ∈ l, y.length <= Pr) :
 qG (evN ftT (n + 3)) (LE.comp ⟨qn 43, vs⟩ (lcN e43)) (lcE e43) (qu e43) (qD e43) (.list m, (l.map PV.str).length + 1) μ = some (.ok (.loc μ.length), μ ++ [ls (l.map RT)]) := by
 have h := qV (r := evN ftT (n + 3)) (target := qu e43) (elt := lcE e43) (ifs := qD e43) (f := fun y => .str (RT y)) (g := fun zz => true) (Inv := fun σ => ∃ vs', σ = ⟨(LE.comp ⟨qn 43, vs⟩ (lcN e43)).sc, vs'⟩) PV.str (qF hm) (by
  rintro _ y ⟨vs', rfl⟩ hy
  exact ⟨⟨_, upd vs' "part" (.str y)⟩, by kernel_rfl, ⟨_, rfl⟩, by kernel_rfl, fun zz => Oh zu (j1 (Ke y (hs y hy)))⟩) ((l.map PV.str).length + 1) 0 (LE.comp ⟨qn 43, vs⟩ (lcN e43)) ⟨_, rfl⟩ (by rw [PH]) (Rj _)
 rw [zB, Ad] at h
 refine (qA h (by rw [PH]; exact hl)).trans ?_
 unfold ls; rw [Su]; rfl
theorem ON : (ftT 43).isSome = true := by kernel_rfl
theorem I6 {v : PV} {μ : q4} : jG 43 (qo 43) [v] [] μ = some (⟨qn 43, [("s", v)]⟩, μ) := by kernel_rfl
theorem GB {n : Nat} {x : Str} {μ : q4} (hx : ∀ c ∈ x.cps.toList, c < 0x110000) (hlen : x.length + 1 <= Pr) :
 ∃ L, (evN ftT (n + 12)).call 43 [.str x] [] μ = some (.ok (.loc (μ.length + 1)), μ ++ [.list L] ++ [ls (qH x)]) := by
 obtain ⟨⟨s, t⟩, hI, hloop⟩ := L1 (n := n + 1) (μ := μ) hx hlen
 have hs : s = xo m0 x.cps.toList := by
  have h := hI.r
  rwa [show x.cps.toList.drop x.length = [] from List.drop_of_length_le (TA TK)] at h
 have hl1 : s.l.length + 1 <= Pr := Pq (Rb hI.p.l) hlen
 have hm : ∀ y ∈ s.l, y.length <= Pr := fun y hy => Pq (hI.p.m y hy) (RL hlen)
 have hp : s.p.length <= Pr := Pq hI.p.p (RL hlen)
 rw [qX ON I6]
 unfold qH Kj
 rw [<- hs]
 clear hs hI
 by_cases h0 : s.p.length = 0
 ·rw [if_pos h0]
  have hc := KY (n := n + 6) (vs := YN x μ.length s (tOf t)) (l := s.l) (μ := μ ++ [ls s.l]) (m := μ.length) q6 (RL hl1) hm
  have hsr : zW (.loc μ.length) (μ ++ [ls s.l]) = some (.list μ.length, (s.l.map PV.str).length + 1) := qK q6
  have hr : (evN ftT (n + 11)).ex ⟨qn 43, [("s", .str x)]⟩ (qo 43).body μ = some (.ok (.ret (.loc (μ ++ [ls s.l]).length)), S43 x μ (s, t), μ ++ [ls s.l] ++ [ls (s.l.map RT)]) := by
   exact qm [fS (hloop), fT (ZP (μ := M43 μ (s, t)) h0), fR (hsr), fV (hc)] (by kernel_rfl)
  rw [hr, PB]; exact ⟨_, rfl⟩
 ·rw [if_neg h0]
  have hl : (s.l ++ [s.p]).length <= Pr := by rw [PB]; exact hl1
  have hc := KY (n := n + 6) (vs := YN x μ.length s (tOf t)) (l := s.l ++ [s.p]) (μ := μ ++ [ls (s.l ++ [s.p])]) (m := μ.length) q6 hl fun y hy => (PT.mp hy).elim (hm y) fun q => Pw.mp q ▸ hp
  have hsr : zW (.loc μ.length) (μ ++ [ls (s.l ++ [s.p])]) = some (.list μ.length, ((s.l ++ [s.p]).map PV.str).length + 1) := qK q6
  have ha : j0 (.loc μ.length) "append" [.str s.p] (μ ++ [ls s.l]) = some (.ok .none, μ ++ [ls (s.l ++ [s.p])]) := Yr hl1
  have hr : (evN ftT (n + 11)).ex ⟨qn 43, [("s", .str x)]⟩ (qo 43).body μ = some (.ok (.ret (.loc (μ ++ [ls (s.l ++ [s.p])]).length)), S43 x μ (s, t), μ ++ [ls (s.l ++ [s.p])] ++ [ls ((s.l ++ [s.p]).map RT)]) := by
   exact qm [fS (hloop), fT (vx (μ := M43 μ (s, t)) h0), fI (xe (μ := μ) (l := Rm PV.str (PM'.l (RN (s, t))))), fL (zC (μ := μ) (l := Rm PV.str (PM'.l (RN (s, t))))), fV (ha), fR (hsr), fV (hc)] (by kernel_rfl)
  rw [hr, PB]; exact ⟨_, rfl⟩
theorem le1 : 1 <= Pr := by decide
theorem GT : 2 <= Pr := by decide
noncomputable def sp (x : Str) : List Str := Tz x "=" 1
theorem KD {x : Str} {μ : q4} (hx : x.length <= 16000000) (hl : (sp x).length <= Pr) : jV x "split" [.str "=", .int 1] μ = some (.ok (.loc μ.length), μ ++ [ls (sp x)]) := by
 show (if decide (16000000 < x.length) = true then none else jp ((sp x).map .str) μ) = _
 rw [decide_eq_false (Sh.mpr hx)]
 exact jh (by rw [PH]; exact hl)
theorem V3 {v : Str} {i : Nat} (hok : Pz v = true) : v.cps.getD i 0 < 0x110000 := by
 have hok : (v.cps.all fun x => decide (x < 0x110000)) = true := hok
 rw [Array.getD_eq_getD_getElem?]
 induction h : v.cps[i]? with
 | none => exact Nat.zero_lt_succ _
 | some c =>
   obtain ⟨hi, he⟩ := Tt.mp h
   exact he ▸ of_decide_eq_true (bh.mp hok i hi)
noncomputable def unq (v : Str) : Str := if v.cps.getD 0 0 = 34 /\ v.cps.getD (v.length - 1) 0 = 34 then UC v (some 1) (some (-1)) else v
theorem Ks {v : Str} {μ : q4} (h : v.length ≠ 0) : zb (.str v) (.int 0) μ = some (.ok (.str ⟨#[v.cps.getD 0 0]⟩), μ) := if_neg h
theorem Hp {v : Str} {μ : q4} (h : v.length = 0) : zb (.str v) (.int 0) μ = some (.error xH, μ) := if_pos h
theorem CY {v : Str} {μ : q4} (h : v.length ≠ 0) : zb (.str v) (.int (-1)) μ = some (.ok (.str ⟨#[v.cps.getD (v.length - 1) 0]⟩), μ) := if_neg h
theorem y9 {μ J : q4} {c : q8} : (μ ++ c :: J)[μ.length]? = some c := by rw [Rn (PJ _), Ss]; rfl
theorem xa {μ J : q4} {d : Loc} : qv (μ ++ .dict d :: J) (.loc μ.length) = none := by
 show ((μ ++ .dict d :: J)[μ.length]?).bind xz = none
 rw [y9]; rfl
theorem VM {μ J : q4} {d : Loc} {k : Str} {v : PV} (h : d.length + 1 <= Pr) : XL (.loc μ.length) k v (μ ++ .dict d :: J) = some (.ok .none, μ ++ .dict (qU d k v) :: J) := by
 show (((μ ++ .dict d :: J)[μ.length]?).bind wD).bind _ = _
 rw [y9]
 refine (if_pos h).trans ?_
 unfold qj; rw [SP _ _ (PJ _), Ss]; rfl
noncomputable def t38 : Option (PV × PV × PV) -> Loc
 | none => []
 | some q => [("elt", q.1), ("k", q.2.1), ("v", q.2.2)]
noncomputable abbrev S38 (a D : Nat) (t : Loc) : LE := ⟨qn 38, ("l", .loc a) :: ("parsed", .loc D) :: t⟩
section
variable {n a : Nat} {μ J : q4} {d : Loc} {s x k v : Str}
theorem JZ (hs : s.length <= 16000000) (hl : (sp s).length <= Pr) : jV s "split" [.str "=", .int 1] (μ ++ .dict d :: J) = some (.ok (.loc (μ ++ .dict d :: J).length), μ ++ .dict d :: (J ++ [ls (sp s)])) := by
 rw [KD hs hl, PF]; rfl
theorem xL {l : List Str} : j2 (μ ++ .dict d :: (J ++ [ls l])) (.loc (μ ++ .dict d :: J).length) = some (l.map .str) := by
 have h : μ ++ .dict d :: (J ++ [ls l]) = μ ++ .dict d :: J ++ [ls l] := by rw [PF]; rfl
 rw [h]; exact zC
noncomputable abbrev T38 (n a : Nat) (s : Str) (μ J : q4) (d : Loc) (t : Option (PV × PV × PV)) : SR' := (evN ftT (n + 9)).ex (S38 a μ.length (upd (t38 t) "elt" (.str s))) (qR (qo 38).body) (μ ++ .dict d :: J)
theorem DZ {t : Option (PV × PV × PV)} (hs : s.length <= 16000000) (hsp : sp s = [x]) : T38 n a s μ J d t = some (.error wT, S38 a μ.length (upd (t38 t) "elt" (.str s)), μ ++ .dict d :: (J ++ [ls [x]])) := by
 have h1 := JZ (μ := μ) (J := J) (d := d) hs (hsp ▸ le1)
 rw [hsp] at h1
 cases t
 ·exact qm [fV (h1), fL (xL (μ := μ) (J := J) (d := d) (l := [x]))] (by kernel_rfl)
 ·exact qm [fV (h1), fL (xL (μ := μ) (J := J) (d := d) (l := [x]))] (by kernel_rfl)
theorem De {t : Option (PV × PV × PV)} (hs : s.length <= 16000000) (hsp : sp s = [k, v]) (h0 : v.length = 0) : T38 n a s μ J d t = some (.error xH, S38 a μ.length (t38 (some (.str s, .str k, .str v))), μ ++ .dict d :: (J ++ [ls [k, v]])) := by
 have h1 := JZ (μ := μ) (J := J) (d := d) hs (hsp ▸ GT)
 rw [hsp] at h1
 cases t
 ·exact qm [fV (h1), fL (xL (μ := μ) (J := J) (d := d) (l := [k, v])), fV (Hp (μ := μ ++ q8.dict d :: (J ++ [ls [k, v]])) h0)] (by kernel_rfl)
 ·exact qm [fV (h1), fL (xL (μ := μ) (J := J) (d := d) (l := [k, v])), fV (Hp (μ := μ ++ q8.dict d :: (J ++ [ls [k, v]])) h0)] (by kernel_rfl)
theorem IP {t : Option (PV × PV × PV)} (hs : s.length <= 16000000) (hsp : sp s = [k, v]) (h0 : v.length ≠ 0) (hok : Pz v = true) (hsl : (UC v (some 1) (some (-1))).length <= Pr) (hd : d.length + 1 <= Pr) : T38 n a s μ J d t = some (.ok .next, S38 a μ.length (t38 (some (.str s, .str k, .str (unq v)))), μ ++ .dict (qU d k (.str (unq v))) :: (J ++ [ls [k, v]])) := by
 have h1 := JZ (μ := μ) (J := J) (d := d) hs (hsp ▸ GT)
 rw [hsp] at h1
 have c1 : v.cps.getD 0 0 < 0x110000 := V3 hok
 have c2 : v.cps.getD (v.length - 1) 0 < 0x110000 := V3 hok
 have h2 : wM (.str v) (some (.int 1)) (some (.int (-1))) (μ ++ .dict d :: (J ++ [ls [k, v]])) = some (.ok (.str (UC v (some 1) (some (-1)))), μ ++ .dict d :: (J ++ [ls [k, v]])) := j1 hsl
 unfold unq
 by_cases q1 : v.cps.getD 0 0 = 34
 ·by_cases q2 : v.cps.getD (v.length - 1) 0 = 34
  ·rw [if_pos ⟨q1, q2⟩]
   cases t
   ·exact qm [fV (h1), fL (xL (μ := μ) (J := J) (d := d) (l := [k, v])), fV (Ks (μ := μ ++ q8.dict d :: (J ++ [ls [k, v]])) h0), fV (Qq (μ := μ ++ q8.dict d :: (J ++ [ls [k, v]])) q1 c1), fV (CY (μ := μ ++ q8.dict d :: (J ++ [ls [k, v]])) h0), fV (Qq (μ := μ ++ q8.dict d :: (J ++ [ls [k, v]])) q2 c2), fV (h2), fI (xa (μ := μ) (J := J ++ [ls [k, v]]) (d := d)), fV (VM (μ := μ) (J := J ++ [ls [k, v]]) (k := k) (v := PV.str (UC v (some 1) (some (-1)))) hd)] (by kernel_rfl)
   ·exact qm [fV (h1), fL (xL (μ := μ) (J := J) (d := d) (l := [k, v])), fV (Ks (μ := μ ++ q8.dict d :: (J ++ [ls [k, v]])) h0), fV (Qq (μ := μ ++ q8.dict d :: (J ++ [ls [k, v]])) q1 c1), fV (CY (μ := μ ++ q8.dict d :: (J ++ [ls [k, v]])) h0), fV (Qq (μ := μ ++ q8.dict d :: (J ++ [ls [k, v]])) q2 c2), fV (h2), fI (xa (μ := μ) (J := J ++ [ls [k, v]]) (d := d)), fV (VM (μ := μ) (J := J ++ [ls [k, v]]) (k := k) (v := PV.str (UC v (some 1) (some (-1)))) hd)] (by kernel_rfl)
  ·rw [if_neg fun h => q2 h.2]
   cases t
   ·exact qm [fV (h1), fL (xL (μ := μ) (J := J) (d := d) (l := [k, v])), fV (Ks (μ := μ ++ q8.dict d :: (J ++ [ls [k, v]])) h0), fV (Qq (μ := μ ++ q8.dict d :: (J ++ [ls [k, v]])) q1 c1), fV (CY (μ := μ ++ q8.dict d :: (J ++ [ls [k, v]])) h0), fV (Qf (μ := μ ++ q8.dict d :: (J ++ [ls [k, v]])) q2 c2 (by decide)), fI (xa (μ := μ) (J := J ++ [ls [k, v]]) (d := d)), fV (VM (μ := μ) (J := J ++ [ls [k, v]]) (k := k) (v := PV.str v) hd)] (by kernel_rfl)
   ·exact qm [fV (h1), fL (xL (μ := μ) (J := J) (d := d) (l := [k, v])), fV (Ks (μ := μ ++ q8.dict d :: (J ++ [ls [k, v]])) h0), fV (Qq (μ := μ ++ q8.dict d :: (J ++ [ls [k, v]])) q1 c1), fV (CY (μ := μ ++ q8.dict d :: (J ++ [ls [k, v]])) h0), fV (Qf (μ := μ ++ q8.dict d :: (J ++ [ls [k, v]])) q2 c2 (by decide)), fI (xa (μ := μ) (J := J ++ [ls [k, v]]) (d := d)), fV (VM (μ := μ) (J := J ++ [ls [k, v]]) (k := k) (v := PV.str v) hd)] (by kernel_rfl)
 ·rw [if_neg fun h => q1 h.1]
  cases t
  ·exact qm [fV (h1), fL (xL (μ := μ) (J := J) (d := d) (l := [k, v])), fV (Ks (μ := μ ++ q8.dict d :: (J ++ [ls [k, v]])) h0), fV (Qf (μ := μ ++ q8.dict d :: (J ++ [ls [k, v]])) q1 c1 (by decide)), fI (xa (μ := μ) (J := J ++ [ls [k, v]]) (d := d)), fV (VM (μ := μ) (J := J ++ [ls [k, v]]) (k := k) (v := PV.str v) hd)] (by kernel_rfl)
  ·exact qm [fV (h1), fL (xL (μ := μ) (J := J) (d := d) (l := [k, v])), fV (Ks (μ := μ ++ q8.dict d :: (J ++ [ls [k, v]])) h0), fV (Qf (μ := μ ++ q8.dict d :: (J ++ [ls [k, v]])) q1 c1 (by decide)), fI (xa (μ := μ) (J := J ++ [ls [k, v]]) (d := d)), fV (VM (μ := μ) (J := J ++ [ls [k, v]]) (k := k) (v := PV.str v) hd)] (by kernel_rfl)
end
noncomputable def kq : List Str -> Loc -> Except Exn (Loc)
 | [], d => .ok d
 | s :: r, d => match two (sp s) with
   | some q => if q.2.length = 0 then .error xH else kq r (qU d q.1 (.str (unq q.2)))
   | none => .error wT
structure zU (s : Str) : Prop where
 l : s.length <= 16000000
 s : (∃ x, sp s = [x]) \/ ∃ k v, sp s = [k, v] /\ v.length <= 16000000 /\ Pz v = true
theorem XB {d : Loc} {k : Str} {v : PV} : (qU d k v).length <= d.length + 1 := by
 unfold qU
 split
 ·rw [PH]; exact U4 _
 ·exact TA PB
theorem jO {μ J : q4} {a : Nat} (h : a < μ.length) : (μ ++ J)[a]? = μ[a]? := RB h
theorem wP {μ ν : q4} {a : Nat} (h : ν[a]? = μ[a]?) : q5 ν a = q5 μ a := congrArg (·.bind kB) h
theorem qc {μ J : q4} {a : Nat} {l : List PV} (h : q5 μ a = some l) : q5 (μ ++ J) a = some l := by
 obtain ⟨c, hc, hl⟩ := bnd h
 exact (wP (jO (R0.mp hc).1)).trans h
structure A38 where
 t : Option (PV × PV × PV)
 J : q4
 d : Loc
structure P38 (items : List Str) (i : Nat) (a : A38) : Prop where
 k : kq (items.drop i) a.d = kq items []
 l : a.d.length <= i
inductive Q38 (items : List Str) (a : Nat) (μ : q4) : SR' -> Prop where
 | ok (b : A38) (h : kq items [] = .ok b.d) : Q38 items a μ (some (.ok .next, S38 a μ.length (t38 b.t), μ ++ .dict b.d :: b.J))
 | er (x : Exn) (σ' : LE) (J : q4) (h : kq items [] = .error x) : Q38 items a μ (some (.error x, σ', μ ++ J))
theorem Nc {l : LE} {o : Option (PV × PV × PV)} {a D : Nat} {v : PV} : qt (S38 a D (t38 o)) (xO (qo 38).body) v = some (S38 a D (upd (t38 o) "elt" v)) := by
 cases o <;> kernel_rfl
theorem BO {v : Str} (h : v.length <= 16000000) : (UC v (some 1) (some (-1))).length <= Pr := Pq (Txt.slice_le v (some 1) (some (-1))) (Pq h (by decide))
theorem Ip {n a : Nat} {items : List Str} {μ : q4} (hm : q5 μ a = some (items.map .str)) (hit : ∀ s ∈ items, zU s) (hlen : items.length <= Pr) :
 Q38 items a μ (zJ (evN ftT (n + 9)) (.list a) (xO (qo 38).body) (qR (qo 38).body) ((items.map PV.str).length + 1) 0 (S38 a μ.length []) (μ ++ [.dict []])) := by
 rw [PH]
 refine xw (N := items.length) (S := fun b : A38 => S38 a μ.length (t38 b.t)) (M := fun b => μ ++ .dict b.d :: b.J) (P := P38 items) (Q := Q38 items a μ) (a := ⟨none, [], []⟩) (fun i b hi h => ?_) (fun b h => ⟨?_, .ok b ?_⟩) ⟨rfl, Rj _⟩
 ·have hk := h.k
  rw [S9 hi] at hk
  have hb := hit _ (Rx hi)
  have hg : xq (.list a) i (μ ++ .dict b.d :: b.J) = some (some (.str items[i])) := by rw [qF (qc hm), PW hi]; rfl
  refine ⟨_, _, hg, Nc (l := S38 a a []), ?_⟩
  rcases hb.s with ⟨x, hsp⟩ | ⟨k, v, hsp, hvl, hok⟩
  ·refine .inr (.inl ⟨_, _, _, DZ hb.l hsp, .er _ _ _ ?_⟩)
   rw [<- hk]; unfold kq; rw [hsp]; rfl
  ·by_cases h0 : v.length = 0
   ·refine .inr (.inl ⟨_, _, _, De hb.l hsp h0, .er _ _ _ ?_⟩)
    rw [<- hk]; unfold kq; rw [hsp]; exact if_pos h0
   ·refine .inl ⟨_, ⟨some _, _, _⟩, .inl rfl, IP hb.l hsp h0 hok (BO hvl) (Pq (Rb h.l) (Pq hi hlen)), ?_, Pq XB (Rb h.l)⟩
    rw [<- hk]; symm; conv => lhs; unfold kq
    rw [hsp]; exact if_neg h0
 ·rw [qF (qc hm), RC (PJ _)]; rfl
 ·have hk := h.k
  rw [TD] at hk
  exact hk.symm
theorem Oo : (ftT 38).isSome = true := by kernel_rfl
theorem La {v : PV} {μ : q4} : jG 38 (qo 38) [v] [] μ = some (⟨qn 38, [("l", v)]⟩, μ) := by kernel_rfl
theorem Fk {μ : q4} : (if ((([] : Loc)).map (·.1)).Nodup /\ (qe (μ ++ [.dict []]) μ.length).any (·.isEmpty) = true then some (.ok (.loc μ.length), qj (μ ++ [.dict []]) μ.length (.dict [])) else none : PR PV) = some (.ok (.loc μ.length), μ ++ [.dict []]) := by
 rw [wb]
 refine if_pos ⟨UL, ?_⟩
 unfold qe; rw [gb]; rfl
theorem Ia {n a : Nat} {items : List Str} {μ : q4} (hm : q5 μ a = some (items.map .str)) (hit : ∀ s ∈ items, zU s) (hlen : items.length <= Pr) :
 (∃ e J, kq items [] = .ok e /\ (evN ftT (n + 12)).call 38 [.loc a] [] μ = some (.ok (.loc μ.length), μ ++ .dict e :: J)) \/ (∃ x J, kq items [] = .error x /\ (evN ftT (n + 12)).call 38 [.loc a] [] μ = some (.error { x with here := false }, μ ++ J)) := by
 have hl := Ip (n := n + 1) hm hit hlen
 have hs : zW (.loc a) (μ ++ [.dict []]) = some (.list a, (items.map PV.str).length + 1) := qK (qc hm)
 rw [qX Oo La]
 generalize hR : zJ _ _ _ _ _ _ _ _ = R at hl
 induction hl with
 | ok b hk =>
   have hr : (evN ftT (n + 11)).ex ⟨qn 38, [("l", .loc a)]⟩ (qo 38).body μ = some (.ok (.ret (.loc μ.length)), S38 a μ.length (t38 b.t), μ ++ .dict b.d :: b.J) := by
    exact qm [fV (Fk (μ := μ)), fR (hs), fS (hR)] (by kernel_rfl)
   rw [hr]; exact .inl ⟨_, _, hk, rfl⟩
 | er x σ' J hk =>
   have hr : (evN ftT (n + 11)).ex ⟨qn 38, [("l", .loc a)]⟩ (qo 38).body μ = some (.error x, σ', μ ++ J) := by
    exact qm [fV (Fk (μ := μ)), fR (hs), fS (hR)] (by kernel_rfl)
   rw [hr]; exact .inr ⟨_, _, hk, rfl⟩
noncomputable def bad (b : Bool) (v : Str) : Bool := v.cps.toList.any (if b = true then Xq else QD)
noncomputable def OW (b : Bool) : PD := if b = true then 53 else 58
theorem sea {b t : Bool} {v : Str} {μ : q4} (h : bad b v = t) : vo (.val (.ref (OW b))) (.str v) μ = some (.ok t, μ) := by
 cases b <;> exact h ▸ rfl
theorem O3 : (ftT 88).isSome = true := by kernel_rfl
theorem EC {o v b : PV} {μ : q4} : jG 88 (qo 88) [o, v] [("name", b)] μ = some (⟨qn 88, [("self", o), ("value", v), ("name", b)]⟩, μ) := by kernel_rfl
section
variable {n : Nat} {o : PV} {v : Str} {b : Bool} {μ : q4}
theorem jx (h : bad b v = false) : (evN ftT (n + 9)).call 88 [o, .str v] [("name", .bool b)] μ = some (.ok (.str v), μ) := by
 have hs := sea (μ := μ) h
 rw [qX O3 EC]
 have hr : ∃ vs, (evN ftT (n + 8)).ex ⟨qn 88, [("self", o), ("value", .str v), ("name", .bool b)]⟩ (qo 88).body μ = some (.ok (.ret (.str v)), vs, μ) := by
  cases b
  ·refine ⟨⟨qn 88, [("self", o), ("value", .str v), ("name", .bool false), ("regex", .val (.ref 58))]⟩, ?_⟩
   exact qm [.d, .d, .d, .d, .d, .d, .d, fT (hs)] (by kernel_rfl)
  ·refine ⟨⟨qn 88, [("self", o), ("value", .str v), ("name", .bool true), ("regex", .val (.ref 53))]⟩, ?_⟩
   exact qm [.d, .d, .d, .d, .d, .d, .d, fT (hs)] (by kernel_rfl)
 obtain ⟨vs, hr⟩ := hr
 rw [hr]; rfl
theorem Zg (h : bad b v = true) : (evN ftT (n + 9)).call 88 [o, .str v] [("name", .bool b)] μ = some (.error { gL with here := false }, μ) := by
 have hs := sea (μ := μ) h
 rw [qX O3 EC]
 have hr : ∃ vs, (evN ftT (n + 8)).ex ⟨qn 88, [("self", o), ("value", .str v), ("name", .bool b)]⟩ (qo 88).body μ = some (.error gL, vs, μ) := by
  cases b
  ·refine ⟨⟨qn 88, [("self", o), ("value", .str v), ("name", .bool false), ("regex", .val (.ref 58))]⟩, ?_⟩
   exact qm [.d, .d, .d, .d, .d, .d, .d, fT (hs)] (by kernel_rfl)
  ·refine ⟨⟨qn 88, [("self", o), ("value", .str v), ("name", .bool true), ("regex", .val (.ref 53))]⟩, ?_⟩
   exact qm [.d, .d, .d, .d, .d, .d, .d, fT (hs)] (by kernel_rfl)
 obtain ⟨vs, hr⟩ := hr
 rw [hr]; rfl
end
noncomputable def row (kv : Str × Str) : PV := .tup [.str kv.1, .str kv.2]
structure Tab (μ : q4) (T d H : Nat) (rows : Ps) : Prop where
 i : qv μ (.loc T) = some d
 d : qe μ d = some [(("_headers" : Str), .loc H)]
 h : q5 μ H = some (rows.map row)
section
variable {μ J : q4} {T d H : Nat} {rows : Ps} (t : Tab μ T d H rows)
include t
theorem Tab.app : Tab (μ ++ J) T d H rows := by
 obtain ⟨c, hc, hi⟩ := bnd (show (μ[T]?).bind xz = some d from t.i)
 obtain ⟨c', hc', hd⟩ := bnd t.d
 have h1 := jO (J := J) (R0.mp hc).1
 have h2 := jO (J := J) (R0.mp hc').1
 exact ⟨(congrArg (·.bind xz) h1).trans t.i, (congrArg (·.bind wD) h2).trans t.d, qc t.h⟩
theorem Tab.ok {x : Str} (hx : (("_headers" : Str) == x) = false) : ql μ d x = true := by
 unfold ql; rw [t.d]
 show (!(("_headers" : Str) == x) && true) = true
 rw [hx]; rfl
theorem Tab.attr : BW (.loc T) "_headers" μ = some (.ok (.loc H), μ) := by
 unfold BW; rw [t.i, PK, t.d]; rfl
theorem Tab.src : zW (.loc H) μ = some (.list H, rows.length + 1) := by rw [qK t.h, PH]
end
theorem zt {x : Str} {μ : q4} (h : (Pt x).length <= Pr) : j0 (.str x) "lower" [] μ = some (.ok (.str (Pt x)), μ) := j1 h
theorem jA {t : Bool} {μ : q4} : tru (.bool t) μ = some (.ok t, μ) := rfl
structure KeyOK (k : Str) : Prop where
 l : (Pt k).length <= Pr
 o : Pz (Pt k) = true
structure kW (k : Str) : Prop extends KeyOK k where
 b : bad true (Pt k) = false
noncomputable def NZ : Option PV -> Loc
 | none => []
 | some v => [("kv", v)]
noncomputable abbrev vs2 (T : Nat) (x : Str) : Loc := [("self", .loc T), ("name", .str x)]
noncomputable abbrev kU : Expr := Iy (qo 126).body
noncomputable abbrev F6 (x : Str) (o : Option PV) : LE := ⟨(LE.comp ⟨qn 126, vs2 0 x⟩ (lcN kU)).sc, ("name", .str x) :: NZ o⟩
section
variable {n T d H : Nat} {rows : Ps} {nm x : Str} {kv : Str × Str} {μ : q4}
theorem NV (hk : KeyOK kv.1) (hx : Pz x = true) : zY (evN ftT (n + 6)) (F6 x (some (row kv))) (qD kU) μ = some (.ok (Pt kv.1 == x), μ) := by
 have h1 := zt (μ := μ) hk.l
 have h2 := yN (μ := μ) hk.o hx rfl
 exact Qw [.d, .d, fV (h1), fV (h2), fT (jA (t := Pt (RN kv) == x) (μ := μ))] (by kernel_rfl)
theorem LG : (evN ftT (n + 6)).ev (F6 x (some (row kv))) (lcE kU) μ = some (.ok (.str kv.2), μ) := by
 exact y5 [] (by kernel_rfl)
theorem I0 {o : Option PV} {v : PV} : qt (F6 x o) (qu kU) v = some (F6 x (some v)) := by
 cases o <;> kernel_rfl
theorem Cw (t : Tab μ T d H rows) (hx : Pz x = true) (hr : rows.length <= Pr) (hrl : ∀ kv ∈ rows, KeyOK kv.1) :
 qG (evN ftT (n + 6)) (LE.comp ⟨qn 126, vs2 T x⟩ (lcN kU)) (lcE kU) (qu kU) (qD kU) (.list H, rows.length + 1) μ = some (.ok (.loc μ.length), μ ++ [ls ((rows.filter fun kv => Pt kv.1 == x).map (·.2))]) := by
 have h := qV (r := evN ftT (n + 6)) (target := qu kU) (elt := lcE kU) (ifs := qD kU) (f := fun kv : Str × Str => .str kv.2) (g := fun kv => Pt kv.1 == x) (Inv := fun σ => ∃ o, σ = F6 x o) row (qF t.h)
  (fun σ kv ⟨o, e⟩ hk => ⟨_, e ▸ I0, ⟨_, rfl⟩, NV (hrl kv hk) hx, fun zz => LG⟩) (rows.length + 1) 0 (LE.comp ⟨qn 126, vs2 T x⟩ (lcN kU)) ⟨none, by kernel_rfl⟩ rfl (Rj _)
 refine (qA h ?_).trans ?_
 ·rw [PH]; exact Pq (RY _ _) hr
 ·unfold ls; rw [Su]; rfl
theorem Nt : (ftT 126).isSome = true := by kernel_rfl
theorem Lf {o v : PV} {μ : q4} : jG 126 (qo 126) [o, v] [] μ = some (⟨qn 126, [("self", o), ("name", v)]⟩, μ) := by kernel_rfl
theorem g0 (t : Tab μ T d H rows) (hn : kW nm) (hr : rows.length <= Pr) (hrl : ∀ kv ∈ rows, KeyOK kv.1) :
 (evN ftT (n + 20)).call 126 [.loc T, .str nm] [] μ = some (.ok (.loc μ.length), μ ++ [ls ((rows.filter fun kv => Pt kv.1 == Pt nm).map (·.2))]) := by
 have h1 := zt (μ := μ) hn.l
 have hi := t.i
 have ho : ql μ d "_convert_string_type" = true := t.ok (by decide)
 have h88 := jx (n := n + 8) (o := .loc T) (μ := μ) hn.b
 have ha := t.attr
 have hs := t.src
 have hc := Cw (n := n + 11) t hn.o hr hrl
 rw [qX Nt Lf]
 have hr : (evN ftT (n + 19)).ex ⟨qn 126, vs2 T nm⟩ (qo 126).body μ = some (.ok (.ret (.loc μ.length)), ⟨qn 126, vs2 T (Pt nm)⟩, μ ++ [ls ((rows.filter fun kv => Pt kv.1 == Pt nm).map (·.2))]) := by
  exact qm [fI (hi), .c ho, fV (h1), fV (h88), fV (ha), fR (hs), fV (hc)] (by kernel_rfl)
 rw [hr]; rfl
end
noncomputable def first (rows : Ps) (x : Str) : Option Str := (rows.find? fun kv => Pt kv.1 == x).map fun kv => kv.2
noncomputable def ukv : Option (Str × Str) -> Loc
 | none => []
 | some kv => [("k", .str kv.1), ("v", .str kv.2)]
noncomputable abbrev wH (T : Nat) (x : Str) (dv : PV) (o : Option (Str × Str)) : LE := ⟨qn 134, ("self", .loc T) :: ("name", .str x) :: ("default", dv) :: ukv o⟩
section
variable {n T d H : Nat} {rows : Ps} {nm x : Str} {kv : Str × Str} {μ : q4} {dv : PV}
theorem HK (hk : KeyOK kv.1) (hx : Pz x = true) (h : (Pt kv.1 == x) = true) : (evN ftT (n + 9)).ex (wH T x dv (some kv)) (qR (qo 134).body) μ = some (.ok (.ret (.str kv.2)), wH T x dv (some kv), μ) := by
 have h1 := zt (μ := μ) hk.l
 have h2 := yN (μ := μ) hk.o hx h
 exact qm [fV (h1), fV (h2)] (by kernel_rfl)
theorem LD (hk : KeyOK kv.1) (hx : Pz x = true) (h : (Pt kv.1 == x) = false) : (evN ftT (n + 9)).ex (wH T x dv (some kv)) (qR (qo 134).body) μ = some (.ok .next, wH T x dv (some kv), μ) := by
 have h1 := zt (μ := μ) hk.l
 have h2 := yN (μ := μ) hk.o hx h
 exact qm [fV (h1), fV (h2)] (by kernel_rfl)
theorem HJ {o : Option (Str × Str)} : qt (wH T x dv o) (xO (qo 134).body) (row kv) = some (wH T x dv (some kv)) := by
 cases o <;> kernel_rfl
theorem YY {rows : Ps} : first (kv :: rows) x = if (Pt kv.1 == x) = true then some kv.2 else first rows x := by
 unfold first
 rw [As]
 cases Pt kv.1 == x <;> rfl
theorem Ce (hm : q5 μ H = some (rows.map row)) (hx : Pz x = true) (hrl : ∀ kv ∈ rows, KeyOK kv.1) :
 ∃ o, zJ (evN ftT (n + 9)) (.list H) (xO (qo 134).body) (qR (qo 134).body) (rows.length + 1) 0 (wH T x dv none) μ = some (.ok ((first rows x).elim .next fun v => .ret (.str v)), wH T x dv o, μ) := by
 refine xw (N := rows.length) (S := wH T x dv) (M := fun zz => μ) (P := fun i zz => first (rows.drop i) x = first rows x) (Q := fun R => ∃ o, R = some (.ok ((first rows x).elim .next fun v => .ret (.str v)), wH T x dv o, μ)) (fun i o hi h => ?_) (fun o h => ⟨?_, o, ?_⟩) rfl
 ·rw [S9 hi, YY] at h
  have hk := hrl _ (Rx hi)
  refine ⟨row rows[i], _, ?_, HJ, ?_⟩
  ·rw [qF hm, PW hi]; rfl
  ·induction hq : (Pt rows[i].1 == x) with
   | true =>
     rw [hq] at h
     exact .inr (.inr ⟨_, _, _, HK hk hx hq, _, by rw [<- h]; rfl⟩)
   | false =>
     rw [hq] at h
     exact .inl ⟨_, _, .inl rfl, LD hk hx hq, h⟩
 ·rw [qF hm, RC (PJ _)]; rfl
 ·rw [TD] at h
  rw [<- h]; rfl
theorem EO : (ftT 134).isSome = true := by kernel_rfl
theorem El {o v : PV} {μ : q4} : jG 134 (qo 134) [o, v] [] μ = some (⟨qn 134, [("self", o), ("name", v), ("default", .none)]⟩, μ) := by kernel_rfl
theorem CZ {o v d : PV} {μ : q4} : jG 134 (qo 134) [o, v, d] [] μ = some (⟨qn 134, [("self", o), ("name", v), ("default", d)]⟩, μ) := by kernel_rfl
theorem V7 (t : Tab μ T d H rows) (hn : kW nm) (hrl : ∀ kv ∈ rows, KeyOK kv.1) :
 zX ((evN ftT (n + 19)).ex (wH T nm dv none) (qo 134).body μ) = some (.ok ((first rows (Pt nm)).elim dv .str), μ) := by
 have h1 := zt (μ := μ) hn.l
 have hi := t.i
 have ho : ql μ d "_convert_string_type" = true := t.ok (by decide)
 have h88 := jx (n := n + 8) (o := .loc T) (μ := μ) hn.b
 have ha := t.attr
 have hs := t.src
 obtain ⟨o, hl⟩ := Ce (n := n + 9) (T := T) (dv := dv) t.h hn.o hrl
 induction hf : first rows (Pt nm) with
 | none =>
   rw [hf] at hl
   have hr : (evN ftT (n + 19)).ex (wH T nm dv none) (qo 134).body μ = some (.ok (.ret dv), wH T (Pt nm) dv o, μ) := by
    exact qm [fI (hi), .c ho, fV (h1), fV (h88), fV (ha), fR (hs), fS (hl)] (by kernel_rfl)
   rw [hr]; rfl
 | some v =>
   rw [hf] at hl
   have hr : (evN ftT (n + 19)).ex (wH T nm dv none) (qo 134).body μ = some (.ok (.ret (.str v)), wH T (Pt nm) dv o, μ) := by
    exact qm [fI (hi), .c ho, fV (h1), fV (h88), fV (ha), fR (hs), fS (hl)] (by kernel_rfl)
   rw [hr]; rfl
theorem ZV (t : Tab μ T d H rows) (hn : kW nm) (hrl : ∀ kv ∈ rows, KeyOK kv.1) : (evN ftT (n + 20)).call 134 [.loc T, .str nm] [] μ = some (.ok ((first rows (Pt nm)).elim .none .str), μ) := (qX EO El).trans (V7 t hn hrl)
theorem Bk (t : Tab μ T d H rows) (hn : kW nm) (hrl : ∀ kv ∈ rows, KeyOK kv.1) : (evN ftT (n + 20)).call 134 [.loc T, .str nm, dv] [] μ = some (.ok ((first rows (Pt nm)).elim dv .str), μ) := (qX EO CZ).trans (V7 t hn hrl)
theorem O8 : (ftT 121).isSome = true := by kernel_rfl
theorem LH {o v : PV} {μ : q4} : jG 121 (qo 121) [o, v] [] μ = some (⟨qn 121, [("self", o), ("name", v)]⟩, μ) := by kernel_rfl
theorem Cx (t : Tab μ T d H rows) (hn : kW nm) (hrl : ∀ kv ∈ rows, KeyOK kv.1) : (evN ftT (n + 26)).call 121 [.loc T, .str nm] [] μ = some (.ok (.bool (first rows (Pt nm)).isSome), μ) := by
 have hi := t.i
 have ho : ql μ d "get" = true := t.ok (by decide)
 have hg := ZV (n := n + 2) t hn hrl
 rw [qX O8 LH]
 have hr : (evN ftT (n + 25)).ex (⟨qn 121, vs2 T nm⟩) (qo 121).body μ = some (.ok (.ret (.bool (first rows (Pt nm)).isSome)), ⟨qn 121, vs2 T nm⟩, μ) := by
  induction hf : first rows (Pt nm) with
  | none => rw [hf] at hg; exact qm [fI (hi), .c ho, fV (hg)] (by kernel_rfl)
  | some v => rw [hf] at hg; exact qm [fI (hi), .c ho, fV (hg)] (by kernel_rfl)
 rw [hr]; rfl
end
theorem vU {μ : q4} {H : Nat} {l : List PV} (h : q5 μ H = some l) : μ[H]? = some (.list l) := by
 obtain ⟨c, hc, hl⟩ := bnd h
 rw [hc]
 cases c <;> first | exact no hl | exact congrArg _ (congrArg _ (qk hl))
theorem wi {μ : q4} {D a : Nat} {c : q8} (h : a ≠ D) : (qj μ D c)[a]? = μ[a]? := AL (SN h)
theorem v8 {μ : q4} {D : Nat} {c : q8} (h : D < μ.length) : (qj μ D c)[D]? = some c := by
 unfold qj; rw [Ai h]
theorem gH {μ : q4} {D : Nat} {c : q8} : (qj μ D c).length = μ.length := List.length_set
theorem yK {μ J : q4} {D : Nat} {c : q8} (h : D < μ.length) : qj (μ ++ J) D c = qj μ D c ++ J := List.set_append_left _ _ h
theorem K8 {μ : q4} {D : Nat} {c c' : q8} : qj (qj μ D c) D c' = qj μ D c' := List.set_set ..
noncomputable abbrev rw' (rows : Ps) : q8 := .list (rows.map row)
section
variable {μ J : q4} {T d H : Nat} {rows rows' : Ps} (t : Tab μ T d H rows)
include t
theorem Tab.lt : H < μ.length := (R0.mp (vU t.h)).1
theorem Tab.set : Tab (qj μ H (rw' rows')) T d H rows' := by
 have h := vU t.h
 refine ⟨?_, ?_, ?_⟩
 ·have hT : T ≠ H := fun e => by
   have hi : (μ[T]?).bind xz = some d := t.i
   rw [e, h] at hi; exact no hi
  exact (congrArg (·.bind xz) (wi hT)).trans t.i
 ·have hd : d ≠ H := fun e => by
   have hd : (μ[d]?).bind wD = _ := t.d
   rw [e, h] at hd; exact no hd
  exact (congrArg (·.bind wD) (wi hd)).trans t.d
 ·exact congrArg (·.bind kB) (v8 t.lt)
end
noncomputable def qd (rows : Ps) (x : Str) : Ps := rows.filter fun kv => !(Pt kv.1 == x)
theorem zO {rows : Ps} {x : Str} : (qd rows x).length <= rows.length := RY _ _
noncomputable abbrev kP : Expr := Op 1 (qo 107).body
noncomputable abbrev Bc (x : Str) (o : Option PV) : LE := ⟨(LE.comp ⟨qn 107, vs2 0 x⟩ (lcN kP)).sc, ("name", .str x) :: NZ o⟩
theorem GM {a b : Str} {μ : q4} {t : Bool} (ha : Pz a = true) (hb : Pz b = true) (h : (!(a == b)) = t) : qZ .NotEq (.str a) (.str b) μ = some (.ok (.bool t), μ) := by
 show (peq μ (.str a) (.str b)).map _ = _
 rw [Vg ha hb, <- h]; rfl
section
variable {n T d H : Nat} {rows : Ps} {nm x : Str} {kv : Str × Str} {μ : q4}
theorem Mf (hk : KeyOK kv.1) (hx : Pz x = true) : zY (evN ftT (n + 6)) (Bc x (some (row kv))) (qD kP) μ = some (.ok (!(Pt kv.1 == x)), μ) := by
 have h1 := zt (μ := μ) hk.l
 have h2 := GM (μ := μ) hk.o hx rfl
 exact Qw [.d, .d, fV (h1), fV (h2), fT (jA (t := !Pt (RN kv) == x) (μ := μ))] (by kernel_rfl)
theorem Ld : (evN ftT (n + 6)).ev (Bc x (some (row kv))) (lcE kP) μ = some (.ok (row kv), μ) := by
 exact y5 [] (by kernel_rfl)
theorem LW {o : Option PV} {v : PV} : qt (Bc x o) (qu kP) v = some (Bc x (some v)) := by
 cases o <;> kernel_rfl
theorem CH (t : Tab μ T d H rows) (hx : Pz x = true) (hr : rows.length <= Pr) (hrl : ∀ kv ∈ rows, KeyOK kv.1) :
 qG (evN ftT (n + 6)) (LE.comp ⟨qn 107, vs2 T x⟩ (lcN kP)) (lcE kP) (qu kP) (qD kP) (.list H, rows.length + 1) μ = some (.ok (.loc μ.length), μ ++ [rw' (qd rows x)]) := by
 have h := qV (r := evN ftT (n + 6)) (target := qu kP) (elt := lcE kP) (ifs := qD kP) (f := row) (g := fun kv => !(Pt kv.1 == x)) (Inv := fun σ => ∃ o, σ = Bc x o) row (qF t.h)
  (fun σ kv ⟨o, e⟩ hk => ⟨_, e ▸ LW, ⟨_, rfl⟩, Mf (hrl kv hk) hx, fun zz => Ld⟩) (rows.length + 1) 0 (LE.comp ⟨qn 107, vs2 T x⟩ (lcN kP)) ⟨none, by kernel_rfl⟩ rfl (Rj _)
 refine (qA h ?_).trans rfl
 rw [PH]; exact Pq zO hr
theorem Np {μ : q4} {m : Nat} {l l' : List PV} (h : q5 μ H = some l) (h' : q5 μ m = some l') (hne : H ≠ m) (hl : l.length + l'.length <= Pr) : Vf (.loc H) (.loc m) μ = some (.ok .none, qj μ H (.list l')) := by
 show (q5 μ H).bind _ = _
 rw [h, PK, h']
 exact if_neg fun h => h.elim hne (Sh.mpr hl)
theorem MG : (ftT 107).isSome = true := by kernel_rfl
theorem IH {o v : PV} {μ : q4} : jG 107 (qo 107) [o, v] [] μ = some (⟨qn 107, [("self", o), ("name", v)]⟩, μ) := by kernel_rfl
theorem JB (t : Tab μ T d H rows) (hn : kW nm) (hr : rows.length + rows.length <= Pr) (hrl : ∀ kv ∈ rows, KeyOK kv.1) :
 (evN ftT (n + 20)).call 107 [.loc T, .str nm] [] μ = some (.ok .none, qj μ H (rw' (qd rows (Pt nm))) ++ [rw' (qd rows (Pt nm))]) := by
 have h1 := zt (μ := μ) hn.l
 have hi := t.i
 have ho : ql μ d "_convert_string_type" = true := t.ok (by decide)
 have h88 := jx (n := n + 8) (o := .loc T) (μ := μ) hn.b
 have ha := t.attr
 have hs := t.src
 have hc := CH (n := n + 11) t hn.o (Pq (Uu ..) hr) hrl
 have t' := t.app (J := [rw' (qd rows (Pt nm))])
 have ha' := t'.attr
 have hset := Np t'.h q6 (RQ t.lt) (by rw [PH, PH]; exact Pq (So zO _) hr)
 rw [yK t.lt] at hset
 rw [qX MG IH]
 have hr : (evN ftT (n + 19)).ex ⟨qn 107, vs2 T nm⟩ (qo 107).body μ = some (.ok .next, ⟨qn 107, vs2 T (Pt nm)⟩, qj μ H (rw' (qd rows (Pt nm))) ++ [rw' (qd rows (Pt nm))]) := by
  exact qm [fI (hi), .c ho, fV (h1), fV (h88), fV (ha), fR (hs), fV (hc), fV (ha'), fV (hset)] (by kernel_rfl)
 rw [hr]; rfl
theorem MJ : (ftT 102).isSome = true := by kernel_rfl
theorem L0 {o v u : PV} {μ : q4} : jG 102 (qo 102) [o, v, u] [] μ = some (⟨qn 102, [("self", o), ("name", v), ("val", u)]⟩, μ) := by kernel_rfl
theorem JM {μ : q4} {l : Ps} {v : Str × Str} (h : q5 μ H = some (l.map row)) (hl : l.length + 1 <= Pr) : j0 (.loc H) "append" [row v] μ = some (.ok .none, qj μ H (rw' (l ++ [v]))) := by
 rw [XS h (by rw [PH]; exact hl), <- List.map_singleton, <- Rt]
theorem ZT {v : Str} (t : Tab μ T d H rows) (hn : kW nm) (hb : bad true nm = false) (hr : rows.length + rows.length + 1 <= Pr) (hrl : ∀ kv ∈ rows, KeyOK kv.1) :
 (evN ftT (n + 30)).call 102 [.loc T, .str nm, .str v] [] μ = some (if bad false v = true then .error { gL with here := false } else .ok .none, qj μ H (rw' (if bad false v = true then qd rows (Pt nm) else qd rows (Pt nm) ++ [(nm, v)])) ++ [rw' (qd rows (Pt nm))]) := by
 have hi := t.i
 have h107 := JB (n := n + 8) t hn (RL hr) hrl
 have t1 := (t.set (rows' := qd rows (Pt nm))).app (J := [rw' (qd rows (Pt nm))])
 have hle : (qd rows (Pt nm)).length + 1 <= Pr := Pq (Rb (Pq zO (Uu ..))) hr
 have hlt : H < (qj μ H (rw' (qd rows (Pt nm)))).length := by rw [gH]; exact t.lt
 rw [qX MJ L0]
 generalize hdr : qd rows (Pt nm) = dr at *
 generalize hμ : qj μ H (rw' dr) ++ [rw' dr] = μ1 at *
 have ha := t1.attr
 have hi1 := t1.i
 have hl1 := ji t1.h
 have hl2 := jf t1.h
 have ho : ql μ1 d "_convert_string_type" = true := t1.ok (by decide)
 have h88 := jx (n := n + 16) (o := .loc T) (μ := μ1) hb
 induction hv : bad false v with
 | true =>
   have h88v := Zg (n := n + 16) (o := .loc T) (μ := μ1) hv
   have hr : (evN ftT (n + 29)).ex ⟨qn 102, [("self", .loc T), ("name", .str nm), ("val", .str v)]⟩ (qo 102).body μ = some (.error { gL with here := false }, ⟨qn 102, [("self", .loc T), ("name", .str nm), ("val", .str v)]⟩, μ1) := by
    exact qm [fI (hi), fV (h107), fV (ha), fI (hl1), fL (hl2), fI (hi1), .c ho, fV (h88), fI (hi1), .c ho, fV (h88v)] (by kernel_rfl)
   rw [hr, <- hμ]; rfl
 | false =>
   have h88v := jx (n := n + 16) (o := .loc T) (μ := μ1) hv
   have happ := JM (v := (nm, v)) t1.h hle
   have hr : (evN ftT (n + 29)).ex ⟨qn 102, [("self", .loc T), ("name", .str nm), ("val", .str v)]⟩ (qo 102).body μ = some (.ok .next, ⟨qn 102, [("self", .loc T), ("name", .str nm), ("val", .str v)]⟩, qj μ1 H (rw' (dr ++ [(nm, v)]))) := by
    exact qm [fI (hi), fV (h107), fV (ha), fI (hl1), fL (hl2), fI (hi1), .c ho, fV (h88), fI (hi1), .c ho, fV (h88v), fV (happ)] (by kernel_rfl)
   rw [hr, <- hμ, yK hlt, K8]; rfl
end
section
variable {n T d H : Nat} {rows : Ps} {nm v : Str} {μ : q4}
noncomputable abbrev fK : Exn := { gL with here := false }
theorem Wi (t : Tab μ T d H rows) (hn : kW nm) (hb : bad true nm = false) (hr : rows.length + 1 <= Pr) (hrl : ∀ kv ∈ rows, KeyOK kv.1) :
 (evN ftT (n + 30)).call 177 [.loc T, .str nm, .str v] [] μ = (first rows (Pt nm)).elim (if bad false v = true then some (.error fK, μ) else some (.ok (.str v), qj μ H (rw' (rows ++ [(nm, v)])))) fun r => some (.ok (.str r), μ) := by
 have hg := fun n => ZV (n := n) t hn hrl
 induction hf : first rows (Pt nm) with
 | some r =>
   rw [hf] at hg
   exact jv (n := n) (k := 29) [fI (t.i), .c (t.ok rfl : ql μ d (Pv "get") = true), fV (hg (n + 7))] (by kernel_rfl)
 | none =>
   rw [hf] at hg
   show _ = if bad false v = true then _ else _
   induction hv : bad false v with
   | true => exact jv (n := n) (k := 29) [fI (t.i), .c (t.ok rfl : ql μ d (Pv "get") = true), fV (hg (n + 7)), .d, .d, fV (t.attr), fI (ji t.h), fL (jf t.h), fI (t.i), .c (t.ok rfl : ql μ d (Pv "_convert_string_type") = true), fV ((fun n => jx (n := n) (o := .loc T) (μ := μ) hb) (n + 15)), fI (t.i), .c (t.ok rfl : ql μ d (Pv "_convert_string_type") = true), fV ((fun n => Zg (n := n) (o := .loc T) (μ := μ) hv) (n + 15))] (by kernel_rfl)
   | false => exact jv (n := n) (k := 29) [fI (t.i), .c (t.ok rfl : ql μ d (Pv "get") = true), fV (hg (n + 7)), .d, .d, fV (t.attr), fI (ji t.h), fL (jf t.h), fI (t.i), .c (t.ok rfl : ql μ d (Pv "_convert_string_type") = true), fV ((fun n => jx (n := n) (o := .loc T) (μ := μ) hb) (n + 15)), fI (t.i), .c (t.ok rfl : ql μ d (Pv "_convert_string_type") = true), fV ((fun n => jx (n := n) (o := .loc T) (μ := μ) hv) (n + 15)), fV (JM (v := (nm, v)) t.h hr)] (by kernel_rfl)
end
noncomputable def esc (v : Str) : Str := Sz (Sz v "\\" "\\\\") "\"" "\\\""
noncomputable def Xl (p v : Str) : Str := PE ++ p ++ "=\"" ++ esc v ++ "\""
noncomputable def XV (p v : Str) : Str := PE ++ p ++ "=" ++ v
noncomputable def fmt (p v : Str) (q : Int) : Str := if v.length = 0 then p else if q ≠ 0 \/ v.cps.toList.any xy = true then Xl p v else XV p v
theorem NN : (ftT 66).isSome = true := by kernel_rfl
theorem I7 {o v : PV} {μ : q4} : jG 66 (qo 66) [o, v] [] μ = some (⟨qn 66, [("param", o), ("value", v), ("quote", .int 1)]⟩, μ) := by kernel_rfl
theorem I9 {o v q : PV} {μ : q4} : jG 66 (qo 66) [o, v, q] [] μ = some (⟨qn 66, [("param", o), ("value", v), ("quote", q)]⟩, μ) := by kernel_rfl
theorem My {x : Str} {μ : q4} (hx : x.length <= 1048576) : jV x "replace" [.str "\\", .str "\\\\"] μ = some (.ok (.str (Sz x "\\" "\\\\")), μ) := by
 show (if decide (16000000 < x.length) = true then none else if (decide (x.length <= 1048576)) = true then _ else _) = _
 rw [if_neg (by rw [decide_eq_true_iff]; lia), if_pos (decide_eq_true hx)]; rfl
theorem O1 {x : Str} {μ : q4} (hx : x.length <= 1048576) : jV x "replace" [.str "\"", .str "\\\""] μ = some (.ok (.str (Sz x "\"" "\\\"")), μ) := by
 show (if decide (16000000 < x.length) = true then none else if (decide (x.length <= 1048576)) = true then _ else _) = _
 rw [if_neg (by rw [decide_eq_true_iff]; omega), if_pos (decide_eq_true hx)]; rfl
theorem OQ {k : Nat} {μ : q4} (h : k = 0) : qZ .Gt (.int k) (.int 0) μ = some (.ok (.bool false), μ) := by subst h; rfl
theorem HP {k : Nat} {μ : q4} (h : k ≠ 0) : qZ .Gt (.int k) (.int 0) μ = some (.ok (.bool true), μ) := by
 show some (Rs (PV.bool (decide ((k : Int) > 0))), μ) = _
 rw [decide_eq_true (by lia)]
theorem BN {q : Int} {μ : q4} (h : q = 0) : tru (.int q) μ = some (.ok false, μ) := by subst h; rfl
theorem LA {q : Int} {μ : q4} (h : q ≠ 0) : tru (.int q) μ = some (.ok true, μ) := by
 show some (Rs (decide (q ≠ 0)), μ) = _
 rw [decide_eq_true h]
theorem Ha {t : Bool} {v : Str} {μ : q4} (h : v.cps.toList.any xy = t) : vo (.val (.ref 48)) (.str v) μ = some (.ok t, μ) := h ▸ rfl
structure yV (p v : Str) : Prop where
 lp : p.length <= 1000000
 lv : v.length <= 1048576
 lr : (Sz v "\\" "\\\\").length <= 1048576
 le : (esc v).length <= 3000000
section
variable {n : Nat} {p v : Str} {q : Int} {μ : q4}
theorem XH (h : yV p v) : (Xl p v).length <= Pr /\ (XV p v).length <= Pr := by
 have e24 : Pr = 16777216 := by decide
 have h1 := h.lp
 have h2 := h.lv
 have h3 := h.le
 unfold Xl XV
 rw [PL, PL, PL, PL, PL, PL, PL, e24]
 exact ⟨by show 0 + _ + 2 + _ + 1 <= _; lia, by show 0 + _ + 1 + _ <= _; lia⟩
theorem Zq {a b : Str} (h : (a ++ b).length <= Pr) : a.length <= Pr := by rw [PL] at h; exact Pq (Rd ..) h
theorem fb {a b : Str} (h : (a ++ b).length <= Pr) : a.length + b.length <= Pr := by rw [<- PL]; exact h
theorem L9 (h : yV p v) (h0 : v.length ≠ 0) (hq : q ≠ 0 \/ v.cps.toList.any xy = true) :
 zX ((evN ftT (n + 14)).ex ⟨qn 66, [("param", .str p), ("value", .str v), ("quote", .int q)]⟩ (qo 66).body μ) = some (.ok (.str (Xl p v)), μ) := by
 have l4 := (XH h).1
 have c5 := fb l4
 have l3 := Zq l4
 have c4 := fb l3
 have l2 := Zq l3
 have c3 := fb l2
 have c2 := fb (Zq l2)
 have r1 := My (μ := μ) h.lv
 have r2 := O1 (μ := μ) h.lr
 have hr : (evN ftT (n + 14)).ex ⟨qn 66, [("param", .str p), ("value", .str v), ("quote", .int q)]⟩ (qo 66).body μ = some (.ok (.ret (.str (Xl p v))), ⟨qn 66, [("param", .str p), ("value", .str (esc v)), ("quote", .int q)]⟩, μ) := by
  by_cases hz : q = 0
  ·have hs := Ha (μ := μ) (hq.resolve_left (not_not_intro hz))
   exact qm [.d, .d, .d, .d, .d, fV (HP (μ := μ) h0), .d, fT (BN (μ := μ) hz), fT (hs), fV (r1), fV (r2), .c c2, .c c3, .c c4, .c c5, fV (j1 (μ := μ) l4)] (by kernel_rfl)
  ·exact qm [.d, .d, .d, .d, .d, fV (HP (μ := μ) h0), .d, fT (LA (μ := μ) hz), fV (r1), fV (r2), .c c2, .c c3, .c c4, .c c5, fV (j1 (μ := μ) l4)] (by kernel_rfl)
 rw [hr]; rfl
theorem HI (h : yV p v) (h0 : v.length ≠ 0) (hz : q = 0) (hs : v.cps.toList.any xy = false) :
 zX ((evN ftT (n + 14)).ex ⟨qn 66, [("param", .str p), ("value", .str v), ("quote", .int q)]⟩ (qo 66).body μ) = some (.ok (.str (XV p v)), μ) := by
 have l3 := (XH h).2
 have c4 := fb l3
 have l2 := Zq l3
 have c3 := fb l2
 have c2 := fb (Zq l2)
 have hs := Ha (μ := μ) hs
 have hr : (evN ftT (n + 14)).ex ⟨qn 66, [("param", .str p), ("value", .str v), ("quote", .int q)]⟩ (qo 66).body μ = some (.ok (.ret (.str (XV p v))), ⟨qn 66, [("param", .str p), ("value", .str v), ("quote", .int q)]⟩, μ) := by
  exact qm [.d, .d, .d, .d, .d, fV (HP (μ := μ) h0), .d, fT (BN (μ := μ) hz), fT (hs), .c c2, .c c3, .c c4, fV (j1 (μ := μ) l3)] (by kernel_rfl)
 rw [hr]; rfl
theorem HQ (h0 : v.length = 0) : zX ((evN ftT (n + 14)).ex ⟨qn 66, [("param", .str p), ("value", .str v), ("quote", .int q)]⟩ (qo 66).body μ) = some (.ok (.str p), μ) := by
 have hr : (evN ftT (n + 14)).ex ⟨qn 66, [("param", .str p), ("value", .str v), ("quote", .int q)]⟩ (qo 66).body μ = some (.ok (.ret (.str p)), ⟨qn 66, [("param", .str p), ("value", .str v), ("quote", .int q)]⟩, μ) := by
  exact qm [.d, .d, .d, .d, .d, fV (OQ (μ := μ) h0)] (by kernel_rfl)
 rw [hr]; rfl
theorem Gc (h : yV p v) : zX ((evN ftT (n + 14)).ex ⟨qn 66, [("param", .str p), ("value", .str v), ("quote", .int q)]⟩ (qo 66).body μ) = some (.ok (.str (fmt p v q)), μ) := by
 unfold fmt
 by_cases h0 : v.length = 0
 ·rw [if_pos h0]; exact HQ h0
 ·rw [if_neg h0]
  by_cases hq : q ≠ 0 \/ v.cps.toList.any xy = true
  ·rw [if_pos hq]; exact L9 h h0 hq
  ·rw [if_neg hq]; exact HI h h0 (Decidable.not_not.mp fun e => hq (.inl e)) (Bool.eq_false_iff.mpr fun e => hq (.inr e))
theorem C6 (h : yV p v) : (evN ftT (n + 15)).call 66 [.str p, .str v] [] μ = some (.ok (.str (fmt p v 1)), μ) := (qX NN I7).trans (Gc h)
theorem CJ (h : yV p v) : (evN ftT (n + 15)).call 66 [.str p, .str v, .int q] [] μ = some (.ok (.str (fmt p v q)), μ) := (qX NN I9).trans (Gc h)
end
theorem Ie {l : List Str} : ∀ {d : Loc} {x : Exn}, kq l d = .error x -> x = wT \/ x = xH := by
 induction l with
 | nil => intro d x h; exact nomatch h
 | cons s l ih =>
   intro d x h
   unfold kq at h
   induction hq : two (sp s) with
   | none => rw [hq] at h; exact .inl (by injection h with h; exact h.symm)
   | some q =>
     rw [hq] at h
     by_cases h0 : q.2.length = 0
     ·have h : (Except.error xH : Except Exn (Loc)) = .error x := (if_pos h0).symm.trans h
      exact .inr (by injection h with h; exact h.symm)
     ·exact ih (show kq l (qU d q.1 (.str (unq q.2))) = .error x from (if_neg h0).symm.trans h)
noncomputable def pairs (e : Loc) : List PV := e.map fun kv => .tup [.str kv.1, kv.2]
def Dv (items : List Str) : Prop := ∀ e, kq items [] = .ok e -> (e.all fun kv => decide (kv.1.length <= Pr)) = true /\ e.length <= Pr
theorem FA {μ J : q4} {e : Loc} (h1 : (e.all fun kv => decide (kv.1.length <= Pr)) = true) (h2 : e.length <= Pr) : JH (.loc μ.length) (μ ++ .dict e :: J) = some (.ok (.loc (μ ++ .dict e :: J).length), μ ++ .dict e :: J ++ [.list (pairs e)]) := by
 show (((μ ++ .dict e :: J)[μ.length]?).bind wD).bind _ = _
 rw [y9]
 refine (if_pos h1).trans (jh ?_)
 rw [PH]; exact h2
section
variable {n a : Nat} {items : List Str} {μ : q4}
theorem V9 (hm : q5 μ a = some (items.map .str)) (hit : ∀ s ∈ items, zU s) (hlen : items.length <= Pr) (hk : Dv items) :
 (∃ e J, kq items [] = .ok e /\ (evN ftT (n + 20)).call 208 [.loc a] [] μ = some (.ok (.loc (μ ++ J).length), μ ++ J ++ [.list (pairs e)])) \/ (∃ x J, kq items [] = .error x /\ (evN ftT (n + 20)).call 208 [.loc a] [] μ = some (.ok (if x.cls = "ValueError" then .none else .int 0), μ ++ J)) := by
 rcases Ia (n := n + 3) hm hit hlen with ⟨e, J, h1, h2⟩ | ⟨x, J, h1, h2⟩
 ·refine .inl ⟨e, .dict e :: J, h1, ?_⟩
  exact jv (n := n) (k := 19) [fV (h2), fV ((FA (hk e h1).1 (hk e h1).2 : JH (PV.loc (Sp μ)) (μ ++ q8.dict e :: J) = some (Rs (PV.loc (Sp (μ ++ q8.dict e :: J))), μ ++ q8.dict e :: J ++ [q8.list (pairs e)])))] (by kernel_rfl)
 ·refine .inr ⟨x, J, h1, ?_⟩
  rcases Ie h1 with rfl | rfl
  ·exact jv (n := n) (k := 19) [fV (h2)] (by kernel_rfl)
  ·exact jv (n := n) (k := 19) [fV (h2)] (by kernel_rfl)
theorem YB {l : List Str} : vX (l.map .str) = some l := by
 induction l with
 | nil => rfl
 | cons x l ih => show (vX (l.map .str)).map _ = _; rw [ih]; rfl
theorem yc {x : Str} {l : List Str} (hm : q5 μ a = some (l.map .str)) (h : (Ur x l && decide ((PU x l).length <= Pr)) = true) : j0 (.str x) "join" [.loc a] μ = some (.ok (.str (PU x l)), μ) := by
 show (q5 μ a).bind _ = _
 rw [hm]
 show (vX (l.map .str)).bind _ = _
 rw [YB]; exact if_pos h
noncomputable def q7 (rows : Ps) (x : Str) : List Str := (rows.filter fun kv => Pt kv.1 == x).map (·.2)
noncomputable def qM : Str := ", "
noncomputable def qz (rs : List Str) : List Str := (qH (PU qM rs)).filter fun s => !(s == Pv "")
structure XP (rs : List Str) : Prop where
 j : (Ur qM rs && decide ((PU qM rs).length <= Pr)) = true
 c : ∀ c ∈ (PU qM rs).cps.toList, c < 0x110000
 l : (PU qM rs).length + 1 <= Pr
 n : (qH (PU qM rs)).length <= Pr
 s : ∀ s ∈ qH (PU qM rs), Pz s = true
noncomputable def Qx (x : Str) : Option PV -> Loc
 | none => []
 | some v => [(x, v)]
noncomputable abbrev kR : Expr := Iy (qo 201).body
noncomputable abbrev FK (o : Option PV) : LE := ⟨(LE.comp ⟨qn 201, []⟩ (lcN kR)).sc, Qx "item" o⟩
theorem IK {o : Option PV} {v : PV} : qt (FK o) (qu kR) v = some (FK (some v)) := by
 cases o <;> kernel_rfl
theorem Ee : Pz (Pv "") = true := by kernel_rfl
theorem Ms {s : Str} (h : Pz s = true) : zY (evN ftT (n + 6)) (FK (some (.str s))) (qD kR) μ = some (.ok (!(s == Pv "")), μ) := by
 exact Qw [fV ((GM h Ee rfl : qZ Uv.NotEq (PV.str s) (PV.str (Pv "")) μ = some (Rs (PV.bool !s == Pv ""), μ))), fT (jA (t := !s == Pv "") (μ := μ))] (by kernel_rfl)
theorem HW {v : PV} : (evN ftT (n + 6)).ev (FK (some v)) (lcE kR) μ = some (.ok v, μ) := by
 exact y5 [] (by kernel_rfl)
theorem CX {T : Nat} {nm : Str} {l : List Str} (hm : q5 μ a = some (l.map .str)) (hr : l.length <= Pr) (hs : ∀ s ∈ l, Pz s = true) :
 qG (evN ftT (n + 6)) (LE.comp ⟨qn 201, [("table", .loc T), ("name", .str nm)]⟩ (lcN kR)) (lcE kR) (qu kR) (qD kR) (.list a, (l.map PV.str).length + 1) μ = some (.ok (.loc μ.length), μ ++ [ls (l.filter fun s => !(s == Pv ""))]) := by
 have h := qV (r := evN ftT (n + 6)) (target := qu kR) (elt := lcE kR) (ifs := qD kR) (f := PV.str) (g := fun s => !(s == Pv "")) (Inv := fun σ => ∃ o, σ = FK o) PV.str (qF hm)
  (fun σ s ⟨o, e⟩ hk => ⟨_, e ▸ IK, ⟨_, rfl⟩, Ms (hs s hk), fun zz => HW⟩) (l.length + 1) 0 (LE.comp ⟨qn 201, [("table", .loc T), ("name", .str nm)]⟩ (lcN kR)) ⟨none, by kernel_rfl⟩ rfl (Rj _)
 rw [PH]
 refine (qA h ?_).trans rfl
 rw [PH]; exact Pq (RY _ _) hr
section
variable {T d H : Nat} {rows : Ps} {nm : Str}
theorem WV (t : Tab μ T d H rows) (hn : kW nm) (hr : rows.length <= Pr) (hrl : ∀ kv ∈ rows, KeyOK kv.1) (hj : XP (q7 rows (Pt nm))) :
 ∃ J, (evN ftT (n + 40)).call 201 [.loc T, .str nm] [] μ = some (.ok (.loc (μ ++ J).length), μ ++ J ++ [ls (qz (q7 rows (Pt nm)))]) := by
 obtain ⟨L, h43⟩ := GB (n := n + 24) (μ := μ ++ [ls (q7 rows (Pt nm))]) hj.c hj.l
 refine ⟨[ls (q7 rows (Pt nm))] ++ [.list L] ++ [ls (qH (PU qM (q7 rows (Pt nm))))], ?_⟩
 have e : μ ++ [ls (q7 rows (Pt nm))] ++ [.list L] ++ [ls (qH (PU qM (q7 rows (Pt nm))))] = μ ++ ([ls (q7 rows (Pt nm))] ++ [.list L] ++ [ls (qH (PU qM (q7 rows (Pt nm))))]) := by
  rw [PF, PF, PF]
 have hp : q5 (μ ++ [ls (q7 rows (Pt nm))] ++ [.list L] ++ [ls (qH (PU qM (q7 rows (Pt nm))))]) ((μ ++ [ls (q7 rows (Pt nm))]).length + 1) = some ((qH (PU qM (q7 rows (Pt nm)))).map .str) := by
  have h := q6 (μ := μ ++ [ls (q7 rows (Pt nm))] ++ [.list L]) (l := (qH (PU qM (q7 rows (Pt nm)))).map .str)
  rwa [PB] at h
 have hc := CX (n := n + 31) (T := T) (nm := nm) hp hj.n hj.s
 rw [e] at hc hp h43
 exact jv (n := n) (k := 39) [.d, fI (t.i), .c (t.ok rfl : ql μ d (Pv "get_all") = true), fV (g0 (n := n + 14) t hn hr hrl), fV ((yc q6 hj.j : j0 (PV.str qM) (Pv "join") [PV.loc (Sp μ)] (μ ++ [q8.list (Rm PV.str (q7 rows (Pt nm)))]) = some (Rs (PV.str (PU qM (q7 rows (Pt nm)))), μ ++ [q8.list (Rm PV.str (q7 rows (Pt nm)))]))), fV (h43), fR (qK hp), fV (hc)] (by kernel_rfl)
end
end
noncomputable def Ow : Expr -> List Expr
 | .BoolOp _ es _ => es
 | .Compare l _ xs _ => l :: xs
 | .Call f as _ _ => f :: as
 | .BinOp a _ b _ => [a, b]
 | .Tuple es _ _ => es
 | .List es _ => es
 | .IfExp t b o _ => [t, b, o]
 | .Subscript v i _ => [v, i]
 | .Attribute o _ _ => [o]
 | .UnaryOp _ e _ => [e]
 | .ListComp e _ _ _ => [e]
 | _ => []
noncomputable def OK : Sf -> List Expr
 | .If t _ _ _ => [t]
 | .For t i _ _ _ => [t, i]
 | .Assign _ e _ => [e]
 | .Return e _ => e.toList
 | .Expr e _ => [e]
 | .Try _ _ _ _ _ => []
 | _ => []
noncomputable def Pd : Sf -> List (List Sf)
 | .If _ b o _ => [b, o]
 | .For _ _ b _ _ => [b]
 | .Try b _ _ _ _ => [b]
 | _ => []
noncomputable def eAt (e : Expr) (p : List Nat) : Expr := p.foldl (fun e i => ((Ow e)[i]?).getD e) e
noncomputable def sE (b : List Sf) (i j : Nat) (p : List Nat) : Expr := eAt ((((b[i]?).map OK).bind fun l => l[j]?).getD (.Constant .none 0 ⟨0, 0, 0, 0⟩)) p
noncomputable def sB (b : List Sf) (i j : Nat) : List Sf := (((b[i]?).map Pd).bind fun l => l[j]?).getD []
section
variable {n : Nat} {s k : Str} {q : Int} {μ : q4} {a b : Int}
theorem jz (h : a = b) : qZ .Eq (.int a) (.int b) μ = some (.ok (.bool true), μ) := by
 show some (Rs (PV.bool (a == b)), μ) = _
 rw [h, beq_self_eq_true]
theorem qE (h : a ≠ b) : qZ .Eq (.int a) (.int b) μ = some (.ok (.bool false), μ) := by
 show some (Rs (PV.bool (a == b)), μ) = _
 rw [beq_eq_false_iff_ne.mpr h]
theorem Ql (h : Pz s = true) : qZ .Eq (.str s) (.int b) μ = some (.ok (.bool false), μ) := by
 show (peq μ (.str s) (.int b)).map _ = _
 unfold peq; rw [zF h]; rfl
theorem in_str {x y : Str} (ha : Pz x = true) (hb : Pz y = true) : qZ .In (.str x) (.str y) μ = some (.ok (.bool (Uy y x)), μ) := by
 show (pin μ (.str x) (.str y)).map _ = _
 unfold pin; rw [zF ha, zF hb]; rfl
theorem gq (i : Nat) : xq (.str s) i μ = some ((s.cps.toList[i]?).map fun c => .str ⟨#[c]⟩) := by
 show some ((s.cps[i]?).map _) = _
 rw [AE]
noncomputable def IZ : Str := " ()<>@,;:\\\"/[]?="
noncomputable def spc (c : Nat) : Bool := Uy IZ ⟨#[c]⟩
theorem Dt : Pz IZ = true := by kernel_rfl
theorem JY (h : Pz s = true) {c : Nat} (hc : c ∈ s.cps.toList) : c < 0x110000 := by
 have h : (s.cps.all fun x => decide (x < 0x110000)) = true := h
 rw [<- bA] at h
 exact of_decide_eq_true (PS.mp h c hc)
noncomputable abbrev kS : Expr := sE (qo 235).body 2 0 [1, 0]
noncomputable abbrev BV (o : Option PV) : LE := ⟨(LE.comp ⟨qn 235, []⟩ (lcN kS)).sc, Qx "sign" o⟩
noncomputable abbrev EE (s : Str) (q : Int) : Loc := [("text", .str s), ("quote", .int q)]
theorem Lq {o : Option PV} {v : PV} : qt (BV o) (qu kS) v = some (BV (some v)) := by
 cases o <;> kernel_rfl
theorem N6 {c : Nat} (h : c < 0x110000) : zY (evN ftT (n + 6)) (BV (some (.str ⟨#[c]⟩))) (qD kS) μ = some (.ok (spc c), μ) := by
 have h1 := in_str (μ := μ) (gz h) Dt
 exact Qw [fV (h1), fT (jA (t := Uy IZ (T6 #[c])) (μ := μ))] (by kernel_rfl)
theorem Hu {v : PV} : (evN ftT (n + 6)).ev (BV (some v)) (lcE kS) μ = some (.ok v, μ) := by
 exact y5 [] (by kernel_rfl)
noncomputable abbrev yW (s : Str) : List Str := (s.cps.toList.filter spc).map ch
theorem zr : s.cps.toList.length = s.length := TK
theorem Cn (hs : Pz s = true) (hl : s.length <= Pr) :
 qG (evN ftT (n + 6)) (LE.comp ⟨qn 235, EE s q⟩ (lcN kS)) (lcE kS) (qu kS) (qD kS) (.str s, s.length + 1) μ = some (.ok (.loc μ.length), μ ++ [ls (yW s)]) := by
 have h := qV (r := evN ftT (n + 6)) (target := qu kS) (elt := lcE kS) (ifs := qD kS) (f := fun c => .str ⟨#[c]⟩) (g := spc) (Inv := fun σ => ∃ o, σ = BV o) (fun c => .str ⟨#[c]⟩) (gq (s := s) (μ := μ))
  (fun σ c ⟨o, e⟩ hk => ⟨_, e ▸ Lq, ⟨_, rfl⟩, N6 (JY hs hk), fun zz => Hu⟩) (s.length + 1) 0 (LE.comp ⟨qn 235, EE s q⟩ (lcN kS)) ⟨none, by kernel_rfl⟩ (by rw [zr]) (Rj _)
 refine (qA h ?_).trans ?_
 ·rw [PH]; exact Pq (RY _ _) (zr (s := s) ▸ hl)
 ·unfold ls; rw [Su]; rfl
theorem W5 {l : List Str} : jk (jK μ 7) (l.map .str) = some (l.map .str) := by
 induction l with
 | nil => rfl
 | cons x l ih => show (jk (jK μ 7) (l.map .str)).map _ = _; rw [ih]; rfl
theorem KS {l : List Str} (h : ∀ y ∈ l, Pz y = true) : RD (l.map .str) = true /\ Rz (l.map .str) = 0 := by
 induction l with
 | nil => exact ⟨rfl, rfl⟩
 | cons x l ih =>
   have i := ih fun y hy => h y (.tail _ hy)
   exact ⟨show (Pz x && RD (l.map .str)) = true by rw [h x (.head _), i.1]; rfl, show max 0 (Rz (l.map .str)) = 0 by rw [i.2]; rfl⟩
theorem ja {m : Nat} {l : List Str} (hm : q5 μ m = some (l.map .str)) (h : ∀ y ∈ l, Pz y = true) : jd μ (.loc m) = some (.list (l.map .str)) := by
 show (((q5 μ m).bind fun l => (jk (jK μ 7) l).map SU).bind _) = _
 rw [hm]
 show (((jk (jK μ 7) (l.map .str)).map SU).bind _) = _
 rw [W5]
 have i := KS h
 refine if_pos ?_
 show (RD (l.map .str) && decide (Rz (l.map .str) + 1 <= 64)) = true
 rw [i.1, i.2]; rfl
theorem Gi {l : List Str} {t : Bool} (h : ∀ y ∈ l, Pz y = true) (ht : l.isEmpty = t) : qZ .NotEq (.loc μ.length) (.loc (μ ++ [ls l]).length) (μ ++ [ls l] ++ [.list []]) = some (.ok (.bool (!t)), μ ++ [ls l] ++ [.list []]) := by
 have e : jd (μ ++ [ls l] ++ [.list []]) (.loc (μ ++ [ls l]).length) = some (.list []) := ja (l := []) q6 (fun zz q => nomatch q)
 show (peq _ _ _).map _ = _
 unfold peq
 rw [ja (qc q6) h, e, <- ht]
 cases l <;> rfl
noncomputable def rst (s : Str) : Str := Ar s "\t"
theorem GL (h : s.length <= 1000) : jV s "rstrip" [.str "\t"] μ = some (.ok (.str (rst s)), μ) := by
 show (if decide (16000000 < s.length) = true then none else _) = _
 rw [if_neg (by rw [decide_eq_true_iff]; lia)]; rfl
noncomputable def back (s : Str) (q : Int) : PV := if q = 2 then .str s else if s.length = 0 then .none else if q = 1 \/ (s.cps.toList.filter spc).isEmpty = false then .str s else if (rst s).length = 0 then .int 0 else .str (rst s)
noncomputable def QE (s : Str) (q : Int) : q4 := if q = 2 then [] else if s.length = 0 then [] else if q = 1 then [] else [ls (yW s), .list []]
theorem Zz (hs : Pz s = true) : ∀ y ∈ yW s, Pz y = true := by
 intro y hy
 obtain ⟨c, hc, rfl⟩ := Ri.mp hy
 exact gz (JY hs (RM.mp hc).1)
theorem VS : (evN ftT (n + 20)).call 235 [.none, .int q] [] μ = some (.ok .none, μ) := by
 by_cases h : q = 2
 ·exact jv (n := n) (k := 19) [fV (jz (μ := μ) h)] (by kernel_rfl)
 ·exact jv (n := n) (k := 19) [fV (qE (μ := μ) h)] (by kernel_rfl)
theorem VI : (evN ftT (n + 20)).call 235 [.int 0, .int q] [] μ = some (.ok (.int 0), μ) := by
 by_cases h : q = 2
 ·exact jv (n := n) (k := 19) [fV (jz (μ := μ) h)] (by kernel_rfl)
 ·exact jv (n := n) (k := 19) [fV (qE (μ := μ) h)] (by kernel_rfl)
theorem IQ (hs : Pz s = true) (hl : s.length <= 1000) (h2 : q ≠ 2) (h0 : s.length ≠ 0) (h1 : q ≠ 1) :
 (evN ftT (n + 20)).call 235 [.str s, .int q] [] μ = some (.ok (if (s.cps.toList.filter spc).isEmpty = false then .str s else if (rst s).length = 0 then .int 0 else .str (rst s)), μ ++ [ls (yW s)] ++ [.list []]) := by
 have hc := fun n => Cn (n := n) (q := q) (μ := μ) hs (Pq hl (by decide))
 induction he : (s.cps.toList.filter spc).isEmpty with
 | false =>
   have hn := Gi (μ := μ) (t := false) (Zz hs) (by rw [bB]; exact he)
   exact jv (n := n) (k := 19) [fV (qE (μ := μ) h2), fT (jA (t := false) (μ := μ)), fV (Ql (μ := μ) (b := 0) hs), fT (jA (t := false) (μ := μ)), fT (vx (μ := μ) h0), fV (qE (μ := μ) h1), fT (jA (t := false) (μ := μ)), fV (hc (n + 11)), .d, fV (hn), fT (jA (t := !false) (μ := μ ++ [ls (yW s)] ++ [q8.list []]))] (by kernel_rfl)
 | true =>
   have hn := Gi (μ := μ) (t := true) (Zz hs) (by rw [bB]; exact he)
   show _ = some (Rs (if (rst s).length = 0 then _ else _), _)
   by_cases hz : (rst s).length = 0
   ·rw [if_pos hz]
    exact jv (n := n) (k := 19) [fV (qE (μ := μ) h2), fT (jA (t := false) (μ := μ)), fV (Ql (μ := μ) (b := 0) hs), fT (jA (t := false) (μ := μ)), fT (vx (μ := μ) h0), fV (qE (μ := μ) h1), fT (jA (t := false) (μ := μ)), fV (hc (n + 11)), .d, fV (hn), fT (jA (t := !true) (μ := μ ++ [ls (yW s)] ++ [q8.list []])), fV (GL (μ := μ ++ [ls (yW s)] ++ [.list []]) hl), fT (ZP (μ := μ ++ [ls (yW s)] ++ [q8.list []]) hz)] (by kernel_rfl)
   ·rw [if_neg hz]
    exact jv (n := n) (k := 19) [fV (qE (μ := μ) h2), fT (jA (t := false) (μ := μ)), fV (Ql (μ := μ) (b := 0) hs), fT (jA (t := false) (μ := μ)), fT (vx (μ := μ) h0), fV (qE (μ := μ) h1), fT (jA (t := false) (μ := μ)), fV (hc (n + 11)), .d, fV (hn), fT (jA (t := !true) (μ := μ ++ [ls (yW s)] ++ [q8.list []])), fV (GL (μ := μ ++ [ls (yW s)] ++ [.list []]) hl), fT (vx (μ := μ ++ [ls (yW s)] ++ [q8.list []]) hz)] (by kernel_rfl)
theorem XE (hs : Pz s = true) (hl : s.length <= 1000) : (evN ftT (n + 20)).call 235 [.str s, .int q] [] μ = some (.ok (back s q), μ ++ QE s q) := by
 unfold back QE
 by_cases h2 : q = 2
 ·rw [if_pos h2, if_pos h2, PQ]
  exact jv (n := n) (k := 19) [fV (jz (μ := μ) h2)] (by kernel_rfl)
 ·rw [if_neg h2, if_neg h2]
  by_cases h0 : s.length = 0
  ·rw [if_pos h0, if_pos h0, PQ]
   exact jv (n := n) (k := 19) [fV (qE (μ := μ) h2), fV (Ql (μ := μ) (b := 0) hs), .d, fT (ZP (μ := μ) h0)] (by kernel_rfl)
  ·rw [if_neg h0, if_neg h0]
   by_cases h1 : q = 1
   ·rw [if_pos (.inl h1), if_pos h1, PQ]
    exact jv (n := n) (k := 19) [fV (qE (μ := μ) h2), fV (Ql (μ := μ) (b := 0) hs), .d, fT (vx (μ := μ) h0), fV (jz (μ := μ) h1)] (by kernel_rfl)
   ·rw [if_neg h1, IQ hs hl h2 h0 h1, PF]
    induction (s.cps.toList.filter spc).isEmpty with
    | false => rw [if_pos rfl, if_pos (.inr rfl)]; rfl
    | true => rw [if_neg (c := true = false) (by decide), if_neg (c := q = 1 \/ true = false) (fun h => h.elim h1 (by decide))]; rfl
end
theorem jQ {a b : Str} {m j : Nat} (ha : a.length <= m) (hb : b.length <= j) : (a ++ b).length <= m + j := by rw [PL]; exact RP ha hb
theorem fit {a : Nat} {m : Nat} (h : a <= m) (hm : m <= Pr) : a <= Pr := Pq h hm
noncomputable def eqS : Str := "="
noncomputable def CM : Str := "=\""
noncomputable def qS : Str := "\""
noncomputable def qq : Str := "\"\""
section
variable {n : Nat} {s k : Str} {q : Int} {v : PV} {μ : q4}
theorem Q1 : (evN ftT (n + 15)).call 66 [.str k, .none, v] [] μ = some (.ok (.str k), μ) := by
 exact jv (n := n) (k := 14) [] (by kernel_rfl)
theorem CN (hk : k.length <= 1000) : (evN ftT (n + 30)).call 220 [.str k, .int 0, .int q] [] μ = some (.ok (.str (k ++ eqS)), μ) := by
 have c1 : (k ++ eqS).length <= Pr := fit (jQ hk (PJ 1)) (by decide)
 exact jv (n := n) (k := 29) [.d, .d, fV (ju (μ := μ) c1)] (by kernel_rfl)
theorem Cc (hk : k.length <= 1000) (h2 : q ≠ 2) : (evN ftT (n + 30)).call 220 [.str k, .none, .int q] [] μ = some (.ok (.str k), μ) := by
 by_cases h3 : q = 3
 ·exact jv (n := n) (k := 29) [.d, .d, fV (qE (μ := μ) h2), fV (jz (μ := μ) h3), .d, .d, .d, fV (Q1 (n := n + 12) (k := k) (v := PV.int q) (μ := μ))] (by kernel_rfl)
 ·exact jv (n := n) (k := 29) [.d, .d, fV (qE (μ := μ) h2), fV (qE (μ := μ) h3), fV (Q1 (n := n + 12) (k := k) (v := PV.int q) (μ := μ))] (by kernel_rfl)
theorem Bf (hs : Pz s = true) (h : yV k s) (h2 : q ≠ 2) (h3 : q ≠ 3) : (evN ftT (n + 30)).call 220 [.str k, .str s, .int q] [] μ = some (.ok (.str (fmt k s q)), μ) := by
 exact jv (n := n) (k := 29) [fV (Ql (μ := μ) (b := 0) hs), fV (qE (μ := μ) h2), fV (qE (μ := μ) h3), fV (CJ (n := n + 12) (q := q) (μ := μ) h)] (by kernel_rfl)
theorem Lc (hs : Pz s = true) (hk : k.length <= 1000) (hl : s.length <= 1000) (hq : q = 2) :
 (evN ftT (n + 30)).call 220 [.str k, .str s, .int q] [] μ = some (.ok (.str (k ++ eqS ++ (if s.length = 0 then qq else s))), μ) := by
 have c1 : (k ++ eqS).length <= Pr := fit (jQ hk (PJ 1)) (by decide)
 by_cases h0 : s.length = 0
 ·rw [if_pos h0]
  have c2 : (k ++ eqS ++ qq).length <= Pr := fit (jQ (jQ hk (PJ 1)) (PJ 2)) (by decide)
  exact jv (n := n) (k := 29) [fV (Ql (μ := μ) (b := 0) hs), fV (jz (μ := μ) hq), fV (ju (μ := μ) c1), fT (ZP (μ := μ) h0), fV (ju (μ := μ) c2)] (by kernel_rfl)
 ·rw [if_neg h0]
  have c2 : (k ++ eqS ++ s).length <= Pr := fit (jQ (jQ hk (PJ 1)) hl) (by decide)
  exact jv (n := n) (k := 29) [fV (Ql (μ := μ) (b := 0) hs), fV (jz (μ := μ) hq), fV (ju (μ := μ) c1), fT (vx (μ := μ) h0), fV (ju (μ := μ) c2)] (by kernel_rfl)
noncomputable def bsS : Str := "\\"
noncomputable def bsl (s : Str) : List Str := s.cps.toList.map fun c => bsS ++ ch c
noncomputable abbrev fA : Expr := sE (sB (qo 220).body 2 0) 0 0 [0, 1, 1]
noncomputable abbrev CW (o : Option PV) : LE := ⟨(LE.comp ⟨qn 220, []⟩ (lcN fA)).sc, Qx "sign" o⟩
theorem LU {o : Option PV} {v : PV} : qt (CW o) (qu fA) v = some (CW (some v)) := by
 cases o <;> kernel_rfl
theorem II {c : Nat} : (evN ftT (n + 6)).ev (CW (some (.str (ch c)))) (lcE fA) μ = some (.ok (.str (bsS ++ ch c)), μ) := by
 have c1 : (bsS ++ ch c).length <= Pr := fit (jQ (PJ 1) (PJ 1)) (by decide)
 exact y5 [fV (ju (μ := μ) c1)] (by kernel_rfl)
theorem Cj (hl : s.length <= Pr) :
 qG (evN ftT (n + 6)) (LE.comp ⟨qn 220, [("key", .str k), ("text", .str s), ("quote", .int q)]⟩ (lcN fA)) (lcE fA) (qu fA) (qD fA) (.str s, s.length + 1) μ = some (.ok (.loc μ.length), μ ++ [ls (bsl s)]) := by
 have h := qV (r := evN ftT (n + 6)) (target := qu fA) (elt := lcE fA) (ifs := qD fA) (f := fun c => .str (bsS ++ ch c)) (g := fun zz => true) (Inv := fun σ => ∃ o, σ = CW o) (fun c => .str (ch c)) (gq (s := s) (μ := μ))
  (fun σ c ⟨o, e⟩ hk => ⟨_, e ▸ LU, ⟨_, rfl⟩, by kernel_rfl, fun zz => II⟩) (s.length + 1) 0 (LE.comp ⟨qn 220, [("key", .str k), ("text", .str s), ("quote", .int q)]⟩ (lcN fA)) ⟨none, by kernel_rfl⟩ (by rw [zr]) (Rj _)
 rw [zB] at h
 refine (qA h ?_).trans ?_
 ·rw [PH]; exact (zr (s := s) ▸ hl)
 ·unfold ls bsl; rw [Su]; rfl
theorem Kx (hs : Pz s = true) (hk : k.length <= 1000) (hl : s.length <= 1000) (hj : (Ur PE (bsl s) && decide ((PU PE (bsl s)).length <= Pr)) = true) (hjl : (PU PE (bsl s)).length <= 10000) (h3 : q = 3) :
 (evN ftT (n + 30)).call 220 [.str k, .str s, .int q] [] μ = some (.ok (.str (k ++ CM ++ PU PE (bsl s) ++ qS)), μ ++ [ls (bsl s)]) := by
 have c1 : (k ++ CM).length <= Pr := fit (jQ hk (PJ 2)) (by decide)
 have c2 : (k ++ CM ++ PU PE (bsl s)).length <= Pr := fit (jQ (jQ hk (PJ 2)) hjl) (by decide)
 have c3 : (k ++ CM ++ PU PE (bsl s) ++ qS).length <= Pr := fit (jQ (jQ (jQ hk (PJ 2)) hjl) (PJ 1)) (by decide)
 have h2 : q ≠ 2 := h3 ▸ (by decide)
 have hc := fun n => Cj (n := n) (k := k) (q := q) (μ := μ) (s := s) (Pq hl (by decide))
 exact jv (n := n) (k := 29) [fV (Ql (μ := μ) (b := 0) hs), fV (qE (μ := μ) h2), fV (jz (μ := μ) h3), .d, .d, .d, fV (ju (μ := μ) c1), fV (hc (n + 17)), fV (yc (μ := μ ++ [ls (bsl s)]) q6 hj), fV (ju (μ := μ ++ [ls (bsl s)]) c2), fV (ju (μ := μ ++ [ls (bsl s)]) c3)] (by kernel_rfl)
noncomputable def line (kv : Str × Str) : Str := (kv.1 ++ Js) ++ kv.2
noncomputable def fD : Str := "\r\n"
theorem E8 {kv : Str × Str} (h1 : kv.1.length <= 1000000) (h2 : kv.2.length <= 1000000) : kZ .Mod (.str FM) (row kv) μ = some (.ok (.str (line kv)), μ) := by
 show (if (true && decide (kv.1.length <= 1000000) && decide (kv.2.length <= 1000000)) = true then yx ((kv.1 ++ Js) ++ kv.2) μ else none) = _
 rw [decide_eq_true h1, decide_eq_true h2]
 exact j1 (fit (jQ (jQ h1 (PJ 2)) h2) (by decide))
theorem w8 {a b : Nat} {l m : List PV} (ha : q5 μ a = some l) (hb : q5 μ b = some m) (h : (l ++ m).length <= Pr) : kZ .Add (.loc a) (.loc b) μ = some (.ok (.loc μ.length), μ ++ [.list (l ++ m)]) := by
 show (q5 μ a).bind _ = _
 rw [ha, PK]
 show (q5 μ b).bind _ = _
 rw [hb]; exact jh h
noncomputable abbrev gw : Expr := sE (qo 163).body 0 0 [1, 0]
noncomputable abbrev DN (o : Option PV) : LE := ⟨(LE.comp ⟨qn 163, []⟩ (lcN gw)).sc, Qx "kv" o⟩
theorem HV {o : Option PV} {v : PV} : qt (DN o) (qu gw) v = some (DN (some v)) := by
 cases o <;> kernel_rfl
theorem IL {kv : Str × Str} (h1 : kv.1.length <= 1000000) (h2 : kv.2.length <= 1000000) : (evN ftT (n + 6)).ev (DN (some (row kv))) (lcE gw) μ = some (.ok (.str (line kv)), μ) := by
 exact y5 [fV (E8 (μ := μ) h1 h2)] (by kernel_rfl)
section
variable {T d H : Nat} {rows : Ps}
noncomputable abbrev xr (rows : Ps) : List Str := rows.map line ++ [PE, PE]
theorem E1 (t : Tab μ T d H rows) (hr : rows.length <= Pr) (hrl : ∀ kv ∈ rows, kv.1.length <= 1000000 /\ kv.2.length <= 1000000) :
 qG (evN ftT (n + 6)) (LE.comp ⟨qn 163, [("self", .loc T)]⟩ (lcN gw)) (lcE gw) (qu gw) (qD gw) (.list H, rows.length + 1) μ = some (.ok (.loc μ.length), μ ++ [ls (rows.map line)]) := by
 have h := qV (r := evN ftT (n + 6)) (target := qu gw) (elt := lcE gw) (ifs := qD gw) (f := fun kv => .str (line kv)) (g := fun zz => true) (Inv := fun σ => ∃ o, σ = DN o) row (qF t.h)
  (fun σ kv ⟨o, e⟩ hk => ⟨_, e ▸ HV, ⟨_, rfl⟩, by kernel_rfl, fun zz => IL (hrl kv hk).1 (hrl kv hk).2⟩) (rows.length + 1) 0 (LE.comp ⟨qn 163, [("self", .loc T)]⟩ (lcN gw)) ⟨none, by kernel_rfl⟩ rfl (Rj _)
 rw [zB] at h
 refine (qA h ?_).trans ?_
 ·rw [PH]; exact hr
 ·unfold ls; rw [Su]; rfl
theorem Ci (t : Tab μ T d H rows) (hr : rows.length + 2 <= Pr) (hrl : ∀ kv ∈ rows, kv.1.length <= 1000000 /\ kv.2.length <= 1000000) (hj : (Ur fD (xr rows) && decide ((PU fD (xr rows)).length <= Pr)) = true) :
 (evN ftT (n + 20)).call 163 [.loc T] [] μ = some (.ok (.str (PU fD (xr rows))), μ ++ [ls (rows.map line)] ++ [ls [PE, PE]] ++ [ls (xr rows)]) := by
 have hc := fun n => E1 (n := n) t (RL (RL hr)) hrl
 have ha := w8 (μ := μ ++ [ls (rows.map line)] ++ [ls [PE, PE]]) (a := μ.length) (b := (μ ++ [ls (rows.map line)]).length) (qc q6) q6 (by rw [PB, PH, PH]; exact hr)
 rw [<- Rt] at ha
 exact jv (n := n) (k := 19) [fV (t.attr), fR (t.src), fV (hc (n + 9)), .d, fV (ha), fV (yc (μ := μ ++ [ls (rows.map line)] ++ [ls [PE, PE]] ++ [ls (xr rows)]) q6 hj)] (by kernel_rfl)
end
end
noncomputable def qB (e : Str × PV) : PV := .tup [.str e.1, e.2]
def TOK (p : PV) : Prop := p = .none \/ p = .int 0 \/ ∃ s, p = .str s /\ Pz s = true
noncomputable def zh : PV -> U9
 | .str s => .str s
 | .int i => .int i
 | _ => .none
noncomputable def wO (e : Str × PV) : U9 := .tuple [.str e.1, zh e.2]
def EOK (e : Str × PV) : Prop := Pz e.1 = true /\ TOK e.2
theorem TOK.elim {p : PV} {C : PV -> Prop} (h : TOK p) (a : C .none) (b : C (.int 0)) (c : ∀ s, Pz s = true -> C (.str s)) : C p := by
 rcases h with rfl | rfl | ⟨s, rfl, hs⟩
 ·exact a
 ·exact b
 ·exact c s hs
section
variable {μ : q4} {es : Loc}
theorem VZ {p : PV} (h : TOK p) : jK μ 6 p = some (zh p) := h.elim (C := fun p => jK μ 6 p = some (zh p)) rfl rfl fun zz zz => rfl
theorem XY (h : ∀ e ∈ es, EOK e) : jk (jK μ 7) (es.map qB) = some (es.map wO) := by
 induction es with
 | nil => rfl
 | cons e es ih =>
   show ((((jK μ 6 e.2).bind fun d => some [d]).map fun ds => Ao e.1 :: ds).map Ag).bind (fun d => (jk (jK μ 7) (es.map qB)).map fun ds => d :: ds) = _
   rw [VZ (h e (.head _)).2, ih fun x hx => h x (.tail _ hx)]; rfl
theorem ZM {p : PV} (h : TOK p) : (zh p).canLay0 = true /\ (zh p).depth = 0 := h.elim (C := fun p => (zh p).canLay0 = true /\ (zh p).depth = 0) ⟨rfl, rfl⟩ ⟨rfl, rfl⟩ fun zz hs => ⟨hs, rfl⟩
theorem Fc (h : ∀ e ∈ es, EOK e) : RD (es.map wO) = true /\ Rz (es.map wO) <= 1 := by
 induction es with
 | nil => exact ⟨rfl, Rj _⟩
 | cons e es ih =>
   have i := ih fun x hx => h x (.tail _ hx)
   have q := h e (.head _)
   have l := ZM q.2
   refine ⟨show ((Pz e.1 && ((zh e.2).canLay0 && true)) && RD (es.map wO)) = true by rw [q.1, l.1, i.1]; rfl, show max (max 0 (max (zh e.2).depth 0) + 1) (Rz (es.map wO)) <= 1 by rw [l.2]; exact Nat.max_le.mpr ⟨PJ _, i.2⟩⟩
theorem zA {a : Nat} (hm : q5 μ a = some (es.map qB)) (h : ∀ e ∈ es, EOK e) : jd μ (.loc a) = some (.list (es.map wO)) := by
 show (((q5 μ a).bind fun l => (jk (jK μ 7) l).map SU).bind _) = _
 rw [hm]
 show (((jk (jK μ 7) (es.map qB)).map SU).bind _) = _
 rw [XY h]
 have i := Fc h
 refine if_pos ?_
 show (RD (es.map wO) && decide (Rz (es.map wO) + 1 <= 64)) = true
 rw [i.1, decide_eq_true (Pq (Rb i.2) (by decide))]; rfl
end
noncomputable def ent (s : Str) : Str × PV := match two (sp s) with
 | some q => (q.1, if q.2.length = 0 then .int 0 else .str (unq q.2))
 | none => (((sp s)[0]?).getD s, .none)
structure IOK (s : Str) : Prop where
 ok : zU s
 len : s.length <= 100000
 hd : ∃ t, SE s eqS = (ent s).1 :: t /\ t.length <= 100000
 kl : (ent s).1.length <= 100000
 eo : EOK (ent s)
theorem Oz {s x : Str} (h : sp s = [x]) : kq [s] [] = .error wT /\ ent s = (x, .none) := by
 unfold kq ent; rw [h]; exact ⟨rfl, rfl⟩
theorem Ph {s k v : Str} (h : sp s = [k, v]) (h0 : v.length = 0) : kq [s] [] = .error xH /\ ent s = (k, .int 0) := by
 unfold kq ent; rw [h]
 exact ⟨if_pos h0, congrArg (Prod.mk k) (if_pos h0)⟩
theorem OC {s k v : Str} (h : sp s = [k, v]) (h0 : v.length ≠ 0) : kq [s] [] = .ok [(k, .str (unq v))] /\ ent s = (k, .str (unq v)) := by
 unfold kq ent; rw [h]
 exact ⟨if_neg h0, congrArg (Prod.mk k) (if_neg h0)⟩
section
variable {n a : Nat} {items : List Str} {μ : q4}
theorem Qb {x : Exn} (hm : q5 μ a = some (items.map .str)) (hit : ∀ s ∈ items, zU s) (hlen : items.length <= Pr) (hk : kq items [] = .error x) :
 ∃ J, (evN ftT (n + 20)).call 208 [.loc a] [] μ = some (.ok (if x.cls = "ValueError" then .none else .int 0), μ ++ J) := by
 rcases V9 (n := n) hm hit hlen (fun e h => by rw [hk] at h; exact nomatch h) with ⟨e, J, h1, h2⟩ | ⟨y, J, h1, h2⟩
 ·rw [hk] at h1; exact nomatch h1
 ·rw [hk] at h1; injection h1 with h1; exact ⟨J, h1 ▸ h2⟩
theorem Zm {e : Loc} (hm : q5 μ a = some (items.map .str)) (hit : ∀ s ∈ items, zU s) (hlen : items.length <= Pr) (hk : kq items [] = .ok e) (h3 : (e.all fun kv => decide (kv.1.length <= Pr)) = true) (h4 : e.length <= Pr) :
 ∃ J, (evN ftT (n + 20)).call 208 [.loc a] [] μ = some (.ok (.loc (μ ++ J).length), μ ++ J ++ [.list (pairs e)]) := by
 rcases V9 (n := n) hm hit hlen (fun e' h => by rw [hk] at h; injection h with h; exact h ▸ ⟨h3, h4⟩) with ⟨e', J, h1, h2⟩ | ⟨y, J, h1, h2⟩
 ·rw [hk] at h1; injection h1 with h1; exact ⟨J, h1 ▸ h2⟩
 ·rw [hk] at h1; exact nomatch h1
end
section
variable {μ J K : q4} {c : q8} {l k : List PV} {m : Nat} {s : Str}
theorem yd : μ ++ c :: J ++ K = μ ++ c :: (J ++ K) := PF ..
theorem fE : q5 (μ ++ c :: (J ++ [.list l])) (μ ++ c :: J).length = some l := by rw [<- yd]; exact q6
theorem vr (h : l.length <= Pr) : jp l (μ ++ c :: J) = some (.ok (.loc (μ ++ c :: J).length), μ ++ c :: (J ++ [.list l])) := by rw [jh h, yd]
theorem vQ : q5 (μ ++ .list l :: J) μ.length = some l := by unfold q5; rw [y9]; rfl
theorem Bb : μ.length ≠ (μ ++ c :: J).length := by rw [PB]; exact RQ (U6 (Nat.succ_pos _))
theorem DI (hm : q5 (μ ++ .list l :: J) m = some k) (hne : μ.length ≠ m) (hl : l.length + k.length <= Pr) : j0 (.loc μ.length) "extend" [.loc m] (μ ++ .list l :: J) = some (.ok .none, μ ++ .list (l ++ k) :: J) := by
 show (q5 (μ ++ .list l :: J) μ.length).bind _ = _
 rw [vQ, PK]
 refine (if_neg hne).trans ?_
 rw [hm, PK]
 refine (if_pos hl).trans ?_
 unfold qj; rw [SP _ _ (PJ _), Ss]; rfl
theorem BB (hx : s.length <= 100000) (hl : (SE s eqS).length <= Pr) : jV s "split" [.str "="] (μ ++ c :: J) = some (.ok (.loc (μ ++ c :: J).length), μ ++ c :: (J ++ [ls (SE s eqS)])) := by
 show (if decide (16000000 < s.length) = true then none else jp ((SE s eqS).map .str) _) = _
 rw [if_neg (by rw [decide_eq_true_iff]; lia)]
 exact vr (by rw [PH]; exact hl)
theorem v7 {v : PV} (h : q5 μ m = some (v :: l)) : zb (.loc m) (.int 0) μ = some (.ok v, μ) := by
 show (q5 μ m).bind _ = _
 rw [h]; rfl
theorem Nh {es : Loc} (h : q5 μ m = some (es.map qB)) (ho : ∀ e ∈ es, EOK e) : qZ .Eq (.loc m) (.int 0) μ = some (.ok (.bool false), μ) := by
 show (peq μ (.loc m) (.int 0)).map _ = _
 unfold peq; rw [zA h ho]; rfl
end
noncomputable abbrev pl (L : Loc) : q8 := .list (L.map qB)
noncomputable abbrev Xy (T : Nat) (nm : Str) (P : Nat) (tl : Loc) : LE := ⟨qn 215, ("table", .loc T) :: ("name", .str nm) :: ("pairs", .loc P) :: tl⟩
section
variable {n T m : Nat} {nm s : Str} {μ J : q4} {L e : Loc} {tl : Loc}
theorem Io (hm : q5 (μ ++ pl L :: J) m = some (e.map qB)) (hne : μ.length ≠ m) (hl : L.length + e.length <= Pr) : j0 (.loc μ.length) "extend" [.loc m] (μ ++ pl L :: J) = some (.ok .none, μ ++ pl (L ++ e) :: J) := by
 rw [DI hm hne (by rw [PH, PH]; exact hl), <- Rt]
theorem JA : qv (μ ++ pl L :: J) (.loc μ.length) = none := ji vQ
theorem JF : j2 (μ ++ pl L :: J) (.loc μ.length) = some (L.map qB) := vQ
noncomputable abbrev Mh (n T : Nat) (nm s : Str) (μ J : q4) (L : Loc) (tl : Loc) : Prop := ∃ J' v, (evN ftT (n + 40)).ex (Xy T nm μ.length (upd tl "item" (.str s))) (qR (qo 215).body) (μ ++ pl L :: J) = some (.ok .next, Xy T nm μ.length (upd (upd tl "item" (.str s)) "told" v), μ ++ pl (L ++ [ent s]) :: (J ++ J'))
theorem Dc (io : IOK s) (hl : L.length + 1 <= Pr) : Mh n T nm s μ J L tl := by
 have h1 : Sg ("item" : Str) (upd tl "item" (.str s)) = some (.str s) := zu
 have h2 : ∀ v, Sg ("told" : Str) (upd (upd tl "item" (.str s)) "told" v) = some v := fun v => zu
 have h3 : ∀ v, Sg ("item" : Str) (upd (upd tl "item" (.str s)) "told" v) = some (.str s) := fun v => (jM (by decide)).trans h1
 have hone : ∀ y ∈ [s], zU y := fun y hy => Pw.mp hy ▸ io.ok
 have p1 : jp [.str s] (μ ++ pl L :: J) = some (.ok (.loc (μ ++ pl L :: J).length), μ ++ pl L :: (J ++ [ls [s]])) := vr le1
 have p2 : q5 (μ ++ pl L :: (J ++ [ls [s]])) (μ ++ pl L :: J).length = some ([s].map .str) := fE
 obtain ⟨t, hd, ht⟩ := io.hd
 have eo := io.eo
 have kl := io.kl
 have hsp : ∀ J : q4, jV s "split" [.str "="] (μ ++ pl L :: J) = some (.ok (.loc (μ ++ pl L :: J).length), μ ++ pl L :: (J ++ [ls ((ent s).1 :: t)])) := fun J => by
  have h := BB (μ := μ) (c := pl L) (J := J) io.len (by rw [hd]; exact Pq (Rb ht) (by decide))
  rw [hd] at h; exact h
 have hit : ∀ J : q4, zb (.loc (μ ++ pl L :: J).length) (.int 0) (μ ++ pl L :: (J ++ [ls ((ent s).1 :: t)])) = some (.ok (.str (ent s).1), μ ++ pl L :: (J ++ [ls ((ent s).1 :: t)])) := fun J => v7 fE
 have hpl : ∀ (v : PV) (J : q4), jp [v] (μ ++ pl L :: J) = some (.ok (.loc (μ ++ pl L :: J).length), μ ++ pl L :: (J ++ [.list [v]])) := fun v J => vr le1
 have hex : ∀ (e : Str × PV) (J : q4), j0 (.loc μ.length) "extend" [.loc (μ ++ pl L :: J).length] (μ ++ pl L :: (J ++ [.list [qB e]])) = some (.ok .none, μ ++ pl (L ++ [e]) :: (J ++ [.list [qB e]])) := fun e J => Io (e := [e]) fE Bb hl
 unfold Mh
 rcases io.ok.s with ⟨x, hsp1⟩ | ⟨k, v, hsp1, hvl, hok⟩
 ·obtain ⟨q1, q2⟩ := Oz hsp1
  obtain ⟨J2, h208⟩ := Qb (n := n + 18) p2 hone le1 q1
  rw [yd] at h208
  refine ⟨[ls [s]] ++ J2 ++ [ls ((ent s).1 :: t)] ++ [.list [qB (ent s)]], .none, ?_⟩
  rw [q2] at hsp hit ⊢
  rw [<- PF, <- PF, <- PF]
  exact qm [fG (h1), fV (p1), fV (h208), fI ((JA : qv (μ ++ pl L :: (J ++ [ls [s]] ++ J2)) (PV.loc (Sp μ)) = none)), fL ((JF : j2 (μ ++ pl L :: (J ++ [ls [s]] ++ J2)) (PV.loc (Sp μ)) = some (Rm qB L))), fG (h2 .none), fG (h3 .none), fV (hsp (J ++ [ls [s]] ++ J2)), fV (hit (J ++ [ls [s]] ++ J2)), fG (h2 .none), fV (hpl (PV.tup [PV.str (RN (x, PV.none)), PV.none]) (J ++ [ls [s]] ++ J2 ++ [ls (RN (x, PV.none) :: t)])), fV (hex ((x, PV.none)) (J ++ [ls [s]] ++ J2 ++ [ls (RN (x, PV.none) :: t)]))] (by kernel_rfl)
 ·by_cases h0 : v.length = 0
  ·obtain ⟨q1, q2⟩ := Ph hsp1 h0
   obtain ⟨J2, h208⟩ := Qb (n := n + 18) p2 hone le1 q1
   rw [yd] at h208
   refine ⟨[ls [s]] ++ J2 ++ [ls ((ent s).1 :: t)] ++ [.list [qB (ent s)]], .int 0, ?_⟩
   rw [q2] at hsp hit ⊢
   rw [<- PF, <- PF, <- PF]
   exact qm [fG (h1), fV (p1), fV (h208), fI ((JA : qv (μ ++ pl L :: (J ++ [ls [s]] ++ J2)) (PV.loc (Sp μ)) = none)), fL ((JF : j2 (μ ++ pl L :: (J ++ [ls [s]] ++ J2)) (PV.loc (Sp μ)) = some (Rm qB L))), fG (h2 (.int 0)), fG (h2 (.int 0)), fG (h3 (.int 0)), fV (hsp (J ++ [ls [s]] ++ J2)), fV (hit (J ++ [ls [s]] ++ J2)), fG (h2 (.int 0)), fV (hpl (PV.tup [PV.str (RN (k, PV.int 0)), PV.int 0]) (J ++ [ls [s]] ++ J2 ++ [ls (RN (k, PV.int 0) :: t)])), fV (hex ((k, PV.int 0)) (J ++ [ls [s]] ++ J2 ++ [ls (RN (k, PV.int 0) :: t)]))] (by kernel_rfl)
  ·obtain ⟨q1, q2⟩ := OC hsp1 h0
   obtain ⟨J2, h208⟩ := Zm (n := n + 18) p2 hone le1 q1 (by rw [q2] at kl; show (decide (k.length <= Pr) && true) = true; rw [decide_eq_true (Pq kl (by decide))]; rfl) le1
   rw [yd (μ := μ) (c := pl L) (K := J2), yd (μ := μ) (c := pl L)] at h208
   refine ⟨[ls [s]] ++ J2 ++ [.list [qB (ent s)]], .loc (μ ++ pl L :: (J ++ [ls [s]] ++ J2)).length, ?_⟩
   rw [q2] at eo ⊢
   have hq := Nh (μ := μ ++ pl L :: (J ++ [ls [s]] ++ J2 ++ [.list [qB (k, .str (unq v))]])) (es := [(k, .str (unq v))]) fE fun e he => Pw.mp he ▸ eo
   rw [<- PF, <- PF]
   exact qm [fG (h1), fV (p1), fV (h208), fI ((JA : qv (μ ++ pl L :: (J ++ [ls [s]] ++ J2 ++ [q8.list (pairs [(k, PV.str (unq v))])])) (PV.loc (Sp μ)) = none)), fL ((JF : j2 (μ ++ pl L :: (J ++ [ls [s]] ++ J2 ++ [q8.list (pairs [(k, PV.str (unq v))])])) (PV.loc (Sp μ)) = some (Rm qB L))), fG (h2 (.loc (μ ++ pl L :: (J ++ [ls [s]] ++ J2)).length)), fG (h2 (.loc (μ ++ pl L :: (J ++ [ls [s]] ++ J2)).length)), fV (hq), fG (h2 (.loc (μ ++ pl L :: (J ++ [ls [s]] ++ J2)).length)), fV (hex ((k, PV.str (unq v))) (J ++ [ls [s]] ++ J2))] (by kernel_rfl)
end
structure Zl (rows : Ps) (nm : Str) : Prop where
 n : kW nm
 hr : rows.length <= 100000
 k : ∀ kv ∈ rows, KeyOK kv.1
 r : XP (q7 rows (Pt nm))
 hio : ∀ s ∈ qz (q7 rows (Pt nm)), IOK s
 hin : (qz (q7 rows (Pt nm))).length <= 1000000
section
variable {n T : Nat} {nm : Str} {μ J : q4} {c : q8} {items : List Str} {tl : Loc} {v : PV} {j : Nat}
theorem YS : q5 (μ ++ c :: J) (μ.length + 1 + j) = q5 J j := by
 unfold q5
 rw [A5, Rn (Rd ..), T7, UB 1 j]; rfl
theorem HD : qt (Xy T nm μ.length tl) (xO (qo 215).body) v = some (Xy T nm μ.length (upd tl "item" v)) := by kernel_rfl
structure Nv where
 tl : Loc
 J : q4
 L : Loc
structure OP (items : List Str) (j i : Nat) (a : Nv) : Prop where
 l : a.L = (items.take i).map ent
 p : q5 a.J j = some (items.map .str)
theorem D5 (hit : ∀ s ∈ items, IOK s) (hl : items.length <= Pr) (hp : q5 J j = some (items.map .str)) :
 ∃ tl' J', zJ (evN ftT (n + 40)) (.list (μ.length + 1 + j)) (xO (qo 215).body) (qR (qo 215).body) (items.length + 1) 0 (Xy T nm μ.length tl) (μ ++ pl [] :: J) = some (.ok .next, Xy T nm μ.length tl', μ ++ pl (items.map ent) :: J') := by
 refine xw (N := items.length) (S := fun a : Nv => Xy T nm μ.length a.tl) (M := fun a => μ ++ pl a.L :: a.J) (P := OP items j) (Q := fun R => ∃ tl' J', R = some (.ok .next, Xy T nm μ.length tl', μ ++ pl (items.map ent) :: J')) (a := ⟨tl, J, []⟩) (fun i a hi h => ?_) (fun a h => ⟨?_, a.tl, a.J, ?_⟩) ⟨rfl, hp⟩
 ·have hm := items[i]
  obtain ⟨J', v, ht⟩ := Dc (n := n) (T := T) (nm := nm) (μ := μ) (J := a.J) (L := a.L) (tl := a.tl) (hit _ (Rx hi)) (by rw [h.l, PH, T8]; exact Pq (Rb (TY ..)) (Pq hi hl))
  refine ⟨.str items[i], _, ?_, HD, .inl ⟨.next, ⟨_, _, _⟩, .inl rfl, ht, ?_, qc h.p⟩⟩
  ·rw [qF (YS.trans h.p), PW hi]; rfl
  ·rw [h.l, SX hi, Rt]; rfl
 ·rw [qF (YS.trans h.p), RC (PJ _)]; rfl
 ·rw [h.l, bC]
section
variable {d H : Nat} {rows : Ps}
noncomputable abbrev told (rows : Ps) (nm : Str) : Loc := (qz (q7 rows (Pt nm))).map ent
theorem Vn (t : Tab μ T d H rows) (k : Zl rows nm) : ∃ J, (evN ftT (n + 60)).call 215 [.loc T, .str nm] [] μ = some (.ok (.loc μ.length), μ ++ pl (told rows nm) :: J) := by
 obtain ⟨J1, h201⟩ := WV (n := n + 17) (t.app (J := [.list []])) k.n (Pq k.hr (by decide)) k.k k.r
 have hm : q5 (J1 ++ [ls (qz (q7 rows (Pt nm)))]) J1.length = some ((qz (q7 rows (Pt nm))).map .str) := q6
 obtain ⟨tl, J, hl⟩ := D5 (n := n + 18) (T := T) (nm := nm) (μ := μ) (tl := []) k.hio (Pq k.hin (by decide)) hm
 have e : (μ ++ [q8.list []] ++ J1).length = μ.length + 1 + J1.length := by rw [PB, PB]; rfl
 rw [e, yd (μ := μ) (c := .list []), yd (μ := μ) (c := .list [])] at h201
 refine ⟨J, ?_⟩
 have hs := qK (YS (μ := μ) (c := .list []) |>.trans hm)
 rw [PH] at hs
 exact jv (n := n) (k := 59) [.d, fV (h201), fR (hs), fS (hl)] (by kernel_rfl)
end
end
theorem jU {a b : Str} (h : a.cps.toList = b.cps.toList) : a = b := by
 obtain ⟨⟨a⟩⟩ := a; obtain ⟨⟨b⟩⟩ := b; simp only at h; rw [h]
theorem qr (a b : Str) : (a ++ b).cps.toList = a.cps.toList ++ b.cps.toList := by
 show (a.cps ++ b.cps).toList = _
 simp
theorem qh (a b c : Str) : a ++ b ++ c = a ++ (b ++ c) := jU (by simp [qr])
theorem jP (a : Str) : PE ++ a = a := jU (by simp [qr, PE])
theorem vh (a : Str) : a ++ PE = a := jU (by simp [qr, PE])
noncomputable def yz (l : List Str) (p : Str) (s : PM') : PM' := match s.l with
 | [] => ⟨l, p ++ s.p, s.e, s.q⟩
 | h :: t => ⟨l ++ ((p ++ h) :: t), s.p, s.e, s.q⟩
theorem Wn {l : List Str} {p : Str} : yz l p m0 = ⟨l, p, false, false⟩ := by
 unfold yz m0; simp only [vh]
theorem Qy {α β : Type} {c : Prop} [Decidable c] {f : α -> β} {x y : β} {a b : α} (h1 : x = f a) (h2 : y = f b) : (if c then x else y) = f (if c then a else b) := by
 by_cases h : c
 ·rw [if_pos h, if_pos h, h1]
 ·rw [if_neg h, if_neg h, h2]
theorem GH {l : List Str} {p x y : Str} {e q : Bool} : (⟨l, p ++ x ++ y, e, q⟩ : PM') = ⟨l, p ++ (x ++ y), e, q⟩ := by rw [qh]
theorem HN {l t : List Str} {a p : Str} {x : List Str} {e q : Bool} : (⟨l ++ a :: t ++ x, p, e, q⟩ : PM') = ⟨l ++ a :: (t ++ x), p, e, q⟩ := by rw [PF]; rfl
theorem Ys {l : List Str} {p : Str} {s : PM'} {c : Nat} : yB (yz l p s) c = yz l p (yB s c) := by
 obtain ⟨sl, sp, e, q⟩ := s
 have go : ∀ {g : PM' -> PM'} {l' : List Str} {p' : Str}, (∀ e q, (⟨l', p' ++ ch c, e, q⟩ : PM') = g ⟨sl, sp ++ ch c, e, q⟩) -> (∀ e q, (⟨l', p', e, q⟩ : PM') = g ⟨sl, sp, e, q⟩) -> (⟨l' ++ [p'], PE, e, q⟩ : PM') = g ⟨sl ++ [sp], PE, e, q⟩ -> yB ⟨l', p', e, q⟩ c = g (yB ⟨sl, sp, e, q⟩ c) :=
  fun h1 h2 h3 => Qy (h1 _ _) (Qy (Qy (h2 _ _) (Qy (h1 _ _) (h1 _ _))) (Qy h3 (Qy (h1 _ _) (h1 _ _))))
 cases sl with
 | nil => exact go (g := yz l p) (fun zz zz => GH) (fun zz zz => rfl) rfl
 | cons a t => exact go (g := yz l p) (fun zz zz => rfl) (fun zz zz => rfl) HN
theorem vJ {l : List Str} {p : Str} : ∀ {cs : List Nat} {s : PM'}, xo (yz l p s) cs = yz l p (xo s cs)
 | [], _ => rfl
 | c :: cs, s => by simp only [xo, Ys, vJ]
theorem fc : ∀ {a b : List Nat} {s : PM'}, xo s (a ++ b) = xo (xo s a) b
 | [], _, _ => rfl
 | c :: a, b, s => by simp only [AW, xo, fc]
noncomputable def run (x : Str) : PM' := xo m0 x.cps.toList
def qp (x : Str) : Prop := (run x).e = false /\ (run x).q = false
noncomputable def raw (s : PM') : List Str := s.l ++ [s.p]
noncomputable def jL (x : Str) : List Str := (raw (run x)).map RT
theorem gh {a b : Str} (h : qp a) : run (a ++ b) = yz (run a).l (run a).p (run b) := by
 unfold run
 rw [qr, fc]
 have : xo m0 a.cps.toList = yz (run a).l (run a).p m0 := by
  rw [Wn]
  obtain ⟨h1, h2⟩ := h
  show run a = _
  generalize run a = s at *
  obtain ⟨l, p, e, q⟩ := s
  simp only at h1 h2 ⊢
  rw [h1, h2]
 rw [this, vJ]
 rfl
theorem vy {l : List Str} {p : Str} {s : PM'} : raw (yz l p s) = l ++ (match raw s with | [] => [] | h :: t => (p ++ h) :: t) := by
 obtain ⟨sl, sp, e, q⟩ := s
 cases sl with
 | nil => simp [yz, raw]
 | cons a t => simp [yz, raw]
theorem WT {l : List Str} {p : Str} {s : PM'} : (yz l p s).e = s.e /\ (yz l p s).q = s.q := by
 unfold yz; split <;> exact ⟨rfl, rfl⟩
theorem xm {a b : Str} (ha : qp a) (hb : qp b) : qp (a ++ b) := by
 unfold qp
 rw [gh ha, WT.1, WT.2]
 exact hb
theorem vI {a b : Str} (ha : qp a) : raw (run (a ++ (ch 44 ++ b))) = raw (run a) ++ raw (run b) := by
 have hc : run (ch 44 ++ b) = yz [PE] PE (run b) := by
  unfold run
  rw [qr, fc]
  have : xo m0 (ch 44).cps.toList = yz [PE] PE m0 := by rw [Wn]; rfl
  rw [this, vJ]
 rw [gh ha, hc, vy, vy]
 unfold raw
 cases (run b).l <;> simp [jP, vh]
theorem zm {a b : Str} (ha : qp a) (hb : qp b) : qp (a ++ (ch 44 ++ b)) :=
 xm ha (xm ⟨rfl, rfl⟩ hb)
noncomputable def zn (c : Nat) : Bool := !(c == 44) && !(c == 34)
theorem J9 : ∀ {cs : List Nat} {l : List Str} {p : Str}, cs.all zn = true -> xo ⟨l, p, false, false⟩ cs = ⟨l, p ++ ⟨cs.toArray⟩, false, false⟩
 | [], l, p, _ => by
   have : (⟨[].toArray⟩ : Str) = PE := rfl
   simp only [xo, this, vh]
 | c :: cs, l, p, h => by
   simp only [Uj, Rl] at h
   obtain ⟨h1, h2⟩ := h
   unfold zn at h1
   simp at h1
   have : yB ⟨l, p, false, false⟩ c = ⟨l, p ++ ch c, false, false⟩ := by unfold yB; simp [h1]
   simp only [xo, this]
   rw [J9 h2, qh]
   have e : ch c ++ ⟨cs.toArray⟩ = (⟨(c :: cs).toArray⟩ : Str) := jU (by simp [qr, ch])
   rw [e]
theorem XQ {a : Str} (h : a.cps.toList.all zn = true) : run a = ⟨[], a, false, false⟩ := by
 unfold run m0
 rw [J9 h, jP]
theorem w9 {a : Str} (h : a.cps.toList.all zn = true) : qp a := by unfold qp; rw [XQ h]; exact ⟨rfl, rfl⟩
theorem fU {a b : Str} (h : a.cps.toList.all zn = true) : raw (run (a ++ b)) = (match raw (run b) with | [] => [] | x :: t => (a ++ x) :: t) := by
 rw [gh (w9 h), XQ h, vy]
 rfl
theorem F7 {a b : Str} (ha : qp a) (h : b.cps.toList.all zn = true) : raw (run (a ++ b)) = (run a).l ++ [(run a).p ++ b] := by
 rw [gh ha, XQ h, vy]
 rfl
section
open Builtin Builtin.Str
noncomputable def xF (l : List Nat) : List Nat := ((l.dropWhile Rp).reverse.dropWhile Rp).reverse
theorem wk {g : Nat -> Bool} : ∀ l : List Nat, l.drop (l.takeWhile g).length = l.dropWhile g
 | [] => rfl
 | c :: l => by
   induction h : g c with
   | true => simp [ay, az, h, wk l]
   | false => simp [ay, az, h]
theorem xk (x : Str) : (RT x).cps.toList = xF x.cps.toList := by
 have h := PyProof.Rows.stripBy_eq Rp true true x
 show (bH Rp true true x).cps.toList = _
 rw [h]
 unfold strSub stripHi stripLo xF
 simp only [if_true, aa]
 rw [UR, wk]
 generalize hd : x.cps.toList.dropWhile Rp = d
 have hl : (x.cps.toList.takeWhile Rp).length + d.length = x.length := by
  rw [<- hd, <- wk, List.length_drop]
  have : (x.cps.toList.takeWhile Rp).length <= x.cps.toList.length := (List.takeWhile_prefix _).length_le
  have h2 : x.cps.toList.length = x.length := by simp [Sa]
  omega
 rw [<- wk d.reverse, List.drop_reverse, Up]
 congr 1
 omega
theorem X9 {c : Nat} {l : List Nat} (h : Rp c = true) : xF (c :: l) = xF l := by
 unfold xF; rw [Tx h]
set_option tactic.hygienic true in
theorem ZU {c : Nat} {l : List Nat} (h : Rp c = true) : xF (l ++ [c]) = xF l := by
 unfold xF
 rw [AF]
 split
 ·rename_i hq
  rw [Rf] at hq
  rw [hq, Tx h]
  rfl
 ·rw [TP]
  show (ae _ (c :: _)).reverse = _
  rw [Tx h]
  rfl
theorem YA {c : Nat} {x : Str} (h : Rp c = true) : RT (ch c ++ x) = RT x := jU (by
 rw [xk, xk, qr]
 exact X9 h)
theorem Yy {c : Nat} {x : Str} (h : Rp c = true) : RT (x ++ ch c) = RT x := jU (by
 rw [xk, xk, qr]
 exact ZU h)
theorem HE : Rp 32 = true := by decide +kernel
theorem sp9 : Rp 9 = true := by decide +kernel
noncomputable def its (x : Str) : List Str := (jL x).filter fun s => !(s == Pv "")
theorem xj {a b : Str} (ha : qp a) : jL (a ++ (ch 44 ++ b)) = jL a ++ jL b := by
 unfold jL; rw [vI ha, Rt]
theorem Fi {s : PM'} : ∃ h t, raw s = h :: t := by
 unfold raw; cases s.l <;> simp
theorem wg {c : Nat} {b : Str} (hp : zn c = true) (hs : Rp c = true) : jL (ch c ++ b) = jL b := by
 unfold jL
 rw [fU (by simp [ch, hp])]
 obtain ⟨h, t, e⟩ := Fi (s := run b)
 rw [e]
 simp only [RO, YA hs]
theorem Ko {c : Nat} {a : Str} (ha : qp a) (hp : zn c = true) (hs : Rp c = true) : jL (a ++ ch c) = jL a := by
 unfold jL
 rw [F7 ha (by simp [ch, hp])]
 unfold raw
 rw [Rt, Rt, RO, RO, Yy hs]
theorem xt {c : Nat} {b : Str} (hp : zn c = true) (hb : qp b) : qp (ch c ++ b) := xm (w9 (by simp [ch, hp])) hb
theorem Xo {c : Nat} {b : Str} (hp : zn c = true) (hb : qp b) : qp (b ++ ch c) := xm hb (w9 (by simp [ch, hp]))
theorem f9 : qM = ch 44 ++ ch 32 := by decide +kernel
theorem jC {sep a b : Str} {l : List Str} : PU sep (a :: b :: l) = a ++ sep ++ PU sep (b :: l) := by
 show glued sep _ = _ ++ glued sep _
 rw [SQ, SQ]
 rfl
theorem jB {sep a : Str} : PU sep [a] = a := by
 show glued sep _ = _
 rw [SQ]; rfl
theorem gD {sep : Str} : PU sep [] = PE := by
 show glued sep _ = _
 rw [SQ]; rfl
theorem kz : ∀ {l : List Str}, (∀ r ∈ l, qp r) -> qp (PU qM l)
 | [], _ => by rw [gD]; exact ⟨rfl, rfl⟩
 | [a], h => by rw [jB]; exact h a (.head _)
 | a :: b :: l, h => by
   rw [jC, f9, qh, qh]
   exact zm (h a (.head _)) (xt rfl (kz fun r hr => h r (.tail _ hr)))
theorem vO : ∀ {l : List Str}, l ≠ [] -> (∀ r ∈ l, qp r) -> jL (PU qM l) = l.flatMap jL
 | [], h, _ => absurd rfl h
 | [a], _, h => by rw [jB]; simp
 | a :: b :: l, _, h => by
   rw [jC, f9, qh, qh, xj (h a (.head _)), wg rfl HE, <- f9, vO (by simp) fun r hr => h r (.tail _ hr)]
   rfl
theorem KA (x : Str) : (qH x).filter (fun s => !(s == Pv "")) = its x := by
 unfold its jL qH Kj raw run
 by_cases h : (xo m0 x.cps.toList).p.length = 0
 ·rw [if_pos h, Rt, SL]
  have e : (xo m0 x.cps.toList).p = PE := jU (by simpa [Sa, PE] using h)
  rw [e]
  have : [PE].map RT = [Pv ""] := by decide +kernel
  rw [this]
  simp
 ·rw [if_neg h]
theorem wX {l : List Str} (h : ∀ r ∈ l, qp r) : qz l = l.flatMap its := by
 unfold qz
 rw [KA]
 by_cases hl : l = []
 ·subst hl
  rw [gD]
  decide +kernel
 ·unfold its
  rw [vO hl h, aA]
end
noncomputable def wr (k : Str) (p : PV) (q : Int) : Str := match p with
 | .int _ => k ++ Pv "="
 | .str s => if q = 2 then k ++ Pv "=" ++ (if s.length = 0 then Pv "\"\"" else s) else if q = 3 then k ++ Pv "=\"" ++ PU PE (bsl s) ++ Pv "\"" else fmt k s q
 | _ => k
noncomputable def C5 : PV -> PV -> Bool
 | .none, .none => true
 | .int a, .int b => a == b
 | .str a, .str b => a == b
 | _, _ => false
theorem Vj {a b : PV} (h : C5 a b = true) : a = b := by
 unfold C5 at h
 split at h
 ·rfl
 ·rw [eq_of_beq h]
 ·rw [eq_of_beq h]
 ·cases h
noncomputable def HF : PV -> Bool
 | .none => true
 | .int a => a == 0
 | .str s => Pz s
 | _ => false
theorem Er {p : PV} (h : HF p = true) : TOK p := by
 unfold HF at h
 split at h
 ·exact .inl rfl
 ·rw [eq_of_beq h]; exact .inr (.inl rfl)
 ·exact .inr (.inr ⟨_, rfl, h⟩)
 ·cases h
noncomputable def IM (s : Str) : Bool := decide (s.length <= 1000) && (match sp s with
 | [_] => true
 | [_, v] => decide (v.length <= 1000) && Pz v
 | _ => false) && (match SE s (Pv "=") with
 | h :: t => (h == (ent s).1) && decide (t.length <= 1000)
 | [] => false) && (decide ((ent s).1.length <= 1000) && (Pz (ent s).1 && HF (ent s).2))
set_option tactic.hygienic true in
theorem Ew {s : Str} (h : IM s = true) : IOK s := by
 unfold IM at h
 simp only [Rl, decide_eq_true_eq] at h
 obtain ⟨⟨⟨h1, h2⟩, h3⟩, h4, h5, h6⟩ := h
 refine ⟨⟨by omega, ?_⟩, by omega, ?_, by omega, h5, Er h6⟩
 ·split at h2
  ·rename_i x q; exact .inl ⟨x, q⟩
  ·rename_i k v q
   simp only [Rl, decide_eq_true_eq] at h2
   exact .inr ⟨k, v, q, by omega, h2.2⟩
  ·cases h2
 ·split at h3
  ·rename_i x t q
   simp only [Rl, decide_eq_true_eq] at h3
   exact ⟨t, q.trans (by rw [eq_of_beq h3.1]), by omega⟩
  ·cases h3
noncomputable def okC (c : Nat) : Bool := decide (c < 0x110000) && !QD c
noncomputable def Dp (r : Str) (e : Str × PV) : Bool := let s := run r
 s.l.isEmpty && !s.e && !s.q && (let i := RT s.p; !(i == Pv "") && IM i && ((ent i).1 == e.1 && C5 (ent i).2 e.2)) && r.cps.toList.all okC && decide (r.length <= 60)
noncomputable def Hg : List Nat := [32, 40, 41, 60, 62, 64, 44, 59, 58, 92, 34, 47, 91, 93, 63, 61]
noncomputable def SG : List Str := Hg.map ch ++ [120, 39, 33, 123, 45].map ch ++ [PE]
noncomputable def TL : List Str := [PE, ch 9, ch 34, ch 92, ch 121, ch 31, ch 127, ch 128, ch 10, ch 13]
noncomputable def RAW : List Str := [Pv "\"\"y", Pv "y\",\"", PE]
noncomputable def TXT : List Str := (SG.flatMap fun a => TL.map (a ++ ·)) ++ RAW
noncomputable def gd (t : Str) : Bool := !(t.cps.toList.any fun c => [10, 13, 31, 127].contains c)
noncomputable def K3 : List Str := [Pv "k", Pv "K", Pv "a-b\\"]
noncomputable def zed : Str := Pv "z; "
noncomputable def K6 : List Str := K3 ++ K3.map (zed ++ ·)
section
open Builtin Builtin.Str StrLaws
theorem gP {x y : Str} {c : Nat} {ys : List Nat} (hy : y.cps.toList = c :: ys) {i : Nat} (h : At x y x.length i) : x.cps.toList[i]? = some c := by
 obtain ⟨h1, h2⟩ := h
 unfold subAt at h2
 have e := congrArg Array.toList (eq_of_beq h2)
 rw [aa, UR, hy] at e
 have := congrArg (fun l => l[0]?) e
 simp only [List.getElem?_cons_zero] at this
 rw [List.getElem?_take] at this
 split at this
 ·rw [List.getElem?_drop] at this; simpa using this
 ·cases this
theorem Bv {p y v : Str} : At (p ++ (y ++ v)) y (p ++ (y ++ v)).length p.length := by
 refine ⟨by simp only [PL]; lia, ?_⟩
 unfold subAt
 rw [beq_iff_eq]
 have e : (strSub (p ++ (y ++ v)) p.length (p.length + y.length)).cps.toList = y.cps.toList := by
  rw [strSub_toList, qr, qr, List.drop_append_of_le_length (by simp [Sa])]
  have : List.drop p.length p.cps.toList = [] := List.drop_eq_nil_iff.mpr (by simp [Sa])
  rw [this, U2, T7, Ta (by simp [Sa]), Tg (by simp [Sa])]
 exact Array.toList_inj.mp e
theorem Ff {p z : Str} {c : Nat} (hc : c ∉ p.cps.toList) {i : Nat} (hi : i < p.length) : (p ++ z).cps.toList[i]? ≠ some c := by
 rw [qr, RB (by simpa [Sa] using hi)]
 intro e
 exact hc (Rr e)
theorem Xc {p z : Str} : strSub (p ++ z) 0 p.length = p := jU (by
 rw [strSub_toList, qr]
 simp [Sa])
theorem fB {p z : Str} : strSub (p ++ z) p.length (p ++ z).length = z := jU (by
 rw [strSub_toList, qr, PL]
 simp [Sa]
 exact Tg (by simp))
theorem Wf {k y v : Str} {c : Nat} {ys : List Nat} (hy : y.cps.toList = c :: ys) (hk : c ∉ k.cps.toList) {limit : Nat} (hl : 1 <= limit) :
 ∃ r, occurrences (k ++ (y ++ v)) y 0 (k ++ (y ++ v)).length limit = k.length :: r := by
 rcases occ_head (k ++ (y ++ v)) y limit hl with ⟨_, h⟩ | ⟨i, r, h1, h2, h3⟩
 ·exact absurd Bv (h k.length)
 ·refine ⟨r, ?_⟩
  have : i = k.length := by
   rcases UT i k.length with q | q | q
   ·exact absurd (gP hy h2) (Ff hk q)
   ·exact q
   ·exact absurd Bv (h3 _ q)
  rw [h1, this]
theorem can {k y v : Str} (hs : strKind y = 1) : (decide ((k ++ (y ++ v)).length < y.length) || decide (strKind (k ++ (y ++ v)) < strKind y)) = false := by
 have h1 := strKind_pos (k ++ (y ++ v))
 have h2 : y.length <= (k ++ (y ++ v)).length := by simp only [PL]; lia
 rw [hs]
 simp
 lia
theorem QW {k y v : Str} {c : Nat} {ys : List Nat} (hy : y.cps.toList = c :: ys) (hs : strKind y = 1) (hk : c ∉ k.cps.toList) : Tz (k ++ (y ++ v)) y 1 = [k, v] := by
 unfold Tz
 rw [if_neg (by rw [can hs]; decide)]
 have hlim : bV (k ++ (y ++ v)) 1 = 1 := rfl
 rw [hlim]
 obtain ⟨r, hr⟩ := Wf (v := v) hy hk (PJ 1)
 have hle := occ_length_le (k ++ (y ++ v)) y 0 (k ++ (y ++ v)).length 1
 rw [hr] at hle ⊢
 have : r = [] := by induction r using PC with | nil => rfl | cons a b => simp at hle
 subst this
 rw [if_neg (by simp), partsBetween_eq]
 unfold partsFrom partsFrom
 rw [Xc, <- qh]
 have e : k.length + y.length = (k ++ y).length := by rw [PL]
 rw [e, fB]
theorem Gu {k y v : Str} {c : Nat} {ys : List Nat} (hy : y.cps.toList = c :: ys) (hs : strKind y = 1) (hk : c ∉ k.cps.toList) : ∃ t, SE (k ++ (y ++ v)) y = k :: t := by
 unfold SE
 rw [if_neg (by rw [can hs]; decide)]
 obtain ⟨r, hr⟩ := Wf (v := v) hy hk (limit := (k ++ (y ++ v)).length + 1) (by lia)
 rw [hr, if_neg (by simp), partsBetween_eq]
 unfold partsFrom
 rw [Xc]
 exact ⟨_, rfl⟩
theorem HT {pre p z : Str} : strSub (pre ++ (p ++ z)) pre.length (pre.length + p.length) = p := jU (by
 rw [strSub_toList, qr, qr]
 simp [Sa])
theorem Ic {pre p y v : Str} : At (pre ++ (p ++ (y ++ v))) y (pre ++ (p ++ (y ++ v))).length (pre.length + p.length) := by
 have := Bv (p := pre ++ p) (y := y) (v := v)
 rw [qh] at this
 rw [show pre.length + p.length = (pre ++ p).length from (PL ..).symm]
 exact this
theorem Vb {pre p z : Str} {c : Nat} (hc : c ∉ p.cps.toList) {i : Nat} (h1 : pre.length <= i) (hi : i < pre.length + p.length) : (pre ++ (p ++ z)).cps.toList[i]? ≠ some c := by
 rw [qr, Rn (by simpa [Sa] using h1)]
 have e : pre.cps.toList.length = pre.length := by simp [Sa]
 rw [e]
 exact Ff hc (by lia)
theorem Q8 {y : Str} {c : Nat} {ys : List Nat} (hy : y.cps.toList = c :: ys) : ∀ (l : List Str) (p pre : Str) (cuts : List Nat) (f : Nat) (x : Str), x = pre ++ PU y (p :: l) -> (∀ q ∈ p :: l, c ∉ q.cps.toList) ->
 ChainG x y x.length pre.length cuts f -> (∀ k, f <= k -> ¬ At x y x.length k) -> partsFrom x y.length pre.length cuts = p :: l
 | [], p, pre, cuts, f, x, hx, hq, hG, hn => by
   rw [jB] at hx
   subst hx
   have hno : ∀ k, pre.length <= k -> ¬ At (pre ++ p) y (pre ++ p).length k := by
    intro k hk hA
    have h1 := gP hy hA
    have hl : y.cps.toList.length = y.length := by simp [Sa]
    rw [hy] at hl
    simp at hl
    have h2 := hA.1
    rw [PL] at h2
    have := Vb (z := PE) (hq p (.head _)) hk (by lia)
    rw [vh] at this
    exact this h1
   induction cuts using PC with
   | nil =>
     unfold partsFrom
     rw [fB]
   | cons a r => exact absurd hG.2.1 (hno a hG.1)
 | q :: l, p, pre, cuts, f, x, hx, hq, hG, hn => by
   rw [jC, qh] at hx
   subst hx
   have hA := Ic (pre := pre) (p := p) (y := y) (v := PU y (q :: l))
   induction cuts using PC with
   | nil =>
     have : f = pre.length := hG
     exact absurd hA (hn _ (by lia))
   | cons a r =>
     obtain ⟨g1, g2, g3, g4⟩ := hG
     have ha : a = pre.length + p.length := by
      rcases UT a (pre.length + p.length) with h | h | h
      ·exact absurd (gP hy g2) (Vb (hq p (.head _)) g1 h)
      ·exact h
      ·exact absurd hA (g3 _ (by lia) h)
     subst ha
     unfold partsFrom
     rw [HT]
     have e : pre.length + p.length + y.length = (pre ++ (p ++ y)).length := by simp only [PL]; lia
     rw [e] at g4 ⊢
     rw [Q8 hy l q (pre ++ (p ++ y)) r f _ (by simp only [qh]) (fun z hz => hq z (.tail _ hz)) g4 hn]
set_option tactic.hygienic true in
theorem Ya {y : Str} {c : Nat} {ys : List Nat} (hy : y.cps.toList = c :: ys) (hs : strKind y = 1) {p : Str} {l : List Str} (hq : ∀ q ∈ p :: l, c ∉ q.cps.toList) : SE (PU y (p :: l)) y = p :: l := by
 have hl : 1 <= y.length := by
  have : y.cps.toList.length = y.length := by simp [Sa]
  rw [hy] at this
  simp at this
  lia
 obtain ⟨f, hG, hn⟩ := occ_tight (PU y (p :: l)) y hl
 have key := Q8 hy l p PE _ f (PU y (p :: l)) (by rw [jP]) hq hG hn
 have h0 : PE.length = 0 := rfl
 rw [h0, <- partsBetween_eq] at key
 unfold SE
 split
 ·rename_i hc
  induction l using PC with
  | nil => rw [jB]
  | cons q l =>
    exfalso
    rw [jC, qh, can hs] at hc
    cases hc
 ·split
  ·rename_i hq2
   rw [Rf.mp hq2] at key
   rw [partsBetween_eq] at key
   unfold partsFrom at key
   have := fB (p := PE) (z := PU y (p :: l))
   rw [jP, h0] at this
   rw [this] at key
   exact key
  ·exact key
end
section
open PySem.Builtin
theorem yP {sep : Str} {l : List Str} (h : (l.map (·.length)).sum + l.length * sep.length <= 16777216) : (Ur sep l && decide ((PU sep l).length <= Pr)) = true := by
 have h1 : Ur sep l = true := by
  unfold Ur am
  rw [StrLaws.joinTotal]
  exact (S8 _).mpr (decide_eq_false (Sh.mpr h))
 rw [h1, decide_eq_true (joinOk_length h1)]; rfl
noncomputable def Je : Str := "; "
theorem QJ : (ftT 184).isSome = true := by kernel_rfl
theorem fk {o u v p : PV} {k : Str} {μ : q4} (hk : yi.contains k = true) : jG 184 (qo 184) [o, u, v] [(k, p)] μ = some (⟨qn 184, [("self", o), ("_name", u), ("_value", v), ("_params", .loc μ.length)]⟩, μ ++ [.kw [(k, p)]]) := by
 have e : jG 184 (qo 184) [o, u, v] [(k, p)] μ = (if (true && (yi.contains k && true)) = true then some (⟨qn 184, [("self", o), ("_name", u), ("_value", v), ("_params", .loc μ.length)]⟩, μ ++ [.kw [(k, p)]]) else none) := by kernel_rfl
 rw [e, hk]; rfl
theorem Cp {o u v : PV} {μ : q4} : jG 184 (qo 184) [o, u, v] [] μ = some (⟨qn 184, [("self", o), ("_name", u), ("_value", v), ("_params", .loc μ.length)]⟩, μ ++ [.kw []]) := by kernel_rfl
section
variable {r : Ev} {σ σ' σ₁ : LE} {t : Expr} {body : List Sf} {m : Nat} {k : Str} {p : PV} {μ μ₁ : q4} {x : Exn}
theorem C7 (hp : zj μ m = some []) : y7 r σ t body (.loc m) μ = some (.ok .next, σ, μ) := by
 show (zj μ m).bind _ = _
 rw [hp]; rfl
theorem WY (hp : zj μ m = some [(k, p)]) (hk : k.length <= Pr) (hb : qt σ t (.tup [.str k, p]) = some σ') (he : r.ex σ' body μ = some (.ok .next, σ₁, μ₁)) (hp' : zj μ₁ m = some [(k, p)]) : y7 r σ t body (.loc m) μ = some (.ok .next, σ₁, μ₁) := by
 show (zj μ m).bind _ = _
 rw [hp]
 show (if (true && decide (k.length <= Pr)) = true then _ else _) = _
 rw [decide_eq_true hk]
 show (qt σ t _).bind _ = _
 rw [hb]
 show (match r.ex σ' body μ with | some (.ok .next, σ₁, μ₁) => _ | some (.error x, σ₁, μ₁) => _ | _ => _) = _
 rw [he]
 show ((zj μ₁ m).bind one).bind _ = _
 rw [hp']; rfl
theorem D6 (hp : zj μ m = some [(k, p)]) (hk : k.length <= Pr) (hb : qt σ t (.tup [.str k, p]) = some σ') (he : r.ex σ' body μ = some (.error x, σ₁, μ₁)) : y7 r σ t body (.loc m) μ = some (.error x, σ₁, μ₁) := by
 show (zj μ m).bind _ = _
 rw [hp]
 show (if (true && decide (k.length <= Pr)) = true then _ else _) = _
 rw [decide_eq_true hk]
 show (qt σ t _).bind _ = _
 rw [hb]
 show (match r.ex σ' body μ with | some (.ok .next, σ₁, μ₁) => _ | some (.error x, σ₁, μ₁) => _ | _ => _) = _
 rw [he]
end
theorem Gk {m : SR'} {σ : LE} {μ : q4} (h : m = some (.ok .next, σ, μ)) : zX m = some (.ok .none, μ) := h ▸ rfl
theorem Bm {m : SR'} {σ : LE} {μ : q4} {x : Exn} (h : m = some (.error x, σ, μ)) : zX m = some (.error { x with here := false }, μ) := h ▸ rfl
noncomputable abbrev xR (T : Nat) (nm : Str) (v0 : PV) (P Q : Nat) (tl : Loc) : LE := ⟨qn 184, ("self", .loc T) :: ("_name", .str nm) :: ("_value", v0) :: ("_params", .loc P) :: ("parts", .loc Q) :: tl⟩
noncomputable abbrev wy (k : Str) (p : PV) : Loc := [("k", .str k), ("v", p)]
noncomputable def usc (k : Str) : Str := Sz k "_" "-"
theorem GV {x : Str} {μ : q4} (hx : x.length <= 1000) : jV x "replace" [.str "_", .str "-"] μ = some (.ok (.str (usc x)), μ) := by
 show (if decide (16000000 < x.length) = true then none else if (decide (x.length <= 1048576)) = true then _ else _) = _
 rw [if_neg (by rw [decide_eq_true_iff]; lia), if_pos (decide_eq_true (by lia))]; rfl
section
variable {n T d H P : Nat} {nm k s : Str} {v0 : PV} {M : q4} {rows : Ps} {l : List Str} {tl : Loc} (t : Tab M T d H rows)
theorem WN {v : Str} (hl : l.length + 1 <= Pr) : j0 (.loc M.length) "append" [.str v] (M ++ [ls l]) = some (.ok .none, M ++ [ls (l ++ [v])]) := Yr hl
include t
theorem Ob (hl : l.length + 1 <= Pr) (hk : bad true k = false) (hkl : k.length <= 1000) :
 (evN ftT (n + 30)).ex (xR T nm v0 P M.length (wy k .none)) (qR (qo 184).body) (M ++ [ls l]) = some (.ok .next, xR T nm v0 P M.length (wy k .none), M ++ [ls (l ++ [usc k])]) := by
 have t' := t.app (J := [ls l])
 exact qm [fI (t'.i), .c (t'.ok rfl : ql (M ++ [ls l]) d (Pv "_convert_string_type") = true), fV (jx (n := n + 19) (o := PV.loc T) (μ := M ++ [ls l]) hk), fI (xe (μ := M) (l := Rm PV.str l)), fL (zC (μ := M) (l := Rm PV.str l)), fV (GV (μ := M ++ [ls l]) hkl), fV ((WN hl : j0 (PV.loc (Sp M)) (Pv "append") [PV.str (usc k)] (M ++ [ls l]) = some (Rs PV.none, M ++ [ls (l ++ [usc k])])))] (by kernel_rfl)
theorem Mq (hl : l.length + 1 <= Pr) (hk : bad true k = false) (hkl : k.length <= 1000) (hs : bad false s = false) (hf : yV (usc k) s) :
 (evN ftT (n + 30)).ex (xR T nm v0 P M.length (wy k (.str s))) (qR (qo 184).body) (M ++ [ls l]) = some (.ok .next, xR T nm v0 P M.length (wy k (.str s)), M ++ [ls (l ++ [fmt (usc k) s 1])]) := by
 have t' := t.app (J := [ls l])
 exact qm [fI (t'.i), .c (t'.ok rfl : ql (M ++ [ls l]) d (Pv "_convert_string_type") = true), fV (jx (n := n + 19) (o := PV.loc T) (μ := M ++ [ls l]) hk), fI (t'.i), .c (t'.ok rfl : ql (M ++ [ls l]) d (Pv "_convert_string_type") = true), fV (jx (n := n + 18) (o := PV.loc T) (μ := M ++ [ls l]) hs), fI (xe (μ := M) (l := Rm PV.str l)), fL (zC (μ := M) (l := Rm PV.str l)), fV (GV (μ := M ++ [ls l]) hkl), fV (C6 (n := n + 11) (μ := M ++ [ls l]) hf), fV ((WN hl : j0 (PV.loc (Sp M)) (Pv "append") [PV.str (fmt (usc k) s 1)] (M ++ [ls l]) = some (Rs PV.none, M ++ [ls (l ++ [fmt (usc k) s 1])])))] (by kernel_rfl)
theorem Nd (hk : bad true k = false) (hs : bad false s = true) :
 (evN ftT (n + 30)).ex (xR T nm v0 P M.length (wy k (.str s))) (qR (qo 184).body) (M ++ [ls l]) = some (.error fK, xR T nm v0 P M.length (wy k (.str s)), M ++ [ls l]) := by
 have t' := t.app (J := [ls l])
 exact qm [fI (t'.i), .c (t'.ok rfl : ql (M ++ [ls l]) d (Pv "_convert_string_type") = true), fV (jx (n := n + 19) (o := PV.loc T) (μ := M ++ [ls l]) hk), fI (t'.i), .c (t'.ok rfl : ql (M ++ [ls l]) d (Pv "_convert_string_type") = true), fV (Zg (n := n + 18) (o := PV.loc T) (μ := M ++ [ls l]) hs)] (by kernel_rfl)
noncomputable abbrev Yc (n T : Nat) (nm : Str) (v0 : PV) (P : Nat) (M : q4) (l : List Str) : SR' := y7 (evN ftT (n + 38)) (xR T nm v0 P M.length []) (xO (qo 184).body) (qR (qo 184).body) (.loc P) (M ++ [ls l])
noncomputable abbrev CV (n T : Nat) (nm : Str) (v0 : PV) (P : Nat) (M : q4) : PR PV := zX ((evN ftT (n + 39)).ex ⟨qn 184, [("self", .loc T), ("_name", .str nm), ("_value", v0), ("_params", .loc P)]⟩ (qo 184).body M)
theorem Vl (hb : bad true nm = false) (hr : rows.length + 1 <= Pr) (hj : (Ur Je l && decide ((PU Je l).length <= Pr)) = true) (hx : Yc n T nm .none P M [] = some (.ok .next, xR T nm .none P M.length tl, M ++ [ls l])) :
 CV n T nm .none P M = some (.ok .none, qj (M ++ [ls l]) H (rw' (rows ++ [(nm, PU Je l)]))) := by
 have t' := t.app (J := [ls l])
 refine Gk (σ := xR T nm .none P M.length tl) ?_
 exact qm [fS (hx), fV (t'.attr), fI (ji t'.h), fL (jf t'.h), fI (t'.i), .c (t'.ok rfl : ql (M ++ [ls l]) d (Pv "_convert_string_type") = true), fV (jx (n := n + 26) (o := PV.loc T) (μ := M ++ [ls l]) hb), fV (yc (μ := M ++ [ls l]) q6 hj), fV (JM (v := (nm, PU Je l)) t'.h hr)] (by kernel_rfl)
theorem Wp (hb : bad true nm = false) (hr : rows.length + 1 <= Pr) (hs : bad false s = false) (hj : (Ur Je l && decide ((PU Je l).length <= Pr)) = true) (hx : Yc n T nm (.str s) P M [s] = some (.ok .next, xR T nm (.str s) P M.length tl, M ++ [ls l])) :
 CV n T nm (.str s) P M = some (.ok .none, qj (M ++ [ls l]) H (rw' (rows ++ [(nm, PU Je l)]))) := by
 have t' := t.app (J := [ls l])
 have t0 := t.app (J := [ls []])
 refine Gk (σ := xR T nm (.str s) P M.length tl) ?_
 exact qm [fI (t0.i), .c (t0.ok rfl : ql (M ++ [q8.list []]) d (Pv "_convert_string_type") = true), fV (jx (n := n + 27) (o := PV.loc T) (μ := M ++ [q8.list []]) hs), fI (xe (μ := M) (l := [])), fL (zC (μ := M) (l := [])), fV (WN (M := M) (l := []) (v := s) le1), fS (hx), fV (t'.attr), fI (ji t'.h), fL (jf t'.h), fI (t'.i), .c (t'.ok rfl : ql (M ++ [ls l]) d (Pv "_convert_string_type") = true), fV (jx (n := n + 26) (o := PV.loc T) (μ := M ++ [ls l]) hb), fV (yc (μ := M ++ [ls l]) q6 hj), fV (JM (v := (nm, PU Je l)) t'.h hr)] (by kernel_rfl)
theorem Fb (hx : Yc n T nm .none P M [] = some (.error fK, xR T nm .none P M.length tl, M ++ [ls l])) : CV n T nm .none P M = some (.error fK, M ++ [ls l]) := by
 refine Bm (x := fK) (σ := xR T nm .none P M.length tl) ?_
 exact qm [fS (hx)] (by kernel_rfl)
theorem Gj (hs : bad false s = false) (hx : Yc n T nm (.str s) P M [s] = some (.error fK, xR T nm (.str s) P M.length tl, M ++ [ls l])) : CV n T nm (.str s) P M = some (.error fK, M ++ [ls l]) := by
 have t0 := t.app (J := [ls []])
 refine Bm (x := fK) (σ := xR T nm (.str s) P M.length tl) ?_
 exact qm [fI (t0.i), .c (t0.ok rfl : ql (M ++ [q8.list []]) d (Pv "_convert_string_type") = true), fV (jx (n := n + 27) (o := PV.loc T) (μ := M ++ [q8.list []]) hs), fI (xe (μ := M) (l := [])), fL (zC (μ := M) (l := [])), fV (WN (M := M) (l := []) (v := s) le1), fS (hx)] (by kernel_rfl)
end
end
section
variable {n T d H m : Nat} {nm k s : Str} {p v : PV} {μ J M : q4} {rows : Ps} {l : List Str}
theorem J8 {kw : Loc} : zj (μ ++ [.kw kw] ++ [ls l]) μ.length = some kw := by
 unfold zj; rw [PF, Tp, y9]; rfl
theorem Yb : qt (xR T nm p d m []) (xO (qo 184).body) (.tup [.str k, v]) = some (xR T nm p d m (wy k v)) := by kernel_rfl
structure ZO (k : Str) : Prop where
 c : yi.contains k = true
 b : bad true k = false
 l : k.length <= 1000
 u : (usc k).length <= 1000
theorem ZO.fit (h : ZO k) : k.length <= Pr := Pq h.l (by decide)
theorem IF (t : Tab μ T d H rows) (h : ZO k) (hl : l.length + 1 <= Pr) : Yc n T nm v μ.length (μ ++ [.kw [(k, .none)]]) l = some (.ok .next, xR T nm v μ.length (μ ++ [q8.kw [(k, .none)]]).length (wy k .none), μ ++ [.kw [(k, .none)]] ++ [ls (l ++ [usc k])]) :=
 WY J8 h.fit Yb (Ob (n := n + 8) t.app hl h.b h.l) J8
theorem Bz (t : Tab μ T d H rows) (h : ZO k) (hl : l.length + 1 <= Pr) (hs : bad false s = false) (hf : yV (usc k) s) : Yc n T nm v μ.length (μ ++ [.kw [(k, .str s)]]) l = some (.ok .next, xR T nm v μ.length (μ ++ [q8.kw [(k, .str s)]]).length (wy k (.str s)), μ ++ [.kw [(k, .str s)]] ++ [ls (l ++ [fmt (usc k) s 1])]) :=
 WY J8 h.fit Yb (Mq (n := n + 8) t.app hl h.b h.l hs hf) J8
theorem BT (t : Tab μ T d H rows) (h : ZO k) (hs : bad false s = true) : Yc n T nm v μ.length (μ ++ [.kw [(k, .str s)]]) l = some (.error fK, xR T nm v μ.length (μ ++ [q8.kw [(k, .str s)]]).length (wy k (.str s)), μ ++ [.kw [(k, .str s)]] ++ [ls l]) :=
 D6 J8 h.fit Yb (Nd (n := n + 8) t.app h.b hs)
theorem Wo {K L : q4} {c : q8} (hH : H < μ.length) : qj (μ ++ K ++ L) H c = qj μ H c ++ (K ++ L) := by rw [PF, yK hH]
theorem Fu (t : Tab μ T d H rows) (hb : bad true nm = false) (h : ZO k) (hr : rows.length + 1 <= Pr) :
 ∃ J, (evN ftT (n + 40)).call 184 [.loc T, .str nm, .none] [(k, .none)] μ = some (.ok .none, qj μ H (rw' (rows ++ [(nm, usc k)])) ++ J) := by
 refine ⟨[.kw [(k, .none)]] ++ [ls [usc k]], ?_⟩
 have q := Vl (n := n) (l := [usc k]) t.app hb hr (yP (by show (usc k).length + 0 + 1 * 2 <= _; have := h.u; lia)) (IF (l := []) t h le1)
 rw [jB, Wo t.lt] at q
 rw [qX QJ (fk h.c)]; exact q
noncomputable def zS : Str := "z"
theorem Bd {x : Str} : PU Je [zS, x] = zed ++ x := by
 rw [jC, jB]; exact congrArg (· ++ x) (by kernel_rfl)
noncomputable def zv (z : Bool) : PV := if z = true then .str zS else .none
noncomputable def zp (z : Bool) : Str := if z = true then zed else PE
theorem NA : bad false zS = false := by kernel_rfl
theorem ZF {z : Bool} (t : Tab μ T d H rows) (hb : bad true nm = false) (h : ZO k) (hf : yV (usc k) s) (hl : (fmt (usc k) s 1).length <= 10000) (hr : rows.length + 1 <= Pr) :
 ∃ J, (evN ftT (n + 40)).call 184 [.loc T, .str nm, zv z] [(k, .str s)] μ = if bad false s = true then some (.error fK, μ ++ J) else some (.ok .none, qj μ H (rw' (rows ++ [(nm, zp z ++ fmt (usc k) s 1)])) ++ J) := by
 induction hs : bad false s with
 | true =>
   induction z with
   | true =>
     refine ⟨[.kw [(k, .str s)]] ++ [ls [zS]], ?_⟩
     have q := Gj (n := n) (nm := nm) (M := μ ++ [.kw [(k, .str s)]]) t.app NA (BT (l := [zS]) t h hs)
     rw [PF μ] at q
     rw [qX QJ (fk h.c)]; exact q
   | false =>
     refine ⟨[.kw [(k, .str s)]] ++ [ls []], ?_⟩
     have q := Fb (n := n) (nm := nm) (M := μ ++ [.kw [(k, .str s)]]) t.app (BT (l := []) t h hs)
     rw [PF μ] at q
     rw [qX QJ (fk h.c)]; exact q
 | false =>
   induction z with
   | true =>
     refine ⟨[.kw [(k, .str s)]] ++ [ls [zS, fmt (usc k) s 1]], ?_⟩
     have q := Wp (n := n) (l := [zS, fmt (usc k) s 1]) t.app hb hr NA (yP (by show 1 + ((fmt (usc k) s 1).length + 0) + 2 * 2 <= _; lia)) (Bz (l := [zS]) t h GT hs hf)
     rw [Bd, Wo t.lt] at q
     rw [qX QJ (fk h.c)]; exact q
   | false =>
     refine ⟨[.kw [(k, .str s)]] ++ [ls [fmt (usc k) s 1]], ?_⟩
     have q := Vl (n := n) (l := [fmt (usc k) s 1]) t.app hb hr (yP (by show (fmt (usc k) s 1).length + 0 + 1 * 2 <= _; lia)) (Bz (l := []) t h le1 hs hf)
     rw [jB, Wo t.lt] at q
     rw [qX QJ (fk h.c), show zp false = PE from rfl, jP]; exact q
theorem F5 (t : Tab μ T d H rows) (hb : bad true nm = false) (hs : bad false s = false) (hl : s.length <= 100000) (hr : rows.length + 1 <= Pr) :
 ∃ J, (evN ftT (n + 40)).call 184 [.loc T, .str nm, .str s] [] μ = some (.ok .none, qj μ H (rw' (rows ++ [(nm, s)])) ++ J) := by
 refine ⟨[.kw []] ++ [ls [s]], ?_⟩
 have q := Wp (n := n) (l := [s]) (tl := []) (M := μ ++ [.kw []]) (P := μ.length) t.app hb hr hs (yP (by show s.length + 0 + 1 * 2 <= _; lia)) (C7 J8)
 rw [jB, Wo t.lt] at q
 rw [qX QJ Cp]; exact q
noncomputable abbrev b81 : List Sf := sB (qo 81).body 3 0
noncomputable abbrev S81 (T H : Nat) (o : Option (Str × Str)) : LE := ⟨qn 81, ("self", .loc T) :: ("headers", .loc H) :: ukv o⟩
theorem t81 {kv : Str × Str} (t : Tab μ T d H rows) (hk : bad true kv.1 = false) (hv : bad false kv.2 = false) : (evN ftT (n + 20)).ex (S81 T H (some kv)) (qR b81) μ = some (.ok .next, S81 T H (some kv), μ) := by
 exact qm [fI (t.i), .c (t.ok rfl : ql μ d (Pv "_convert_string_type") = true), fV (jx (n := n + 9) (o := PV.loc T) (μ := μ) hk), fI (t.i), .c (t.ok rfl : ql μ d (Pv "_convert_string_type") = true), fV (jx (n := n + 9) (o := PV.loc T) (μ := μ) hv)] (by kernel_rfl)
theorem Nz {o : Option (Str × Str)} {kv : Str × Str} : qt (S81 T H o) (xO b81) (row kv) = some (S81 T H (some kv)) := by
 cases o <;> kernel_rfl
theorem Bh (t : Tab μ T d H rows) (hg : ∀ kv ∈ rows, bad true kv.1 = false /\ bad false kv.2 = false) :
 ∃ o, zJ (evN ftT (n + 20)) (.list H) (xO b81) (qR b81) (rows.length + 1) 0 (S81 T H none) μ = some (.ok .next, S81 T H o, μ) := by
 refine xw (N := rows.length) (S := S81 T H) (M := fun zz => μ) (P := fun zz zz => True) (Q := fun R => ∃ o, R = some (.ok .next, S81 T H o, μ)) (fun i o hi zz => ?_) (fun o zz => ⟨?_, o, rfl⟩) trivial
 ·have g := hg _ (Rx hi)
  refine ⟨row rows[i], _, ?_, Nz, .inl ⟨.next, some rows[i], .inl rfl, t81 t g.1 g.2, trivial⟩⟩
  rw [qF t.h, PW hi]; rfl
 ·rw [qF t.h, RC (PJ _)]; rfl
noncomputable abbrev ntS (μ : q4) (l : Loc) (J : q4) : q4 := μ ++ .dict l :: .inst μ.length :: J
theorem Ww {l : Loc} : qv (ntS μ l J) (.loc (μ.length + 1)) = some μ.length := by
 show ((μ ++ .dict l :: .inst μ.length :: J)[μ.length + 1]?).bind xz = _
 rw [Rn (Rd ..), T7]; rfl
theorem Wm {l : Loc} : qe (ntS μ l J) μ.length = some l := by unfold qe; rw [y9]; rfl
theorem KO : Zo (.loc (μ.length + 1)) "_headers" v (ntS μ [] J) = some (.ok .none, ntS μ [("_headers", v)] J) := by
 unfold Zo
 rw [Ww, PK, Wm]
 show some (Rs PV.none, qj _ _ _) = _
 unfold qj; rw [SP _ _ (PJ _), Ss]; rfl
theorem Wk {l : List PV} (h : q5 μ m = some l) : ZQ (.loc m) μ = some (.ok (.val (.type "list")), μ) := by
 show (q5 μ m).bind _ = _
 rw [h]; rfl
theorem Zi (h : q5 (ntS μ [("_headers", .loc H)] J) H = some (rows.map row)) : Tab (ntS μ [("_headers", .loc H)] J) (μ.length + 1) μ.length H rows := ⟨Ww, Wm, h⟩
theorem Eu (hm : q5 μ H = some (rows.map row)) (hg : ∀ kv ∈ rows, bad true kv.1 = false /\ bad false kv.2 = false) :
 (evN ftT (n + 40)).call 81 [.loc (μ.length + 1), .loc H] [] (ntS μ [] []) = some (.ok .none, ntS μ [("_headers", .loc H)] []) := by
 have t := Zi (J := []) (qc hm)
 obtain ⟨o, hl⟩ := Bh (n := n + 17) t hg
 exact jv (n := n) (k := 39) [.d, .d, fV (Wk (μ := ntS μ [] []) (qc hm)), .d, .d, fV (KO (v := PV.loc H) (μ := μ) (J := [])), fR (t.src), fS (hl)] (by kernel_rfl)
theorem Fz {l : Loc} : q5 (ntS μ l [.list []]) (μ.length + 2) = some [] := by
 unfold q5
 rw [Rn (Rd ..), T7]; rfl
theorem E4 : (evN ftT (n + 40)).call 81 [.loc (μ.length + 1)] [] (ntS μ [] []) = some (.ok .none, ntS μ [("_headers", .loc (μ.length + 2))] [.list []]) := by
 have t := Zi (rows := []) (Fz (μ := μ) (l := [("_headers", .loc (μ.length + 2))]))
 obtain ⟨o, hl⟩ := Bh (n := n + 17) t (fun zz h => nomatch h)
 have hp : jp [] (ntS μ [] []) = some (.ok (.loc (μ.length + 2)), ntS μ [] [.list []]) := by
  rw [jh (Rj _), yd, PB]; rfl
 exact jv (n := n) (k := 39) [.d, .d, fV (hp), fV (Wk (μ := ntS μ [] [.list []]) (Fz)), .d, .d, fV (KO (v := PV.loc (Sp μ + 2)) (μ := μ) (J := [q8.list []])), fR (t.src), fS (hl)] (by kernel_rfl)
end
theorem Vp (h : Nat) : Af 0 (h : Int) 1 = UM h := by
 unfold Af
 rw [if_pos (by decide)]
 cases h with
 | zero => rfl
 | succ h =>
   rw [if_pos (by lia)]
   have : ((((h + 1 : Nat) : Int) - 0 + 1 - 1) / 1).toNat = h + 1 := by lia
   show (UM ((((h + 1 : Nat) : Int) - 0 + 1 - 1) / 1).toNat).map (fun (k : Nat) => (0 + 1 * (k : Int)).toNat) = _
   rw [this]
   refine List.ext_getElem (by rw [PH]) fun i h1 h2 => ?_
   rw [List.getElem_map, List.getElem_range]; lia
theorem YE {α : Type} {l : List α} {h : Nat} (hle : h <= l.length) : (UM h).filterMap (l[·]?) = l.take h := by
 induction h with
 | zero => rfl
 | succ h ih =>
   rw [bM, List.filterMap_append, ih (RL hle), TS (PW hle), SX hle]; rfl
theorem Zd {l : List PV} {i : Int} {h : Nat} (e : (if i < 0 then l.length - (-i).toNat else min i.toNat l.length) = h) (hle : h <= l.length) : gx l none (some i) = l.take h := by
 unfold gx
 have e1 : (Sy none (some i) none l.length).1 = 0 := by simp [Sy]
 have e2 : (Sy none (some i) none l.length).2.1 = (h : Int) := by
  rw [<- e]
  have h1 : (1 : Int) > 0 := by decide
  by_cases h : i < 0
  ·simp only [Sy, bD, h1, if_true, if_pos h]; omega
  ·simp only [Sy, bD, h1, if_true, if_neg h]; omega
 rw [e1, e2]
 show (Af 0 (h : Int) 1).filterMap _ = _
 rw [Vp, YE hle]
theorem Fp {l : List PV} {a b : PV} : gx (l ++ [a, b]) none (some (-2)) = l := by
 have e : (l ++ [a, b]).length = l.length + 2 := PB
 rw [Zd (h := l.length) (by rw [if_pos (by decide), e]; rfl) (by rw [e]; exact Rd ..), List.take_left]
theorem fg {α : Type} {r : Ev} {src : Src} {l : List α} {target elt : Expr} {ifs : List Expr} {μ : q4} {Inv : LE -> Prop} {R : q4 -> α -> PV -> Prop} (hif : ifs = []) (V : α -> PV) (mono : ∀ ν J v y, R ν v y -> R (ν ++ J) v y) (hn : ∀ i J, xq src i (μ ++ J) = some ((l[i]?).map V))
 (h : ∀ σ v J, Inv σ -> v ∈ l -> ∃ σ' y J', qt σ target (V v) = some σ' /\ Inv σ' /\ r.ev σ' elt (μ ++ J) = some (.ok y, μ ++ (J ++ J')) /\ R (μ ++ (J ++ J')) v y) (k : Nat) :
 ∀ (i : Nat) (σ : LE) (J : q4), Inv σ -> k + i = l.length + 1 -> i <= l.length -> ∃ (zs : List (α × PV)) (J' : q4), zV r src target ifs elt k i σ (μ ++ J) = some (.ok (zs.map Rh), μ ++ (J ++ J')) /\ zs.map RN = l.drop i /\ ∀ z ∈ zs, R (μ ++ (J ++ J')) z.1 z.2 := by
 subst hif
 induction k with
 | zero => intro i σ J _ h1 h2; exact absurd h2 (by lia)
 | succ k ih =>
   intro i σ J hI h1 h2
   unfold zV
   rw [hn]
   by_cases hi : i < l.length
   ·obtain ⟨σ', y, J1, a1, a2, a3, a4⟩ := h σ l[i] J hI (Rx hi)
    obtain ⟨zs, J2, b1, b2, b3⟩ := ih (i + 1) σ' (J ++ J1) a2 (by lia) hi
    rw [PF J J1 J2] at b1 b3
    refine ⟨(l[i], y) :: zs, J1 ++ J2, ?_, ?_, fun z hz => ?_⟩
    ·rw [PW hi]
     show (qt σ target (V l[i])).bind _ = _
     rw [a1]
     show qa (r.ev σ' elt (μ ++ J)) _ = _
     rw [a3]
     show qa (zV r src target [] elt k (i + 1) σ' (μ ++ (J ++ J1))) _ = _
     rw [b1]; rfl
    ·rw [S9 hi, <- b2]; rfl
    ·rcases Rq.mp hz with rfl | hz
     ·have a := mono _ J2 _ _ a4
      rwa [PF, PF] at a
     ·exact b3 z hz
   ·have e : i = l.length := by lia
    subst e
    rw [RC (PJ _), TD]
    exact ⟨[], [], by rw [PQ]; rfl, rfl, fun zz h => nomatch h⟩
theorem yf {α : Type} {r : Ev} {src : Src} {l : List α} {target elt : Expr} {ifs : List Expr} {μ : q4} {σ : LE} {Inv : LE -> Prop} {f : α -> PV} (hif : ifs = []) (V : α -> PV) (hn : ∀ i J, xq src i (μ ++ J) = some ((l[i]?).map V))
 (h : ∀ σ v J, Inv σ -> v ∈ l -> ∃ σ' J', qt σ target (V v) = some σ' /\ Inv σ' /\ r.ev σ' elt (μ ++ J) = some (.ok (f v), μ ++ (J ++ J'))) (hI : Inv σ) (hl : l.length <= Pr) :
 ∃ J', qG r σ elt target ifs (src, l.length + 1) μ = some (.ok (.loc (μ ++ J').length), μ ++ J' ++ [.list (l.map f)]) := by
 obtain ⟨zs, J', h1, h2, h3⟩ := fg (R := fun zz v y => y = f v) hif V (fun zz zz zz zz h => h) hn (fun σ v J a b => (h σ v J a b).elim fun σ' q => q.elim fun J' q => ⟨σ', _, J', q.1, q.2.1, q.2.2, rfl⟩) (l.length + 1) 0 σ [] hI rfl (Rj _)
 have e : zs.map Rh = l.map f := by
  rw [<- Ad (l := l), <- h2, Su]; exact SJ h3
 rw [PQ, U2, e] at h1
 exact ⟨J', qA h1 (by rw [PH]; exact hl)⟩
theorem vz {μ : q4} {m : Nat} {α : Type} {l : List α} {V : α -> PV} (h : q5 μ m = some (l.map V)) (i : Nat) (J : q4) : xq (.list m) i (μ ++ J) = some ((l[i]?).map V) := qF (qc h) i
def qi (μ : q4) (H : Nat) (ν : q4) : Prop := μ.length <= ν.length /\ ∀ a, a < μ.length -> a ≠ H -> ν[a]? = μ[a]?
section
variable {μ ν ρ J : q4} {H H' a : Nat} {c : q8} {l : List PV}
theorem qi.app : qi μ H (μ ++ J) := ⟨by rw [PB]; exact Rd .., fun a ha zz => jO ha⟩
theorem qi.set : qi μ H (qj μ H c ++ J) := ⟨by rw [PB, gH]; exact Rd .., fun a ha hn => by rw [jO (by rw [gH]; exact ha), wi hn]⟩
theorem qi.trans (x : qi μ H ν) (y : qi ν H' ρ) (h : H' = H \/ μ.length <= H') : qi μ H ρ := ⟨Pq x.1 y.1, fun a ha hn => (y.2 a (PY ha x.1) fun e => h.elim (fun h => hn (e.trans h)) fun h => absurd (e ▸ h) (Nat.not_le.mpr ha)).trans (x.2 a ha hn)⟩
theorem qi.list (x : qi μ H ν) (h : q5 μ a = some l) (hn : a ≠ H) : q5 ν a = some l := (wP (x.2 a (R0.mp (vU h)).1 hn)).trans h
end
theorem GA {n : Nat} {σ σ' : LE} {b : List Sf} {μ μ' : q4} (i : Nat) (h : (evN ftT (n + 1)).ex σ (b.take i) μ = some (.ok .next, σ', μ')) : (evN ftT (n + 1)).ex σ b μ = (evN ftT (n + 1)).ex σ' (b.drop i) μ' := by
 have key : ∀ (r : Ev) (b c : List Sf) (σ : LE) (μ : q4), zw r σ b μ = some (.ok .next, σ', μ') -> zw r σ (b ++ c) μ = zw r σ' c μ' := by
  intro r b c
  induction b with
  | nil =>
    intro σ μ h
    have h : some (Rs j9.next, σ, μ) = some (Rs j9.next, σ', μ') := h
    injection h with h; injection h with _ h; injection h with h1 h2
    rw [<- h1, <- h2]; rfl
  | cons s b ih =>
    intro σ μ h
    have e1 : ∀ d, zw r σ (s :: d) μ = (match wI r σ s μ with | some (.ok .next, σ₁, μ₁) => zw r σ₁ d μ₁ | o => o) := fun zz => rfl
    rw [e1] at h
    refine (e1 (b ++ c)).trans ?_
    induction hs : wI r σ s μ with
    | none => rw [hs] at h; exact nomatch h
    | some q =>
      obtain ⟨q, σ₁, μ₁⟩ := q
      rw [hs] at h
      induction q with
      | error x => exact nomatch h
      | ok f => induction f with
        | next => exact ih σ₁ μ₁ h
        | _ => exact nomatch h
 have e := key (evN ftT n) (b.take i) (b.drop i) σ μ h
 rwa [List.take_append_drop] at e
structure WS' (s : Str) : Prop where
 o : Pz s = true
 l : s.length <= 1000
 e : (esc s).length <= 3000
 r : (Sz s "\\" "\\\\").length <= 3000
def WOK (p : PV) : Prop := p = .none \/ p = .int 0 \/ ∃ s, p = .str s /\ WS' s
theorem WS'.fmt {k s : Str} (w : WS' s) (hk : k.length <= 1000) : yV k s := ⟨Pq hk (by decide), Pq w.l (by decide), Pq w.r (by decide), Pq w.e (by decide)⟩
noncomputable def wrJ (p : PV) (q : Int) : q4 := match p with
 | .str s => if q = 3 then [ls (bsl s)] else []
 | _ => []
theorem Dk (s : Str) : ((bsl s).map (·.length)).sum + (bsl s).length * PE.length = 2 * s.length := by
 rw [show PE.length = 0 from rfl, Nat.mul_zero, Nat.add_zero, <- zr]
 unfold bsl
 induction s.cps.toList with
 | nil => rfl
 | cons c l ih =>
   rw [RO, RO, TT, ih, PL, SW]
   show 1 + 1 + _ = _
   rw [Nat.mul_succ, UB]
open Builtin Builtin.Str in
theorem w6 {sep : Str} {l : List Str} : (PU sep l).length <= (l.map (·.length)).sum + l.length * sep.length := by
 show (glued sep l).length <= _
 rw [SQ]
 exact StrLaws.join_length_le sep l
section
variable {n T d H a m : Nat} {nm k v : Str} {p : PV} {q kd : Int} {μ J M : q4} {rows : Ps} {l ws : List Str} {es : Loc}
theorem V8 (hk : k.length <= 1000) (w : WOK p) (hq : q ≠ 2 \/ ∃ s, p = .str s) : (evN ftT (n + 30)).call 220 [.str k, p, .int q] [] μ = some (.ok (.str (wr k p q)), μ ++ wrJ p q) := by
 rcases w with rfl | rfl | ⟨s, rfl, w⟩
 ·rw [Cc hk (hq.elim id fun ⟨_, h⟩ => nomatch h)]
  show _ = some (_, μ ++ []); rw [PQ]; rfl
 ·rw [CN hk]
  show _ = some (_, μ ++ []); rw [PQ]; rfl
 ·unfold wr wrJ
  dsimp only
  by_cases h2 : q = 2
  ·rw [Lc w.o hk w.l h2, if_pos h2, if_neg (c := q = 3) (h2 ▸ (by decide)), PQ]; rfl
  ·rw [if_neg h2]
   by_cases h3 : q = 3
   ·have hb := Dk s
    have hl := w.l
    have hjl := w6 (sep := PE) (l := bsl s)
    rw [Kx w.o hk w.l (yP (by lia)) (by lia) h3, if_pos h3, if_pos h3]; rfl
   ·rw [Bf w.o (w.fmt hk) h2 h3, if_neg h3, if_neg h3, PQ]
noncomputable abbrev Gx : List Sf := (qo 225).body
noncomputable abbrev W3 : Expr := sE (sB Gx 2 0) 0 0 []
noncomputable abbrev ww (T : Nat) (kd : Int) (nm : Str) (t : Loc) : LE := ⟨qn 225, ("table", .loc T) :: ("kind", .int kd) :: ("name", .str nm) :: t⟩
noncomputable abbrev ZZ : q8 := .list [.int 1, .int 0, .int 3]
noncomputable def kt : Option (Str × PV) -> Loc
 | none => []
 | some e => [("key", .str e.1), ("text", e.2)]
noncomputable abbrev Dm (kd : Int) (o : Option (Str × PV)) : LE := ⟨(LE.comp (ww 0 0 nm []) (lcN W3)).sc, ("kind", .int kd) :: kt o⟩
def KC (kd q : Int) : Prop := ∀ ν : q4, zb (.loc ν.length) (.int (kd - 6)) (ν ++ [ZZ]) = some (.ok (.int q), ν ++ [ZZ])
theorem Hz {o : Option (Str × PV)} {e : Str × PV} : qt (Dm (nm := nm) kd o) (qu W3) (qB e) = some (Dm (nm := nm) kd (some e)) := by
 cases o <;> kernel_rfl
theorem LY {e : Str × PV} (hp : KC kd q) (h1 : e.1.length <= 1000) (h2 : WOK e.2) (hq : q ≠ 2) : (evN ftT (n + 40)).ev (Dm (nm := nm) kd (some e)) (lcE W3) μ = some (.ok (.str (wr e.1 e.2 q)), μ ++ [ZZ] ++ wrJ e.2 q) := by
 have hq := fun n => V8 (n := n) (μ := μ ++ [ZZ]) h1 h2 (.inl hq)
 exact y5 [.d, .d, .d, .d, .d, fV (hp μ), fV (hq (n + 9))] (by kernel_rfl)
theorem Cv (hp : KC kd q) (hq : q ≠ 2) (hm : q5 μ m = some (es.map qB)) (hr : es.length <= Pr) (hw : ∀ e ∈ es, e.1.length <= 1000 /\ WOK e.2) :
 ∃ J', qG (evN ftT (n + 40)) (LE.comp (ww T kd nm [("rows", .loc a)]) (lcN W3)) (lcE W3) (qu W3) (qD W3) (.list m, es.length + 1) μ = some (.ok (.loc (μ ++ J').length), μ ++ J' ++ [.list (es.map fun e => .str (wr e.1 e.2 q))]) :=
 yf (Inv := fun σ => ∃ o, σ = Dm (nm := nm) kd o) (by kernel_rfl) qB (vz hm) (fun σ e J ⟨o, ho⟩ he => ⟨_, [ZZ] ++ wrJ e.2 q, ho ▸ Hz, ⟨_, rfl⟩, by
  rw [<- PF J, <- PF μ, <- PF μ]
  exact LY hp (hw e he).1 (hw e he).2 hq⟩) ⟨none, by kernel_rfl⟩ hr
end
theorem WZ {m : SR'} {σ : LE} {μ : q4} {p : PV} (h : m = some (.ok (.ret p), σ, μ)) : zX m = some (.ok p, μ) := h ▸ rfl
noncomputable def put (rows : Ps) (nm v : Str) : Ps := qd rows (Pt nm) ++ [(nm, v)]
noncomputable def xW : Str := ", ,\t"
noncomputable def bl8 : Str := " "
noncomputable def FE : Str := "\t,,"
noncomputable def j6 (ws : List Str) : Str := bl8 ++ PU xW ws ++ FE
noncomputable def yw (rs : List Str) (q : Int) : List Str := ((qz rs).map ent).map fun e => wr e.1 e.2 q
section
variable {n T d H a m : Nat} {nm v : Str} {q kd : Int} {t : Bool} {i j : Int} {μ ν : q4} {rows : Ps} {l ws : List Str}
theorem Ol (h : i > j) : qZ .Gt (.int i) (.int j) μ = some (.ok (.bool true), μ) := by
 show some (Rs (PV.bool (decide (i > j))), μ) = _
 rw [decide_eq_true h]
theorem N5 (h : ¬ i > j) : qZ .Gt (.int i) (.int j) μ = some (.ok (.bool false), μ) := by
 show some (Rs (PV.bool (decide (i > j))), μ) = _
 rw [decide_eq_false h]
theorem Jg (hm : q5 ν a = some (l.map .str)) (h : ∀ y ∈ l, Pz y = true) (ht : l.isEmpty = t) : qZ .NotEq (.loc a) (.loc ν.length) (ν ++ [.list []]) = some (.ok (.bool (!t)), ν ++ [.list []]) := by
 have e : jd (ν ++ [.list []]) (.loc ν.length) = some (.list []) := ja (l := []) q6 (fun zz q => nomatch q)
 show (peq _ _ _).map _ = _
 unfold peq
 rw [ja (qc hm) h, e, <- ht]
 cases l <;> rfl
structure TN (rows : Ps) (nm : Str) : Prop where
 n : kW nm
 b : bad true nm = false
 r : rows.length <= 100000
 k : ∀ kv ∈ rows, KeyOK kv.1
theorem TN.two (h : TN rows nm) : rows.length + rows.length <= Pr := Pq (RP h.r h.r) (by decide)
theorem TN.three (h : TN rows nm) : rows.length + rows.length + 1 <= Pr := Pq (Rb (RP h.r h.r)) (by decide)
theorem TN.one (h : TN rows nm) : rows.length <= Pr := Pq h.r (by decide)
theorem Xf (t : Tab μ T d H rows) (h : TN rows nm) (hv : bad false v = false) : (evN ftT (n + 30)).call 102 [.loc T, .str nm, .str v] [] μ = some (.ok .none, qj μ H (rw' (put rows nm v)) ++ [rw' (qd rows (Pt nm))]) := by
 rw [ZT t h.n h.b h.three h.k, hv]; rfl
noncomputable abbrev Yz (n T : Nat) (kd : Int) (nm : Str) (a : Nat) (μ : q4) : PR PV := zX ((evN ftT (n + 89)).ex (ww T kd nm [("rows", .loc a)]) (Gx.drop 3) μ)
theorem NF (t : Tab μ T d H rows) (hm : q5 μ a = some ([].map .str)) (h6 : kd ≠ 6) : Yz n T kd nm a μ = some (.ok (.loc T), μ ++ [.list []]) := by
 refine WZ (σ := ww T kd nm [("rows", .loc a)]) ?_
 exact qm [fV (qE (μ := μ) h6), .d, .d, .d, fV (Jg (t := true) hm (fun zz h => nomatch h) rfl)] (by kernel_rfl)
theorem Hl (t : Tab μ T d H rows) (h : TN rows nm) (hm : q5 μ a = some (ws.map .str)) (hok : ∀ y ∈ ws, Pz y = true) (he : ws.isEmpty = false) (h6 : kd ≠ 6) (h8 : kd ≠ 8) (hj : (Ur qM ws && decide ((PU qM ws).length <= Pr)) = true) (hv : bad false (PU qM ws) = false) :
 Yz n T kd nm a μ = some (.ok (.loc T), qj (μ ++ [.list []]) H (rw' (put rows nm (PU qM ws))) ++ [rw' (qd rows (Pt nm))]) := by
 have t' := t.app (J := [.list []])
 refine WZ (σ := ww T kd nm [("rows", .loc a)]) ?_
 exact qm [fV (qE (μ := μ) h6), .d, .d, .d, fV (Jg (t := false) hm hok he), fV (qE (μ := μ ++ [q8.list []]) h8), fV (yc (μ := μ ++ [.list []]) (qc hm) hj), fI (t'.i), fV ((fun n => Xf (n := n) t' h hv) (n + 56))] (by kernel_rfl)
theorem Mn (t : Tab μ T d H rows) (h : TN rows nm) (hm : q5 μ a = some (ws.map .str)) (hok : ∀ y ∈ ws, Pz y = true) (he : ws.isEmpty = false) (h6 : kd ≠ 6) (h8 : kd = 8) (hj : (Ur xW ws && decide ((PU xW ws).length <= Pr)) = true) (hl : (PU xW ws).length <= 1000000) (hv : bad false (j6 ws) = false) :
 Yz n T kd nm a μ = some (.ok (.loc T), qj (μ ++ [.list []]) H (rw' (put rows nm (j6 ws))) ++ [rw' (qd rows (Pt nm))]) := by
 have t' := t.app (J := [.list []])
 have c1 : (bl8 ++ PU xW ws).length <= Pr := fit (jQ (PJ 1) hl) (by decide)
 have c2 : (bl8 ++ PU xW ws ++ FE).length <= Pr := fit (jQ (jQ (PJ 1) hl) (PJ 3)) (by decide)
 refine WZ (σ := ww T kd nm [("rows", .loc a)]) ?_
 exact qm [fV (qE (μ := μ) h6), .d, .d, .d, fV (Jg (t := false) hm hok he), fV (jz (μ := μ ++ [q8.list []]) h8), fV (yc (μ := μ ++ [.list []]) (qc hm) hj), fV (ju (μ := μ ++ [q8.list []]) c1), fV (ju (μ := μ ++ [q8.list []]) c2), fI (t'.i), fV ((fun n => Xf (n := n) t' h hv) (n + 56))] (by kernel_rfl)
noncomputable abbrev PX (n T d H : Nat) (kd : Int) (nm : Str) (μ : q4) (rows : Ps) : Prop := ∃ ν, (evN ftT (n + 90)).call 225 [.loc T, .int kd, .str nm] [] μ = some (.ok (.loc T), ν) /\ qi μ H ν /\ Tab ν T d H rows
noncomputable abbrev PA (n T d H : Nat) (kd : Int) (nm : Str) (μ : q4) (rows : Ps) (ws : List Str) : Prop := ∃ ν a, (evN ftT (n + 89)).ex (ww T kd nm []) (Gx.take 3) μ = some (.ok .next, ww T kd nm [("rows", .loc a)], ν) /\ qi μ H ν /\ Tab ν T d H rows /\ q5 ν a = some (ws.map .str) /\ μ.length <= a
theorem OY (t : Tab μ T d H rows) (h : TN rows nm) (hk : kd = 5) : PA n T d H kd nm μ rows (q7 rows (Pt nm)) := by
 have hr := h.one
 have hn := h.n
 have hrl := h.k
 have h9 : kd ≠ 9 := hk ▸ (by decide)
 have h5 : ¬ kd > 5 := by rw [hk]; decide
 refine ⟨μ ++ [ls (q7 rows (Pt nm))], μ.length, ?_, qi.app, t.app, q6, PJ _⟩
 exact qm [fV (qE (μ := μ) h9), fI (t.i), .c (t.ok rfl : ql μ d (Pv "get_all") = true), fV (g0 (n := n + 67) t hn hr hrl), fV (N5 (μ := μ ++ [ls (Rm (fun x => Rh x) (List.filter (fun kv => Pt (RN kv) == Pt nm) rows))]) h5)] (by kernel_rfl)
theorem LI (t : Tab μ T d H rows) (h : TN rows nm) (k : Zl rows nm) (h9 : kd ≠ 9) (h5 : kd > 5) (hp : KC kd q) (hq : q ≠ 2) (hw : ∀ e ∈ told rows nm, e.1.length <= 1000 /\ WOK e.2) :
 PA n T d H kd nm μ rows (yw (q7 rows (Pt nm)) q) := by
 have hr := h.one
 have hn := h.n
 have hrl := h.k
 obtain ⟨J1, h215⟩ := Vn (n := n + 25) (t.app (J := [ls (q7 rows (Pt nm))])) k
 obtain ⟨J2, hc⟩ := Cv (n := n + 46) (T := T) (nm := nm) (a := μ.length) (μ := μ ++ [ls (q7 rows (Pt nm))] ++ pl (told rows nm) :: J1) hp hq vQ (by rw [PH]; exact Pq k.hin (by decide)) hw
 have hs := qK (μ := μ ++ [ls (q7 rows (Pt nm))] ++ pl (told rows nm) :: J1) vQ
 rw [PH] at hs
 have e : (q8.list ((told rows nm).map fun e => .str (wr e.1 e.2 q))) = ls (yw (q7 rows (Pt nm)) q) := by
  exact congrArg q8.list (Su (g := PV.str) (f := fun e : Str × PV => wr e.1 e.2 q) (l := told rows nm)).symm
 rw [e] at hc
 have e2 : μ ++ [ls (q7 rows (Pt nm))] ++ pl (told rows nm) :: J1 ++ J2 ++ [ls (yw (q7 rows (Pt nm)) q)] = μ ++ ([ls (q7 rows (Pt nm))] ++ pl (told rows nm) :: J1 ++ J2 ++ [ls (yw (q7 rows (Pt nm)) q)]) := by
  rw [PF, PF, PF, PF, PF]
 refine ⟨μ ++ [ls (q7 rows (Pt nm))] ++ pl (told rows nm) :: J1 ++ J2 ++ [ls (yw (q7 rows (Pt nm)) q)], (μ ++ [ls (q7 rows (Pt nm))] ++ pl (told rows nm) :: J1 ++ J2).length, ?_, e2 ▸ qi.app, t.app.app.app.app, q6, ?_⟩
 ·exact qm [fV (qE (μ := μ) h9), fI (t.i), .c (t.ok rfl : ql μ d (Pv "get_all") = true), fV (g0 (n := n + 67) t hn hr hrl), fV (Ol (μ := μ ++ [ls (Rm (fun x => Rh x) (List.filter (fun kv => Pt (RN kv) == Pt nm) rows))]) h5), fV (h215), fR (hs), fV (hc)] (by kernel_rfl)
 ·rw [PB, PB, PB, A5, A5]; exact Rd ..
end
theorem MB : (ftT 225).isSome = true := by kernel_rfl
section
variable {n T d H a m : Nat} {nm v r : Str} {q kd : Int} {μ ν : q4} {rows rows' : Ps} {ws : List Str}
theorem Hx : jG 225 (qo 225) [.loc T, .int kd, .str nm] [] μ = some (ww T kd nm [], μ) := by kernel_rfl
theorem Vo (hA : PA n T d H kd nm μ rows ws) (hB : ∀ ν a, Tab ν T d H rows -> q5 ν a = some (ws.map .str) -> μ.length <= a -> ∃ ν', Yz n T kd nm a ν = some (.ok (.loc T), ν') /\ qi ν H ν' /\ Tab ν' T d H rows') : PX n T d H kd nm μ rows' := by
 obtain ⟨ν, a, h1, h2, h3, h4, h5⟩ := hA
 obtain ⟨ν', q1, q2, q3⟩ := hB ν a h3 h4 h5
 refine ⟨ν', ?_, h2.trans q2 (.inl rfl), q3⟩
 rw [qX MB Hx, GA 3 h1]; exact q1
theorem FB {x : Str} {J : q4} (t : Tab μ T d H rows) (hm : q5 μ a = some (ws.map .str)) (h6 : kd ≠ 6) (hx : ws.isEmpty = false -> Yz n T kd nm a μ = some (.ok (.loc T), qj (μ ++ [.list []]) H (rw' (put rows nm x)) ++ J)) :
 ∃ ν', Yz n T kd nm a μ = some (.ok (.loc T), ν') /\ qi μ H ν' /\ Tab ν' T d H (if ws = [] then rows else put rows nm x) := by
 induction ws using PC with
 | nil => rw [if_pos rfl]; exact ⟨_, NF t hm h6, qi.app, t.app⟩
 | cons w ws => rw [if_neg (nofun)]; exact ⟨_, hx rfl, qi.trans qi.app qi.set (.inl rfl), t.app.set.app⟩
structure JW (ws : List Str) : Prop where
 o : ∀ r ∈ ws, Pz r = true
 n : ws.length <= 1000
 s : (ws.map (·.length)).sum <= 100000
theorem JW.j (j : JW ws) {sep : Str} (hs : sep.length <= 4) : (Ur sep ws && decide ((PU sep ws).length <= Pr)) = true /\ (PU sep ws).length <= 1000000 := by
 have h1 := j.s
 have h2 := AM j.n hs
 exact ⟨yP (Pq (RP h1 h2) (by decide)), Pq w6 (Pq (RP h1 h2) (by decide))⟩
theorem I5 (t : Tab μ T d H rows) (h : TN rows nm) (hok : ∀ r ∈ q7 rows (Pt nm), Pz r = true) (hj : XP (q7 rows (Pt nm))) (hv : bad false (PU qM (q7 rows (Pt nm))) = false) :
 PX n T d H 5 nm μ (if q7 rows (Pt nm) = [] then rows else put rows nm (PU qM (q7 rows (Pt nm)))) :=
 Vo (OY t h rfl) fun zz zz t' hm zz => FB t' hm (by decide) fun he => Hl t' h hm hok he (by decide) (by decide) hj.j hv
theorem Oe : KC 7 0 := fun ν => by
 show (q5 (ν ++ [ZZ]) ν.length).bind _ = _
 rw [q6]; rfl
theorem ND : KC 8 3 := fun ν => by
 show (q5 (ν ++ [ZZ]) ν.length).bind _ = _
 rw [q6]; rfl
theorem MN : KC 6 1 := fun ν => by
 show (q5 (ν ++ [ZZ]) ν.length).bind _ = _
 rw [q6]; rfl
theorem L3 (t : Tab μ T d H rows) (h : TN rows nm) (k : Zl rows nm) (hw : ∀ e ∈ told rows nm, e.1.length <= 1000 /\ WOK e.2) (j : JW (yw (q7 rows (Pt nm)) 0)) (hv : bad false (PU qM (yw (q7 rows (Pt nm)) 0)) = false) :
 PX n T d H 7 nm μ (if yw (q7 rows (Pt nm)) 0 = [] then rows else put rows nm (PU qM (yw (q7 rows (Pt nm)) 0))) :=
 Vo (LI t h k (by decide) (by decide) Oe (by decide) hw) fun zz zz t' hm zz => FB t' hm (by decide) fun he => Hl t' h hm j.o he (by decide) (by decide) (j.j (by decide)).1 hv
theorem HU (t : Tab μ T d H rows) (h : TN rows nm) (k : Zl rows nm) (hw : ∀ e ∈ told rows nm, e.1.length <= 1000 /\ WOK e.2) (j : JW (yw (q7 rows (Pt nm)) 3)) (hv : bad false (j6 (yw (q7 rows (Pt nm)) 3)) = false) :
 PX n T d H 8 nm μ (if yw (q7 rows (Pt nm)) 3 = [] then rows else put rows nm (j6 (yw (q7 rows (Pt nm)) 3))) :=
 Vo (LI t h k (by decide) (by decide) ND (by decide) hw) fun zz zz t' hm zz => FB t' hm (by decide) fun he => Mn t' h hm j.o he (by decide) rfl (j.j (by decide)).1 (j.j (by decide)).2 hv
noncomputable abbrev b6 : List Sf := sB Gx 3 0
noncomputable abbrev S6 (T : Nat) (kd : Int) (nm : Str) (a : Nat) (o : Option PV) : LE := ww T kd nm (("rows", .loc a) :: Qx "row" o)
theorem t6 (t : Tab μ T d H rows) (hb : bad true nm = false) (hs : bad false r = false) (hl : r.length <= 100000) (hr : rows.length + 1 <= Pr) : ∃ J, (evN ftT (n + 50)).ex (S6 T kd nm a (some (.str r))) (qR b6) μ = some (.ok .next, S6 T kd nm a (some (.str r)), qj μ H (rw' (rows ++ [(nm, r)])) ++ J) := by
 obtain ⟨J, h⟩ := F5 (n := n + 8) t hb hs hl hr
 refine ⟨J, ?_⟩
 exact qm [fI (t.i), .c (t.ok rfl : ql μ d (Pv "add_header") = true), fV (h)] (by kernel_rfl)
theorem OG {o : Option PV} {p : PV} : qt (S6 T kd nm a o) (xO b6) p = some (S6 T kd nm a (some p)) := by
 cases o <;> kernel_rfl
structure P6 (μ : q4) (T d H a : Nat) (nm : Str) (rows : Ps) (ws : List Str) (i : Nat) (x : Option PV × q4) : Prop where
 k : qi μ H x.2
 t : Tab x.2 T d H (rows ++ (ws.take i).map fun r => (nm, r))
 p : q5 x.2 a = some (ws.map .str)
theorem Oc (t : Tab μ T d H rows) (hb : bad true nm = false) (hv : ∀ r ∈ ws, bad false r = false /\ r.length <= 100000) (hm : q5 μ a = some (ws.map .str)) (hne : a ≠ H) (hr : rows.length + ws.length <= Pr) :
 ∃ o ν, zJ (evN ftT (n + 50)) (.list a) (xO b6) (qR b6) (ws.length + 1) 0 (S6 T kd nm a none) μ = some (.ok .next, S6 T kd nm a o, ν) /\ qi μ H ν /\ Tab ν T d H (rows ++ ws.map fun r => (nm, r)) := by
 refine xw (N := ws.length) (S := fun x : Option PV × q4 => S6 T kd nm a x.1) (M := fun x => x.2) (P := P6 μ T d H a nm rows ws) (Q := fun R => ∃ o ν, R = some (.ok .next, S6 T kd nm a o, ν) /\ qi μ H ν /\ Tab ν T d H (rows ++ ws.map fun r => (nm, r))) (a := (none, μ)) (fun i x hi h => ?_) (fun x h => ⟨?_, x.1, x.2, rfl, h.k, ?_⟩) ⟨⟨PJ _, fun zz zz zz => rfl⟩, by rw [List.take_zero, Al, PQ]; exact t, hm⟩
 ·have g := hv _ (Rx hi)
  obtain ⟨J, ht⟩ := t6 (n := n) (kd := kd) (a := a) h.t hb g.1 g.2 (by rw [PB, PH, T8]; exact Pq (So (Nat.succ_le_of_lt (RI (TY ..) hi)) _) hr)
  refine ⟨.str ws[i], _, ?_, OG, .inl ⟨.next, (some (.str ws[i]), _), .inl rfl, ht, h.k.trans qi.set (.inl rfl), ?_, (qi.set (μ := x.2)).list h.p hne⟩⟩
  ·rw [qF h.p, PW hi]; rfl
  ·rw [SX hi, Rt, <- PF]; exact h.t.set.app
 ·rw [qF h.p, RC (PJ _)]; rfl
 ·have ht := h.t
  rwa [bC] at ht
theorem Of (t : Tab μ T d H rows) (h : TN rows nm) (hm : q5 μ a = some (ws.map .str)) (hne : a ≠ H) (h6 : kd = 6) (hv : ∀ r ∈ ws, bad false r = false /\ r.length <= 100000) (hr : rows.length + ws.length <= Pr) :
 ∃ ν', Yz n T kd nm a μ = some (.ok (.loc T), ν') /\ qi μ H ν' /\ Tab ν' T d H (qd rows (Pt nm) ++ ws.map fun r => (nm, r)) := by
 have h107 := fun n => JB (n := n) t h.n h.two h.k
 have t1 := (t.set (rows' := qd rows (Pt nm))).app (J := [rw' (qd rows (Pt nm))])
 have k1 : qi μ H (qj μ H (rw' (qd rows (Pt nm))) ++ [rw' (qd rows (Pt nm))]) := qi.set
 have hm1 := k1.list hm hne
 obtain ⟨o, ν, hl, k2, t2⟩ := Oc (n := n + 37) (kd := kd) t1 h.b hv hm1 hne (Pq (RX zO _) hr)
 have hs := qK hm1
 rw [PH] at hs
 refine ⟨ν, WZ (σ := S6 T kd nm a o) ?_, k1.trans k2 (.inl rfl), t2⟩
 exact qm [fV (jz (μ := μ) h6), fI (t.i), fV (h107 (n + 67)), fR (hs), fS (hl)] (by kernel_rfl)
theorem Hy (t : Tab μ T d H rows) (h : TN rows nm) (k : Zl rows nm) (hw : ∀ e ∈ told rows nm, e.1.length <= 1000 /\ WOK e.2) (hv : ∀ r ∈ yw (q7 rows (Pt nm)) 1, bad false r = false /\ r.length <= 100000) (hr : rows.length + (yw (q7 rows (Pt nm)) 1).length <= Pr) :
 PX n T d H 6 nm μ (qd rows (Pt nm) ++ (yw (q7 rows (Pt nm)) 1).map fun r => (nm, r)) :=
 Vo (LI t h k (by decide) (by decide) MN (by decide) hw) fun zz zz t' hm ha => Of t' h hm (RZ (PY t.lt ha)) rfl hv hr
end
noncomputable def Vd : Str := ": "
theorem B4 : Js = Vd := by kernel_rfl
theorem VK : Vd.cps.toList = 58 :: [32] := by kernel_rfl
theorem BE : fD.cps.toList = 13 :: [10] := by kernel_rfl
theorem VX {kv : Str × Str} (h : 58 ∉ kv.1.cps.toList) : Tz (line kv) Vd 1 = [kv.1, kv.2] := by
 unfold line
 rw [B4, qh]
 exact QW VK (by kernel_rfl) h
noncomputable def swp (kv : Str × Str) : Str × Str := (Sk kv.1, kv.2)
structure R9 (kv : Str × Str) : Prop where
 l1 : kv.1.length <= 1000
 l2 : kv.2.length <= 100000
 c : 58 ∉ kv.1.cps.toList
 r1 : 13 ∉ kv.1.cps.toList
 r2 : 13 ∉ kv.2.cps.toList
 s : (Sk kv.1).length <= 1000
 b1 : bad true (Sk kv.1) = false
 b2 : bad false kv.2 = false
section
variable {n T d H a m : Nat} {nm x k : Str} {μ ν : q4} {rows : Ps} {l : List Str} {kv : Str × Str} {b c : PV}
theorem Bl (h : R9 kv) : (line kv).length <= 200000 := Pq (jQ (jQ h.l1 (PJ 2)) h.l2) (by decide)
theorem I2 (h : R9 kv) : jV (line kv) "split" [.str ": ", .int 1] μ = some (.ok (.loc μ.length), μ ++ [ls [kv.1, kv.2]]) := by
 show (if decide (16000000 < (line kv).length) = true then none else jp ((Tz (line kv) Vd 1).map .str) μ) = _
 have := Bl h
 rw [if_neg (by rw [decide_eq_true_iff]; lia), VX h.c]
 exact jh GT
theorem Dx (hx : x.length <= 16000000) (hl : (SE x fD).length <= Pr) : jV x "split" [.str "\r\n"] μ = some (.ok (.loc μ.length), μ ++ [ls (SE x fD)]) := by
 show (if decide (16000000 < x.length) = true then none else jp ((SE x fD).map .str) μ) = _
 rw [if_neg (by rw [decide_eq_true_iff]; lia)]
 exact jh (by rw [PH]; exact hl)
theorem IV (hm : q5 μ a = some (l.map .str ++ [b, c])) (hl : l.length <= 100000) : wM (.loc a) none (some (.int (-2))) μ = some (.ok (.loc μ.length), μ ++ [ls l]) := by
 show (q5 μ a).bind _ = _
 rw [hm]
 refine (if_pos (by rw [PB, PH]; exact Pq (RX hl 2) (by decide))).trans ?_
 rw [Fp]
 exact jh (by rw [PH]; exact Pq hl (by decide))
theorem Jt (h : (Sk k).length <= 1000) : j0 (.str k) "swapcase" [] μ = some (.ok (.str (Sk k)), μ) := j1 (Pq h (by decide))
theorem NQ {l : List PV} (h : q5 μ m = some (b :: c :: l)) : zb (.loc m) (.int 1) μ = some (.ok c, μ) := by
 show (q5 μ m).bind _ = _
 rw [h]; rfl
noncomputable abbrev b9 : List Sf := sB Gx 0 0
noncomputable abbrev e9a : Expr := sE b9 0 0 []
noncomputable abbrev e9b : Expr := sE b9 1 0 [1]
noncomputable abbrev C9a (o : Option PV) : LE := ⟨(LE.comp (ww 0 0 nm []) (lcN e9a)).sc, Qx "line" o⟩
noncomputable abbrev C9b (o : Option PV) : LE := ⟨(LE.comp (ww 0 0 nm []) (lcN e9b)).sc, Qx "line" o⟩
theorem O6 {o : Option PV} {v : PV} : qt (C9a (nm := nm) o) (qu e9a) v = some (C9a (nm := nm) (some v)) := by cases o <;> kernel_rfl
theorem Nl {o : Option PV} {v : PV} : qt (C9b (nm := nm) o) (qu e9b) v = some (C9b (nm := nm) (some v)) := by cases o <;> kernel_rfl
theorem NK (h : R9 kv) : (evN ftT (n + 6)).ev (C9a (nm := nm) (some (.str (line kv)))) (lcE e9a) μ = some (.ok (.loc μ.length), μ ++ [ls [kv.1, kv.2]]) := by
 exact y5 [fV (I2 (μ := μ) h)] (by kernel_rfl)
theorem Mp (h : R9 kv) (hm : q5 μ m = some [.str kv.1, .str kv.2]) : (evN ftT (n + 6)).ev (C9b (nm := nm) (some (.loc m))) (lcE e9b) μ = some (.ok (row (swp kv)), μ) := by
 have hs := Jt (μ := μ) h.s
 exact y5 [fV (v7 hm), fV (hs), fV (NQ hm)] (by kernel_rfl)
def R9s (ν : q4) (kv : Str × Str) (y : PV) : Prop := ∃ a, y = .loc a /\ q5 ν a = some [.str kv.1, .str kv.2]
theorem L6 (hm : q5 μ m = some ((rows.map line).map .str)) (hr : rows.length <= Pr) (h : ∀ kv ∈ rows, R9 kv) :
 ∃ (zs : List ((Str × Str) × PV)) (J : q4), qG (evN ftT (n + 6)) (LE.comp (ww T 9 nm []) (lcN e9a)) (lcE e9a) (qu e9a) (qD e9a) (.list m, rows.length + 1) μ = some (.ok (.loc (μ ++ J).length), μ ++ J ++ [.list (zs.map Rh)]) /\ zs.map RN = rows /\ ∀ z ∈ zs, R9s (μ ++ J) z.1 z.2 := by
 rw [Su] at hm
 obtain ⟨zs, J, h1, h2, h3⟩ := fg (r := evN ftT (n + 6)) (target := qu e9a) (elt := lcE e9a) (ifs := qD e9a) (μ := μ) (Inv := fun σ => ∃ o, σ = C9a (nm := nm) o) (R := R9s) (by kernel_rfl) (fun kv => .str (line kv)) (fun ν J kv y ⟨a, e, h⟩ => ⟨a, e, qc h⟩) (vz hm)
  (fun σ kv J ⟨o, ho⟩ hk => ⟨_, .loc (μ ++ J).length, [ls [kv.1, kv.2]], ho ▸ O6, ⟨_, rfl⟩, by rw [<- PF]; exact NK (h kv hk), ⟨_, rfl, by rw [<- PF]; exact q6⟩⟩) (rows.length + 1) 0 (LE.comp (ww T 9 nm []) (lcN e9a)) [] ⟨none, by kernel_rfl⟩ rfl (Rj _)
 rw [PQ, U2] at h1
 rw [U2] at h3
 rw [Ad] at h2
 refine ⟨zs, J, qA h1 ?_, h2, h3⟩
 rw [PH, <- PH (f := RN), h2]; exact hr
theorem Lo {zs : List ((Str × Str) × PV)} (hm : q5 μ m = some (zs.map Rh)) (hz : zs.map RN = rows) (hr : rows.length <= Pr) (h : ∀ kv ∈ rows, R9 kv) (hR : ∀ z ∈ zs, R9s μ z.1 z.2) :
 qG (evN ftT (n + 6)) (LE.comp (ww T 9 nm [("lines", .loc a)]) (lcN e9b)) (lcE e9b) (qu e9b) (qD e9b) (.list m, (zs.map Rh).length + 1) μ = some (.ok (.loc μ.length), μ ++ [rw' (rows.map swp)]) := by
 have q := qV (r := evN ftT (n + 6)) (target := qu e9b) (elt := lcE e9b) (ifs := qD e9b) (μ := μ) (f := fun z : (Str × Str) × PV => row (swp z.1)) (g := fun zz => true) (Inv := fun σ => ∃ o, σ = C9b (nm := nm) o) Rh (qF hm)
  (fun σ z ⟨o, ho⟩ hk => ⟨_, ho ▸ Nl, ⟨_, rfl⟩, by kernel_rfl, fun zz => by
    obtain ⟨a, e, ha⟩ := hR z hk
    rw [e]
    exact Mp (h _ (hz ▸ RS hk)) ha⟩) (zs.length + 1) 0 (LE.comp (ww T 9 nm [("lines", .loc a)]) (lcN e9b)) ⟨none, by kernel_rfl⟩ rfl (Rj _)
 rw [zB] at q
 have e : (zs.drop 0).map (fun z => row (swp z.1)) = (rows.map swp).map row := by
  rw [Ad, Su, <- hz, Su]; rfl
 rw [e] at q
 rw [PH]
 exact qA q (by rw [PH, PH]; exact hr)
theorem LC (hm : q5 μ H = some (rows.map row)) (hg : ∀ kv ∈ rows, bad true kv.1 = false /\ bad false kv.2 = false) : QY (evN ftT (n + 40)) [.loc H] μ = some (.ok (.loc (μ.length + 1)), ntS μ [("_headers", .loc H)] []) := by
 show qa ((evN ftT (n + 40)).call 81 [.loc (μ.length + 1), .loc H] [] (ntS μ [] [])) _ = _
 rw [Eu hm hg]; rfl
theorem Iv : QY (evN ftT (n + 40)) [] μ = some (.ok (.loc (μ.length + 1)), ntS μ [("_headers", .loc (μ.length + 2))] [.list []]) := by
 show qa ((evN ftT (n + 40)).call 81 [.loc (μ.length + 1)] [] (ntS μ [] [])) _ = _
 rw [E4]; rfl
theorem QH (h : ∀ kv ∈ rows, R9 kv) : SE (PU fD (xr rows)) fD = xr rows := by
 have hf : ∀ q ∈ xr rows, 13 ∉ q.cps.toList := by
  intro q hq
  rcases PT.mp hq with hq | hq
  ·obtain ⟨kv, hk, rfl⟩ := Ri.mp hq
   have g := h kv hk
   unfold line
   rw [qr, qr]
   intro hc
   rcases PT.mp hc with hc | hc
   ·exact (PT.mp hc).elim g.r1 (by decide)
   ·exact g.r2 hc
  ·rw [(List.eq_of_mem_replicate (n := 2) hq : q = PE)]; exact fun h => nomatch h
 induction hL : xr rows using PC with
 | nil => exact absurd hL (by cases rows <;> exact nofun)
 | cons p l => exact Ya BE (by kernel_rfl) (hL ▸ hf)
theorem Ll (t : Tab μ T d H rows) (hr : rows.length <= 1000) (h : ∀ kv ∈ rows, R9 kv) (hsum : ((rows.map line).map (·.length)).sum <= 500000) :
 ∃ ν T' d' H', (evN ftT (n + 90)).call 225 [.loc T, .int 9, .str nm] [] μ = some (.ok (.loc T'), ν) /\ qi μ H ν /\ Tab ν T' d' H' (rows.map swp) /\ μ.length <= H' := by
 have hn : (xr rows).length <= 1002 := by rw [PB, PH]; exact RX hr 2
 have hs : ((xr rows).map (·.length)).sum <= 500000 := by rw [Rt, bO]; exact hsum
 have hc : ((xr rows).map (·.length)).sum + (xr rows).length * fD.length <= 600000 := Pq (RP hs (AM hn (PJ 2))) (by decide)
 have h163 := fun n => Ci (n := n) t (Pq (RX hr 2) (by decide)) (fun kv hk => ⟨Pq (h kv hk).l1 (by decide), Pq (h kv hk).l2 (by decide)⟩) (yP (Pq hc (by decide)))
 have hsp := fun μ => Dx (μ := μ) (Pq (w6 (sep := fD) (l := xr rows)) (Pq hc (by decide))) (by rw [QH h]; exact Pq hn (by decide))
 rw [QH h] at hsp
 have e1 : (xr rows).map PV.str = (rows.map line).map .str ++ [.str PE, .str PE] := Rt
 have hk : qi μ H (μ ++ [ls (rows.map line)] ++ [ls [PE, PE]] ++ [ls (xr rows)] ++ [ls (xr rows)] ++ [ls (rows.map line)]) := qi.trans qi.app (qi.trans qi.app (qi.trans qi.app (qi.trans qi.app qi.app (.inl rfl)) (.inl rfl)) (.inl rfl)) (.inl rfl)
 generalize hA : μ ++ [ls (rows.map line)] ++ [ls [PE, PE]] ++ [ls (xr rows)] = A at *
 have hspA := hsp A
 have hsl := IV (μ := A ++ [ls (xr rows)]) (a := A.length) (l := rows.map line) (q6.trans (congrArg some e1)) (by rw [PH]; exact Pq hr (by decide))
 have hm : q5 (A ++ [ls (xr rows)] ++ [ls (rows.map line)]) (A ++ [ls (xr rows)]).length = some ((rows.map line).map .str) := q6
 generalize hB : A ++ [ls (xr rows)] = B at *
 have hs2 := qK hm
 rw [PH, PH] at hs2
 have hr' : rows.length <= Pr := Pq hr (by decide)
 obtain ⟨zs, J, ha, hz, hR⟩ := L6 (n := n + 80) (T := T) (nm := nm) hm hr' h
 have hm2 : q5 (B ++ [ls (rows.map line)] ++ J ++ [.list (zs.map Rh)]) (B ++ [ls (rows.map line)] ++ J).length = some (zs.map Rh) := q6
 have hR2 : ∀ z ∈ zs, R9s (B ++ [ls (rows.map line)] ++ J ++ [.list (zs.map Rh)]) z.1 z.2 := fun z hz' => (hR z hz').elim fun a q => ⟨a, q.1, qc q.2⟩
 have hk2 : qi μ H (B ++ [ls (rows.map line)] ++ J ++ [.list (zs.map Rh)]) := hk.trans (qi.trans qi.app qi.app (.inl rfl)) (.inl rfl)
 generalize hm0 : (B ++ [ls (rows.map line)] ++ J).length = m at *
 generalize hD : B ++ [ls (rows.map line)] ++ J ++ [q8.list (zs.map Rh)] = D at *
 have hb := fun n => Lo (n := n) (T := T) (nm := nm) (a := m) hm2 hz hr' h hR2
 have hmk := fun n => LC (n := n) (μ := D ++ [rw' (rows.map swp)]) q6 fun kv hk => by
  obtain ⟨x, hx, rfl⟩ := Ri.mp hk
  exact ⟨(h x hx).b1, (h x hx).b2⟩
 refine ⟨ntS (D ++ [rw' (rows.map swp)]) [("_headers", .loc D.length)] [], (D ++ [rw' (rows.map swp)]).length + 1, (D ++ [rw' (rows.map swp)]).length, D.length, ?_, hk2.trans (qi.trans qi.app qi.app (.inl rfl)) (.inl rfl), Zi (J := []) (qc q6), hk2.1⟩
 have h9 : (9 : Int) = 9 := rfl
 exact jv (n := n) (k := 89) [fV (jz (μ := μ) h9), fI (t.i), fV (h163 (n + 63)), fV (hspA), fV (hsl), fR (hs2), fV (ha), fR (qK hm2), fV (hb (n + 79)), fV (hmk (n + 46))] (by kernel_rfl)
end
structure St where
 kind : Nat
 name : Str
 key : Str
 text : Str
 quote : Nat
noncomputable def yq : List Str := Hg.map ch ++ [44, 92, 34, 44, 92, 34, 44, 92, 34].map ch ++ [120, 39, 33, 123, 45].map ch ++ [PE, PE]
noncomputable def N4 : List Str := ["ab", "x-", "AB", "X-"]
noncomputable def vH (x : Nat) : Str := if x / 38400 % 3 = 2 then RAW.getD (x / 120 % 32 % 3) PE else yq.getD (x / 120 % 32) PE ++ TL.getD (x / 3840 % 10) PE
noncomputable def yg (x : Nat) : St := ⟨x % 10, N4.getD (x / 10 % 4) PE, K3.getD (x / 40 % 3) PE, vH x, x / 38400 % 3⟩
noncomputable def St.pv (s : St) : PV := .tup [.int s.kind, .str s.name, .str s.key, .str s.text, .int s.quote]
section
variable {n m i x : Nat} {j : Int} {μ : q4} {l : List Str} {s : Str}
theorem fdN (h : decide (0 < j /\ j.natAbs < 2 ^ 60) = true) : kZ .FloorDiv (.int (m : Int)) (.int j) μ = some (.ok (.int ((m / j.toNat : Nat) : Int)), μ) := by
 have h := of_decide_eq_true h
 show (if j = 0 \/ 2 ^ 60 <= j.natAbs then none else some (Rs (PV.int (Int.fdiv (m : Int) j)), μ)) = _
 rw [if_neg fun q => q.elim (fun q => absurd h.1 (by rw [q]; decide)) fun q => absurd h.2 (Sh.mpr q)]
 have q := (Int.ofNat_fdiv m j.toNat).symm
 rw [Ux (Int.le_of_lt h.1)] at q
 rw [q]
theorem fmN (h : decide (0 < j) = true) : kZ .Mod (.int (m : Int)) (.int j) μ = some (.ok (.int ((m % j.toNat : Nat) : Int)), μ) := by
 have h := of_decide_eq_true h
 show (if j = 0 then none else some (Rs (PV.int (bX (m : Int) j)), μ)) = _
 rw [if_neg fun q => absurd h (by rw [q]; decide)]
 have q := (Int.ofNat_fmod m j.toNat).symm
 rw [Ux (Int.le_of_lt h)] at q
 rw [q]
theorem vi (h : q5 μ m = some (l.map .str)) (hi : i < l.length) : zb (.loc m) (.int (i : Int)) μ = some (.ok (.str (l.getD i PE)), μ) := by
 show (q5 μ m).bind _ = _
 rw [h, PK, if_pos (UI i)]
 show ((l.map PV.str)[i]?).map _ = _
 rw [SV, PW hi, S7, PW hi]; rfl
noncomputable def SGS : Str := " ()<>@,;:\\\"/[]?=" ++ aZ ",\\\"" 3 ++ "x'!{-"
noncomputable abbrev gM : Expr := sE (qo 196).body 0 0 [0]
noncomputable abbrev DO (o : Option PV) : LE := ⟨(LE.comp ⟨qn 196, []⟩ (lcN gM)).sc, Qx "sign" o⟩
theorem LO {o : Option PV} {v : PV} : qt (DO o) (qu gM) v = some (DO (some v)) := by cases o <;> kernel_rfl
theorem Il {v : PV} : (evN ftT (n + 6)).ev (DO (some v)) (lcE gM) μ = some (.ok v, μ) := by
 exact y5 [] (by kernel_rfl)
noncomputable abbrev SG0 : List PV := (SGS.cps.toList.map ch).map .str
theorem WQ {v : PV} (hl : s.length <= Pr) : qG (evN ftT (n + 6)) (LE.comp ⟨qn 196, [("x", v)]⟩ (lcN gM)) (lcE gM) (qu gM) (qD gM) (.str s, s.length + 1) μ = some (.ok (.loc μ.length), μ ++ [ls (s.cps.toList.map ch)]) := by
 have h := qV (r := evN ftT (n + 6)) (target := qu gM) (elt := lcE gM) (ifs := qD gM) (f := fun c => .str (ch c)) (g := fun zz => true) (Inv := fun σ => ∃ o, σ = DO o) (fun c => .str (ch c)) (gq (s := s) (μ := μ))
  (fun σ c ⟨o, e⟩ hk => ⟨_, e ▸ LO, ⟨_, rfl⟩, by kernel_rfl, fun zz => Il⟩) (s.length + 1) 0 (LE.comp ⟨qn 196, [("x", v)]⟩ (lcN gM)) ⟨none, by kernel_rfl⟩ (by rw [zr]) (Rj _)
 rw [zB] at h
 refine (qA h ?_).trans ?_
 ·rw [PH]; exact (zr (s := s) ▸ hl)
 ·unfold ls; rw [Su]; rfl
theorem WL : SGS.length <= Pr := by decide +kernel
theorem Fr : SG0 ++ [.str PE, .str PE] = yq.map .str := by kernel_rfl
theorem V1 {b : Nat} (h : (l.all fun y => decide (y.length <= b)) = true) (hi : i < l.length) : (l.getD i PE).length <= b := by
 rw [S7, PW hi]
 exact of_decide_eq_true (PS.mp h _ (Rx hi))
noncomputable abbrev Mg (x : Nat) (μ : q4) : Prop := ∃ J, (evN ftT (n + 40)).call 196 [.int (x : Int)] [] μ = some (.ok (yg x).pv, μ ++ J)
theorem CU : Mg (n := n) x μ := by
 have hadd := w8 (μ := μ ++ [.list SG0] ++ [.list [.str PE, .str PE]]) (a := μ.length) (b := (μ ++ [q8.list SG0]).length) (qc q6) q6 (by rw [Fr]; decide +kernel)
 rw [Fr] at hadd
 have b120 : x / 120 % 32 < yq.length := Ap _ (by decide)
 have bT : x / 3840 % 10 < TL.length := Ap _ (by decide)
 have bR : x / 120 % 32 % 3 < RAW.length := Ap _ (by decide)
 have bN : x / 10 % 4 < N4.length := Ap _ (by decide)
 have bK : x / 40 % 3 < K3.length := Ap _ (by decide)
 have hl : (yq.getD (x / 120 % 32) PE ++ TL.getD (x / 3840 % 10) PE).length <= Pr := fit (jQ (V1 (b := 1) (by decide +kernel) b120) (V1 (b := 1) (by decide +kernel) bT)) (by decide)
 have hm : q5 (μ ++ [.list SG0] ++ [.list [.str PE, .str PE]] ++ [.list (yq.map .str)]) (μ ++ [q8.list SG0] ++ [q8.list [.str PE, .str PE]]).length = some (yq.map .str) := q6
 have hA : ∃ A, μ ++ [.list SG0] ++ [.list [.str PE, .str PE]] ++ [.list (yq.map .str)] = μ ++ A := ⟨_, by rw [PF, PF]⟩
 generalize (μ ++ [q8.list SG0] ++ [q8.list [.str PE, .str PE]]).length = a at *
 generalize μ ++ [.list SG0] ++ [.list [.str PE, .str PE]] ++ [.list (yq.map .str)] = S at *
 obtain ⟨A, hA⟩ := hA
 have pS := vi (μ := S ++ [.list (TL.map .str)]) (qc hm) b120
 have pT := vi (μ := S ++ [.list (TL.map .str)]) (m := S.length) q6 bT
 have pN := fun ν : q4 => vi (μ := ν ++ [.list (N4.map .str)]) (m := ν.length) q6 bN
 have pK := fun ν : q4 => vi (μ := ν ++ [.list (K3.map .str)]) (m := ν.length) q6 bK
 have pR := fun ν : q4 => vi (μ := ν ++ [.list (RAW.map .str)]) (m := ν.length) q6 bR
 unfold Mg
 by_cases hq : x / 38400 % 3 = 2
 ·have hqi : ((x / 38400 % 3 : Nat) : Int) = 2 := congrArg Int.ofNat hq
  refine ⟨A ++ [.list (TL.map .str)] ++ [.list (RAW.map .str)] ++ [.list (N4.map .str)] ++ [.list (K3.map .str)], ?_⟩
  have hst : vH x = RAW.getD (x / 120 % 32 % 3) PE := if_pos hq
  rw [<- PF, <- PF, <- PF, <- PF, <- hA]
  unfold yg
  rw [hst]
  exact jv (n := n) (k := 39) [.d, fV (ju (a := Pv " ()<>@,;:\\\"/[]?=") (b := aZ (Pv ",\\\"") 3) (μ := μ) (by decide)), fV (ju (a := Pv " ()<>@,;:\\\"/[]?=" ++ aZ (Pv ",\\\"") 3) (b := Pv "x'!{-") (μ := μ) (by decide)), fV ((fun n => WQ (n := n) (v := .int (x : Int)) (μ := μ) WL) (n + 30)), .d, fV (hadd), .d, .d, .d, .d, .d, .d, fV (fdN (m := x) (j := 120) (μ := S ++ [q8.list [PV.str (Pv ""), PV.str (Pv "\t"), PV.str (Pv "\""), PV.str (Pv "\\"), PV.str (Pv "y"), PV.str (T6 #[RA 31]), PV.str (T6 #[RA 127]), PV.str (T6 #[RA 128]), PV.str (T6 #[RA 10]), PV.str (T6 #[RA 13])]]) rfl), fV (fmN (m := x / RA 120) (j := 32) (μ := S ++ [q8.list [PV.str (Pv ""), PV.str (Pv "\t"), PV.str (Pv "\""), PV.str (Pv "\\"), PV.str (Pv "y"), PV.str (T6 #[RA 31]), PV.str (T6 #[RA 127]), PV.str (T6 #[RA 128]), PV.str (T6 #[RA 10]), PV.str (T6 #[RA 13])]]) rfl), fV (pS), fV (fdN (m := x) (j := 3840) (μ := S ++ [q8.list (Rm PV.str TL)]) rfl), fV (fmN (m := x / RA 3840) (j := 10) (μ := S ++ [q8.list (Rm PV.str TL)]) rfl), fV (pT), fV (ju (μ := S ++ [q8.list (Rm PV.str TL)]) hl), fV (fdN (m := x) (j := 38400) (μ := S ++ [q8.list (Rm PV.str TL)]) rfl), fV (fmN (m := x / RA 38400) (j := 3) (μ := S ++ [q8.list (Rm PV.str TL)]) rfl), fV ((jz hqi : qZ Uv.Eq (PV.int ↑(x / 38400 % 3)) (PV.int 2) (S ++ [q8.list (Rm PV.str TL)]) = some (Rs (PV.bool true), S ++ [q8.list (Rm PV.str TL)]))), .d, .d, fV (fdN (m := x) (j := 120) (μ := S ++ [q8.list (Rm PV.str TL)] ++ [q8.list [PV.str (Pv "\"\"y"), PV.str (Pv "y\",\""), PV.str (Pv "")]]) rfl), fV (fmN (m := x / RA 120) (j := 32) (μ := S ++ [q8.list (Rm PV.str TL)] ++ [q8.list [PV.str (Pv "\"\"y"), PV.str (Pv "y\",\""), PV.str (Pv "")]]) rfl), fV (fmN (m := x / RA 120 % RA 32) (j := 3) (μ := S ++ [q8.list (Rm PV.str TL)] ++ [q8.list [PV.str (Pv "\"\"y"), PV.str (Pv "y\",\""), PV.str (Pv "")]]) rfl), fV (pR (S ++ [.list (TL.map .str)])), fV (fmN (m := x) (j := 10) (μ := S ++ [q8.list (Rm PV.str TL)] ++ [q8.list (Rm PV.str RAW)]) rfl), .d, fV (fdN (m := x) (j := 10) (μ := S ++ [q8.list (Rm PV.str TL)] ++ [q8.list (Rm PV.str RAW)] ++ [q8.list [PV.str (Pv "ab"), PV.str (Pv "x-"), PV.str (Pv "AB"), PV.str (Pv "X-")]]) rfl), fV (fmN (m := x / RA 10) (j := 4) (μ := S ++ [q8.list (Rm PV.str TL)] ++ [q8.list (Rm PV.str RAW)] ++ [q8.list [PV.str (Pv "ab"), PV.str (Pv "x-"), PV.str (Pv "AB"), PV.str (Pv "X-")]]) rfl), fV (pN (S ++ [.list (TL.map .str)] ++ [.list (RAW.map .str)])), .d, fV (fdN (m := x) (j := 40) (μ := S ++ [q8.list (Rm PV.str TL)] ++ [q8.list (Rm PV.str RAW)] ++ [q8.list (Rm PV.str N4)] ++ [q8.list [PV.str (Pv "k"), PV.str (Pv "K"), PV.str (Pv "a-b\\")]]) rfl), fV (fmN (m := x / RA 40) (j := 3) (μ := S ++ [q8.list (Rm PV.str TL)] ++ [q8.list (Rm PV.str RAW)] ++ [q8.list (Rm PV.str N4)] ++ [q8.list [PV.str (Pv "k"), PV.str (Pv "K"), PV.str (Pv "a-b\\")]]) rfl), fV (pK (S ++ [.list (TL.map .str)] ++ [.list (RAW.map .str)] ++ [.list (N4.map .str)]))] (by kernel_rfl)
 ·have hqi : ((x / 38400 % 3 : Nat) : Int) ≠ 2 := fun e => hq (T2 e)
  refine ⟨A ++ [.list (TL.map .str)] ++ [.list (N4.map .str)] ++ [.list (K3.map .str)], ?_⟩
  have hst : vH x = yq.getD (x / 120 % 32) PE ++ TL.getD (x / 3840 % 10) PE := if_neg hq
  rw [<- PF, <- PF, <- PF, <- hA]
  unfold yg
  rw [hst]
  exact jv (n := n) (k := 39) [.d, fV (ju (a := Pv " ()<>@,;:\\\"/[]?=") (b := aZ (Pv ",\\\"") 3) (μ := μ) (by decide)), fV (ju (a := Pv " ()<>@,;:\\\"/[]?=" ++ aZ (Pv ",\\\"") 3) (b := Pv "x'!{-") (μ := μ) (by decide)), fV ((fun n => WQ (n := n) (v := .int (x : Int)) (μ := μ) WL) (n + 30)), .d, fV (hadd), .d, .d, .d, .d, .d, .d, fV (fdN (m := x) (j := 120) (μ := S ++ [q8.list [PV.str (Pv ""), PV.str (Pv "\t"), PV.str (Pv "\""), PV.str (Pv "\\"), PV.str (Pv "y"), PV.str (T6 #[RA 31]), PV.str (T6 #[RA 127]), PV.str (T6 #[RA 128]), PV.str (T6 #[RA 10]), PV.str (T6 #[RA 13])]]) rfl), fV (fmN (m := x / RA 120) (j := 32) (μ := S ++ [q8.list [PV.str (Pv ""), PV.str (Pv "\t"), PV.str (Pv "\""), PV.str (Pv "\\"), PV.str (Pv "y"), PV.str (T6 #[RA 31]), PV.str (T6 #[RA 127]), PV.str (T6 #[RA 128]), PV.str (T6 #[RA 10]), PV.str (T6 #[RA 13])]]) rfl), fV (pS), fV (fdN (m := x) (j := 3840) (μ := S ++ [q8.list (Rm PV.str TL)]) rfl), fV (fmN (m := x / RA 3840) (j := 10) (μ := S ++ [q8.list (Rm PV.str TL)]) rfl), fV (pT), fV (ju (μ := S ++ [q8.list (Rm PV.str TL)]) hl), fV (fdN (m := x) (j := 38400) (μ := S ++ [q8.list (Rm PV.str TL)]) rfl), fV (fmN (m := x / RA 38400) (j := 3) (μ := S ++ [q8.list (Rm PV.str TL)]) rfl), fV ((qE hqi : qZ Uv.Eq (PV.int ↑(x / 38400 % 3)) (PV.int 2) (S ++ [q8.list (Rm PV.str TL)]) = some (Rs (PV.bool false), S ++ [q8.list (Rm PV.str TL)]))), fV (fmN (m := x) (j := 10) (μ := S ++ [q8.list (Rm PV.str TL)]) rfl), .d, fV (fdN (m := x) (j := 10) (μ := S ++ [q8.list (Rm PV.str TL)] ++ [q8.list [PV.str (Pv "ab"), PV.str (Pv "x-"), PV.str (Pv "AB"), PV.str (Pv "X-")]]) rfl), fV (fmN (m := x / RA 10) (j := 4) (μ := S ++ [q8.list (Rm PV.str TL)] ++ [q8.list [PV.str (Pv "ab"), PV.str (Pv "x-"), PV.str (Pv "AB"), PV.str (Pv "X-")]]) rfl), fV (pN (S ++ [.list (TL.map .str)])), .d, fV (fdN (m := x) (j := 40) (μ := S ++ [q8.list (Rm PV.str TL)] ++ [q8.list (Rm PV.str N4)] ++ [q8.list [PV.str (Pv "k"), PV.str (Pv "K"), PV.str (Pv "a-b\\")]]) rfl), fV (fmN (m := x / RA 40) (j := 3) (μ := S ++ [q8.list (Rm PV.str TL)] ++ [q8.list (Rm PV.str N4)] ++ [q8.list [PV.str (Pv "k"), PV.str (Pv "K"), PV.str (Pv "a-b\\")]]) rfl), fV (pK (S ++ [.list (TL.map .str)] ++ [.list (N4.map .str)]))] (by kernel_rfl)
end
noncomputable def CTL : Str := "Control characters not allowed in headers"
inductive jE where
 | no | yes (b : Bool) | ctl | lst (l : List Bool)
noncomputable def jX (μ : q4) (H N : Nat) (p : PV) : jE -> Prop
 | .no => p = .none
 | .yes b => p = .bool b
 | .ctl => p = .str CTL
 | .lst l => ∃ a, p = .loc a /\ a ≠ H /\ a ≠ N /\ q5 μ a = some (l.map .bool)
def Ext (μ ν : q4) : Prop := μ.length <= ν.length /\ ∀ a, a < μ.length -> ν[a]? = μ[a]?
abbrev ZL := List (PV × jE)
theorem yG {μ : q4} {a : Nat} {l : List PV} (h : q5 μ a = some l) : a < μ.length := (R0.mp (vU h)).1
structure xg (μ0 μ : q4) (T d H N : Nat) (rows : Ps) (zs : ZL) : Prop where
 ext : Ext μ0 μ
 tab : Tab μ T d H rows
 hH : μ0.length <= H
 hN : μ0.length <= N
 nl : q5 μ N = some (zs.map RN)
 nn : N ≠ H
 reps : ∀ z ∈ zs, jX μ H N z.1 z.2
section
variable {n : Nat} {μ0 μ ν ρ X Y J : q4} {T d H N P a T' d' H' : Nat} {rows rows' : Ps} {zs : ZL} {s : St} {v : PV} {k : Str}
theorem Ext.keep (x : Ext μ ν) (k : qi ν H ρ) (h : μ.length <= H) : Ext μ ρ := ⟨Pq x.1 k.1, fun a ha => (k.2 a (PY ha x.1) (RQ (PY ha h))).trans (x.2 a ha)⟩
theorem Ext.refl : Ext μ μ := ⟨PJ _, fun zz zz => rfl⟩
theorem Ext.list {l : List PV} (x : Ext μ ν) (h : q5 μ a = some l) : q5 ν a = some l := (wP (x.2 a (yG h))).trans h
theorem jX.mono {p : PV} {m : jE} (q : jX μ H N p m) (h : ∀ a l, q5 μ a = some l -> a ≠ H -> a ≠ N -> a ≠ H' /\ q5 ν a = some l) : jX ν H' N p m := by
 induction m with
 | lst l =>
   obtain ⟨x, e, q1, q2, q3⟩ := q
   exact ⟨x, e, (h x _ q3 q1 q2).1, q2, (h x _ q3 q1 q2).2⟩
 | _ => exact q
theorem xg.move (p : xg μ0 μ T d H N rows zs) (k : qi μ H ν) (t : Tab ν T' d' H' rows') (h : H' = H \/ μ.length <= H') : xg μ0 ν T' d' H' N rows' zs := by
 have ne : ∀ {a : Nat}, a < μ.length -> a ≠ H -> a ≠ H' := fun ha hn => h.elim (fun e => e ▸ hn) fun q => RQ (PY ha q)
 exact ⟨p.ext.keep k p.hH, t, h.elim (fun e => e ▸ p.hH) fun q => Pq p.ext.1 q, p.hN, k.list p.nl p.nn, ne (yG p.nl) p.nn, fun z hz => (p.reps z hz).mono fun a l q h1 zz => ⟨ne (yG q) h1, k.list q h1⟩⟩
theorem qi.set0 {c : q8} : qi μ H (qj μ H c) := by
 have := qi.set (μ := μ) (H := H) (c := c) (J := [])
 rwa [PQ] at this
noncomputable abbrev yA (ν : q4) (N : Nat) (zs : ZL) : q4 := qj ν N (.list (zs.map RN))
theorem xg.note {z : PV × jE} (p : xg μ0 μ T d H N rows zs) (hv : jX μ H N z.1 z.2) : xg μ0 (yA μ N (zs ++ [z])) T d H N rows (zs ++ [z]) := by
 have kN : qi μ N (yA μ N (zs ++ [z])) := qi.set0
 have hg := vU p.nl
 have hT : T ≠ N := fun e => by
  have h : (μ[T]?).bind xz = some d := p.tab.i
  rw [e, hg] at h; exact no h
 have hd : d ≠ N := fun e => by
  have h : (μ[d]?).bind wD = _ := p.tab.d
  rw [e, hg] at h; exact no h
 refine ⟨p.ext.keep kN p.hN, ⟨(congrArg (·.bind xz) (wi hT)).trans p.tab.i, (congrArg (·.bind wD) (wi hd)).trans p.tab.d, kN.list p.tab.h (SN p.nn)⟩, p.hH, p.hN, congrArg (·.bind kB) (v8 (yG p.nl)), p.nn, fun y hy => ?_⟩
 have hm : jX μ H N y.1 y.2 := (PT.mp hy).elim (p.reps y) fun h => by rw [Pw.mp h]; exact hv
 exact hm.mono fun a l q h1 h2 => ⟨h1, kN.list q h2⟩
noncomputable def sv : Option St -> Loc
 | none => []
 | some s => [("kind", .int s.kind), ("name", .str s.name), ("key", .str s.key), ("text", .str s.text), ("quote", .int s.quote)]
noncomputable abbrev v6 (P T N : Nat) (o : Option St) : LE := ⟨qn 230, ("steps", .loc P) :: ("notes", .loc N) :: ("table", .loc T) :: sv o⟩
noncomputable abbrev E6 : List Sf := qR (qo 230).body
structure Pk (n P : Nat) (μ0 μ : q4) (T N : Nat) (s : St) (rows' : Ps) (ns' : List jE) (ν : q4) (T' d' H' : Nat) (zs' : ZL) : Prop where
 e : (evN ftT (n + 100)).ex (v6 P T N (some s)) E6 μ = some (.ok .next, v6 P T' N (some s), ν)
 p : xg μ0 ν T' d' H' N rows' zs'
 z : zs'.map Rh = ns'
def wv (n P : Nat) (μ0 μ : q4) (T N : Nat) (s : St) (rows' : Ps) (ns' : List jE) : Prop := ∃ ν T' d' H' zs', Pk n P μ0 μ T N s rows' ns' ν T' d' H' zs'
theorem zH {z : PV × jE} : (zs ++ [z]).map Rh = zs.map Rh ++ [z.2] := Rt
theorem xT (h : q5 μ N = some (zs.map RN)) (hl : zs.length <= 1000) (m : jE) : j0 (.loc N) "append" [v] μ = some (.ok .none, yA μ N (zs ++ [(v, m)])) := by
 rw [XS h (by rw [PH]; exact Pq (Rb hl) (by decide)), yA, Rt]; rfl
noncomputable abbrev Ox : List Tl := match E6 with
 | [.Try _ h _ _ _] => h
 | _ => []
theorem gJ (h : q5 μ N = some (zs.map RN)) (hl : zs.length <= 1000) : yO (v6 P T N (some s)) fK Ox μ = some (.ok .next, v6 P T N (some s), yA μ N (zs ++ [(.str CTL, .ctl)])) := by
 show ((q5 μ N).bind fun l => if l.length + 1 <= Pr /\ CTL.length <= Pr then some (Rs j9.next, v6 P T N (some s), qj μ N (.list (l ++ [.str CTL]))) else none) = _
 rw [h, PK, if_pos ⟨by rw [PH]; exact Pq (Rb hl) (by decide), by decide +kernel⟩, yA, Rt]; rfl
end
noncomputable def dsh (k : Str) : Str := Sz k "-" "_"
structure StF (s : St) : Prop where
 bn : bad true s.name = false
 kw : ZO (dsh s.key)
 kl : s.key.length <= 100
 us : usc (dsh s.key) = s.key
 tl : s.text.length <= 100
 w : WS' s.text
noncomputable def emS : Str := ""
noncomputable def ze (z : Bool) : PV := if z = true then .str emS else .none
noncomputable def zk (z : Bool) : Nat := if z = true then 1 else 0
noncomputable abbrev LZ : q8 := .list [.none, .str zS]
noncomputable abbrev LE0 : q8 := .list [.none, .str emS]
section
variable {n : Nat} {μ0 μ ν X Y J : q4} {T d H N P : Nat} {rows rows' : Ps} {zs : ZL} {s : St} {v : PV} {k : Str} {z : Bool} {kv : Str × PV} {i j : Int}
theorem Yk (hx : k.length <= 100) : jV k "replace" [.str "-", .str "_"] μ = some (.ok (.str (dsh k)), μ) := by
 show (if decide (16000000 < k.length) = true then none else if (decide (k.length <= 1048576)) = true then _ else _) = _
 rw [if_neg (by rw [decide_eq_true_iff]; lia), if_pos (decide_eq_true (by lia))]; rfl
theorem ym (h : i < j) : qZ .Lt (.int i) (.int j) μ = some (.ok (.bool true), μ) := by
 show some (Rs (PV.bool (decide (i < j))), μ) = _
 rw [decide_eq_true h]
theorem xD (h : ¬ i < j) : qZ .Lt (.int i) (.int j) μ = some (.ok (.bool false), μ) := by
 show some (Rs (PV.bool (decide (i < j))), μ) = _
 rw [decide_eq_false h]
theorem EV (h : s.kind = zk z) : (s.kind : Int) < 2 := by rw [h]; cases z <;> decide
theorem pz (h : s.kind = zk z) : zb (.loc μ.length) (.int s.kind) (μ ++ [LZ]) = some (.ok (zv z), μ ++ [LZ]) := by
 show (q5 (μ ++ [LZ]) μ.length).bind _ = _
 rw [q6, h]; cases z <;> rfl
theorem pe (h : s.kind = zk z) : zb (.loc (Y ++ q8.dict [] :: []).length) (.int s.kind) (Y ++ .dict [] :: ([] ++ [LE0])) = some (.ok (ze z), Y ++ .dict [] :: ([] ++ [LE0])) := by
 show (q5 (Y ++ q8.dict [] :: ([] ++ [LE0])) (Y ++ q8.dict [] :: []).length).bind _ = _
 rw [fE, h]; cases z <;> rfl
theorem Gn : (if (([(k, v)] : Loc).map (·.1)).Nodup /\ (qe (Y ++ .dict [] :: J) Y.length).any (·.isEmpty) = true then some (.ok (.loc Y.length), qj (Y ++ .dict [] :: J) Y.length (.dict [(k, v)])) else none : PR PV) = some (.ok (.loc Y.length), Y ++ .dict [(k, v)] :: J) := by
 have e : qe (Y ++ .dict [] :: J) Y.length = some [] := by unfold qe; rw [y9]; rfl
 rw [if_pos ⟨Us.mpr ⟨(nofun), UL⟩, by rw [e]; rfl⟩]
 unfold qj; rw [SP _ _ (PJ _), Ss]; rfl
noncomputable abbrev Y0 (X : q4) : q4 := X ++ [.dict []]
noncomputable abbrev Zs (X : q4) (kv : Str × PV) (J : q4) : q4 := X ++ .dict [kv] :: .dict [kv] :: J
theorem vT {r : Ev} {f : PD} {vs : List PV} : fO r f vs X.length (.loc (Y0 X).length) (Y0 X ++ .dict [kv] :: J) = r.call f vs [kv] (Zs X kv J) := by
 have e1 : qe (Y0 X ++ .dict [kv] :: J) X.length = some [] := by
  unfold qe; rw [PF, Tp, y9]; rfl
 have e2 : qe (Y0 X ++ .dict [kv] :: J) (Y0 X).length = some [kv] := by unfold qe; rw [y9]; rfl
 show (if (Y0 X).length = X.length then none else _) = _
 rw [if_neg (fun h => Bb (c := .dict []) (J := []) h.symm), e1, PK, e2]
 show r.call f vs [kv] (qj (Y0 X ++ .dict [kv] :: J) X.length (.dict [kv])) = _
 unfold qj; rw [PF, Tp, SP _ _ (PJ _), Ss]; rfl
theorem yS (p : xg μ0 μ T d H N rows zs) : qv μ (.loc N) = none := ji p.nl
theorem OS (p : xg μ0 μ T d H N rows zs) (f : StF s) (hk : s.kind = zk z) (hr : rows.length <= 1000) (hL : zs.length <= 1000) (h0 : s.text.length ≠ 0) :
 wv n P μ0 μ T N s (if bad false s.text = true then rows else rows ++ [(s.name, zp z ++ fmt s.key s.text 1)]) (zs.map Rh ++ [if bad false s.text = true then .ctl else .no]) := by
 have tX : Tab (Zs (μ ++ [LZ]) (dsh s.key, .str s.text) []) T d H rows := p.tab.app.app
 have kX : qi μ H (Zs (μ ++ [LZ]) (dsh s.key, .str s.text) []) := qi.trans qi.app qi.app (.inl rfl)
 have hl : (fmt (usc (dsh s.key)) s.text 1).length <= 10000 := by
  rw [f.us]
  have h1 := f.kl
  have h2 := f.tl
  have h3 := f.w.e
  unfold fmt Xl
  split
  ·lia
  ·rw [if_pos (.inl (by decide))]
   rw [PL, PL, PL, PL]
   show 0 + _ + 2 + _ + 1 <= _
   lia
 obtain ⟨J, h184⟩ := ZF (n := n + 55) (z := z) tX f.bn f.kw (f.w.fmt f.kw.u) hl (Pq (Rb hr) (by decide))
 rw [f.us] at h184
 have hkl := f.kl
 have hlt := EV hk
 induction hb : bad false s.text with
 | true =>
   rw [hb, if_pos rfl] at h184
   have hq := vT.trans h184
   have p2 := p.move (kX.trans (qi.app (J := J)) (.inl rfl)) tX.app (.inl rfl)
   refine ⟨yA (Zs (μ ++ [LZ]) (dsh s.key, .str s.text) [] ++ J) N (zs ++ [(.str CTL, .ctl)]), T, d, H, zs ++ [(.str CTL, .ctl)], ?_, p2.note (z := (.str CTL, .ctl)) rfl, zH⟩
   exact qm [fV (ym (μ := μ) hlt), fI (yS p), fL (jf p.nl), fI (p.tab.i), .c (p.tab.ok (x := Pv "add_header") rfl : ql μ d (Pv "add_header") = true), .d, .d, fV (pz (μ := μ) hk), fV (Yk (μ := μ ++ [LZ] ++ [q8.dict []] ++ [q8.dict []]) hkl), fT (vx (μ := μ ++ [LZ] ++ [q8.dict []] ++ [q8.dict []]) h0), fV (Gn (Y := Y0 (μ ++ [LZ])) (J := []) (k := dsh s.key) (v := .str s.text)), fV (hq), fS (gJ (T := T) (P := P) (s := s) p2.nl hL)] (by kernel_rfl)
 | false =>
   rw [hb, if_neg (by decide)] at h184
   have hq := vT.trans h184
   have p2 := p.move (rows' := rows ++ [(s.name, zp z ++ fmt s.key s.text 1)]) (kX.trans (qi.set (J := J)) (.inl rfl)) tX.set.app (.inl rfl)
   refine ⟨yA (qj (Zs (μ ++ [LZ]) (dsh s.key, .str s.text) []) H (rw' (rows ++ [(s.name, zp z ++ fmt s.key s.text 1)])) ++ J) N (zs ++ [(.none, .no)]), T, d, H, zs ++ [(.none, .no)], ?_, p2.note (z := (.none, .no)) rfl, zH⟩
   exact qm [fV (ym (μ := μ) hlt), fI (yS p), fL (jf p.nl), fI (p.tab.i), .c (p.tab.ok (x := Pv "add_header") rfl : ql μ d (Pv "add_header") = true), .d, .d, fV (pz (μ := μ) hk), fV (Yk (μ := μ ++ [LZ] ++ [q8.dict []] ++ [q8.dict []]) hkl), fT (vx (μ := μ ++ [LZ] ++ [q8.dict []] ++ [q8.dict []]) h0), fV (Gn (Y := Y0 (μ ++ [LZ])) (J := []) (k := dsh s.key) (v := .str s.text)), fV (hq), fV (xT (v := .none) p2.nl hL .no)] (by kernel_rfl)
theorem O5 {M : q4} (t : Tab M T d H rows) (f : StF s) (hr : rows.length <= 1000) : ∃ J, (evN ftT (n + 40)).call 184 [.loc T, .str s.name, zv z] [(dsh s.key, ze z)] M = some (.ok .none, qj M H (rw' (rows ++ [(s.name, zp z ++ s.key)])) ++ J) := by
 have hr : rows.length + 1 <= Pr := Pq (Rb hr) (by decide)
 have hu := f.kw.u
 induction z with
 | true =>
   obtain ⟨J, h⟩ := ZF (n := n) (z := true) (s := emS) t f.bn f.kw ⟨Pq hu (by decide), by decide +kernel, by decide +kernel, by decide +kernel⟩ (by show (usc (dsh s.key)).length <= _; exact Pq hu (by decide)) hr
   rw [show bad false emS = false by decide +kernel, if_neg (by decide), show fmt (usc (dsh s.key)) emS 1 = usc (dsh s.key) from if_pos rfl, f.us] at h
   exact ⟨J, h⟩
 | false =>
   obtain ⟨J, h⟩ := Fu (n := n) t f.bn f.kw hr
   rw [f.us] at h
   rw [show zp false ++ s.key = s.key from jP _]
   exact ⟨J, h⟩
theorem Pi (p : xg μ0 μ T d H N rows zs) (f : StF s) (hk : s.kind = zk z) (hr : rows.length <= 1000) (hL : zs.length <= 1000) (h0 : s.text.length = 0) :
 wv n P μ0 μ T N s (rows ++ [(s.name, zp z ++ s.key)]) (zs.map Rh ++ [.no]) := by
 have tX : Tab (Zs (μ ++ [LZ]) (dsh s.key, ze z) ([] ++ [LE0])) T d H rows := p.tab.app.app
 have kX : qi μ H (Zs (μ ++ [LZ]) (dsh s.key, ze z) ([] ++ [LE0])) := qi.trans qi.app qi.app (.inl rfl)
 obtain ⟨J, h184⟩ := O5 (n := n + 55) (z := z) tX f hr
 have hq := vT.trans h184
 have hkl := f.kl
 have hlt := EV hk
 have p2 := p.move (rows' := rows ++ [(s.name, zp z ++ s.key)]) (kX.trans (qi.set (J := J)) (.inl rfl)) tX.set.app (.inl rfl)
 refine ⟨yA (qj (Zs (μ ++ [LZ]) (dsh s.key, ze z) ([] ++ [LE0])) H (rw' (rows ++ [(s.name, zp z ++ s.key)])) ++ J) N (zs ++ [(.none, .no)]), T, d, H, zs ++ [(.none, .no)], ?_, p2.note (z := (.none, .no)) rfl, zH⟩
 exact qm [fV (ym (μ := μ) hlt), fI (yS p), fL (jf p.nl), fI (p.tab.i), .c (p.tab.ok (x := Pv "add_header") rfl : ql μ d (Pv "add_header") = true), .d, .d, fV (pz (μ := μ) hk), fV (Yk (μ := μ ++ [LZ] ++ [q8.dict []] ++ [q8.dict []]) hkl), fT (ZP (μ := μ ++ [LZ] ++ [q8.dict []] ++ [q8.dict []]) h0), fV (vr (μ := Y0 (μ ++ [LZ])) (c := .dict []) (J := []) (l := [.none, .str emS]) GT), fV (pe (Y := Y0 (μ ++ [LZ])) hk), fV (Gn (Y := Y0 (μ ++ [LZ])) (J := [] ++ [LE0]) (k := dsh s.key) (v := ze z)), fV (hq), fV (xT (v := .none) p2.nl hL .no)] (by kernel_rfl)
noncomputable def St.w (s : St) : Str := wr s.key (.str s.text) s.quote
theorem KZ (f : StF s) : (evN ftT (n + 30)).call 220 [.str s.key, .str s.text, .int s.quote] [] μ = some (.ok (.str s.w), μ ++ wrJ (.str s.text) s.quote) := V8 (Pq f.kl (by decide)) (.inr (.inr ⟨_, rfl, f.w⟩)) (.inr ⟨_, rfl⟩)
theorem t2 (p : xg μ0 μ T d H N rows zs) (f : StF s) (h : TN rows s.name) (hk : s.kind = 2) (hL : zs.length <= 1000) :
 wv n P μ0 μ T N s (if bad false s.w = true then qd rows (Pt s.name) else put rows s.name s.w) (zs.map Rh ++ if bad false s.w = true then [.ctl] else []) := by
 have k1 : ¬ (s.kind : Int) < 2 := by rw [hk]; decide
 have k2 : (s.kind : Int) = 2 := by rw [hk]; rfl
 have tX := p.tab.app (J := wrJ (.str s.text) s.quote)
 have kX : qi μ H (μ ++ wrJ (.str s.text) s.quote) := qi.app
 have h102 := fun n => ZT (n := n) (v := s.w) tX h.n h.b h.three h.k
 induction hb : bad false s.w with
 | true =>
   rw [hb] at h102
   have p2 := p.move (rows' := qd rows (Pt s.name)) (kX.trans (qi.set (J := [rw' (qd rows (Pt s.name))])) (.inl rfl)) tX.set.app (.inl rfl)
   refine ⟨yA (qj (μ ++ wrJ (.str s.text) s.quote) H (rw' (qd rows (Pt s.name))) ++ [rw' (qd rows (Pt s.name))]) N (zs ++ [(.str CTL, .ctl)]), T, d, H, zs ++ [(.str CTL, .ctl)], ?_, p2.note (z := (.str CTL, .ctl)) rfl, zH⟩
   exact qm [fV (xD (μ := μ) k1), fV (jz (μ := μ) k2), fV ((fun n => KZ (n := n) (μ := μ) f) (n + 65)), fI (tX.i), fV (h102 (n + 66)), fS (gJ (T := T) (P := P) (s := s) p2.nl hL)] (by kernel_rfl)
 | false =>
   rw [hb] at h102
   have p2 := p.move (rows' := put rows s.name s.w) (kX.trans (qi.set (J := [rw' (qd rows (Pt s.name))])) (.inl rfl)) tX.set.app (.inl rfl)
   refine ⟨qj (μ ++ wrJ (.str s.text) s.quote) H (rw' (put rows s.name s.w)) ++ [rw' (qd rows (Pt s.name))], T, d, H, zs, ?_, p2, (PQ _).symm⟩
   exact qm [fV (xD (μ := μ) k1), fV (jz (μ := μ) k2), fV ((fun n => KZ (n := n) (μ := μ) f) (n + 65)), fI (tX.i), fV (h102 (n + 66))] (by kernel_rfl)
theorem t4 (p : xg μ0 μ T d H N rows zs) (h : TN rows s.name) (hk : s.kind = 4) :
 wv n P μ0 μ T N s (qd rows (Pt s.name)) (zs.map Rh) := by
 have k1 : ¬ (s.kind : Int) < 2 := by rw [hk]; decide
 have k2 : (s.kind : Int) ≠ 2 := by rw [hk]; decide
 have k3 : (s.kind : Int) ≠ 3 := by rw [hk]; decide
 have k4 : (s.kind : Int) = 4 := by rw [hk]; rfl
 have h107 := fun n => JB (n := n) p.tab h.n h.two h.k
 have p2 := p.move (rows' := qd rows (Pt s.name)) (qi.set (J := [rw' (qd rows (Pt s.name))])) p.tab.set.app (.inl rfl)
 refine ⟨qj μ H (rw' (qd rows (Pt s.name))) ++ [rw' (qd rows (Pt s.name))], T, d, H, zs, ?_, p2, rfl⟩
 exact qm [fV (xD (μ := μ) k1), fV (qE (μ := μ) k2), fV (qE (μ := μ) k3), fV (jz (μ := μ) k4), fI (p.tab.i), fV (h107 (n + 74))] (by kernel_rfl)
end
theorem yh (rows : Ps) (nm : Str) : first rows nm = (q7 rows nm).head? := by
 unfold first q7
 rw [<- List.head?_filter, List.head?_map]
structure SwF (s : St) : Prop where
 lo : Pt (Sk s.name) = Pt s.name
 sl : (Sk s.name).length <= 1000
noncomputable def isE (s : Str) : Bool := s == Pv ""
section
variable {n : Nat} {μ0 μ ν X Y J : q4} {T d H N P m : Nat} {rows rows' : Ps} {zs : ZL} {s : St} {v : PV} {k x : Str} {z : Bool} {kv : Str × PV} {i j : Int} {l : List Str}
theorem Xe {nm w : Str} : q7 (rows ++ [(nm, w)]) (Pt nm) = q7 rows (Pt nm) ++ [w] := by
 unfold q7
 rw [SL, Rt, filter_cons, if_pos (beq_self_eq_true _)]; rfl
theorem V0 {a : Str} (h : Pz a = true) : qZ .Eq (.str a) (.str a) μ = some (.ok (.bool true), μ) := yN h h (beq_self_eq_true a)
theorem ET (t : Tab μ T d H rows) (h : TN rows s.name) (sw : SwF s) {r : Str} {tl : List Str} (hr : q7 rows (Pt s.name) = r :: tl) :
 (evN ftT (n + 20)).call 126 [.loc T, .str (Sk s.name)] [] μ = some (.ok (.loc μ.length), μ ++ [ls (r :: tl)]) := by
 have q := g0 (n := n) (nm := Sk s.name) t ⟨⟨sw.lo ▸ h.n.l, sw.lo ▸ h.n.o⟩, sw.lo ▸ h.n.b⟩ h.one h.k
 rw [sw.lo] at q
 rw [<- hr]; exact q
theorem t3s {r : Str} {tl : List Str} (p : xg μ0 μ T d H N rows zs) (f : StF s) (h : TN rows s.name) (sw : SwF s) (hk : s.kind = 3) (hL : zs.length <= 1000) (hr : q7 rows (Pt s.name) = r :: tl) (ho : Pz r = true) :
 wv n P μ0 μ T N s rows (zs.map Rh ++ [.yes true]) := by
 have k1 : ¬ (s.kind : Int) < 2 := by rw [hk]; decide
 have k2 : (s.kind : Int) ≠ 2 := by rw [hk]; decide
 have k3 : (s.kind : Int) = 3 := by rw [hk]; rfl
 have tX := p.tab.app (J := wrJ (.str s.text) s.quote)
 have h177 := fun n => Wi (n := n) (v := s.w) tX h.n h.b (Pq (Rb h.r) (by decide)) h.k
 rw [yh, hr] at h177
 have h126 := fun n => ET (n := n) tX h sw hr
 have p2 := p.move (rows' := rows) (qi.trans (qi.app (J := wrJ (.str s.text) s.quote)) (qi.app (J := [ls (r :: tl)])) (.inl rfl)) tX.app (.inl rfl)
 have h1 := Jt (μ := μ ++ wrJ (.str s.text) s.quote) sw.sl
 refine ⟨yA (μ ++ wrJ (.str s.text) s.quote ++ [ls (r :: tl)]) N (zs ++ [(.bool true, .yes true)]), T, d, H, zs ++ [(.bool true, .yes true)], ?_, p2.note (z := (.bool true, .yes true)) rfl, zH⟩
 exact qm [fV (xD (μ := μ) k1), fV (qE (μ := μ) k2), fV (jz (μ := μ) k3), fI (yS p), fL (jf p.nl), fI (p.tab.i), .c (p.tab.ok (x := Pv "setdefault") rfl : ql μ d (Pv "setdefault") = true), fV ((fun n => KZ (n := n) (μ := μ) f) (n + 61)), fV (h177 (n + 62)), fI (tX.i), .c (tX.ok (x := Pv "get_all") rfl : ql (μ ++ wrJ (PV.str (St.text s)) ↑(St.quote s)) d (Pv "get_all") = true), fV (h1), fV (h126 (n + 71)), fV (v7 (μ := μ ++ wrJ (.str s.text) s.quote ++ [ls (r :: tl)]) (m := (μ ++ wrJ (.str s.text) s.quote).length) (v := .str r) (l := tl.map .str) q6), fV (V0 (μ := μ ++ wrJ (PV.str (St.text s)) ↑(St.quote s) ++ [ls (r :: tl)]) ho), fV (xT (v := .bool true) p2.nl hL (.yes true))] (by kernel_rfl)
theorem t3n (p : xg μ0 μ T d H N rows zs) (f : StF s) (h : TN rows s.name) (h' : TN (rows ++ [(s.name, s.w)]) s.name) (sw : SwF s) (hk : s.kind = 3) (hL : zs.length <= 1000) (hr : q7 rows (Pt s.name) = []) (ho : Pz s.w = true) :
 wv n P μ0 μ T N s (if bad false s.w = true then rows else rows ++ [(s.name, s.w)]) (zs.map Rh ++ [if bad false s.w = true then .ctl else .yes true]) := by
 have k1 : ¬ (s.kind : Int) < 2 := by rw [hk]; decide
 have k2 : (s.kind : Int) ≠ 2 := by rw [hk]; decide
 have k3 : (s.kind : Int) = 3 := by rw [hk]; rfl
 have tX := p.tab.app (J := wrJ (.str s.text) s.quote)
 have kX : qi μ H (μ ++ wrJ (.str s.text) s.quote) := qi.app
 have h177 := fun n => Wi (n := n) (v := s.w) tX h.n h.b (Pq (Rb h.r) (by decide)) h.k
 rw [yh, hr] at h177
 cases hb : bad false s.w with
 | true =>
   rw [hb] at h177
   have p2 := p.move (rows' := rows) kX tX (.inl rfl)
   refine ⟨yA (μ ++ wrJ (.str s.text) s.quote) N (zs ++ [(.str CTL, .ctl)]), T, d, H, zs ++ [(.str CTL, .ctl)], ?_, p2.note (z := (.str CTL, .ctl)) rfl, zH⟩
   exact qm [fV (xD (μ := μ) k1), fV (qE (μ := μ) k2), fV (jz (μ := μ) k3), fI (yS p), fL (jf p.nl), fI (p.tab.i), .c (p.tab.ok (x := Pv "setdefault") rfl : ql μ d (Pv "setdefault") = true), fV ((fun n => KZ (n := n) (μ := μ) f) (n + 61)), fV (h177 (n + 62)), fS (gJ (T := T) (P := P) (s := s) p2.nl hL)] (by kernel_rfl)
 | false =>
   rw [hb] at h177
   have tY := tX.set (rows' := rows ++ [(s.name, s.w)])
   have hr' : q7 (rows ++ [(s.name, s.w)]) (Pt s.name) = [s.w] := by rw [Xe, hr]; rfl
   have h126 := fun n => ET (n := n) tY h' sw hr'
   have p2 := p.move (rows' := rows ++ [(s.name, s.w)]) (kX.trans (qi.set (J := [ls [s.w]])) (.inl rfl)) tY.app (.inl rfl)
   have h1 := Jt (μ := qj (μ ++ wrJ (.str s.text) s.quote) H (rw' (rows ++ [(s.name, s.w)]))) sw.sl
   refine ⟨yA (qj (μ ++ wrJ (.str s.text) s.quote) H (rw' (rows ++ [(s.name, s.w)])) ++ [ls [s.w]]) N (zs ++ [(.bool true, .yes true)]), T, d, H, zs ++ [(.bool true, .yes true)], ?_, p2.note (z := (.bool true, .yes true)) rfl, zH⟩
   exact qm [fV (xD (μ := μ) k1), fV (qE (μ := μ) k2), fV (jz (μ := μ) k3), fI (yS p), fL (jf p.nl), fI (p.tab.i), .c (p.tab.ok (x := Pv "setdefault") rfl : ql μ d (Pv "setdefault") = true), fV ((fun n => KZ (n := n) (μ := μ) f) (n + 61)), fV (h177 (n + 62)), fI (tY.i), .c (tY.ok (x := Pv "get_all") rfl : ql (qj (μ ++ wrJ (PV.str (St.text s)) ↑(St.quote s)) H (rw' (rows ++ [(St.name s, St.w s)]))) d (Pv "get_all") = true), fV (h1), fV (h126 (n + 71)), fV (v7 (μ := qj (μ ++ wrJ (.str s.text) s.quote) H (rw' (rows ++ [(s.name, s.w)])) ++ [ls [s.w]]) (m := (qj (μ ++ wrJ (.str s.text) s.quote) H (rw' (rows ++ [(s.name, s.w)]))).length) (v := .str s.w) (l := []) q6), fV (V0 (μ := qj (μ ++ wrJ (PV.str (St.text s)) ↑(St.quote s)) H (rw' (rows ++ [(St.name s, St.w s)])) ++ [ls [St.w s]]) ho), fV (xT (v := .bool true) p2.nl hL (.yes true))] (by kernel_rfl)
structure Px (n : Nat) (μ : q4) (T H : Nat) (s : St) (rows' : Ps) (ν : q4) (T' d' H' : Nat) : Prop where
 e : (evN ftT (n + 93)).call 225 [.loc T, .int s.kind, .str s.name] [] μ = some (.ok (.loc T'), ν)
 k : qi μ H ν
 t : Tab ν T' d' H' rows'
 h : H' = H \/ μ.length <= H'
structure KP (s : St) : Prop where
 k1 : ¬ (s.kind : Int) < 2
 k2 : (s.kind : Int) ≠ 2
 k3 : (s.kind : Int) ≠ 3
 k4 : (s.kind : Int) ≠ 4
theorem tP {T' d' H' : Nat} (p : xg μ0 μ T d H N rows zs) (hk : KP s) (k8 : (s.kind : Int) ≠ 8) (hL : zs.length <= 1000) (hp : Px n μ T H s rows' ν T' d' H') :
 wv n P μ0 μ T N s rows' (zs.map Rh ++ [.no]) := by
 obtain ⟨k1, k2, k3, k4⟩ := hk
 have p2 := p.move hp.k hp.t hp.h
 refine ⟨yA ν N (zs ++ [(.none, .no)]), T', d', H', zs ++ [(.none, .no)], ?_, p2.note (z := (.none, .no)) rfl, zH⟩
 exact qm [fV (xD (μ := μ) k1), fV (qE (μ := μ) k2), fV (qE (μ := μ) k3), fV (qE (μ := μ) k4), fV (hp.e), fI (yS p2), fL (jf p2.nl), fV (qE (μ := ν) k8), fV (xT (v := .none) p2.nl hL .no)] (by kernel_rfl)
end
section
variable {n : Nat} {μ0 μ ν X Y J : q4} {T d H N P m T' d' H' : Nat} {rows rows' : Ps} {zs : ZL} {s : St} {v : PV} {k x : Str} {z : Bool} {kv : Str × PV} {i j : Int} {l : List Str}
noncomputable abbrev OU : List Sf := sB (sB (sB (sB (sB E6 0 0) 0 1) 0 1) 0 1) 0 1
noncomputable abbrev fM : Expr := sE OU 1 0 [1, 1]
noncomputable abbrev Cs (o : Option PV) : LE := ⟨(LE.comp (v6 0 0 0 none) (lcN fM)).sc, Qx "item" o⟩
theorem E7 {o : Option PV} {v : PV} : qt (Cs o) (qu fM) v = some (Cs (some v)) := by cases o <;> kernel_rfl
theorem HG (h : Pz x = true) : (evN ftT (n + 6)).ev (Cs (some (.str x))) (lcE fM) μ = some (.ok (.bool (isE x)), μ) := by
 have h1 := yN (μ := μ) h Ee rfl
 exact y5 [fV (h1)] (by kernel_rfl)
theorem Eo (hm : q5 μ m = some (l.map .str)) (hr : l.length <= Pr) (ho : ∀ y ∈ l, Pz y = true) :
 qG (evN ftT (n + 6)) (LE.comp (v6 P T N (some s)) (lcN fM)) (lcE fM) (qu fM) (qD fM) (.list m, (l.map PV.str).length + 1) μ = some (.ok (.loc μ.length), μ ++ [.list ((l.map isE).map .bool)]) := by
 have q := qV (r := evN ftT (n + 6)) (target := qu fM) (elt := lcE fM) (ifs := qD fM) (μ := μ) (f := fun y => .bool (isE y)) (g := fun zz => true) (Inv := fun σ => ∃ o, σ = Cs o) PV.str (qF hm)
  (fun σ y ⟨o, e⟩ hk => ⟨_, e ▸ E7, ⟨_, rfl⟩, by kernel_rfl, fun zz => HG (ho y hk)⟩) (l.length + 1) 0 (LE.comp (v6 P T N (some s)) (lcN fM)) ⟨none, by kernel_rfl⟩ rfl (Rj _)
 rw [zB] at q
 rw [PH]
 refine (qA q (by rw [PH]; exact hr)).trans ?_
 rw [Su]; rfl
structure R8 (x : Str) : Prop where
 c : ∀ c ∈ x.cps.toList, c < 0x110000
 l : x.length <= 100000
 h : (qH x).length <= 100000
 o : ∀ y ∈ qH x, Pz y = true
theorem t8 (p : xg μ0 μ T d H N rows zs) (hk : KP s) (k8 : (s.kind : Int) = 8) (hL : zs.length <= 1000) (hp : Px n μ T H s rows' ν T' d' H') (h : TN rows' s.name) (hx : x = (first rows' (Pt s.name)).getD emS) (r : R8 x) :
 wv n P μ0 μ T N s rows' (zs.map Rh ++ [.lst ((qH x).map isE)]) := by
 obtain ⟨k1, k2, k3, k4⟩ := hk
 have p1 := p.move hp.k hp.t hp.h
 have h134 := fun n => Bk (n := n) (dv := .str emS) hp.t h.n h.k
 have e : (first rows' (Pt s.name)).elim (PV.str emS) PV.str = .str x := by rw [hx]; cases first rows' (Pt s.name) <;> rfl
 rw [e] at h134
 obtain ⟨L, h43⟩ := GB (n := n + 78) (μ := ν) r.c (Pq (Rb r.l) (by decide))
 have hpl : q5 (ν ++ [.list L] ++ [ls (qH x)]) (ν.length + 1) = some ((qH x).map .str) := by
  have q := q6 (μ := ν ++ [.list L]) (l := (qH x).map .str)
  rwa [PB] at q
 have hc := fun n => Eo (n := n) (P := P) (T := T') (N := N) (s := s) hpl (Pq r.h (by decide)) r.o
 have kX : qi ν H' (ν ++ [.list L] ++ [ls (qH x)] ++ [.list (((qH x).map isE).map .bool)]) := qi.trans qi.app (qi.trans qi.app qi.app (.inl rfl)) (.inl rfl)
 have p2 := p1.move (rows' := rows') kX hp.t.app.app.app (.inl rfl)
 have hne : ∀ {a : Nat}, a < ν.length -> (ν ++ [q8.list L] ++ [ls (qH x)]).length ≠ a := fun ha => by
  rw [PB, PB]; exact RZ (PY ha (Pq (Rd ..) (Rd ..)))
 refine ⟨yA (ν ++ [.list L] ++ [ls (qH x)] ++ [.list (((qH x).map isE).map .bool)]) N (zs ++ [(.loc (ν ++ [q8.list L] ++ [ls (qH x)]).length, .lst ((qH x).map isE))]), T', d', H', zs ++ [(.loc (ν ++ [q8.list L] ++ [ls (qH x)]).length, .lst ((qH x).map isE))], ?_, p2.note (z := (.loc (ν ++ [q8.list L] ++ [ls (qH x)]).length, .lst ((qH x).map isE))) ⟨_, rfl, hne (hp.t.lt), hne (yG p1.nl), q6⟩, zH⟩
 exact qm [fV (xD (μ := μ) k1), fV (qE (μ := μ) k2), fV (qE (μ := μ) k3), fV (qE (μ := μ) k4), fV (hp.e), fI (yS p1), fL (jf p1.nl), fV (jz (μ := ν) k8), fI (hp.t.i), .c (hp.t.ok (x := Pv "get") rfl : ql ν d' (Pv "get") = true), fV (h134 (n + 69)), fV (h43), fR (qK hpl), fV (hc (n + 85)), fV (xT (v := .loc (ν ++ [q8.list L] ++ [ls (qH x)]).length) p2.nl hL (.lst ((qH x).map isE)))] (by kernel_rfl)
structure Gl where
 o : Option St
 T : Nat
 zs : ZL
 μ : q4
structure Pj (G : Nat -> Ps -> List jE -> Prop) (μ0 : q4) (N i : Nat) (a : Gl) (d H : Nat) (rows : Ps) : Prop where
 g : G i rows (a.zs.map Rh)
 p : xg μ0 a.μ a.T d H N rows a.zs
def Ds (G : Nat -> Ps -> List jE -> Prop) (μ0 : q4) (N i : Nat) (a : Gl) : Prop := ∃ d H rows, Pj G μ0 N i a d H rows
theorem Ix {o : Option St} : qt (v6 P T N o) (xO (qo 230).body) s.pv = some (v6 P T N (some s)) := by cases o <;> kernel_rfl
theorem BZ {G : Nat -> Ps -> List jE -> Prop} {steps : List St} {a : Gl} (hS : q5 μ0 P = some (steps.map St.pv))
 (hstep : ∀ i (hi : i < steps.length) μ T d H rows zs, G i rows (zs.map Rh) -> xg μ0 μ T d H N rows zs -> ∃ rows' ns', wv n P μ0 μ T N steps[i] rows' ns' /\ G (i + 1) rows' ns') (h : Ds G μ0 N 0 a) :
 ∃ b, zJ (evN ftT (n + 100)) (.list P) (xO (qo 230).body) E6 (steps.length + 1) 0 (v6 P a.T N a.o) a.μ = some (.ok .next, v6 P b.T N b.o, b.μ) /\ Ds G μ0 N steps.length b := by
 refine xw (N := steps.length) (S := fun a : Gl => v6 P a.T N a.o) (M := fun a => a.μ) (P := Ds G μ0 N) (Q := fun R => ∃ b : Gl, R = some (.ok .next, v6 P b.T N b.o, b.μ) /\ Ds G μ0 N steps.length b) (fun i a hi h => ?_) (fun b h => ⟨?_, b, rfl, h⟩) h
 ·obtain ⟨d, H, rows, h⟩ := h
  obtain ⟨rows', ns', ⟨ν, T', d', H', zs', t⟩, g⟩ := hstep i hi a.μ a.T d H rows a.zs h.g h.p
  refine ⟨steps[i].pv, _, ?_, Ix, .inl ⟨.next, ⟨some steps[i], T', zs', ν⟩, .inl rfl, t.e, d', H', rows', t.z ▸ g, t.p⟩⟩
  rw [qF (h.p.ext.list hS), PW hi]; rfl
 ·obtain ⟨d, H, rows, h⟩ := h
  rw [qF (h.p.ext.list hS), RC (PJ _)]; rfl
noncomputable abbrev Ym (μ : q4) : q4 := ntS μ [("_headers", .loc (μ.length + 2))] [.list []]
theorem Cf {G : Nat -> Ps -> List jE -> Prop} {steps : List St} (hS : q5 μ P = some (steps.map St.pv)) (hG : G 0 [] [])
 (hstep : ∀ i (hi : i < steps.length) μ1 T d H N rows zs, G i rows (zs.map Rh) -> xg μ μ1 T d H N rows zs -> ∃ rows' ns', wv n P μ μ1 T N steps[i] rows' ns' /\ G (i + 1) rows' ns') :
 ∃ ν T' d' H' N rows' zs', (evN ftT (n + 102)).call 230 [.loc P] [] μ = some (.ok (.tup [.loc T', .loc N]), ν) /\ xg μ ν T' d' H' N rows' zs' /\ G steps.length rows' (zs'.map Rh) := by
 have hlen : (Ym μ).length = μ.length + 3 := by rw [PB]; rfl
 have e : Ym μ ++ [.list []] = μ ++ ([.dict [("_headers", .loc (μ.length + 2))], .inst μ.length, .list []] ++ [.list []]) := PF ..
 have p0 : xg μ (Ym μ ++ [.list []]) (μ.length + 1) μ.length (μ.length + 2) (Ym μ).length [] [] := ⟨⟨by rw [e, PB]; exact Rd .., fun a ha => by rw [e]; exact jO ha⟩, (Zi (rows := []) Fz).app, Rd .., by rw [hlen]; exact Rd .., q6, by rw [hlen]; exact RZ (RU _), fun zz h => nomatch h⟩
 obtain ⟨b, hl, d, H, rows, g⟩ := BZ (n := n) (a := ⟨none, μ.length + 1, [], Ym μ ++ [.list []]⟩) hS (fun i hi μ1 T d H rows zs => hstep i hi μ1 T d H (Ym μ).length rows zs) ⟨_, _, _, hG, p0⟩
 have hs := qK (p0.ext.list hS)
 rw [PH] at hs
 refine ⟨b.μ, b.T, d, H, (Ym μ).length, rows, b.zs, ?_, g.p, g.g⟩
 exact jv (n := n) (k := 101) [fV ((fun n => Iv (n := n) (μ := μ)) (n + 59)), fR (hs), fS (hl)] (by kernel_rfl)
end
noncomputable def bk (p : PV) (q : Int) : PV := match qx p with
 | some t => back t q
 | none => p
noncomputable def bkJ (p : PV) (q : Int) : q4 := match qx p with
 | some t => QE t q
 | none => []
def TL1 (p : PV) : Prop := p = .none \/ p = .int 0 \/ ∃ s, p = .str s /\ Pz s = true /\ s.length <= 1000
noncomputable def Yi (c : Nat) : Bool := [10, 13, 31, 127].contains c
noncomputable def JV (t : Str) : List Str := (t.cps.toList.filter Yi).map ch
section
variable {n D N P Sx m k : Nat} {p v : PV} {q kd : Int} {μ μ0 ν J : q4} {s : Str} {x : St} {es pa pb page : Loc} {zs : ZL} {tl : Loc} {c : Nat} {b t : Bool} {l : List Str}
theorem Wh (h : TL1 p) : (evN ftT (n + 20)).call 235 [p, .int q] [] μ = some (.ok (bk p q), μ ++ bkJ p q) := by
 rcases h with rfl | rfl | ⟨s, rfl, h1, h2⟩
 ·rw [VS]; show _ = some (_, μ ++ []); rw [PQ]; rfl
 ·rw [VI]; show _ = some (_, μ ++ []); rw [PQ]; rfl
 ·exact XE h1 h2
theorem Mz (t : Str) : (JV t).isEmpty = gd t := by
 unfold gd JV
 induction t.cps.toList with
 | nil => rfl
 | cons c l ih =>
   rw [TR, filter_cons]
   show _ = !(Yi c || _)
   induction Yi c with
   | true => rfl
   | false => exact ih
theorem Wy {d : List Int} : qZ .In (.int q) (.tup (d.map .int)) μ = some (.ok (.bool (d.any fun y => y == q)), μ) := by
 have e : jd μ (.tup (d.map .int)) = some (.tuple (d.map .int)) := by
  have e1 : jk (jK μ 7) (d.map .int) = some (d.map .int) := by
   induction d with
   | nil => rfl
   | cons a d ih => show (jk (jK μ 7) (d.map .int)).map _ = _; rw [ih]; rfl
  have e2 : RD (d.map .int) = true /\ Rz (d.map .int) = 0 := by
   clear e1
   induction d with
   | nil => exact ⟨rfl, rfl⟩
   | cons a d ih => exact ⟨ih.1, show max 0 (Rz (d.map .int)) = 0 by rw [ih.2]; rfl⟩
  show (((jk (jK μ 7) (d.map .int)).map Ag).bind _) = _
  rw [e1]
  refine if_pos ?_
  show (RD (d.map .int) && decide (Rz (d.map .int) + 1 <= 64)) = true
  rw [e2.1, e2.2]; rfl
 show (pin μ (.int q) (.tup (d.map .int))).map _ = _
 show (((some (U9.int q)).bind fun x => (jd μ (.tup (d.map .int))).bind _).map _) = _
 rw [PK, e]
 show some (Rs (PV.bool ((d.map U9.int).any fun y => Sn y (.int q))), μ) = _
 rw [An]; rfl
theorem It : ([10, 13, 31, 127] : List Int).any (fun y => y == (c : Int)) = Yi c := by
 have h : ∀ k : Nat, ((k : Int) == (c : Int)) = (c == k) := fun k => by
  by_cases e : k = c
  ·rw [e, beq_self_eq_true, beq_self_eq_true]
  ·rw [show ((k : Int) == (c : Int)) = false from beq_eq_false_iff_ne.mpr fun h => e (T2 h), beq_eq_false_iff_ne.mpr (SN e)]
 show (((10 : Nat) : Int) == (c : Int) || (((13 : Nat) : Int) == (c : Int) || (((31 : Nat) : Int) == (c : Int) || (((127 : Nat) : Int) == (c : Int) || false)))) = _
 rw [h, h, h, h]; rfl
noncomputable def sv2 : Option (St × Loc) -> Loc
 | none => []
 | some q => ("kind", .int q.1.kind) :: ("name", .str q.1.name) :: ("key", .str q.1.key) :: ("text", .str q.1.text) :: ("quote", .int q.1.quote) :: q.2
noncomputable abbrev zT (Sx N D : Nat) (o : Option (St × Loc)) : LE := ⟨qn 240, ("steps", .loc Sx) :: ("notes", .loc N) :: ("book", .loc D) :: sv2 o⟩
noncomputable abbrev XZ : List Sf := qR (qo 240).body
noncomputable abbrev due (i : Nat) : List Sf := (XZ.drop i).take 1
noncomputable abbrev yu : Expr := sE XZ 1 0 [0]
noncomputable abbrev gW : Expr := sE XZ 4 0 []
noncomputable abbrev Ca (vs : Loc) : LE := ⟨(LE.comp (zT 0 0 0 none) (lcN yu)).sc, vs⟩
theorem DL : qt (Ca tl) (qu yu) v = some (Ca (upd tl "sign" v)) := by kernel_rfl
theorem Dg : (evN ftT (n + 8)).ev (Ca (upd tl "sign" v)) (lcE yu) μ = some (.ok v, μ) := by
 have h := zu (x := "sign") (p := v) (l := tl)
 exact y5 [fG (h)] (by kernel_rfl)
theorem Lp : zY (evN ftT (n + 8)) (Ca (upd tl "sign" (.str (ch c)))) (qD yu) μ = some (.ok (Yi c), μ) := by
 have h := Wy (μ := μ) (q := (c : Int)) (d := [10, 13, 31, 127])
 have h1 := zu (x := "sign") (p := .str (ch c)) (l := tl)
 rw [It] at h
 exact Qw [fG (h1), .d, fV (h), fT (jA (t := Yi c) (μ := μ))] (by kernel_rfl)
theorem FR (hl : s.length <= Pr) : qG (evN ftT (n + 8)) (LE.comp (zT Sx N D (some (x, tl))) (lcN yu)) (lcE yu) (qu yu) (qD yu) (.str s, s.length + 1) μ = some (.ok (.loc μ.length), μ ++ [ls (JV s)]) := by
 have h := qV (r := evN ftT (n + 8)) (target := qu yu) (elt := lcE yu) (ifs := qD yu) (f := fun c => .str (ch c)) (g := Yi) (Inv := fun σ => ∃ o, σ = Ca o) (fun c => .str (ch c)) (gq (s := s) (μ := μ))
  (fun σ c ⟨o, e⟩ hk => ⟨_, e ▸ DL, ⟨_, rfl⟩, Lp, fun zz => Dg⟩) (s.length + 1) 0 (LE.comp (zT Sx N D (some (x, tl))) (lcN yu)) ⟨_, rfl⟩ (by rw [zr]) (Rj _)
 refine (qA h ?_).trans ?_
 ·rw [PH]; exact Pq (RY _ _) (zr (s := s) ▸ hl)
 ·unfold ls JV; rw [Su]; rfl
noncomputable abbrev Cb (kd : Int) (vs : Loc) : LE := ⟨(LE.comp (zT 0 0 0 none) (lcN gW)).sc, ("kind", .int kd) :: vs⟩
noncomputable abbrev ub (tl : Loc) (e : Str × PV) : Loc := upd (upd tl "one" (.str e.1)) "old" e.2
theorem Ed {e : Str × PV} : qt (Cb kd tl) (qu gW) (qB e) = some (Cb kd (ub tl e)) := by kernel_rfl
noncomputable def gZ (kd : Int) : Int := if kd = 6 then 1 else 0
theorem Ey {e : Str × PV} (h : TL1 e.2) : (evN ftT (n + 40)).ev (Cb kd (ub tl e)) (lcE gW) μ = some (.ok (qB (e.1, bk e.2 (gZ kd))), μ ++ bkJ e.2 (gZ kd)) := by
 have h1 : Sg ("one" : Str) (ub tl e) = some (.str e.1) := (jM (by decide)).trans zu
 have h2 : Sg ("old" : Str) (ub tl e) = some e.2 := zu
 unfold gZ
 by_cases h6 : kd = 6
 ·rw [if_pos h6]
  exact y5 [fG (h1), fG (h2), fV (jz (μ := μ) h6), fV (Wh (n := n + 18) (q := 1) (μ := μ) h)] (by kernel_rfl)
 ·rw [if_neg h6]
  exact y5 [fG (h1), fG (h2), fV (qE (μ := μ) h6), fV (Wh (n := n + 18) (q := 0) (μ := μ) h)] (by kernel_rfl)
theorem G8 (hm : q5 μ m = some (es.map qB)) (hr : es.length <= Pr) (hw : ∀ e ∈ es, TL1 e.2) :
 ∃ J, qG (evN ftT (n + 40)) (LE.comp (zT Sx N D (some (x, tl))) (lcN gW)) (lcE gW) (qu gW) (qD gW) (.list m, es.length + 1) μ = some (.ok (.loc (μ ++ J).length), μ ++ J ++ [.list (es.map fun e => qB (e.1, bk e.2 (gZ x.kind)))]) :=
 yf (Inv := fun σ => ∃ o, σ = Cb x.kind o) (by kernel_rfl) qB (vz hm) (fun σ e J ⟨o, ho⟩ he => ⟨_, bkJ e.2 (gZ x.kind), ho ▸ Ed, ⟨_, rfl⟩, by
  rw [<- PF μ]
  exact Ey (hw e he)⟩) ⟨_, rfl⟩ hr
end
noncomputable def AB : Str := "ab"
noncomputable def XM : Str := "x-"
theorem Zx : XM ≠ AB := by decide +kernel
structure Po (μ : q4) (D N a b : Nat) (pa pb : Loc) : Prop where
 d : qe μ D = some [(AB, .loc a), (XM, .loc b)]
 na : a ≠ N
 nb : b ≠ N
 la : q5 μ a = some (pa.map qB)
 lb : q5 μ b = some (pb.map qB)
structure zM (μ0 μ : q4) (D N : Nat) (pa pb : Loc) (zs : ZL) : Prop where
 ext : Ext μ0 μ
 hD : μ0.length <= D
 hN : μ0.length <= N
 nn : N ≠ D
 nl : q5 μ N = some (zs.map RN)
 reps : ∀ z ∈ zs, jX μ D N z.1 z.2
 bk : ∃ a b, Po μ D N a b pa pb
section
variable {n D N P Sx m k V X : Nat} {p v : PV} {q kd : Int} {μ μ0 ν J : q4} {s nm : Str} {x : St} {es pa pb page new : Loc} {zs : ZL} {tl : Loc} {c : Nat} {b t : Bool} {l : List Str} {dl : Loc}
theorem Y6 (h : qe μ D = some dl) : μ[D]? = some (.dict dl) := by
 obtain ⟨c, hc, hl⟩ := bnd h
 rw [hc]
 cases c <;> first | exact no hl | exact congrArg _ (congrArg _ (qk hl))
theorem kF (h : qe μ D = some dl) (e : ν[D]? = μ[D]?) : qe ν D = some dl := (congrArg (·.bind wD) e).trans h
theorem Vk (h : qe μ D = some dl) : D < μ.length := (R0.mp (Y6 h)).1
theorem ke (k : qi μ X ν) (hX : X = D \/ X = N \/ μ.length <= X) {z : jE} (h : jX μ D N p z) : jX ν D N p z :=
 h.mono fun a l q h1 h2 => ⟨h1, k.list q (hX.elim (fun e => e ▸ h1) fun hX => hX.elim (fun e => e ▸ h2) fun hX => RQ (PY (yG q) hX))⟩
theorem zM.app (d : zM μ0 μ D N pa pb zs) : zM μ0 (μ ++ J) D N pa pb zs := by
 obtain ⟨a, b, h⟩ := d.bk
 have k : qi μ N (μ ++ J) := qi.app
 exact ⟨d.ext.keep k d.hN, d.hD, d.hN, d.nn, qc d.nl, fun z hz => ke k (.inr (.inl rfl)) (d.reps z hz), a, b, kF h.d (jO (Vk h.d)), h.na, h.nb, qc h.la, qc h.lb⟩
theorem zM.note {z : PV × jE} (d : zM μ0 μ D N pa pb zs) (hv : jX μ D N z.1 z.2) : zM μ0 (yA μ N (zs ++ [z])) D N pa pb (zs ++ [z]) := by
 obtain ⟨a, b, h⟩ := d.bk
 have k : qi μ N (yA μ N (zs ++ [z])) := qi.set0
 refine ⟨d.ext.keep k d.hN, d.hD, d.hN, d.nn, congrArg (·.bind kB) (v8 (yG d.nl)), fun y hy => ke k (.inr (.inl rfl)) ?_, a, b, kF h.d (wi (SN d.nn)), h.na, h.nb, k.list h.la h.na, k.list h.lb h.nb⟩
 exact (PT.mp hy).elim (d.reps y) fun h => by rw [Pw.mp h]; exact hv
noncomputable def qw (pa pb : Loc) (nm : Str) : Loc := if nm = AB then pa else pb
theorem Mv {a b : Nat} : x8 [(AB, PV.loc a), (XM, .loc b)] AB = some (.loc a) := by kernel_rfl
theorem NU {a b : Nat} : x8 [(AB, PV.loc a), (XM, .loc b)] XM = some (.loc b) := by kernel_rfl
theorem NB {a b : Nat} : qU [(AB, PV.loc a), (XM, .loc b)] AB v = [(AB, v), (XM, .loc b)] := by kernel_rfl
theorem O0 {a b : Nat} : qU [(AB, PV.loc a), (XM, .loc b)] XM v = [(AB, .loc a), (XM, v)] := by kernel_rfl
structure Mu (μ : q4) (D N P : Nat) (nm : Str) (page : Loc) : Prop where
 i : zb (.loc D) (.str nm) μ = some (.ok (.loc P), μ)
 n : P ≠ N
 l : q5 μ P = some (page.map qB)
theorem Wl (h : qe μ D = some dl) (hk : x8 dl s = some v) : zb (.loc D) (.str s) μ = some (.ok v, μ) := by
 show (qe μ D).bind _ = _
 rw [h, PK, hk]; rfl
theorem zM.pg (d : zM μ0 μ D N pa pb zs) (h : nm = AB \/ nm = XM) : ∃ P, Mu μ D N P nm (qw pa pb nm) := by
 obtain ⟨a, b, q⟩ := d.bk
 unfold qw
 rcases h with rfl | rfl
 ·rw [if_pos rfl]; exact ⟨a, Wl q.d Mv, q.na, q.la⟩
 ·rw [if_neg Zx]; exact ⟨b, Wl q.d NU, q.nb, q.lb⟩
theorem zM.store (d : zM μ0 μ D N pa pb zs) (h : nm = AB \/ nm = XM) (hv : q5 μ V = some (new.map qB)) (hV : V ≠ N) :
 ∃ ν, XL (.loc D) nm (.loc V) μ = some (.ok .none, ν) /\ zM μ0 ν D N (if nm = AB then new else pa) (if nm = AB then pb else new) zs := by
 obtain ⟨a, b, q⟩ := d.bk
 have hg := Y6 q.d
 have ne : ∀ {a : Nat} {l : List PV}, q5 μ a = some l -> a ≠ D := fun h e => by
  have h := vU h
  rw [e, hg] at h; exact no (congrArg (fun o => Option.bind o kB) h)
 have k : ∀ c, qi μ D (qj μ D c) := fun c => qi.set0
 have hs : ∀ l', qe (qj μ D (.dict l')) D = some l' := fun l' => by unfold qe; rw [v8 (Vk q.d)]; rfl
 have e : XL (.loc D) nm (.loc V) μ = some (.ok .none, qj μ D (.dict (qU [(AB, .loc a), (XM, .loc b)] nm (.loc V)))) := by
  show (qe μ D).bind _ = _
  rw [q.d, PK, if_pos (show ([(AB, PV.loc a), (XM, .loc b)] : Loc).length + 1 <= Pr from (by decide : 3 <= Pr))]
 have mk : ∀ c, Ext μ0 (qj μ D c) /\ q5 (qj μ D c) N = some (zs.map RN) /\ ∀ z ∈ zs, jX (qj μ D c) D N z.1 z.2 := fun c => ⟨d.ext.keep (k c) d.hD, (k c).list d.nl d.nn, fun z hz => ke (k c) (.inl rfl) (d.reps z hz)⟩
 refine ⟨_, e, ?_⟩
 rcases h with rfl | rfl
 ·rw [if_pos rfl, if_pos rfl, NB]
  have m := mk (.dict [(AB, .loc V), (XM, .loc b)])
  exact ⟨m.1, d.hD, d.hN, d.nn, m.2.1, m.2.2, V, b, hs _, hV, q.nb, (k _).list hv (ne hv), (k _).list q.lb (ne q.lb)⟩
 ·rw [if_neg Zx, if_neg Zx, O0]
  have m := mk (.dict [(AB, .loc a), (XM, .loc V)])
  exact ⟨m.1, d.hD, d.hN, d.nn, m.2.1, m.2.2, a, V, hs _, q.na, hV, (k _).list q.la (ne q.la), (k _).list hv (ne hv)⟩
theorem IX (h : qe μ D = some dl) : qv μ (.loc D) = none := by
 show (μ[D]?).bind xz = _
 rw [Y6 h]; rfl
noncomputable abbrev u1 (tl : Loc) (P : Nat) : Loc := upd tl "page" (.loc P)
noncomputable abbrev u2 (tl : Loc) (P : Nat) (g : Bool) : Loc := upd (u1 tl P) "good" (.bool g)
noncomputable abbrev u3 (tl : Loc) (P : Nat) (g : Bool) (F : Nat) : Loc := upd (u2 tl P g) "fresh" (.loc F)
noncomputable abbrev u4 (tl : Loc) (P : Nat) (g : Bool) (F T : Nat) : Loc := upd (u3 tl P g F) "thin" (.loc T)
noncomputable abbrev Z7 (n i Sx N D : Nat) (x : St) (tl : Loc) (μ : q4) : SR' := (evN ftT (n + 100)).ex (zT Sx N D (some (x, tl))) (due i) μ
theorem Oy (hl : (Pt x.name).length <= Pr) (hp : Mu μ D N P (Pt x.name) page) : Z7 n 0 Sx N D x tl μ = some (.ok .next, zT Sx N D (some (x, u1 tl P)), μ) := by
 have h1 := zt (μ := μ) hl
 exact qm [fV (h1), fV (hp.i)] (by kernel_rfl)
theorem Db (hm : q5 ν m = some (l.map .str)) (h : ∀ y ∈ l, Pz y = true) (ht : l.isEmpty = t) : qZ .Eq (.loc m) (.loc ν.length) (ν ++ [.list []]) = some (.ok (.bool t), ν ++ [.list []]) := by
 have e : jd (ν ++ [.list []]) (.loc ν.length) = some (.list []) := ja (l := []) q6 (fun zz q => nomatch q)
 show (peq _ _ _).map _ = _
 unfold peq
 rw [ja (qc hm) h, e, <- ht]
 cases l <;> rfl
theorem Pc (hs : Pz x.text = true) (hl : x.text.length <= Pr) : Z7 n 1 Sx N D x (u1 tl P) μ = some (.ok .next, zT Sx N D (some (x, u2 tl P (gd x.text))), μ ++ [ls (JV x.text)] ++ [.list []]) := by
 have hok : ∀ y ∈ JV x.text, Pz y = true := fun y hy => by
  obtain ⟨c, hc, rfl⟩ := Ri.mp hy
  exact gz (JY hs (RM.mp hc).1)
 have hq := Db (ν := μ ++ [ls (JV x.text)]) (m := μ.length) q6 hok (Mz x.text)
 exact qm [fV ((fun n => FR (n := n) (Sx := Sx) (N := N) (D := D) (x := x) (tl := u1 tl P) (μ := μ) hl) (n + 89)), .d, fV (hq)] (by kernel_rfl)
noncomputable def qP (s : St) : Loc := if gd s.text = true then [(if s.kind = 1 then zed ++ s.key else s.key, back s.text (if s.kind < 2 then 1 else s.quote))] else []
theorem OL {g : Bool} (f : StF x) (hg : gd x.text = g) : ∃ J, Z7 n 3 Sx N D x (u2 tl P g) μ = some (.ok .next, zT Sx N D (some (x, u3 tl P g (μ ++ J).length)), μ ++ J ++ [.list ((qP x).map qB)]) := by
 have h1 : Sg ("good" : Str) (u2 tl P g) = some (.bool g) := zu
 have hb := fun n q => XE (n := n) (s := x.text) (q := q) (μ := μ) f.w.o f.w.l
 unfold qP
 rw [hg]
 induction g with
 | false =>
   refine ⟨[], ?_⟩
   rw [PQ, if_neg (by decide)]
   exact qm [fG (h1)] (by kernel_rfl)
 | true =>
   rw [if_pos rfl]
   by_cases hk : x.kind = 1
   ·have k1 : (x.kind : Int) = 1 := by rw [hk]; rfl
    have k2 : (x.kind : Int) < 2 := by rw [hk]; decide
    have c1 : (zed ++ x.key).length <= Pr := fit (jQ (PJ 3) f.kl) (by decide)
    refine ⟨QE x.text 1, ?_⟩
    rw [if_pos hk, if_pos (by rw [hk]; decide)]
    exact qm [fG (h1), fV (jz (μ := μ) k1), fV (ju (a := zed) (b := x.key) (μ := μ) c1), fV (ym (μ := μ) k2), fV (hb (n + 75) (1))] (by kernel_rfl)
   ·have k1 : (x.kind : Int) ≠ 1 := fun e => hk (T2 e)
    rw [if_neg hk]
    by_cases h2 : x.kind < 2
    ·have k2 : (x.kind : Int) < 2 := SY.mpr h2
     refine ⟨QE x.text 1, ?_⟩
     rw [if_pos h2]
     exact qm [fG (h1), fV (qE (μ := μ) k1), fV (ym (μ := μ) k2), fV (hb (n + 75) (1))] (by kernel_rfl)
    ·have k2 : ¬ (x.kind : Int) < 2 := fun e => h2 (SY.mp e)
     refine ⟨QE x.text x.quote, ?_⟩
     rw [if_neg h2]
     exact qm [fG (h1), fV (qE (μ := μ) k1), fV (xD (μ := μ) k2), fV (hb (n + 75) (↑(St.quote (RN (x, u2 tl P true)))))] (by kernel_rfl)
noncomputable def xN (s : St) (page : Loc) : Loc := page.map fun e => (e.1, bk e.2 (gZ s.kind))
theorem OB {F : Nat} {g : Bool} (hm : q5 μ P = some (page.map qB)) (hr : page.length <= Pr) (hw : ∀ e ∈ page, TL1 e.2) :
 ∃ J, Z7 n 4 Sx N D x (u3 tl P g F) μ = some (.ok .next, zT Sx N D (some (x, u4 tl P g F (μ ++ J).length)), μ ++ J ++ [.list ((xN x page).map qB)]) := by
 have h1 : Sg ("page" : Str) (u3 tl P g F) = some (.loc P) := (jM (by decide)).trans ((jM (by decide)).trans zu)
 obtain ⟨J, hc⟩ := G8 (n := n + 58) (Sx := Sx) (N := N) (D := D) (x := x) (tl := u3 tl P g F) hm hr hw
 have hs := qK hm
 rw [PH] at hs
 have e : (xN x page).map qB = page.map fun e => qB (e.1, bk e.2 (gZ x.kind)) := Su
 refine ⟨J, ?_⟩
 rw [e]
 exact qm [fG (h1), fR (hs), fV (hc)] (by kernel_rfl)
end
noncomputable def xJ (s : St) (page : Loc) : List jE := if s.kind < 4 /\ gd s.text = false /\ (s.kind < 3 \/ page = []) then [.ctl] else if s.kind = 2 \/ s.kind = 4 then [] else if s.kind = 3 then [.yes true] else if s.kind = 8 then [.lst (Rw page.length [false, true]).flatten] else [.no]
noncomputable def kM (k : Nat) (page fresh thin : Loc) : Loc :=
 if k < 2 then page ++ fresh else if k = 2 then fresh else if k = 3 then (if page = [] then fresh else page) else if k = 4 then [] else if k = 6 \/ k = 7 then thin else page
noncomputable def zi (s : St) (page : Loc) : Loc := kM s.kind page (qP s) (xN s page)
section
variable {n D N P Sx m k V X F Th : Nat} {p v : PV} {q kd : Int} {μ μ0 ν J : q4} {s nm : Str} {x : St} {es pa pb page new fresh thin : Loc} {zs : ZL} {tl : Loc} {c : Nat} {b t g : Bool} {l : List PV} {dl : Loc}
def D2 (n Sx : Nat) (μ0 μ : q4) (D N P : Nat) (pa pb : Loc) (x : St) (tl : Loc) (g : Bool) (zs : ZL) (ns : List jE) : Prop :=
 ∃ ν zs', Z7 n 2 Sx N D x (u2 tl P g) μ = some (.ok .next, zT Sx N D (some (x, u2 tl P g)), ν) /\ zM μ0 ν D N pa pb zs' /\ qi μ N ν /\ zs'.map Rh = zs.map Rh ++ ns
theorem wj {J : q4} {z : PV × jE} (d : zM μ0 μ D N pa pb zs) (hz : jX (μ ++ J) D N z.1 z.2) (hr : Z7 n 2 Sx N D x (u2 tl P g) μ = some (.ok .next, zT Sx N D (some (x, u2 tl P g)), yA (μ ++ J) N (zs ++ [z]))) : D2 n Sx μ0 μ D N P pa pb x tl g zs [z.2] :=
 ⟨_, zs ++ [z], hr, d.app.note hz, qi.trans qi.app qi.set0 (.inl rfl), zH⟩
theorem Co {J : q4} (d : zM μ0 μ D N pa pb zs) (hr : Z7 n 2 Sx N D x (u2 tl P g) μ = some (.ok .next, zT Sx N D (some (x, u2 tl P g)), μ ++ J)) : D2 n Sx μ0 μ D N P pa pb x tl g zs [] :=
 ⟨_, zs, hr, d.app, qi.app, (PQ _).symm⟩
theorem Vw : Sg ("good" : Str) (u2 tl P g) = some (.bool g) := zu
theorem HO : Sg ("page" : Str) (u2 tl P g) = some (.loc P) := (jM (by decide)).trans zu
theorem EH : qZ .NotIn (.int q) (.tup [.int 2, .int 4]) μ = some (.ok (.bool (!(([2, 4] : List Int).any fun y => y == q))), μ) := by
 have h := Wy (μ := μ) (q := q) (d := [2, 4])
 have h : (pin μ (.int q) (.tup [.int 2, .int 4])).map (fun r => (Rs (PV.bool r), μ)) = some (Rs (PV.bool (([2, 4] : List Int).any fun y => y == q)), μ) := h
 refine (show qZ .NotIn (.int q) (.tup [.int 2, .int 4]) μ = (pin μ (.int q) (.tup [.int 2, .int 4])).map (fun r => (Rs (PV.bool (!r)), μ)) from rfl).trans ?_
 induction hp : pin μ (.int q) (.tup [.int 2, .int 4]) with
 | none => rw [hp] at h; exact nomatch h
 | some r =>
   rw [hp] at h
   injection h with h; injection h with h _; injection h with h; injection h with h
   rw [<- h]; rfl
theorem Xs (h2 : q ≠ 2) (h4 : q ≠ 4) : qZ .NotIn (.int q) (.tup [.int 2, .int 4]) μ = some (.ok (.bool true), μ) := by
 rw [EH, TR, TR, beq_eq_false_iff_ne.mpr (SN h2), beq_eq_false_iff_ne.mpr (SN h4)]; rfl
theorem H2 (h : q = 2 \/ q = 4) : qZ .NotIn (.int q) (.tup [.int 2, .int 4]) μ = some (.ok (.bool false), μ) := by
 rw [EH]; rcases h with rfl | rfl <;> rfl
theorem WM (hm : q5 μ m = some (page.map qB)) (h : ∀ e ∈ page, EOK e) (ht : page.isEmpty = t) : qZ .Eq (.loc m) (.loc μ.length) (μ ++ [.list []]) = some (.ok (.bool t), μ ++ [.list []]) := by
 have e : jd (μ ++ [.list []]) (.loc μ.length) = some (.list []) := ja (l := []) q6 (fun zz q => nomatch q)
 show (peq _ _ _).map _ = _
 unfold peq
 rw [zA (qc hm) h, e, <- ht]
 cases page <;> rfl
theorem LX (h : q5 μ m = some l) : Bo (.loc m) μ = some (.ok (.int l.length), μ) := by
 show (q5 μ m).bind _ = _
 rw [h]; rfl
noncomputable abbrev FT2 : q8 := .list [.bool false, .bool true]
theorem NE (hk : k <= 1000) : kZ .Mult (.loc μ.length) (.int (k : Int)) (μ ++ [FT2]) = some (.ok (.loc (μ ++ [FT2]).length), μ ++ [FT2] ++ [.list ((Rw k [false, true]).flatten.map .bool)]) := by
 show (q5 (μ ++ [FT2]) μ.length).bind _ = _
 rw [q6, PK]
 have e24 : Pr = 16777216 := by decide
 refine (if_pos ⟨by lia, by lia, by rw [Ud, e24]; show 2 * k <= _; lia⟩).trans ?_
 rw [Ud, List.map_flatten, List.map_replicate]; rfl
theorem Ou (d : zM μ0 μ D N pa pb zs) (hm : q5 μ P = some (page.map qB)) (hE : ∀ e ∈ page, EOK e) (hL : zs.length <= 1000) (hpl : page.length <= 1000) (hg : gd x.text = g) : D2 n Sx μ0 μ D N P pa pb x tl g zs (xJ x page) := by
 have hi : qv μ (.loc N) = none := ji d.nl
 have hl := jf d.nl
 unfold xJ
 rw [hg]
 by_cases hA : x.kind < 4 /\ g = false /\ (x.kind < 3 \/ page = [])
 ·rw [if_pos hA]
  obtain ⟨h4, rfl, h3⟩ := hA
  have k4 : (x.kind : Int) < 4 := SY.mpr h4
  by_cases k : x.kind < 3
  ·have k3 : (x.kind : Int) < 3 := SY.mpr k
   refine wj (J := []) (z := (.str CTL, .ctl)) d rfl ?_
   rw [PQ]
   exact qm [fV (ym (μ := μ) k4), fG (Vw (tl := tl) (P := P) (g := false)), fV (ym (μ := μ) k3), fI (hi), fL (hl), fV (xT (v := .str CTL) d.nl hL .ctl)] (by kernel_rfl)
  ·have k3 : ¬ (x.kind : Int) < 3 := fun e => k (SY.mp e)
   have he := h3.resolve_left k
   refine wj (J := [.list []]) (z := (.str CTL, .ctl)) d rfl ?_
   have d' := d.app (J := [.list []])
   have hi' : qv (μ ++ [.list []]) (.loc N) = none := ji d'.nl
   exact qm [fV (ym (μ := μ) k4), fG (Vw (tl := tl) (P := P) (g := false)), fV (xD (μ := μ) k3), fG (HO (tl := tl) (P := P) (g := false)), .d, fV (WM (t := true) hm hE (by rw [he]; rfl)), fI (hi'), fL (jf d'.nl), fV (xT (v := .str CTL) d'.nl hL .ctl)] (by kernel_rfl)
 ·rw [if_neg hA]
  by_cases h24 : x.kind = 2 \/ x.kind = 4
  ·rw [if_pos h24]
   have k24 : (x.kind : Int) = 2 \/ (x.kind : Int) = 4 := h24.imp (fun e => by rw [e]; rfl) fun e => by rw [e]; rfl
   refine Co (J := []) d ?_
   rw [PQ]
   by_cases k : x.kind < 4
   ·have k4 : (x.kind : Int) < 4 := SY.mpr k
    have hgt : g = true := by induction g with
     | true => rfl
     | false => exact absurd ⟨k, rfl, .inl (by lia)⟩ hA
    subst hgt
    exact qm [fV (ym (μ := μ) k4), fG (Vw (tl := tl) (P := P) (g := true)), fV ((H2 k24 : qZ U7 (PV.int ↑(St.kind x)) (PV.tup [PV.int 2, PV.int 4]) μ = some (Rs (PV.bool false), μ)))] (by kernel_rfl)
   ·have k4 : ¬ (x.kind : Int) < 4 := fun e => k (SY.mp e)
    exact qm [fV (xD (μ := μ) k4), fV ((H2 k24 : qZ U7 (PV.int ↑(St.kind x)) (PV.tup [PV.int 2, PV.int 4]) μ = some (Rs (PV.bool false), μ)))] (by kernel_rfl)
  ·rw [if_neg h24]
   have k2 : (x.kind : Int) ≠ 2 := fun e => h24 (.inl (T2 e))
   have k4' : (x.kind : Int) ≠ 4 := fun e => h24 (.inr (T2 e))
   by_cases h3 : x.kind = 3
   ·rw [if_pos h3]
    have k3 : (x.kind : Int) = 3 := by rw [h3]; rfl
    have k4 : (x.kind : Int) < 4 := by rw [h3]; decide
    have k33 : ¬ (x.kind : Int) < 3 := by rw [h3]; decide
    induction g with
    | true =>
      refine wj (J := []) (z := (.bool true, .yes true)) d rfl ?_
      rw [PQ]
      exact qm [fV (ym (μ := μ) k4), fG (Vw (tl := tl) (P := P) (g := true)), fV ((Xs k2 k4' : qZ U7 (PV.int ↑(St.kind x)) (PV.tup [PV.int 2, PV.int 4]) μ = some (Rs (PV.bool true), μ))), fI (hi), fL (hl), fV (jz (μ := μ) k3), fV (xT (v := .bool true) d.nl hL (.yes true))] (by kernel_rfl)
    | false =>
      have he : page ≠ [] := fun e => hA ⟨h3 ▸ by decide, rfl, .inr e⟩
      refine wj (J := [.list []]) (z := (.bool true, .yes true)) d rfl ?_
      have d' := d.app (J := [.list []])
      have hi' : qv (μ ++ [.list []]) (.loc N) = none := ji d'.nl
      exact qm [fV (ym (μ := μ) k4), fG (Vw (tl := tl) (P := P) (g := false)), fV (xD (μ := μ) k33), fG (HO (tl := tl) (P := P) (g := false)), .d, fV (WM (t := false) hm hE (by induction page using PC with | nil => exact absurd rfl he | cons a l => rfl)), fV ((Xs k2 k4' : qZ U7 (PV.int ↑(St.kind x)) (PV.tup [PV.int 2, PV.int 4]) (μ ++ [q8.list []]) = some (Rs (PV.bool true), μ ++ [q8.list []]))), fI (hi'), fL (jf d'.nl), fV (jz (μ := μ ++ [q8.list []]) k3), fV (xT (v := .bool true) d'.nl hL (.yes true))] (by kernel_rfl)
   ·rw [if_neg h3]
    have k3 : (x.kind : Int) ≠ 3 := fun e => h3 (T2 e)
    by_cases h8 : x.kind = 8
    ·rw [if_pos h8]
     have k8 : (x.kind : Int) = 8 := by rw [h8]; rfl
     have k4 : ¬ (x.kind : Int) < 4 := by rw [h8]; decide
     have kX : qi μ N (μ ++ [FT2] ++ [.list ((Rw page.length [false, true]).flatten.map .bool)]) := qi.trans qi.app qi.app (.inl rfl)
     have e : μ ++ [FT2] ++ [.list ((Rw page.length [false, true]).flatten.map .bool)] = μ ++ ([FT2] ++ [.list ((Rw page.length [false, true]).flatten.map .bool)]) := PF ..
     have ne : ∀ {a : Nat}, a < μ.length -> (μ ++ [FT2]).length ≠ a := fun ha => by rw [PB]; exact RZ (PY ha (Rd ..))
     obtain ⟨a, b', q⟩ := d.bk
     refine wj (J := [FT2] ++ [.list ((Rw page.length [false, true]).flatten.map .bool)]) (z := (.loc (μ ++ [FT2]).length, .lst (Rw page.length [false, true]).flatten)) d ⟨_, rfl, ne (Vk q.d), ne (yG d.nl), by rw [<- e]; exact q6⟩ ?_
     have d' := d.app (J := [FT2] ++ [.list ((Rw page.length [false, true]).flatten.map .bool)])
     rw [<- e] at d' ⊢
     have hln := LX (qc (J := [FT2]) hm)
     rw [PH] at hln
     exact qm [fV (xD (μ := μ) k4), fV ((Xs k2 k4' : qZ U7 (PV.int ↑(St.kind x)) (PV.tup [PV.int 2, PV.int 4]) μ = some (Rs (PV.bool true), μ))), fI (hi), fL (hl), fV (qE (μ := μ) k3), fV (jz (μ := μ) k8), fG (HO (tl := tl) (P := P) (g := g)), fV (hln), fV (NE (μ := μ) hpl), fV (xT (v := .loc (μ ++ [FT2]).length) d'.nl hL (.lst (Rw page.length [false, true]).flatten))] (by kernel_rfl)
    ·rw [if_neg h8]
     have k8 : (x.kind : Int) ≠ 8 := fun e => h8 (T2 e)
     refine wj (J := []) (z := (.none, .no)) d rfl ?_
     rw [PQ]
     by_cases k : x.kind < 4
     ·have k4 : (x.kind : Int) < 4 := SY.mpr k
      have hgt : g = true := by induction g with
       | true => rfl
       | false => exact absurd ⟨k, rfl, .inl (by lia)⟩ hA
      subst hgt
      exact qm [fV (ym (μ := μ) k4), fG (Vw (tl := tl) (P := P) (g := true)), fV ((Xs k2 k4' : qZ U7 (PV.int ↑(St.kind x)) (PV.tup [PV.int 2, PV.int 4]) μ = some (Rs (PV.bool true), μ))), fI (hi), fL (hl), fV (qE (μ := μ) k3), fV (qE (μ := μ) k8), fV (xT (v := .none) d.nl hL .no)] (by kernel_rfl)
     ·have k4 : ¬ (x.kind : Int) < 4 := fun e => k (SY.mp e)
      exact qm [fV (xD (μ := μ) k4), fV ((Xs k2 k4' : qZ U7 (PV.int ↑(St.kind x)) (PV.tup [PV.int 2, PV.int 4]) μ = some (Rs (PV.bool true), μ))), fI (hi), fL (hl), fV (qE (μ := μ) k3), fV (qE (μ := μ) k8), fV (xT (v := .none) d.nl hL .no)] (by kernel_rfl)
end
section
variable {n D N P Sx m k V X F Th A E Q : Nat} {p v : PV} {q kd : Int} {μ μ0 ν J : q4} {s nm : Str} {x : St} {es pa pb page new fresh thin : Loc} {zs : ZL} {tl : Loc} {c : Nat} {b t g : Bool} {l : List PV} {dl : Loc}
theorem LQ (h : q5 μ m = some (es.map qB)) (ht : es.isEmpty = false) : tru (.loc m) μ = some (.ok true, μ) := by
 show ((q5 μ m).map _).map _ = _
 rw [h]
 induction es using PC with
 | nil => exact nomatch ht
 | cons a l => rfl
theorem Lu (h : q5 μ m = some (es.map qB)) (ht : es.isEmpty = true) : tru (.loc m) μ = some (.ok false, μ) := by
 show ((q5 μ m).map _).map _ = _
 rw [h]
 induction es using PC with
 | nil => rfl
 | cons a l => exact nomatch ht
noncomputable abbrev pfC (page fresh : Loc) : q8 := pl (page ++ fresh)
noncomputable abbrev M1' (μ : q4) (page fresh : Loc) : q4 := μ ++ [pfC page fresh]
noncomputable abbrev M2' (μ : q4) (page fresh : Loc) : q4 := M1' μ page fresh ++ [pfC page fresh]
noncomputable abbrev M3' (μ : q4) (page fresh : Loc) : q4 := M2' μ page fresh ++ [.list []]
noncomputable abbrev L10 (A B F Q E P Th : Nat) : List PV := [.loc A, .loc B, .loc F, .loc Q, .loc E, .loc P, .loc Th, .loc Th, .loc P, .loc P]
noncomputable abbrev LL (μ : q4) (page fresh : Loc) (F Q P Th : Nat) : List PV := L10 μ.length (M1' μ page fresh).length F Q (M2' μ page fresh).length P Th
theorem V4 (h : l[k]? = some v) : zb (.loc μ.length) (.int (k : Int)) (μ ++ [.list l]) = some (.ok v, μ ++ [.list l]) := by
 show (q5 (μ ++ [.list l]) μ.length).bind _ = _
 rw [q6, PK, if_pos (UI k)]
 show (l[k]?).map _ = _
 rw [h]; rfl
theorem Gg (h1 : q5 μ P = some (page.map qB)) (h2 : q5 μ F = some (fresh.map qB)) (hl : page.length <= 1000) (hf : fresh.length <= 1000) : kZ .Add (.loc P) (.loc F) μ = some (.ok (.loc μ.length), M1' μ page fresh) := by
 rw [w8 h1 h2 (by rw [PB, PH, PH]; exact Pq (RP hl hf) (by decide)), <- Rt]
structure V5 (μ : q4) (N k : Nat) (l : List PV) (new : Loc) (V : Nat) : Prop where
 i : l[k]? = some (.loc V)
 n : V ≠ N
 p : q5 μ V = some (new.map qB)
theorem v5 (hk : k < 10) (hN : N < μ.length) (hp : q5 μ P = some (page.map qB)) (hf : q5 μ F = some (fresh.map qB)) (ht : q5 μ Th = some (thin.map qB)) (nP : P ≠ N) (nF : F ≠ N) (nT : Th ≠ N) (hQ : Q = if page = [] then F else P) :
 ∃ V, V5 (M3' μ page fresh ++ [.list (LL μ page fresh F Q P Th)]) N k (LL μ page fresh F Q P Th) (kM k page fresh thin) V := by
 have lt : ∀ {J : q4}, (μ ++ J).length ≠ N := fun {J} => by rw [PB]; exact RZ (PY hN (Rd ..))
 have ap : ∀ {a : Nat} {l : List PV}, q5 μ a = some l -> q5 (M3' μ page fresh ++ [.list (LL μ page fresh F Q P Th)]) a = some l := fun h => qc (qc (qc (qc h)))
 match k, hk with
 | 0, _ => exact ⟨μ.length, rfl, RZ hN, qc (qc (qc q6))⟩
 | 1, _ => exact ⟨(M1' μ page fresh).length, rfl, lt, qc (qc q6)⟩
 | 2, _ => exact ⟨F, rfl, nF, ap hf⟩
 | 3, _ =>
   show ∃ V, V5 _ N 3 _ (if page = [] then fresh else page) V
   by_cases h : page = []
   ·rw [if_pos h] at hQ ⊢; exact ⟨F, by rw [hQ]; rfl, nF, ap hf⟩
   ·rw [if_neg h] at hQ ⊢; exact ⟨P, by rw [hQ]; rfl, nP, ap hp⟩
 | 4, _ => exact ⟨(M2' μ page fresh).length, rfl, by rw [show M2' μ page fresh = μ ++ ([pfC page fresh] ++ [pfC page fresh]) from PF ..]; exact lt, qc q6⟩
 | 5, _ => exact ⟨P, rfl, nP, ap hp⟩
 | 6, _ => exact ⟨Th, rfl, nT, ap ht⟩
 | 7, _ => exact ⟨Th, rfl, nT, ap ht⟩
 | 8, _ => exact ⟨P, rfl, nP, ap hp⟩
 | 9, _ => exact ⟨P, rfl, nP, ap hp⟩
theorem Pg (d : zM μ0 μ D N pa pb zs) (hnm : Pt x.name = AB \/ Pt x.name = XM) (hl : (Pt x.name).length <= Pr) (hp : q5 μ P = some (page.map qB)) (hf : q5 μ F = some (fresh.map qB)) (ht : q5 μ Th = some (thin.map qB)) (nP : P ≠ N) (nF : F ≠ N) (nT : Th ≠ N) (hpl : page.length <= 1000) (hfl : fresh.length <= 1000) (hk : x.kind < 10) :
 ∃ ν, Z7 n 5 Sx N D x (u4 tl P g F Th) μ = some (.ok .next, zT Sx N D (some (x, u4 tl P g F Th)), ν) /\ zM μ0 ν D N (if Pt x.name = AB then kM x.kind page fresh thin else pa) (if Pt x.name = AB then pb else kM x.kind page fresh thin) zs := by
 have l1 : Sg ("page" : Str) (u4 tl P g F Th) = some (.loc P) := (jM (by decide)).trans ((jM (by decide)).trans ((jM (by decide)).trans zu))
 have l2 : Sg ("fresh" : Str) (u4 tl P g F Th) = some (.loc F) := (jM (by decide)).trans zu
 have l3 : Sg ("thin" : Str) (u4 tl P g F Th) = some (.loc Th) := zu
 have a1 := Gg hp hf hpl hfl
 have a2 := Gg (qc (J := [pfC page fresh]) hp) (qc hf) hpl hfl
 have h1 : ∀ ν, j0 (.str x.name) "lower" [] ν = some (.ok (.str (Pt x.name)), ν) := fun ν => zt hl
 have d4 : ∀ Q, zM μ0 (M3' μ page fresh ++ [.list (LL μ page fresh F Q P Th)]) D N pa pb zs := fun Q => d.app.app.app.app
 have hid : ∀ Q, qv (M3' μ page fresh ++ [.list (LL μ page fresh F Q P Th)]) (.loc D) = none := fun Q => by
  obtain ⟨_, _, q⟩ := (d4 Q).bk
  exact IX q.d
 induction he : page.isEmpty with
 | true =>
   have tr := Lu (qc (J := [pfC page fresh]) (qc (J := [pfC page fresh]) hp)) he
   obtain ⟨V, v⟩ := v5 (Q := F) hk (yG d.nl) hp hf ht nP nF nT (if_pos (Rf.mp he)).symm
   obtain ⟨ν, hs, dν⟩ := (d4 F).store hnm v.p v.n
   refine ⟨ν, ?_, dν⟩
   exact qm [fG (l1), fG (l2), fV (a1), fG (l1), fG (l2), fV (a2), fG (l2), fG (l1), fT (tr), fG (l2), fG (l1), fG (l3), fG (l3), fG (l1), fG (l1), .d, fV (V4 (μ := M3' μ page fresh) v.i), fV (h1 (M3' μ page fresh ++ [.list (LL μ page fresh F F P Th)])), fI (hid F), fV (hs)] (by kernel_rfl)
 | false =>
   have tr := LQ (qc (J := [pfC page fresh]) (qc (J := [pfC page fresh]) hp)) he
   obtain ⟨V, v⟩ := v5 (Q := P) hk (yG d.nl) hp hf ht nP nF nT (if_neg fun e => by rw [e] at he; exact nomatch he).symm
   obtain ⟨ν, hs, dν⟩ := (d4 P).store hnm v.p v.n
   refine ⟨ν, ?_, dν⟩
   exact qm [fG (l1), fG (l2), fV (a1), fG (l1), fG (l2), fV (a2), fG (l2), fG (l1), fT (tr), fG (l1), fG (l3), fG (l3), fG (l1), fG (l1), .d, fV (V4 (μ := M3' μ page fresh) v.i), fV (h1 (M3' μ page fresh ++ [.list (LL μ page fresh F P P Th)])), fI (hid P), fV (hs)] (by kernel_rfl)
end
section
variable {n D N P Sx i : Nat} {v : PV} {μ μ0 ν J : q4} {x s : St} {pa pb page : Loc} {zs : ZL} {tl : Loc} {σ : LE}
theorem y2 {μ' : q4} {t t' : Loc} (h : Z7 n i Sx N D x t μ = some (.ok .next, zT Sx N D (some (x, t')), μ')) : (evN ftT (n + 100)).ex (zT Sx N D (some (x, t))) (XZ.drop i) μ = (evN ftT (n + 100)).ex (zT Sx N D (some (x, t'))) (XZ.drop (i + 1)) μ' := by
 have q := GA (n := n + 99) 1 h
 rwa [List.drop_drop] at q
structure TF (x : St) (pa pb : Loc) (ns : List jE) : Prop where
 f : StF x
 nm : Pt x.name = AB \/ Pt x.name = XM
 k : x.kind < 10
 e : ∀ e ∈ qw pa pb (Pt x.name), EOK e /\ TL1 e.2
 z : ns.length <= 1000
 l : (qw pa pb (Pt x.name)).length <= 1000
noncomputable abbrev nwA (x : St) (pa pb : Loc) : Loc := if Pt x.name = AB then zi x (qw pa pb (Pt x.name)) else pa
noncomputable abbrev nwB (x : St) (pa pb : Loc) : Loc := if Pt x.name = AB then pb else zi x (qw pa pb (Pt x.name))
theorem VC : (qP x).length <= 1000 := by
 unfold qP
 split
 ·exact (by decide : 1 <= 1000)
 ·exact Rj _
theorem Dr (d : zM μ0 μ D N pa pb zs) (h : TF x pa pb (zs.map Rh)) :
 ∃ ν zs' t', (evN ftT (n + 100)).ex (zT Sx N D (some (x, tl))) XZ μ = some (.ok .next, zT Sx N D (some (x, t')), ν) /\ zM μ0 ν D N (nwA x pa pb) (nwB x pa pb) zs' /\ zs'.map Rh = zs.map Rh ++ xJ x (qw pa pb (Pt x.name)) := by
 have hl : (Pt x.name).length <= Pr := h.nm.elim (fun e => by rw [e]; decide +kernel) fun e => by rw [e]; decide +kernel
 have hz : zs.length <= 1000 := by have q := h.z; rwa [PH] at q
 obtain ⟨P, p⟩ := d.pg h.nm
 have s0 := y2 (n := n) (Sx := Sx) (t := tl) (Oy hl p)
 have s1 := y2 (n := n) (Sx := Sx) (N := N) (D := D) (t := u1 tl P) (μ := μ) (Pc h.f.w.o (Pq h.f.w.l (by decide)))
 have d1 := d.app (J := [ls (JV x.text)]) |>.app (J := [.list []])
 have m1 := qc (J := [.list []]) (qc (J := [ls (JV x.text)]) p.l)
 obtain ⟨ν2, zs', e2, d2, k2, hz'⟩ := Ou (n := n) (Sx := Sx) (tl := tl) d1 m1 (fun e he => (h.e e he).1) hz h.l rfl
 have m2 := k2.list m1 p.n
 obtain ⟨J3, e3⟩ := OL (n := n) (Sx := Sx) (N := N) (D := D) (tl := tl) (P := P) (μ := ν2) h.f rfl
 obtain ⟨J4, e4⟩ := OB (n := n) (Sx := Sx) (N := N) (D := D) (tl := tl) (x := x) (F := (ν2 ++ J3).length) (g := gd x.text) (qc (J := [.list ((qP x).map qB)]) (qc (J := J3) m2)) (Pq h.l (by decide)) fun e he => (h.e e he).2
 have lt2 := yG d2.nl
 have lt3 : N < (ν2 ++ J3).length := by rw [PB]; exact PY lt2 (Rd ..)
 have lt4 : N < (ν2 ++ J3 ++ [pl (qP x)] ++ J4).length := by rw [PB, PB]; exact PY lt3 (Pq (Rd ..) (Rd ..))
 obtain ⟨ν, e5, d5⟩ := Pg (n := n) (Sx := Sx) (tl := tl) (g := gd x.text) (d2.app (J := J3) |>.app (J := [pl (qP x)]) |>.app (J := J4) |>.app (J := [pl (xN x (qw pa pb (Pt x.name)))])) h.nm hl (qc (qc (qc (qc m2)))) (qc (qc q6)) q6 p.n (RZ lt3) (RZ lt4) h.l VC h.k
 refine ⟨ν, zs', u4 tl P (gd x.text) (ν2 ++ J3).length (ν2 ++ J3 ++ [pl (qP x)] ++ J4).length, ?_, d5, hz'⟩
 exact s0.trans (s1.trans ((y2 e2).trans ((y2 e3).trans ((y2 e4).trans ((y2 e5).trans (by kernel_rfl))))))
structure BM where
 o : Option (St × Loc)
 zs : ZL
 μ : q4
structure OM (G : Nat -> Loc -> Loc -> List jE -> Prop) (μ0 : q4) (D N i : Nat) (a : BM) (pa pb : Loc) : Prop where
 g : G i pa pb (a.zs.map Rh)
 d : zM μ0 a.μ D N pa pb a.zs
def DG (G : Nat -> Loc -> Loc -> List jE -> Prop) (μ0 : q4) (D N i : Nat) (a : BM) : Prop := ∃ pa pb, OM G μ0 D N i a pa pb
noncomputable def tO : Option (St × Loc) -> Loc
 | none => []
 | some q => q.2
theorem Ib {o : Option (St × Loc)} : qt (zT Sx N D o) (xO (qo 240).body) s.pv = some (zT Sx N D (some (s, tO o))) := by cases o <;> kernel_rfl
def gg (steps : List St) (G : Nat -> Loc -> Loc -> List jE -> Prop) : Prop := ∀ i (hi : i < steps.length) pa pb ns, G i pa pb ns -> TF steps[i] pa pb ns /\ G (i + 1) (nwA steps[i] pa pb) (nwB steps[i] pa pb) (ns ++ xJ steps[i] (qw pa pb (Pt steps[i].name)))
theorem Ec {G : Nat -> Loc -> Loc -> List jE -> Prop} {steps : List St} {a : BM} (hS : q5 μ0 Sx = some (steps.map St.pv)) (hstep : gg steps G) (h : DG G μ0 D N 0 a) :
 ∃ b, zJ (evN ftT (n + 100)) (.list Sx) (xO (qo 240).body) XZ (steps.length + 1) 0 (zT Sx N D a.o) a.μ = some (.ok .next, zT Sx N D b.o, b.μ) /\ DG G μ0 D N steps.length b := by
 refine xw (N := steps.length) (S := fun a : BM => zT Sx N D a.o) (M := fun a => a.μ) (P := DG G μ0 D N) (Q := fun R => ∃ b : BM, R = some (.ok .next, zT Sx N D b.o, b.μ) /\ DG G μ0 D N steps.length b) (fun i a hi h => ?_) (fun b h => ⟨?_, b, rfl, h⟩) h
 ·obtain ⟨pa, pb, h⟩ := h
  obtain ⟨f, g⟩ := hstep i hi pa pb _ h.g
  obtain ⟨ν, zs', t', e, d, hz⟩ := Dr (n := n) (Sx := Sx) (tl := tO a.o) h.d f
  refine ⟨steps[i].pv, _, ?_, Ib, .inl ⟨.next, ⟨some (steps[i], t'), zs', ν⟩, .inl rfl, e, _, _, hz ▸ g, d⟩⟩
  rw [qF (h.d.ext.list hS), PW hi]; rfl
 ·obtain ⟨pa, pb, h⟩ := h
  rw [qF (h.d.ext.list hS), RC (PJ _)]; rfl
noncomputable abbrev dA (μ : q4) : Nat := (μ ++ [q8.dict []]).length
noncomputable abbrev dB (μ : q4) : Nat := (μ ++ [q8.dict []] ++ [q8.list []]).length
noncomputable abbrev dL (μ : q4) : Loc := [(AB, .loc (dA μ)), (XM, .loc (dB μ))]
noncomputable abbrev D0 (μ : q4) : q4 := μ ++ [.dict (dL μ)] ++ [.list []] ++ [.list []]
theorem N0 : (if ((dL μ).map (·.1)).Nodup /\ (qe (μ ++ [.dict []] ++ [.list []] ++ [.list []]) μ.length).any (·.isEmpty) = true then some (.ok (.loc μ.length), qj (μ ++ [.dict []] ++ [.list []] ++ [.list []]) μ.length (.dict (dL μ))) else none : PR PV) = some (.ok (.loc μ.length), D0 μ) := by
 have lt : μ.length < (μ ++ [q8.dict []]).length := by rw [PB]; exact RU _
 have e : qe (μ ++ [.dict []] ++ [.list []] ++ [.list []]) μ.length = some [] := kF (kF (D := μ.length) (μ := μ ++ [.dict []]) (dl := []) (by unfold qe; rw [gb]; rfl) (jO lt)) (jO (by rw [PB]; exact PY lt (Rd ..)))
 rw [if_pos ⟨(show [AB, XM].Nodup by decide +kernel), by rw [e]; rfl⟩, yK (by rw [PB]; exact PY lt (Rd ..)), yK lt, wb]
theorem E9 {G : Nat -> Loc -> Loc -> List jE -> Prop} {steps : List St} (hS : q5 μ Sx = some (steps.map St.pv)) (hG : G 0 [] [] []) (hstep : gg steps G) :
 ∃ ν N pa pb zs, (evN ftT (n + 102)).call 240 [.loc Sx] [] μ = some (.ok (.tup [.loc μ.length, .loc N]), ν) /\ zM μ ν μ.length N pa pb zs /\ G steps.length pa pb (zs.map Rh) := by
 have e : D0 μ ++ [.list []] = μ ++ ([.dict (dL μ)] ++ [.list []] ++ [.list []] ++ [.list []]) := by rw [PF, PF, PF, PF, PF]
 have hlen : (D0 μ).length = μ.length + 3 := by rw [PB, PB, PB]; rfl
 have la : dA μ = μ.length + 1 := PB
 have lb : dB μ = μ.length + 2 := by unfold dB; rw [PB, PB]; rfl
 have lt : μ.length < (μ ++ [q8.dict (dL μ)]).length := by rw [PB]; exact RU _
 have d0 : zM μ (D0 μ ++ [.list []]) μ.length (D0 μ).length [] [] [] := {
  ext := ⟨by rw [e, PB]; exact Rd .., fun a ha => by rw [e]; exact jO ha⟩
  hD := PJ _
  hN := by rw [hlen]; exact Rd ..
  nn := by rw [hlen]; exact RZ (U6 (by decide))
  nl := q6
  reps := fun zz h => nomatch h
  bk := ⟨dA μ, dB μ, {
   d := kF (kF (kF (μ := μ ++ [.dict (dL μ)]) (by unfold qe; rw [gb]; rfl) (jO lt)) (jO (by rw [PB]; exact PY lt (Rd ..)))) (jO (by rw [hlen]; exact U6 (by decide)))
   na := by rw [la, hlen]; lia
   nb := by rw [lb, hlen]; lia
   la := qc (qc (by rw [la, show μ.length + 1 = (μ ++ [q8.dict (dL μ)]).length by rw [PB]; rfl]; exact q6))
   lb := qc (by rw [lb, show μ.length + 2 = (μ ++ [q8.dict (dL μ)] ++ [q8.list []]).length by rw [PB, PB]; rfl]; exact q6) }⟩ }
 obtain ⟨b, hl, pa, pb, g⟩ := Ec (n := n) (a := ⟨none, [], D0 μ ++ [.list []]⟩) hS hstep ⟨_, _, hG, d0⟩
 have hs := qK (d0.ext.list hS)
 rw [PH] at hs
 refine ⟨b.μ, (D0 μ).length, pa, pb, b.zs, ?_, g.d, g.g⟩
 exact jv (n := n) (k := 101) [.d, .d, fV (N0 (μ := μ)), fR (hs), fS (hl)] (by kernel_rfl)
end
theorem Kc {α : Type} {r : Ev} {src : Src} {l : List α} {target elt : Expr} {ifs : List Expr} {μ : q4} {Inv : LE -> Prop} {f : α -> PV} {g : α -> Bool} (V : α -> PV) (hn : ∀ i J, xq src i (μ ++ J) = some ((l[i]?).map V))
 (h : ∀ σ v J, Inv σ -> v ∈ l -> ∃ σ' J1, qt σ target (V v) = some σ' /\ Inv σ' /\ zY r σ' ifs (μ ++ J) = some (.ok (g v), μ ++ (J ++ J1)) /\ (g v = true -> ∃ J2, r.ev σ' elt (μ ++ (J ++ J1)) = some (.ok (f v), μ ++ (J ++ J1 ++ J2)))) (k : Nat) :
 ∀ (i : Nat) (σ : LE) (J : q4), Inv σ -> k + i = l.length + 1 -> i <= l.length -> ∃ J', zV r src target ifs elt k i σ (μ ++ J) = some (.ok (((l.drop i).filter g).map f), μ ++ (J ++ J')) := by
 induction k with
 | zero => intro i σ J _ h1 h2; exact absurd h2 (by lia)
 | succ k ih =>
   intro i σ J hI h1 h2
   unfold zV
   rw [hn]
   by_cases hi : i < l.length
   ·obtain ⟨σ', J1, a1, a2, a3, a4⟩ := h σ l[i] J hI (Rx hi)
    rw [PW hi, S9 hi, filter_cons]
    show ∃ J', (qt σ target (V l[i])).bind _ = _
    rw [a1]
    show ∃ J', qa (zY r σ' ifs (μ ++ J)) _ = _
    rw [a3]
    by_cases hg : g l[i] = true
    ·obtain ⟨J2, a4⟩ := a4 hg
     obtain ⟨J3, b⟩ := ih (i + 1) σ' (J ++ J1 ++ J2) a2 (by lia) hi
     refine ⟨J1 ++ (J2 ++ J3), ?_⟩
     rw [if_pos hg]
     show (if g l[i] = true then _ else _) = _
     rw [if_pos hg, a4]
     show qa (zV r src target ifs elt k (i + 1) σ' (μ ++ (J ++ J1 ++ J2))) _ = _
     rw [b, PF (J ++ J1), PF J]; rfl
    ·obtain ⟨J3, b⟩ := ih (i + 1) σ' (J ++ J1) a2 (by lia) hi
     refine ⟨J1 ++ J3, ?_⟩
     rw [if_neg hg]
     show (if g l[i] = true then _ else _) = _
     rw [if_neg hg, b, PF J]
   ·have e : i = l.length := by lia
    subst e
    rw [RC (PJ _), TD]
    exact ⟨[], by rw [PQ]; rfl⟩
noncomputable def YI (p : PV) : Bool := !(zy p)
noncomputable def vP (page : Loc) (k : Str) : List PV := (page.filter fun e => e.1 == k).map (·.2)
noncomputable def z0 (page : Loc) : List PV := (page.map (·.2)).filter YI
noncomputable def kAt (page : Loc) (i : Nat) : Str := (page.map (·.1)).getD i PE
noncomputable def gAt (page : Loc) (i : Nat) : Bool := !((page.map (·.1)).take i).contains (kAt page i)
noncomputable def ku (page : Loc) (i : Nat) : Str × PV := (kAt page i, (vP page (kAt page i)).getLast?.getD .none)
noncomputable def qJ (page : Loc) : Loc := ((UM page.length).filter (gAt page)).map (ku page)
section
variable {n P K O m i : Nat} {k : Str} {v : PV} {μ ν J : q4} {es page : Loc} {l : List Str} {ps : List PV} {t : Bool} {e : Str × PV}
theorem Yg (h : ∀ p ∈ ps, TOK p) : jk (jK μ 7) ps = some (ps.map zh) := by
 induction ps with
 | nil => rfl
 | cons p ps ih =>
   have e : jK μ 7 p = some (zh p) := (h p (.head _)).elim (C := fun p => jK μ 7 p = some (zh p)) rfl rfl fun zz zz => rfl
   show (jK μ 7 p).bind (fun d => (jk (jK μ 7) ps).map fun ds => d :: ds) = _
   rw [e, ih fun x hx => h x (.tail _ hx)]; rfl
theorem KF (h : ∀ p ∈ ps, TOK p) : RD (ps.map zh) = true /\ Rz (ps.map zh) = 0 := by
 induction ps with
 | nil => exact ⟨rfl, rfl⟩
 | cons p ps ih =>
   have i := ih fun y hy => h y (.tail _ hy)
   have q := ZM (h p (.head _))
   exact ⟨show ((zh p).canLay0 && RD (ps.map zh)) = true by rw [q.1, i.1]; rfl, show max (zh p).depth (Rz (ps.map zh)) = 0 by rw [q.2, i.2]; rfl⟩
theorem Xj (hm : q5 μ m = some ps) (h : ∀ p ∈ ps, TOK p) : jd μ (.loc m) = some (.list (ps.map zh)) := by
 show (((q5 μ m).bind fun l => (jk (jK μ 7) l).map SU).bind _) = _
 rw [hm]
 show (((jk (jK μ 7) ps).map SU).bind _) = _
 rw [Yg h]
 have i := KF h
 refine if_pos ?_
 show (RD (ps.map zh) && decide (Rz (ps.map zh) + 1 <= 64)) = true
 rw [i.1, i.2]; rfl
theorem V2 (hm : q5 μ m = some ps) (h : ∀ p ∈ ps, TOK p) (ht : ps.isEmpty = t) : qZ .Eq (.loc m) (.loc μ.length) (μ ++ [.list []]) = some (.ok (.bool t), μ ++ [.list []]) := by
 have e : jd (μ ++ [.list []]) (.loc μ.length) = some (.list []) := ja (l := []) q6 (fun zz q => nomatch q)
 show (peq _ _ _).map _ = _
 unfold peq
 rw [Xj (qc hm) h, e, <- ht]
 cases ps <;> rfl
theorem Gf : (l.map Ao).any (fun y => Sn y (.str k)) = l.contains k := by
 induction l with
 | nil => rfl
 | cons x l ih =>
   rw [RO, TR, ih, List.contains_cons, show Sn (.str x) (.str k) = (x == k) from rfl]
   by_cases h : x = k
   ·rw [h]
   ·rw [beq_eq_false_iff_ne.mpr h, beq_eq_false_iff_ne.mpr (SN h)]
theorem FL (ha : q5 μ m = some (l.map .str)) (h : ∀ y ∈ l, Pz y = true) (hk : Pz k = true) : qZ .NotIn (.str k) (.loc m) μ = some (.ok (.bool (!(l.contains k))), μ) := by
 refine (show qZ .NotIn (.str k) (.loc m) μ = (pin μ (.str k) (.loc m)).map (fun r => (Rs (PV.bool (!r)), μ)) from rfl).trans ?_
 unfold pin
 rw [zF hk, PK, ja ha h, <- Gf]; rfl
theorem Kw (h : q5 ν K = some (l.map .str)) (hl : l.length <= 100000) (hi : i <= l.length) : wM (.loc K) none (some (.int (i : Int))) ν = some (.ok (.loc ν.length), ν ++ [ls (l.take i)]) := by
 show (q5 ν K).bind _ = _
 rw [h, PK, if_pos (by rw [PH]; exact Pq hl (by decide))]
 rw [Zd (h := i) (by rw [if_neg (by lia), Ud, PH]; lia) (by rw [PH]; exact hi), <- List.map_take]
 exact jh (by rw [PH, T8]; exact Pq (bE ..) (Pq hl (by decide)))
theorem Mc (h : q5 μ m = some ps) (hv : ps.getLast? = some v) : zb (.loc m) (.int (-1)) μ = some (.ok v, μ) := by
 show (q5 μ m).bind _ = _
 rw [h, PK, if_neg (by decide), if_pos rfl, hv]; rfl
noncomputable abbrev IS : List Sf := (qo 245).body
noncomputable abbrev yn : Expr := sE IS 0 0 []
noncomputable abbrev yY : Expr := sE IS 1 0 []
noncomputable abbrev xY : Expr := sE IS 2 0 []
noncomputable abbrev yo : Expr := eAt (lcE xY) [1, 0]
noncomputable abbrev JE (P : Nat) (t : Loc) : LE := ⟨qn 245, ("page", .loc P) :: t⟩
noncomputable def k2 (a b : Str) : Option (Str × PV) -> Loc
 | none => []
 | some e => [(a, .str e.1), (b, e.2)]
noncomputable abbrev Ca5 (o : Option (Str × PV)) : LE := ⟨(LE.comp (JE 0 []) (lcN yn)).sc, k2 "key" "text" o⟩
noncomputable abbrev Cb5 (o : Option (Str × PV)) : LE := ⟨(LE.comp (JE 0 []) (lcN yY)).sc, k2 "key" "text" o⟩
noncomputable def n2 : Option (Nat × Str) -> Loc
 | none => []
 | some q => [("n", .int q.1), ("key", .str q.2)]
noncomputable abbrev Cd5 (P K : Nat) (o : Option (Nat × Str)) : LE := ⟨(LE.comp (JE 0 [("odd", .loc 0), ("keys", .loc 0)]) (lcN xY)).sc, ("page", .loc P) :: ("keys", .loc K) :: n2 o⟩
noncomputable abbrev Cc5 (k : Str) (o : Option (Str × PV)) : LE := ⟨(LE.comp (Cd5 0 0 none) (lcN yo)).sc, ("key", .str k) :: k2 "one" "text" o⟩
theorem ME {o : Option (Str × PV)} : qt (Ca5 o) (qu yn) (qB e) = some (Ca5 (some e)) := by cases o <;> kernel_rfl
theorem MS {o : Option (Str × PV)} : qt (Cb5 o) (qu yY) (qB e) = some (Cb5 (some e)) := by cases o <;> kernel_rfl
theorem NH {o : Option (Str × PV)} : qt (Cc5 k o) (qu yo) (qB e) = some (Cc5 k (some e)) := by cases o <;> kernel_rfl
theorem Nj {o : Option (Nat × Str)} : qt (Cd5 P K o) (qu xY) (.tup [.int i, .str k]) = some (Cd5 P K (some (i, k))) := by cases o <;> kernel_rfl
theorem N9 : (evN ftT (n + 8)).ev (Ca5 (some e)) (lcE yn) μ = some (.ok e.2, μ) := by
 exact y5 [] (by kernel_rfl)
theorem OE (h : TOK e.2) : zY (evN ftT (n + 8)) (Ca5 (some e)) (qD yn) μ = some (.ok (YI e.2), μ) := by
 obtain ⟨x, p⟩ := e
 rcases h with h | h | ⟨s, h, hs⟩
 ·rw [show p = .none from h]
  exact Qw [] (by kernel_rfl)
 ·rw [show p = .int 0 from h]
  exact Qw [] (by kernel_rfl)
 ·rw [show p = .str s from h]
  exact Qw [.d, .d, fV (Ql (μ := μ) (b := 0) hs)] (by kernel_rfl)
theorem MP : (evN ftT (n + 8)).ev (Cb5 (some e)) (lcE yY) μ = some (.ok (.str e.1), μ) := by
 exact y5 [] (by kernel_rfl)
theorem NC : (evN ftT (n + 8)).ev (Cc5 k (some e)) (lcE yo) μ = some (.ok e.2, μ) := by
 exact y5 [] (by kernel_rfl)
theorem On (h : Pz e.1 = true) (hk : Pz k = true) : zY (evN ftT (n + 8)) (Cc5 k (some e)) (qD yo) μ = some (.ok (e.1 == k), μ) := by
 have q := yN (μ := μ) h hk rfl
 exact Qw [fV (q), fT (jA (t := RN e == k) (μ := μ))] (by kernel_rfl)
end
section
variable {n P K O m i : Nat} {k : Str} {v : PV} {μ ν J : q4} {es page : Loc} {l : List Str} {ps : List PV} {t : Bool} {e : Str × PV} {tl : Loc}
theorem L8 (hm : q5 μ m = some (es.map qB)) (hr : es.length <= Pr) (hE : ∀ e ∈ es, EOK e) :
 qG (evN ftT (n + 8)) (LE.comp (JE P []) (lcN yn)) (lcE yn) (qu yn) (qD yn) (.list m, es.length + 1) μ = some (.ok (.loc μ.length), μ ++ [.list (z0 es)]) := by
 have q := qV (r := evN ftT (n + 8)) (target := qu yn) (elt := lcE yn) (ifs := qD yn) (μ := μ) (f := fun e : Str × PV => e.2) (g := fun e => YI e.2) (Inv := fun σ => ∃ o, σ = Ca5 o) qB (qF hm)
  (fun σ e ⟨o, ho⟩ hk => ⟨_, ho ▸ ME, ⟨_, rfl⟩, OE (hE e hk).2, fun zz => N9⟩) (es.length + 1) 0 (LE.comp (JE P []) (lcN yn)) ⟨none, by kernel_rfl⟩ rfl (Rj _)
 refine (qA q ?_).trans ?_
 ·rw [PH]; exact Pq (RY _ _) hr
 ·unfold z0; rw [bP]; rfl
theorem Ls (hm : q5 μ m = some (es.map qB)) (hr : es.length <= Pr) :
 qG (evN ftT (n + 8)) (LE.comp (JE P [("odd", .loc O)]) (lcN yY)) (lcE yY) (qu yY) (qD yY) (.list m, es.length + 1) μ = some (.ok (.loc μ.length), μ ++ [ls (es.map (·.1))]) := by
 have q := qV (r := evN ftT (n + 8)) (target := qu yY) (elt := lcE yY) (ifs := qD yY) (μ := μ) (f := fun e : Str × PV => .str e.1) (g := fun zz => true) (Inv := fun σ => ∃ o, σ = Cb5 o) qB (qF hm)
  (fun σ e ⟨o, ho⟩ hk => ⟨_, ho ▸ MS, ⟨_, rfl⟩, by kernel_rfl, fun zz => MP⟩) (es.length + 1) 0 (LE.comp (JE P [("odd", .loc O)]) (lcN yY)) ⟨none, by kernel_rfl⟩ rfl (Rj _)
 rw [zB] at q
 refine (qA q ?_).trans ?_
 ·rw [PH]; exact hr
 ·unfold ls; rw [Su]; rfl
theorem M7 (hm : q5 μ m = some (es.map qB)) (hr : es.length <= Pr) (hE : ∀ e ∈ es, EOK e) (hk : Pz k = true) :
 qG (evN ftT (n + 8)) (LE.comp (Cd5 P K (some (i, k))) (lcN yo)) (lcE yo) (qu yo) (qD yo) (.list m, es.length + 1) μ = some (.ok (.loc μ.length), μ ++ [.list (vP es k)]) := by
 have q := qV (r := evN ftT (n + 8)) (target := qu yo) (elt := lcE yo) (ifs := qD yo) (μ := μ) (f := fun e : Str × PV => e.2) (g := fun e => e.1 == k) (Inv := fun σ => ∃ o, σ = Cc5 k o) qB (qF hm)
  (fun σ e ⟨o, ho⟩ he => ⟨_, ho ▸ NH, ⟨_, rfl⟩, On (hE e he).1 hk, fun zz => NC⟩) (es.length + 1) 0 (LE.comp (Cd5 P K (some (i, k))) (lcN yo)) ⟨none, by kernel_rfl⟩ rfl (Rj _)
 refine (qA q ?_).trans ?_
 ·rw [PH]; exact Pq (RY _ _) hr
 ·rfl
theorem Q2 (hi : i < page.length) : kAt page i = page[i].1 := by
 unfold kAt
 rw [S7, SV, PW hi]; rfl
theorem QQ (hi : i < page.length) : (vP page (kAt page i)).getLast? = some ((vP page (kAt page i)).getLast?.getD .none) := by
 have hm : page[i].2 ∈ vP page (kAt page i) := Ri.mpr ⟨page[i], RM.mpr ⟨Rx hi, by rw [Q2 hi]; exact beq_self_eq_true _⟩, rfl⟩
 induction h : (vP page (kAt page i)).getLast? with
 | none => rw [List.getLast?_eq_none_iff.mp h] at hm; exact nomatch hm
 | some v => rfl
theorem D3 (hK : q5 μ K = some ((page.map (·.1)).map .str)) (i : Nat) (J : q4) : xq (.enum K) i (μ ++ J) = some (((UM page.length)[i]?).map fun i => .tup [.int i, .str (kAt page i)]) := by
 show (q5 (μ ++ J) K).map _ = _
 rw [qc hK]
 show some ((((page.map (·.1)).map PV.str)[i]?).map _) = _
 by_cases hi : i < page.length
 ·rw [SV, SV, PW hi, List.getElem?_range hi]
  show some (some (PV.tup [.int i, .str page[i].1])) = _
  rw [<- Q2 hi]; rfl
 ·rw [RC (by rw [PH, PH]; exact A8 hi), RC (by rw [Ue]; exact A8 hi)]; rfl
theorem Do (hE : ∀ e ∈ page, EOK e) : ∀ y ∈ (page.map (·.1)).take i, Pz y = true := fun y hy => by
 obtain ⟨e, he, rfl⟩ := Ri.mp (List.mem_of_mem_take hy)
 exact (hE e he).1
theorem OF (hK : q5 μ K = some ((page.map (·.1)).map .str)) (hr : page.length <= 100000) (hi : i < page.length) (hE : ∀ e ∈ page, EOK e) :
 zY (evN ftT (n + 20)) (Cd5 P K (some (i, kAt page i))) (qD xY) μ = some (.ok (gAt page i), μ ++ [ls ((page.map (·.1)).take i)]) := by
 have h1 := Kw (i := i) hK (by rw [PH]; exact hr) (by rw [PH]; exact Tf hi)
 have h2 := FL (μ := μ ++ [ls ((page.map (·.1)).take i)]) (m := μ.length) (k := kAt page i) q6 (Do hE) (by rw [Q2 hi]; exact (hE _ (Rx hi)).1)
 exact Qw [fV (h1), fV (h2), fT (jA (t := !List.contains (cq i (Rm (fun x => RN x) page)) (kAt page i)) (μ := μ ++ [ls (cq i (Rm (fun x => RN x) page))]))] (by kernel_rfl)
theorem Nu (hP : q5 μ P = some (page.map qB)) (hr : page.length <= Pr) (hi : i < page.length) (hE : ∀ e ∈ page, EOK e) :
 (evN ftT (n + 20)).ev (Cd5 P K (some (i, kAt page i))) (lcE xY) μ = some (.ok (qB (ku page i)), μ ++ [.list (vP page (kAt page i))]) := by
 have hc := fun n => M7 (n := n) (P := P) (K := K) (i := i) (k := kAt page i) hP hr hE (by rw [Q2 hi]; exact (hE _ (Rx hi)).1)
 have hs := qK hP
 rw [PH] at hs
 exact y5 [fR (hs), fV (hc (n + 9)), fV (Mc (μ := μ ++ [.list (vP page (kAt page i))]) q6 (QQ hi))] (by kernel_rfl)
theorem Ig (hK : q5 μ K = some ((page.map (·.1)).map .str)) (hP : q5 μ P = some (page.map qB)) (hr : page.length <= 1000) (hE : ∀ e ∈ page, EOK e) :
 ∃ J, qG (evN ftT (n + 20)) (LE.comp (JE P [("odd", .loc O), ("keys", .loc K)]) (lcN xY)) (lcE xY) (qu xY) (qD xY) (.enum K, page.length + 1) μ = some (.ok (.loc (μ ++ J).length), μ ++ J ++ [pl (qJ page)]) := by
 have hr2 : page.length <= Pr := Pq hr (by decide)
 obtain ⟨J, q⟩ := Kc (r := evN ftT (n + 20)) (target := qu xY) (elt := lcE xY) (ifs := qD xY) (μ := μ) (f := fun i => qB (ku page i)) (g := gAt page) (Inv := fun σ => ∃ o, σ = Cd5 P K o) (fun i => .tup [.int i, .str (kAt page i)]) (D3 hK)
  (fun σ i J ⟨o, ho⟩ hi => ⟨_, [ls ((page.map (·.1)).take i)], ho ▸ Nj, ⟨_, rfl⟩, by rw [<- PF]; exact OF (qc hK) (Pq hr (by decide)) (Uf.mp hi) hE, fun zz => ⟨[.list (vP page (kAt page i))], by rw [<- PF μ (J ++ _)]; exact Nu (qc hP) hr2 (Uf.mp hi) hE⟩⟩)
  ((UM page.length).length + 1) 0 (LE.comp (JE P [("odd", .loc O), ("keys", .loc K)]) (lcN xY)) [] ⟨none, by kernel_rfl⟩ rfl (Rj _)
 rw [PQ, U2, Ue] at q
 refine ⟨J, (qA q ?_).trans ?_⟩
 ·rw [PH]; exact Pq (RY _ _) (by rw [Ad, Ue]; exact hr2)
 ·unfold pl qJ; rw [Su]; rfl
theorem WH (hE : ∀ e ∈ page, EOK e) : ∀ p ∈ z0 page, TOK p := fun p hp => by
 obtain ⟨e, he, rfl⟩ := Ri.mp (RM.mp hp).1
 exact (hE e he).2
structure P5 (n P : Nat) (μ : q4) (page : Loc) (J : q4) (v : PV) : Prop where
 e : (evN ftT (n + 60)).call 245 [.loc P] [] μ = some (.ok v, μ ++ J)
 n : z0 page = [] -> ∃ a, v = .loc a /\ q5 (μ ++ J) a = some ((qJ page).map qB)
 c : ∀ p l, z0 page = p :: l -> v = p
theorem DV (hP : q5 μ P = some (page.map qB)) (hr : page.length <= 1000) (hE : ∀ e ∈ page, EOK e) : ∃ J v, P5 n P μ page J v := by
 have hr2 : page.length <= Pr := Pq hr (by decide)
 have ca := fun n => L8 (n := n) (P := P) hP hr2 hE
 have hP1 : q5 (μ ++ [.list (z0 page)]) P = some (page.map qB) := qc hP
 have cb := fun n => Ls (n := n) (P := P) (O := μ.length) hP1 hr2
 have hK : q5 (μ ++ [.list (z0 page)] ++ [ls (page.map (·.1))]) (μ ++ [q8.list (z0 page)]).length = some ((page.map (·.1)).map .str) := q6
 obtain ⟨J, cd⟩ := Ig (n := n + 37) (O := μ.length) hK (qc hP1) hr hE
 have hs := qK hP
 have hs1 := qK hP1
 rw [PH] at hs hs1
 have hO : q5 (μ ++ [.list (z0 page)] ++ [ls (page.map (·.1))] ++ J ++ [pl (qJ page)]) μ.length = some (z0 page) := qc (qc (qc q6))
 have hlK : q5 (μ ++ [.list (z0 page)] ++ [ls (page.map (·.1))]) (μ ++ [q8.list (z0 page)]).length = some ((page.map (·.1)).map PV.str) := hK
 have e : μ ++ [q8.list (z0 page)] ++ [ls (page.map (·.1))] ++ J ++ [pl (qJ page)] ++ [.list []] = μ ++ ([q8.list (z0 page)] ++ [ls (page.map (·.1))] ++ J ++ [pl (qJ page)] ++ [.list []]) := by
  rw [PF, PF, PF, PF, PF, PF, PF]
 have hm : ((page.map (·.1)).map PV.str).length = page.length := by rw [PH, PH]
 refine ⟨[q8.list (z0 page)] ++ [ls (page.map (·.1))] ++ J ++ [pl (qJ page)] ++ [.list []], ?_⟩
 rw [<- hm] at cd
 induction ho : z0 page using PC with
 | nil =>
   rw [ho] at ca cb cd hs1 hK hO e
   refine ⟨.loc (μ ++ [q8.list []] ++ [ls (page.map (·.1))] ++ J).length, ?_, fun zz => ⟨_, rfl, (by rw [<- e]; exact qc q6)⟩, (fun p l h => by rw [ho] at h; exact nomatch h)⟩
   rw [<- e]
   exact jv (n := n) (k := 59) [fR (hs), fV (ca (n + 49)), fR (hs1), fV (cb (n + 49)), fL (hK), fV (cd), .d, .d, fV (V2 (t := true) hO (fun zz h => nomatch h) rfl)] (by kernel_rfl)
 | cons p l =>
   have hT := WH hE
   rw [ho] at ca cb cd hs1 hK hO e hT
   refine ⟨p, ?_, (fun h => by rw [ho] at h; exact nomatch h), (fun p' l' h => by rw [ho] at h; injection h)⟩
   rw [<- e]
   exact jv (n := n) (k := 59) [fR (hs), fV (ca (n + 49)), fR (hs1), fV (cb (n + 49)), fL (hK), fV (cd), .d, .d, fV (V2 (t := false) hO hT rfl), fV (v7 (qc (J := [.list []]) hO))] (by kernel_rfl)
end
noncomputable def Jo (x : Exn) : PV := if x.cls = "ValueError" then .none else .int 0
noncomputable def dOf (page : Loc) : U9 := match z0 page with
 | [] => .list ((qJ page).map wO)
 | p :: _ => zh p
structure Zr (ν : q4) (page : Loc) (v : PV) : Prop where
 n : z0 page = [] -> ∃ a, v = .loc a /\ q5 ν a = some ((qJ page).map qB)
 c : ∀ p l, z0 page = p :: l -> v = p
structure ZJ (rows : Ps) (page : Loc) (nm : Str) : Prop where
 an : nm = AB \/ nm = XM
 lo : Pt nm = nm
 up : Pt (Tk nm) = nm
 ul : (Tk nm).length <= Pr
 k1 : Zl rows (Tk nm)
 k2 : Zl rows nm
 rd : (qz (q7 rows nm)).map ent = page
 eo : ∀ e ∈ page, EOK e
 pl : page.length <= 1000
 wn : z0 page = [] -> kq (qz (q7 rows nm)) [] = .ok (qJ page)
 wc : ∀ p l, z0 page = p :: l -> ∃ x, kq (qz (q7 rows nm)) [] = .error x /\ Jo x = p
 lk : ∀ e ∈ qJ page, e.1.length <= 1000
 le : ∀ e ∈ qJ page, EOK e
 inn : (first rows nm).isSome = !page.isEmpty
section
variable {n T d H D N N2 P S m : Nat} {nm k : Str} {a b v p : PV} {μ μ0 ν J : q4} {es page pa pb : Loc} {rows : Ps} {zs : ZL} {x y : U9} {c : Bool} {items : List Str}
theorem QS (h : TOK p) : Sn (zh p) (zh p) = true := h.elim (C := fun p => Sn (zh p) (zh p) = true) rfl rfl fun s zz => beq_self_eq_true s
theorem J7 (h : ∀ e ∈ es, EOK e) : Sn (.list (es.map wO)) (.list (es.map wO)) = true := by
 show TU (es.map wO) (es.map wO) = true
 induction es with
 | nil => rfl
 | cons e es ih =>
   show ((e.1 == e.1 && (Sn (zh e.2) (zh e.2) && true)) && TU (es.map wO) (es.map wO)) = true
   rw [beq_self_eq_true, QS (h e (.head _)).2, ih fun x hx => h x (.tail _ hx)]; rfl
theorem Mx (ha : jd μ a = some x) (hb : jd μ b = some x) (h : Sn x x = true) : qZ .NotEq a b μ = some (.ok (.bool false), μ) := by
 show (peq μ a b).map _ = _
 unfold peq
 rw [ha, PK, hb, Ay, h]; rfl
theorem Pm (ha : jd μ a = some x) (hb : jd μ b = some x) (h : Sn x x = true) : qZ .Eq a b μ = some (.ok (.bool true), μ) := by
 show (peq μ a b).map _ = _
 unfold peq
 rw [ha, PK, hb, Ay, h]; rfl
theorem Nb : qZ .NotEq (.bool c) (.bool c) μ = some (.ok (.bool false), μ) := by cases c <;> rfl
theorem W4 (h : TOK p) : jd μ p = some (zh p) := h.elim (C := fun p => jd μ p = some (zh p)) rfl rfl fun zz hs => zF hs
theorem fQ (t : Zr ν page v) (hE : ∀ e ∈ page, EOK e) (hL : ∀ e ∈ qJ page, EOK e) : jd ν v = some (dOf page) /\ Sn (dOf page) (dOf page) = true := by
 unfold dOf
 induction ho : z0 page using PC with
 | nil =>
   obtain ⟨a, e, h⟩ := t.n ho
   rw [e]; exact ⟨zA h hL, J7 hL⟩
 | cons p l =>
   have hp := WH hE p (by rw [ho]; exact .head _)
   rw [t.c p l ho]; exact ⟨W4 hp, QS hp⟩
theorem Zr.app (t : Zr ν page v) : Zr (ν ++ J) page v := ⟨fun h => (t.n h).elim fun a q => ⟨a, q.1, qc q.2⟩, t.c⟩
theorem KL (page : Loc) : (qJ page).length <= page.length := by
 unfold qJ
 rw [PH]
 exact Pq (RY _ _) (TA Ue)
theorem Pn (f : ZJ rows page nm) (hm : q5 μ m = some ((qz (q7 rows nm)).map .str)) (hit : ∀ s ∈ qz (q7 rows nm), zU s) (hlen : (qz (q7 rows nm)).length <= Pr) :
 ∃ K v, (evN ftT (n + 20)).call 208 [.loc m] [] μ = some (.ok v, μ ++ K) /\ Zr (μ ++ K) page v := by
 induction ho : z0 page using PC with
 | nil =>
   obtain ⟨J, h⟩ := Zm (n := n) hm hit hlen (f.wn ho) (PS.mpr fun e he => decide_eq_true (Pq (f.lk e he) (by decide))) (Pq (KL page) (Pq f.pl (by decide)))
   refine ⟨J ++ [.list (pairs (qJ page))], _, by rw [h, PF], fun zz => ⟨_, rfl, by rw [<- PF]; exact q6⟩, fun p l h => by rw [ho] at h; exact nomatch h⟩
 | cons p l =>
   obtain ⟨x, hx, hp⟩ := f.wc p l ho
   obtain ⟨J, h⟩ := Qb (n := n) hm hit hlen hx
   exact ⟨J, Jo x, h, (fun h => by rw [ho] at h; exact nomatch h), fun p' l' h => by rw [ho] at h; injection h with h; rw [hp, h]⟩
noncomputable def nmo : Option Str -> Loc
 | none => []
 | some x => [("name", .str x)]
noncomputable abbrev Qh (v : PV) (S T N D N2 : Nat) (o : Option Str) : LE := ⟨qn 250, ("script", v) :: ("steps", .loc S) :: ("table", .loc T) :: ("notes", .loc N) :: ("book", .loc D) :: ("due", .loc N2) :: nmo o⟩
noncomputable abbrev CG : List Sf := qR (qo 250).body
theorem GK (h : (Tk k).length <= Pr) : j0 (.str k) "upper" [] μ = some (.ok (.str (Tk k)), μ) := j1 h
theorem E0 (hm : q5 μ m = some (page.map qB)) (h : ∀ e ∈ page, EOK e) : qZ .NotEq (.loc m) (.loc μ.length) (μ ++ [.list []]) = some (.ok (.bool (!page.isEmpty)), μ ++ [.list []]) := by
 have e : jd (μ ++ [.list []]) (.loc μ.length) = some (.list []) := ja (l := []) q6 (fun zz q => nomatch q)
 show (peq _ _ _).map _ = _
 unfold peq
 rw [zA (qc hm) h, e]
 cases page <;> rfl
theorem Ws {z : PV} (t : Tab μ T d H rows) (di : zM μ0 μ D N2 pa pb zs) (hpg : qw pa pb nm = page) (f : ZJ rows page nm) :
 ∃ J, (evN ftT (n + 120)).ex (Qh z S T N D N2 (some nm)) CG μ = some (.ok .next, Qh z S T N D N2 (some nm), μ ++ J) := by
 have hul := GK (μ := μ) f.ul
 obtain ⟨J1, h215⟩ := Vn (n := n + 58) t f.k1
 have e1 : told rows (Tk nm) = page := by unfold told; rw [f.up]; exact f.rd
 rw [e1] at h215
 have c1 : q5 (μ ++ pl page :: J1) μ.length = some (page.map qB) := vQ
 have d1 : zM μ0 (μ ++ pl page :: J1) D N2 pa pb zs := di.app
 have t1 := t.app (J := pl page :: J1)
 generalize hA : μ ++ pl page :: J1 = A at *
 obtain ⟨P, p1⟩ := d1.pg f.an
 rw [hpg] at p1
 have q1 := Mx (zA c1 f.eo) (zA p1.l f.eo) (J7 f.eo)
 obtain ⟨J2, h201⟩ := WV (n := n + 77) t1 f.k2.n (Pq f.k2.hr (by decide)) f.k2.k f.k2.r
 have k2o := f.k2.hio
 have k2n := f.k2.hin
 rw [f.lo] at h201 k2o k2n
 have c2 : q5 (A ++ J2 ++ [ls (qz (q7 rows nm))]) (A ++ J2).length = some ((qz (q7 rows nm)).map .str) := q6
 obtain ⟨K, v1, h208, tl1⟩ := Pn (n := n + 98) f c2 (fun s hs => (k2o s hs).ok) (Pq k2n (by decide))
 have d2 : zM μ0 (A ++ J2 ++ [ls (qz (q7 rows nm))] ++ K) D N2 pa pb zs := d1.app.app.app
 have t2 := ((t1.app (J := J2)).app (J := [ls (qz (q7 rows nm))])).app (J := K)
 have eB : ∃ X, A ++ J2 ++ [ls (qz (q7 rows nm))] ++ K = μ ++ X := ⟨pl page :: J1 ++ (J2 ++ ([ls (qz (q7 rows nm))] ++ K)), by rw [<- hA, PF, PF, PF]⟩
 generalize A ++ J2 ++ [ls (qz (q7 rows nm))] = A2 at *
 generalize A2 ++ K = B at *
 obtain ⟨X, eB⟩ := eB
 obtain ⟨P2, p2⟩ := d2.pg f.an
 rw [hpg] at p2
 obtain ⟨J4, v2, r⟩ := DV (n := n + 58) p2.l f.pl f.eo
 have h245 := r.e
 have g1 := fQ (tl1.app (J := J4)) f.eo f.le
 have g2 := fQ (v := v2) (ν := B ++ J4) ⟨r.n, r.c⟩ f.eo f.le
 have q2 := Mx g1.1 g2.1 g1.2
 have t3 := t2.app (J := J4)
 obtain ⟨P3, p3⟩ := (d2.app (J := J4)).pg f.an
 rw [hpg] at p3
 have h121 := fun n => Cx (n := n) t3 f.k2.n f.k2.k
 rw [f.lo, f.inn] at h121
 have q3 := E0 p3.l f.eo
 refine ⟨X ++ (J4 ++ [.list []]), ?_⟩
 rw [<- PF μ, <- eB, <- PF]
 exact qm [fV (hul), fV (h215), fV (p1.i), fV (q1), fT (jA (t := false) (μ := A)), fV (h201), fV (h208), fV (p2.i), fV (h245), fV (q2), fT (jA (t := false) (μ := B ++ J4)), fI (t3.i), fV (h121 (n + 92)), fT (jA (t := !List.isEmpty page) (μ := B ++ J4)), fV (p3.i), .d, fV (q3), fV (Nb (c := !page.isEmpty) (μ := B ++ J4 ++ [.list []])), fT (jA (t := false) (μ := B ++ J4 ++ [q8.list []]))] (by kernel_rfl)
end
noncomputable def SIX : List Int := [8400, 7021, 77033, 3690, 8, 27]
noncomputable def km (i : Int) : Nat := (bX i 115200).toNat
noncomputable def je (xs : List Int) : List St := (SIX ++ xs.take 5).map fun i => yg (km i)
noncomputable def nd : jE -> U9
 | .no => .none
 | .yes b => .bool b
 | .ctl => .str CTL
 | .lst l => .list (l.map .bool)
section
variable {n T d H D N N2 P S m a : Nat} {nm k : Str} {v p : PV} {μ μ0 ν J : q4} {pa pb : Loc} {rows : Ps} {zs : ZL} {is xs : List Int} {i : Int} {bs : List Bool} {x : jE} {ns : List jE} {tl : Loc}
theorem IR : kZ .Mod (.int i) (.int 115200) μ = some (.ok (.int (km i : Nat)), μ) := by
 show some (Rs (PV.int (bX i 115200)), μ) = _
 unfold km
 rw [Ux (Int.fmod_nonneg_of_pos i (by decide))]
noncomputable abbrev YU : Expr := sE (qo 250).body 0 0 []
noncomputable abbrev Dl (o : Option PV) : LE := ⟨(LE.comp ⟨qn 250, []⟩ (lcN YU)).sc, Qx "x" o⟩
theorem DE {o : Option PV} {v : PV} : qt (Dl o) (qu YU) v = some (Dl (some v)) := by cases o <;> kernel_rfl
theorem M2 : ∃ J, (evN ftT (n + 60)).ev (Dl (some (.int i))) (lcE YU) μ = some (.ok (yg (km i)).pv, μ ++ J) := by
 obtain ⟨J, h⟩ := CU (n := n + 19) (x := km i) (μ := μ)
 refine ⟨J, ?_⟩
 exact y5 [fV (IR (μ := μ) (i := i)), fV (h)] (by kernel_rfl)
theorem C1 (hm : q5 μ m = some (is.map .int)) (hr : is.length <= Pr) :
 ∃ J, qG (evN ftT (n + 60)) (LE.comp ⟨qn 250, [("script", v)]⟩ (lcN YU)) (lcE YU) (qu YU) (qD YU) (.list m, is.length + 1) μ = some (.ok (.loc (μ ++ J).length), μ ++ J ++ [.list (is.map fun i => (yg (km i)).pv)]) :=
 yf (Inv := fun σ => ∃ o, σ = Dl o) (by kernel_rfl) PV.int (vz hm) (fun σ i J ⟨o, ho⟩ zz => by
  obtain ⟨J', h⟩ := M2 (n := n) (i := i) (μ := μ ++ J)
  exact ⟨_, J', ho ▸ DE, ⟨_, rfl⟩, by rw [<- PF μ]; exact h⟩) ⟨none, by kernel_rfl⟩ hr
theorem BI : jk (jK μ 6) (bs.map .bool) = some (bs.map .bool) /\ RD (bs.map .bool) = true /\ Rz (bs.map .bool) = 0 /\ TU (bs.map .bool) (bs.map .bool) = true := by
 induction bs with
 | nil => exact ⟨rfl, rfl, rfl, rfl⟩
 | cons b bs ih =>
   refine ⟨show (jk (jK μ 6) (bs.map .bool)).map _ = _ by rw [ih.1]; rfl, ih.2.1, show max 0 (Rz (bs.map .bool)) = 0 by rw [ih.2.2.1]; rfl, show ((b == b) && TU (bs.map .bool) (bs.map .bool)) = true by rw [ih.2.2.2, beq_self_eq_true]; rfl⟩
theorem Cy (h : jX μ H N p x) : jK μ 7 p = some (nd x) /\ (nd x).canLay0 = true /\ (nd x).depth <= 1 /\ Sn (nd x) (nd x) = true := by
 induction x with
 | no => rw [show p = .none from h]; exact ⟨rfl, rfl, Rj _, rfl⟩
 | yes b => rw [show p = .bool b from h]; exact ⟨rfl, rfl, Rj _, beq_self_eq_true b⟩
 | ctl => rw [show p = .str CTL from h]; exact ⟨rfl, by decide +kernel, Rj _, beq_self_eq_true CTL⟩
 | lst l =>
   obtain ⟨a, e, _, _, hm⟩ := h
   have q := BI (μ := μ) (bs := l)
   rw [e]
   refine ⟨?_, q.2.1, show Rz (l.map .bool) + 1 <= 1 by rw [q.2.2.1]; exact PJ _, q.2.2.2⟩
   show (q5 μ a).bind _ = _
   rw [hm]
   show (jk (jK μ 6) (l.map .bool)).map _ = _
   rw [q.1]; rfl
theorem Xw (h : ∀ z ∈ zs, jX μ H N z.1 z.2) : jk (jK μ 7) (zs.map RN) = some ((zs.map Rh).map nd) /\ RD ((zs.map Rh).map nd) = true /\ Rz ((zs.map Rh).map nd) <= 1 /\ TU ((zs.map Rh).map nd) ((zs.map Rh).map nd) = true := by
 induction zs with
 | nil => exact ⟨rfl, rfl, Rj _, rfl⟩
 | cons z zs ih =>
   have q := ih fun y hy => h y (.tail _ hy)
   have p := Cy (h z (.head _))
   refine ⟨show (jK μ 7 z.1).bind (fun d => (jk (jK μ 7) (zs.map RN)).map fun ds => d :: ds) = _ by rw [p.1, q.1]; rfl, show ((nd z.2).canLay0 && RD ((zs.map Rh).map nd)) = true by rw [p.2.1, q.2.1]; rfl, show max (nd z.2).depth (Rz ((zs.map Rh).map nd)) <= 1 from Nat.max_le.mpr ⟨p.2.2.1, q.2.2.1⟩, show (Sn (nd z.2) (nd z.2) && TU ((zs.map Rh).map nd) ((zs.map Rh).map nd)) = true by rw [p.2.2.2, q.2.2.2]; rfl⟩
theorem kC (hm : q5 μ a = some (zs.map RN)) (h : ∀ z ∈ zs, jX μ H N z.1 z.2) : jd μ (.loc a) = some (.list ((zs.map Rh).map nd)) := by
 show (((q5 μ a).bind fun l => (jk (jK μ 7) l).map SU).bind _) = _
 rw [hm]
 show (((jk (jK μ 7) (zs.map RN)).map SU).bind _) = _
 have q := Xw h
 rw [q.1]
 refine if_pos ?_
 show (RD ((zs.map Rh).map nd) && decide (Rz ((zs.map Rh).map nd) + 1 <= 64)) = true
 rw [q.2.1, decide_eq_true (Pq (Rb q.2.2.1) (by decide))]; rfl
theorem B2 {o : Option Str} : qt (Qh v S T N D N2 o) (xO (qo 250).body) (.str nm) = some (Qh v S T N D N2 (some nm)) := by cases o <;> kernel_rfl
theorem QF {r : Ev} {src : Src} {t : Expr} {b : List Sf} {k i : Nat} {σ σ' σ₁ : LE} {μ μ₁ : q4} {v : PV} (h1 : xq src i μ = some (some v)) (h2 : qt σ t v = some σ') (h3 : r.ex σ' b μ = some (.ok .next, σ₁, μ₁)) : zJ r src t b (k + 1) i σ μ = zJ r src t b k (i + 1) σ₁ μ₁ := by
 conv => lhs; unfold zJ
 rw [h1]
 show (qt σ t v).bind _ = _
 rw [h2]
 dsimp only [PK]
 rw [h3]
noncomputable abbrev NL : q8 := .list [.str AB, .str XM]
theorem DF {J1 J2 : q4} (h1 : (evN ftT (n + 120)).ex (Qh v S T N D N2 (some AB)) CG (ν ++ [NL]) = some (.ok .next, Qh v S T N D N2 (some AB), ν ++ [NL] ++ J1)) (h2 : (evN ftT (n + 120)).ex (Qh v S T N D N2 (some XM)) CG (ν ++ [NL] ++ J1) = some (.ok .next, Qh v S T N D N2 (some XM), ν ++ [NL] ++ J1 ++ J2)) :
 zJ (evN ftT (n + 120)) (.list ν.length) (xO (qo 250).body) CG 3 0 (Qh v S T N D N2 none) (ν ++ [NL]) = some (.ok .next, Qh v S T N D N2 (some XM), ν ++ [NL] ++ J1 ++ J2) := by
 have p0 : q5 (ν ++ [NL]) ν.length = some [.str AB, .str XM] := q6
 have p1 := qc (J := J1) p0
 have p2 := qc (J := J2) p1
 have g : ∀ {μ : q4} {i : Nat} {nm : Str}, q5 μ ν.length = some [.str AB, .str XM] -> ([PV.str AB, .str XM] : List PV)[i]? = some (.str nm) -> xq (.list ν.length) i μ = some (some (.str nm)) := fun h hi => by
  show (q5 _ ν.length).map _ = _
  rw [h]; exact congrArg some hi
 rw [QF (g p0 rfl) B2 h1, QF (g p1 rfl) B2 h2]
 unfold zJ
 show ((q5 _ ν.length).map _).bind _ = _
 rw [p2]; rfl
theorem BD (hl : xs.length <= 1000) : wM (.il xs) none (some (.int 5)) ν = some (.ok (.loc ν.length), ν ++ [.list ((xs.take 5).map .int)]) := by
 show (if xs.length <= Pr then jp (gx (xs.map .int) none (some 5)) ν else none) = _
 rw [if_pos (Pq hl (by decide)), Zd (h := min 5 xs.length) (by rw [if_neg (by decide), PH]; rfl) (by rw [PH]; exact bE ..), <- List.map_take, <- List.take_eq_take_min]
 exact jh (by rw [PH, T8]; exact Pq (TY ..) (by decide))
theorem DP (hl : xs.length <= 63) {GP : Nat -> Ps -> List jE -> Prop} {GD : Nat -> Loc -> Loc -> List jE -> Prop} (hP0 : GP 0 [] []) (hD0 : GD 0 [] [] [])
 (hP : ∀ P i (hi : i < (je xs).length) μ0 μ1 T d H N rows zs, GP i rows (zs.map Rh) -> xg μ0 μ1 T d H N rows zs -> ∃ rows' ns', wv (n + 17) P μ0 μ1 T N (je xs)[i] rows' ns' /\ GP (i + 1) rows' ns')
 (hD : gg (je xs) GD)
 (hF : ∀ rows ns pa pb ns', GP (je xs).length rows ns -> GD (je xs).length pa pb ns' -> ns = ns' /\ ZJ rows (qw pa pb AB) AB /\ ZJ rows (qw pa pb XM) XM) :
 ∃ μ', (evN ftT (n + 122)).call 250 [.il xs] [] μ = some (.ok (.bool true), μ') := by
 have hsl := BD (ν := μ ++ [.list (SIX.map .int)]) (xs := xs) (Pq hl (by decide))
 have ht : (xs.take 5).length <= 5 := by rw [T8]; exact TY ..
 have hi : (SIX ++ xs.take 5).length <= 11 := by rw [PB]; exact So ht 6
 have hadd := w8 (μ := μ ++ [.list (SIX.map .int)] ++ [.list ((xs.take 5).map .int)]) (a := μ.length) (b := (μ ++ [q8.list (SIX.map PV.int)]).length) (qc q6) q6 (by rw [<- Rt, PH]; exact Pq hi (by decide))
 rw [<- Rt] at hadd
 have hmA : q5 (μ ++ [.list (SIX.map .int)] ++ [.list ((xs.take 5).map .int)] ++ [.list ((SIX ++ xs.take 5).map .int)]) (μ ++ [q8.list (SIX.map PV.int)] ++ [q8.list ((xs.take 5).map PV.int)]).length = some ((SIX ++ xs.take 5).map .int) := q6
 obtain ⟨J, hc⟩ := C1 (n := n + 59) (v := .il xs) hmA (Pq hi (by decide))
 have hs := qK hmA
 rw [PH] at hs
 have hst : ((SIX ++ xs.take 5).map fun i => (yg (km i)).pv) = (je xs).map St.pv := (Su (g := St.pv) (f := fun i => yg (km i)) (l := SIX ++ xs.take 5)).symm
 rw [hst] at hc
 generalize hA : μ ++ [q8.list (SIX.map PV.int)] ++ [q8.list ((xs.take 5).map PV.int)] ++ [q8.list ((SIX ++ xs.take 5).map PV.int)] = A at *
 have hSB : q5 (A ++ J ++ [.list ((je xs).map St.pv)]) (A ++ J).length = some ((je xs).map St.pv) := q6
 generalize A ++ J ++ [q8.list ((je xs).map St.pv)] = B at *
 generalize (A ++ J).length = S at *
 obtain ⟨ν1, T, d, H, N, rows, zs, c1, pi, gp⟩ := Cf (n := n + 17) hSB hP0 (fun i hi μ1 T d H N rows zs => hP S i hi B μ1 T d H N rows zs)
 obtain ⟨ν2, N2, pa, pb, zs2, c2, di, gd2⟩ := E9 (n := n + 17) (pi.ext.list hSB) hD0 hD
 obtain ⟨hns, f1, f2⟩ := hF rows _ pa pb _ gp gd2
 have t0 : Tab ν2 T d H rows := by
  obtain ⟨c, hc, _⟩ := bnd (show (ν1[T]?).bind xz = some d from pi.tab.i)
  exact ⟨(congrArg (·.bind xz) (di.ext.2 T (R0.mp hc).1)).trans pi.tab.i, kF pi.tab.d (di.ext.2 d (Vk pi.tab.d)), di.ext.list pi.tab.h⟩
 obtain ⟨J1, t1⟩ := Ws (n := n) (S := S) (N := N) (z := .il xs) (t0.app (J := [NL])) di.app rfl f1
 obtain ⟨J2, t2⟩ := Ws (n := n) (S := S) (N := N) (z := .il xs) ((t0.app (J := [NL])).app (J := J1)) (di.app (J := [NL])).app rfl f2
 have hfor := DF t1 t2
 have hsn := qK (μ := ν2 ++ [NL]) (m := ν2.length) (l := [.str AB, .str XM]) q6
 have dF := ((di.app (J := [NL])).app (J := J1)).app (J := J2)
 have e1 : jd (ν2 ++ [NL] ++ J1 ++ J2) (.loc N) = some (.list ((zs.map Rh).map nd)) := kC (H := H) (N := N) (dF.ext.list pi.nl) fun z hz => (pi.reps z hz).mono fun a l q h1 zz => ⟨h1, dF.ext.list q⟩
 have e2 : jd (ν2 ++ [NL] ++ J1 ++ J2) (.loc N2) = some (.list ((zs2.map Rh).map nd)) := kC dF.nl dF.reps
 have hq := Pm e1 (hns ▸ e2) (Xw (zs := zs) (μ := ν2 ++ [NL] ++ J1 ++ J2) (H := H) (N := N) fun z hz => (pi.reps z hz).mono fun a l q h1 zz => ⟨h1, dF.ext.list q⟩).2.2.2
 refine ⟨ν2 ++ [NL] ++ J1 ++ J2, ?_⟩
 exact jv (n := n) (k := 121) [.d, fV (hsl), fV (hadd), fR (hs), fV (hc), fV (c1), fV (c2), fR (hsn), fS (hfor), fV (hq)] (by kernel_rfl)
end
section
open Builtin Builtin.Str
noncomputable def yl (l : List Nat) : List Nat := (l.reverse.dropWhile Rp).reverse
noncomputable def stR (w : Str) : Str := ⟨(yl w.cps.toList).toArray⟩
theorem Cl (w : Str) : (stR w).cps.toList = yl w.cps.toList := by simp [stR]
theorem VD (l : List Nat) : (yl l).length <= l.length := by
 unfold yl
 rw [aC]
 have := (AG Rp (l := l.reverse)).length_le
 rw [aC] at this
 exact this
theorem YP {l : List Nat} {c : Nat} (h : c ∈ yl l) : c ∈ l := by
 unfold yl at h
 rw [TC] at h
 exact TC.mp ((AG Rp (l := l.reverse)).subset h)
set_option tactic.hygienic true in
theorem XR {a : List Nat} {c d : Nat} {m w : List Nat} (h1 : a = c :: m ++ [d]) (hc : Rp c = false) (hd : Rp d = false) : xF (a ++ w) = a ++ yl w := by
 unfold xF yl
 have e1 : (a ++ w).dropWhile Rp = a ++ w := by
  rw [h1]
  show ae _ (c :: _) = _
  rw [UN (by simp [hc])]
  rfl
 rw [e1, TP, AF]
 split
 ·rename_i hq
  rw [Rf] at hq
  rw [hq]
  rw [h1, TP]
  show (ae _ (d :: _)).reverse = _
  rw [UN (by simp [hd])]
  simp
 ·rw [TP, Up]
noncomputable def EQ : Str := Pv "="
theorem Q0 : EQ.cps.toList = 61 :: [] := by decide +kernel
theorem Wg : strKind EQ = 1 := by decide +kernel
theorem we (x : Str) : Pz x = true ↔ ∀ c ∈ x.cps.toList, c < 0x110000 := by
 unfold Pz
 rw [<- bA, PS]
 simp
theorem xb {a b : Str} (ha : Pz a = true) (hb : Pz b = true) : Pz (a ++ b) = true := by
 rw [we] at *
 intro c hc
 rw [qr, mem_append] at hc
 rcases hc with h | h
 ·exact ha c h
 ·exact hb c h
structure zc (r : Str) (e : Str × PV) : Prop where
 cl : qp r
 bt : ∃ s, jL r = [s] /\ (s == Pv "") = false /\ IOK s /\ Pz s = true /\ ent s = e
 ch : ∀ c ∈ r.cps.toList, okC c = true
 ln : r.length <= 60
structure Ly (k : Str) : Prop where
 hd : ∃ c m, k.cps.toList = c :: m /\ Rp c = false
 pl : k.cps.toList.all zn = true
 ne : 61 ∉ k.cps.toList
 ch : ∀ c ∈ k.cps.toList, okC c = true
 ln : k.length <= 10
theorem JI {c : Nat} (h : okC c = true) : c < 0x110000 := by
 unfold okC at h
 simp only [Rl, decide_eq_true_eq] at h
 exact h.1
theorem OH {k v w : Str} {p : PV} (hk : Ly k) (hv : run v = ⟨[], w, false, false⟩) (hp : (if (stR w).length = 0 then PV.int 0 else .str (unq (stR w))) = p) (hT : TOK p) (hc : ∀ c ∈ v.cps.toList, okC c = true) (hw : ∀ c ∈ w.cps.toList, c < 0x110000) (hl : v.length <= 40) (hwl : w.length <= 40) : zc (k ++ (EQ ++ v)) (k, p) := by
 obtain ⟨c, m, hcm, hsp⟩ := hk.hd
 have hall : (k ++ EQ).cps.toList.all zn = true := by
  rw [qr, List.all_append, hk.pl, Q0]; decide
 have hcl : qp (k ++ EQ) := w9 hall
 have hclv : qp v := by unfold qp; rw [hv]; exact ⟨rfl, rfl⟩
 have hu : (stR w).cps.toList = yl w.cps.toList := Cl w
 have hul : (stR w).length <= 40 := by
  have h1 : (stR w).cps.toList.length = (stR w).length := by simp [Sa]
  have h2 : w.cps.toList.length = w.length := by simp [Sa]
  have h3 := VD w.cps.toList
  rw [hu] at h1
  lia
 have hstrip : RT ((k ++ EQ) ++ w) = k ++ (EQ ++ stR w) := by
  apply jU
  rw [xk, qr, XR (c := c) (m := m) (d := 61) (by rw [qr, hcm, Q0]) hsp (by decide +kernel), <- hu, qr, qr, qr, PF]
 have hbits : jL (k ++ (EQ ++ v)) = [k ++ (EQ ++ stR w)] := by
  unfold jL
  rw [<- qh, fU hall, hv]
  show [RT ((k ++ EQ) ++ w)] = _
  rw [hstrip]
 have hsps : sp (k ++ (EQ ++ stR w)) = [k, stR w] := QW Q0 Wg hk.ne
 have hent : ent (k ++ (EQ ++ stR w)) = (k, p) := by
  unfold ent
  rw [hsps, <- hp]
  rfl
 have huo : Pz (stR w) = true := by
  rw [we, hu]
  exact fun c hc => hw c (YP hc)
 have hko : Pz k = true := by
  rw [we]
  exact fun c hc => JI (hk.ch c hc)
 obtain ⟨t, ht⟩ := Gu (v := stR w) Q0 Wg hk.ne
 have hkl := hk.ln
 have hel : EQ.length = 1 := by decide +kernel
 have htl := (PyProof.Rows.split_le (k ++ (EQ ++ stR w)) EQ)
 rw [ht] at htl
 simp only [PL, SW] at htl
 refine ⟨by rw [<- qh]; exact xm hcl hclv, ⟨_, hbits, ?_, ⟨⟨by simp only [PL]; lia, .inr ⟨k, stR w, hsps, by lia, huo⟩⟩, by simp only [PL]; lia, ⟨t, by rw [hent]; exact ht, by lia⟩, by rw [hent]; show k.length <= _; lia, by rw [hent]; exact ⟨hko, hT⟩⟩, xb hko (xb (by decide +kernel) huo), hent⟩, ?_, by simp only [PL]; lia⟩
 ·rw [beq_eq_false_iff_ne]
  intro e
  have := congrArg Sa e
  simp only [PL] at this
  rw [hel, show (Pv "").length = 0 by decide +kernel] at this
  lia
 ·intro c hc'
  rw [qr, qr, mem_append, mem_append] at hc'
  rcases hc' with h | h | h
  ·exact hk.ch c h
  ·rw [Q0] at h
   rw [Pw.mp h]
   decide
  ·exact hc c h
theorem WA {r : Str} {e : Str × PV} (h : Dp r e = true) (hs : Pz (RT (run r).p) = true) : zc r e := by
 unfold Dp at h
 simp only [Rl, decide_eq_true_eq, S8, Rf] at h
 obtain ⟨⟨⟨⟨⟨h1, h2⟩, h3⟩, ⟨h4, h5⟩, h6, h7⟩, h8⟩, h9⟩ := h
 have hb : jL r = [RT (run r).p] := by
  unfold jL raw
  rw [h1]
  rfl
 refine ⟨⟨h2, h3⟩, ⟨_, hb, h4, Ew h5, hs, ?_⟩, PS.mp h8, h9⟩
 exact cu (eq_of_beq h6) (Vj h7)
end
noncomputable def QT : Str := Pv "\""
noncomputable def Ze (v : Str) (p : PV) : Bool := let s := run v
 s.l.isEmpty && !s.e && !s.q && v.cps.toList.all okC && s.p.cps.toList.all (fun c => decide (c < 0x110000)) && decide (v.length <= 40) && decide (s.p.length <= 40) && (let u := stR s.p; C5 (if u.length = 0 then .int 0 else .str (unq u)) p)
theorem gt {k v : Str} {p : PV} (hk : Ly k) (h : Ze v p = true) (hT : TOK p) : zc (k ++ (EQ ++ v)) (k, p) := by
 unfold Ze at h
 simp only [Rl, decide_eq_true_eq, S8, Rf, PS] at h
 obtain ⟨⟨⟨⟨⟨⟨⟨h1, h2⟩, h3⟩, h4⟩, h5⟩, h6⟩, h7⟩, h8⟩ := h
 refine OH (w := (run v).p) hk ?_ (Vj h8) hT h4 h5 h6 h7
 revert h1 h2 h3
 generalize run v = s
 obtain ⟨l, q, e, r⟩ := s
 simp only
 rintro rfl rfl rfl
 rfl
noncomputable def quo (x : Str) : Str := QT ++ (x ++ QT)
noncomputable def NG (t : Str) : Bool := let e := esc t
 decide (t.length <= 10) && Pz t && decide (e.length <= 100) && Pz e && (bad false t == !gd t) && (bad false e == !gd t) && (!gd t || t.length == 0 || Ze (quo e) (.str t))
noncomputable def N7 (t : Str) : Bool := ((t.cps.toList.any xy) == !(t.cps.toList.filter spc).isEmpty) && decide ((Sz t (Pv "\\") (Pv "\\\\")).length <= 100)
noncomputable def Ni (t : Str) : Bool := !gd t || ((t.length == 0 || t.cps.toList.any xy || Ze t (back t 0)) && Ze (quo (PU PE (bsl t))) (.str t))
theorem P8 : TXT.all NG = true := by decide +kernel
theorem P0 : TXT.all N7 = true := by decide +kernel
theorem OJ : TXT.all Ni = true := by decide +kernel
theorem OR : TXT.all (fun t => !gd t || (TXT.contains (rst t) && gd (rst t))) = true := by decide +kernel
theorem OD : RAW.all (fun t => Ze (if t.length = 0 then quo PE else t) (.str t)) = true := by decide +kernel
theorem NS : K6.all (fun k => Dp k (k, .none) && Dp (k ++ EQ) (k, .int 0) && Pz (RT (run k).p) && Pz (RT (run (k ++ EQ)).p)) = true := by decide +kernel
noncomputable def M9 (k : Str) : Bool := (match k.cps.toList with | c :: _ => !Rp c | [] => false) && k.cps.toList.all zn && !k.cps.toList.contains 61 && k.cps.toList.all okC && decide (k.length <= 10)
theorem P7 : K6.all M9 = true := by decide +kernel
set_option tactic.hygienic true in
theorem Yo {k : Str} (hk : k ∈ K6) : Ly k := by
 have h := PS.mp P7 k hk
 unfold M9 at h
 simp only [Rl, decide_eq_true_eq, S8] at h
 obtain ⟨⟨⟨⟨h1, h2⟩, h3⟩, h4⟩, h5⟩ := h
 refine ⟨?_, h2, ?_, PS.mp h4, h5⟩
 ·split at h1
  ·rename_i c m q
   exact ⟨c, m, q, by simpa using h1⟩
  ·cases h1
 ·intro hm
  rw [RR.mpr hm] at h3
  cases h3
theorem G6 {t : Str} (h : t ∈ RAW) : t ∈ TXT := Ra _ h
theorem Bu : ∀ s ∈ yq, s ∈ SG := by decide +kernel
theorem xV {l : List Str} {i : Nat} (h : i < l.length) : l.getD i PE ∈ l := by
 rw [S7, PW h]
 exact Rx h
set_option tactic.hygienic true in
theorem Kk (x : Nat) : vH x ∈ TXT /\ (x / 38400 % 3 = 2 -> vH x ∈ RAW) := by
 have b1 : x / 120 % 32 < yq.length := by rw [show yq.length = 32 by decide +kernel]; lia
 have b2 : x / 3840 % 10 < TL.length := by rw [show TL.length = 10 by decide +kernel]; lia
 have b3 : x / 120 % 32 % 3 < RAW.length := by rw [show RAW.length = 3 by decide +kernel]; lia
 unfold vH
 split
 ·rename_i h
  exact ⟨G6 (xV b3), fun zz => xV b3⟩
 ·rename_i h
  refine ⟨Ro _ ?_, fun q => absurd q h⟩
  rw [Ui]
  exact ⟨_, Bu _ (xV b1), Ri.mpr ⟨_, xV b2, rfl⟩⟩
def InT (p : PV) : Prop := p = .none \/ p = .int 0 \/ ∃ t ∈ TXT, gd t = true /\ p = .str t
def InE (e : Str × PV) : Prop := e.1 ∈ K6 /\ InT e.2
structure TxF (t : Str) : Prop where
 ln : t.length <= 10
 so : Pz t = true
 el : (esc t).length <= 100
 eo : Pz (esc t) = true
 bt : bad false t = !gd t
 be : bad false (esc t) = !gd t
 vq : gd t = true -> t.length ≠ 0 -> Ze (quo (esc t)) (.str t) = true
 sp : t.cps.toList.any xy = !(t.cps.toList.filter spc).isEmpty
 rl : (Sz t (Pv "\\") (Pv "\\\\")).length <= 100
 v0 : gd t = true -> t.length ≠ 0 -> t.cps.toList.any xy = false -> Ze t (back t 0) = true
 v3 : gd t = true -> Ze (quo (PU PE (bsl t))) (.str t) = true
 rs : gd t = true -> rst t ∈ TXT /\ gd (rst t) = true
theorem txF {t : Str} (ht : t ∈ TXT) : TxF t := by
 have h1 := PS.mp P8 t ht
 have h2 := PS.mp P0 t ht
 have h3 := PS.mp OJ t ht
 have h4 := PS.mp OR t ht
 unfold NG at h1
 unfold N7 at h2
 unfold Ni at h3
 simp only [Rl, decide_eq_true_eq, Tj, S8, beq_iff_eq, RR] at h1 h2 h3 h4
 obtain ⟨⟨⟨⟨⟨⟨a1, a2⟩, a3⟩, a4⟩, a5⟩, a6⟩, a7⟩ := h1
 obtain ⟨b1, b2⟩ := h2
 refine ⟨a1, a2, a3, a4, a5, a6, fun g n => ?_, b1, b2, fun g n s => ?_, fun g => ?_, fun g => ?_⟩
 ·rcases a7 with (h | h) | h
  ·rw [g] at h; cases h
  ·exact absurd h n
  ·exact h
 ·rcases h3 with h | ⟨(h | h) | h, _⟩
  ·rw [g] at h; cases h
  ·exact absurd h n
  ·rw [s] at h; cases h
  ·exact h
 ·rcases h3 with h | ⟨_, h⟩
  ·rw [g] at h; cases h
  ·exact h
 ·rcases h4 with h | h
  ·rw [g] at h; cases h
  ·exact h
theorem Wc {p : PV} (h : InT p) : TOK p := by
 rcases h with rfl | rfl | ⟨t, ht, _, rfl⟩
 ·exact .inl rfl
 ·exact .inr (.inl rfl)
 ·exact .inr (.inr ⟨t, rfl, (txF ht).so⟩)
theorem vB {t : Str} (ht : t ∈ TXT) (g : gd t = true) (q : Int) : InT (back t q) := by
 unfold back
 split
 ·exact .inr (.inr ⟨t, ht, g, rfl⟩)
 ·split
  ·exact .inl rfl
  ·split
   ·exact .inr (.inr ⟨t, ht, g, rfl⟩)
   ·split
    ·exact .inr (.inl rfl)
    ·exact .inr (.inr ⟨_, ((txF ht).rs g).1, ((txF ht).rs g).2, rfl⟩)
theorem Ht {p : PV} (h : InT p) (q : Int) : InT (bk p q) := by
 rcases h with rfl | rfl | ⟨t, ht, g, rfl⟩
 ·exact .inl rfl
 ·exact .inr (.inl rfl)
 ·exact vB ht g q
theorem eqq : Pv "=\"" = EQ ++ QT := by decide +kernel
theorem XI {k : Str} (hk : k ∈ K6) : zc k (k, .none) := by
 have h := PS.mp NS k hk
 simp only [Rl] at h
 exact WA h.1.1.1 h.1.2
theorem GS {k : Str} (hk : k ∈ K6) : zc (k ++ EQ) (k, .int 0) := by
 have h := PS.mp NS k hk
 simp only [Rl] at h
 exact WA h.1.1.2 h.2
theorem ge (k t : Str) : Xl k t = k ++ (EQ ++ quo (esc t)) := by
 unfold Xl quo
 rw [jP, eqq, qh, qh, qh]; rfl
theorem WB (k t : Str) : XV k t = k ++ (EQ ++ t) := by
 unfold XV
 rw [jP, qh]; rfl
noncomputable def tq (p : PV) (q : Int) : PV := if q = 2 \/ q = 3 then p else bk p q
theorem Oq {p : PV} {q : Int} (h : q = 2 \/ q = 3) : tq p q = p := if_pos h
theorem OT {q : Int} : tq .none q = .none := by unfold tq; split <;> rfl
theorem Pl {q : Int} : tq (.int 0) q = .int 0 := by unfold tq; split <;> rfl
theorem GE {k t : Str} {q : Int} (h2 : q ≠ 2) (h3 : q ≠ 3) : wr k (.str t) q = fmt k t q := (if_neg h2).trans (if_neg h3)
section
variable {k t : Str} {q : Int}
theorem VL (hk : k ∈ K6) (h0 : t.length = 0) (h2 : q ≠ 2) : zc (fmt k t q) (k, back t q) := by
 rw [show fmt k t q = k from if_pos h0, show back t q = .none from (if_neg h2).trans (if_pos h0)]
 exact XI hk
theorem Vh (hk : k ∈ K6) (ht : t ∈ TXT) (g : gd t = true) (h0 : t.length ≠ 0) (h2 : q ≠ 2) (hq : q = 1 \/ q = 0 /\ t.cps.toList.any xy = true) : zc (fmt k t q) (k, back t q) := by
 have f := txF ht
 have h1 : q = 1 \/ (t.cps.toList.filter spc).isEmpty = false := hq.imp_right fun h => by
  exact (S8 _).mp (f.sp.symm.trans h.2)
 rw [show fmt k t q = _ from (if_neg h0).trans (if_pos (hq.imp (fun h => by rw [h]; decide) (·.2))), show back t q = .str t from (if_neg h2).trans ((if_neg h0).trans (if_pos h1)), ge]
 exact gt (Yo hk) (f.vq g h0) (.inr (.inr ⟨t, rfl, f.so⟩))
theorem KH (hk : k ∈ K6) (ht : t ∈ TXT) (g : gd t = true) (h0 : t.length ≠ 0) (hs : t.cps.toList.any xy = false) : zc (fmt k t 0) (k, back t 0) := by
 rw [show fmt k t 0 = _ from (if_neg h0).trans (if_neg (fun h => h.elim (fun h => h rfl) (fun h => by rw [hs] at h; exact nomatch h))), WB]
 exact gt (Yo hk) ((txF ht).v0 g h0 hs) (Wc (vB ht g 0))
theorem gm (hk : k ∈ K6) (ht : t ∈ TXT) (g : gd t = true) (hq : q = 0 \/ q = 1) : zc (fmt k t q) (k, back t q) := by
 have h2 : q ≠ 2 := by rcases hq with rfl | rfl <;> decide
 by_cases h0 : t.length = 0
 ·exact VL hk h0 h2
 ·rcases hq with rfl | rfl
  ·induction hs : t.cps.toList.any xy with
   | true => exact Vh hk ht g h0 h2 (.inr ⟨rfl, hs⟩)
   | false => exact KH hk ht g h0 hs
  ·exact Vh hk ht g h0 h2 (.inl rfl)
theorem Mm (hk : k ∈ K6) (ht : t ∈ TXT) (g : gd t = true) : zc (wr k (.str t) 3) (k, .str t) := by
 have f := txF ht
 have e : wr k (.str t) 3 = k ++ (EQ ++ quo (PU PE (bsl t))) := by
  show k ++ Pv "=\"" ++ PU PE (bsl t) ++ Pv "\"" = _
  unfold quo
  rw [eqq, qh, qh, qh]; rfl
 rw [e]
 exact gt (Yo hk) (f.v3 g) (.inr (.inr ⟨t, rfl, f.so⟩))
theorem EW (hk : k ∈ K6) (ht : t ∈ RAW) : zc (wr k (.str t) 2) (k, .str t) := by
 have e : wr k (.str t) 2 = k ++ (EQ ++ (if t.length = 0 then quo PE else t)) := by
  show k ++ EQ ++ (if t.length = 0 then Pv "\"\"" else t) = _
  rw [qh, show quo PE = Pv "\"\"" by decide +kernel]
 rw [e]
 exact gt (Yo hk) (PS.mp OD t ht) (.inr (.inr ⟨t, rfl, (txF (G6 ht)).so⟩))
theorem LM {p : PV} (hk : k ∈ K6) (hp : InT p) (hq : q = 0 \/ q = 1 \/ q = 3 \/ (q = 2 /\ ∃ t ∈ RAW, p = .str t)) : zc (wr k p q) (k, tq p q) := by
 rcases hp with rfl | rfl | ⟨t, ht, g, rfl⟩
 ·rw [OT]
  exact XI hk
 ·rw [Pl]
  exact GS hk
 ·rcases hq with rfl | rfl | rfl | ⟨rfl, t', ht', e'⟩
  ·exact gm hk ht g (.inl rfl)
  ·exact gm hk ht g (.inr rfl)
  ·exact Mm hk ht g
  ·cases e'
   exact EW hk ht'
end
structure GR (r : Str) : Prop where
 cl : qp r
 ne : its r ≠ []
 io : ∀ s ∈ its r, IOK s /\ Pz s = true /\ InE (ent s)
 ch : ∀ c ∈ r.cps.toList, okC c = true
theorem zc.it {r : Str} {e : Str × PV} (h : zc r e) : ∃ s, jL r = [s] /\ its r = [s] /\ isE s = false /\ ent s = e := by
 obtain ⟨s, h1, h2, h3, h4, h5⟩ := h.bt
 refine ⟨s, h1, ?_, h2, h5⟩
 unfold its
 rw [h1, filter_cons, h2]
 rfl
theorem zc.gr {r : Str} {e : Str × PV} (h : zc r e) (he : InE e) : GR r := by
 obtain ⟨s, h1, h2, h3, h4⟩ := h.it
 obtain ⟨s', g1, g2, g3, g4, g5⟩ := h.bt
 have hs : s' = s := by rw [h1] at g1; exact (aK g1).1.symm
 subst hs
 refine ⟨h.cl, by rw [h2]; simp, fun x hx => ?_, h.ch⟩
 rw [h2] at hx
 rw [Pw.mp hx]
 exact ⟨g3, g4, by rw [g5]; exact he⟩
theorem gO {l : List Str} (hl : l ≠ []) (h : ∀ r ∈ l, qp r) : its (PU qM l) = l.flatMap its := by
 unfold its
 rw [vO hl h, aA]
theorem yU {sep : Str} {c : Nat} : ∀ {l : List Str}, c ∈ (PU sep l).cps.toList -> (∃ r ∈ l, c ∈ r.cps.toList) \/ c ∈ sep.cps.toList
 | [], h => by rw [gD] at h; cases h
 | [a], h => by rw [jB] at h; exact .inl ⟨a, .head _, h⟩
 | a :: b :: l, h => by
   rw [jC, qr, qr, mem_append, mem_append] at h
   rcases h with (h | h) | h
   ·exact .inl ⟨a, .head _, h⟩
   ·exact .inr h
   ·rcases yU h with ⟨r, hr, hc⟩ | h
    ·exact .inl ⟨r, .tail _ hr, hc⟩
    ·exact .inr h
theorem gX : ∀ c ∈ qM.cps.toList, okC c = true := by decide +kernel
theorem Dd : ∀ c ∈ xW.cps.toList, okC c = true := by decide +kernel
theorem Eb {l : List Str} (hl : l ≠ []) (h : ∀ r ∈ l, GR r) : GR (PU qM l) := by
 have hc : ∀ r ∈ l, qp r := fun r hr => (h r hr).cl
 refine ⟨kz hc, ?_, fun s hs => ?_, fun c hcc => ?_⟩
 ·rw [gO hl hc]
  induction l using PC with
  | nil => exact absurd rfl hl
  | cons a l =>
    rw [Ts]
    intro e
    exact (h a (.head _)).ne (List.append_eq_nil_iff.mp e).1
 ·rw [gO hl hc, Ui] at hs
  obtain ⟨r, hr, hs⟩ := hs
  exact (h r hr).io s hs
 ·rcases yU hcc with ⟨r, hr, hx⟩ | hx
  ·exact (h r hr).ch c hx
  ·exact gX c hx
theorem gT : jL PE = [Pv ""] := by decide +kernel
theorem jJ : qp PE := ⟨rfl, rfl⟩
theorem Vi : xW = ch 44 ++ (ch 32 ++ (ch 44 ++ ch 9)) := by decide +kernel
theorem K4 {a b : Str} (ha : qp a) : jL (a ++ (xW ++ b)) = jL a ++ (Pv "" :: jL b) := by
 have e : a ++ (xW ++ b) = a ++ (ch 44 ++ (ch 32 ++ (PE ++ (ch 44 ++ (ch 9 ++ b))))) := by rw [Vi, jP]; simp only [qh]
 rw [e, xj ha, wg rfl HE, xj jJ, wg rfl sp9, gT]
 rfl
theorem Xx {a b : Str} (ha : qp a) (hb : qp b) : qp (a ++ (xW ++ b)) := by
 have e : a ++ (xW ++ b) = a ++ (ch 44 ++ (ch 32 ++ (PE ++ (ch 44 ++ (ch 9 ++ b))))) := by rw [Vi, jP]; simp only [qh]
 rw [e]
 exact zm ha (xt rfl (zm jJ (xt rfl hb)))
noncomputable def alt : List Str -> List Str
 | [] => []
 | [x] => [x]
 | x :: y :: l => x :: Pv "" :: alt (y :: l)
theorem gB {g : Str -> Str} : ∀ {l : List Str}, l ≠ [] -> (∀ r ∈ l, qp r /\ jL r = [g r]) -> jL (PU xW l) = alt (l.map g) /\ qp (PU xW l)
 | [], h, _ => absurd rfl h
 | [a], _, h => by
   rw [jB]
   exact ⟨(h a (.head _)).2, (h a (.head _)).1⟩
 | a :: b :: l, _, h => by
   obtain ⟨h1, h2⟩ := h a (.head _)
   obtain ⟨h3, h4⟩ := gB (l := b :: l) (by simp) fun r hr => h r (.tail _ hr)
   rw [jC, qh]
   refine ⟨?_, Xx h1 h4⟩
   rw [K4 h1, h2, h3]
   rfl
theorem fZ : ∀ {l : List Str}, (∀ x ∈ l, isE x = false) -> (alt l).filter (fun s => !(s == Pv "")) = l
 | [], _ => rfl
 | [x], h => by
   have hx : (x == Pv "") = false := h x (.head _)
   simp [alt, hx]
 | x :: y :: l, h => by
   have ih := fZ (l := y :: l) fun z hz => h z (.tail _ hz)
   have hx : (x == Pv "") = false := h x (.head _)
   have h0 : (Pv "" == Pv "") = true := by simp
   unfold alt
   rw [filter_cons, filter_cons, hx, h0, ih]
   rfl
theorem We : ∀ {l : List Str}, l ≠ [] -> (∀ x ∈ l, isE x = false) -> (alt l ++ [Pv ""]).map isE = (Rw l.length [false, true]).flatten
 | [], h, _ => absurd rfl h
 | [x], _, h => by
   have := h x (.head _)
   have h0 : isE (Pv "") = true := by decide +kernel
   simp [alt, this, h0]
 | x :: y :: l, _, h => by
   have ih := We (l := y :: l) (by simp) fun z hz => h z (.tail _ hz)
   have hx := h x (.head _)
   have h0 : isE (Pv "") = true := by decide +kernel
   unfold alt
   rw [AW, AW, RO, RO, ih, hx, h0]
   rfl
theorem Jh (ws : List Str) : j6 ws = ch 32 ++ ((PU xW ws ++ ch 9) ++ (ch 44 ++ (PE ++ (ch 44 ++ PE)))) := by
 unfold j6
 have e1 : bl8 = ch 32 := by decide +kernel
 have e2 : FE = ch 9 ++ (ch 44 ++ ch 44) := by decide +kernel
 rw [e1, e2, jP, vh]
 simp only [qh]
theorem VO {a b : Str} (h : a.cps.toList.all zn = true) {x : Str} {t : List Str} (hb : raw (run b) = x :: t) : raw (run (a ++ b)) = (a ++ x) :: t := by
 rw [fU h, hb]
theorem VP {g : Str -> Str} {ws : List Str} (hw : ws ≠ []) (h : ∀ r ∈ ws, qp r /\ jL r = [g r]) : qH (j6 ws) = alt (ws.map g) ++ [Pv ""] /\ its (j6 ws) = (alt (ws.map g)).filter (fun s => !(s == Pv "")) /\ qp (j6 ws) := by
 obtain ⟨hb, hc⟩ := gB hw h
 have hc9 : qp (PU xW ws ++ ch 9) := Xo rfl hc
 have hbits : jL (j6 ws) = alt (ws.map g) ++ [Pv "", Pv ""] := by
  rw [Jh, wg rfl HE, xj hc9, Ko hc rfl sp9, xj jJ, gT, hb]
  rfl
 have hcw : qp (j6 ws) := by
  rw [Jh]
  exact xt rfl (zm hc9 (zm jJ jJ))
 have hp : (run (j6 ws)).p = PE := by
  have hr : ∃ l, raw (run (j6 ws)) = l ++ [PE] := by
   obtain ⟨x, t, hx⟩ := Fi (s := run (PU xW ws ++ ch 9))
   have h2 : raw (run ((PU xW ws ++ ch 9) ++ (ch 44 ++ (PE ++ (ch 44 ++ PE))))) = (x :: t) ++ [PE, PE] := by
    rw [vI hc9, vI jJ, hx]
    rfl
   rw [Jh]
   exact ⟨(ch 32 ++ x) :: (t ++ [PE]), by rw [VO (by decide) h2]; simp⟩
  obtain ⟨l, hl⟩ := hr
  unfold raw at hl
  exact (bF hl rfl).2 |> aK |>.1
 refine ⟨?_, ?_, hcw⟩
 ·have e1 : jL (j6 ws) = qH (j6 ws) ++ [Pv ""] := by
   unfold jL raw qH Kj
   rw [show xo m0 (j6 ws).cps.toList = run (j6 ws) from rfl, hp, if_pos (by decide), Rt]
   have : [PE].map RT = [Pv ""] := by decide +kernel
   rw [this]
  rw [hbits] at e1
  have : alt (ws.map g) ++ [Pv "", Pv ""] = (alt (ws.map g) ++ [Pv ""]) ++ [Pv ""] := by simp
  rw [this] at e1
  exact (bF e1 rfl).1.symm
 ·unfold its
  rw [hbits, SL]
  have : [Pv "", Pv ""].filter (fun s => !(s == Pv "")) = [] := by decide +kernel
  rw [this, PQ]
def wt (x : Str) : Prop := x = AB \/ x = XM
theorem xU : ∀ x ∈ N4, Pt x = AB \/ Pt x = XM := by decide +kernel
theorem zQ : ∀ x ∈ N4, bad true x = false /\ x.length <= 1000 /\ (58 ∉ x.cps.toList /\ 13 ∉ x.cps.toList) /\ Sk x ∈ N4 /\ Pt (Sk x) = Pt x := by decide +kernel
theorem wo : ∀ x ∈ [AB, XM], bad true x = false /\ x.length <= 1000 /\ Pz x = true /\ Pt x = x /\ Pt (Tk x) = x /\ (Tk x).length <= 1000 := by decide +kernel
theorem gk {x : Str} (h : wt x) : x ∈ [AB, XM] := by rcases h with rfl | rfl <;> simp
structure jm (rows : Ps) (pa pb : Loc) : Prop where
 nm : ∀ kv ∈ rows, kv.1 ∈ N4 /\ GR kv.2
 pg : ∀ x, wt x -> ((q7 rows x).flatMap its).map ent = qw pa pb x
 bd : ∀ x, wt x -> ((q7 rows x).map fun r => r.length + 2).sum <= 100 * (qw pa pb x).length
theorem YZ {rows : Ps} {x r : Str} (h : r ∈ q7 rows x) : ∃ kv ∈ rows, kv.2 = r /\ Pt kv.1 = x := by
 obtain ⟨kv, hkv, rfl⟩ := Ri.mp h
 obtain ⟨h1, h2⟩ := RM.mp hkv
 exact ⟨kv, h1, rfl, eq_of_beq h2⟩
theorem jm.gr {rows : Ps} {pa pb : Loc} (v : jm rows pa pb) {x r : Str} (h : r ∈ q7 rows x) : GR r := by
 obtain ⟨kv, hkv, rfl, _⟩ := YZ h
 exact (v.nm kv hkv).2
theorem Bw {l : List Str} (h : ∀ r ∈ l, its r ≠ []) : l.length <= (l.flatMap its).length := by
 induction l with
 | nil => simp
 | cons a l ih =>
   have h1 := ih fun r hr => h r (.tail _ hr)
   have h2 : (its a).length ≠ 0 := by have := h a (.head _); simpa using this
   rw [Ts, PB, SW]
   lia
theorem jm.cnt {rows : Ps} {pa pb : Loc} (v : jm rows pa pb) {x : Str} (hx : wt x) : (q7 rows x).length <= (qw pa pb x).length := by
 have h := Bw (l := q7 rows x) fun r hr => (v.gr hr).ne
 have e := congrArg Sp (v.pg x hx)
 rw [PH] at e
 lia
theorem VJ {rows : Ps} (h : ∀ kv ∈ rows, kv.1 ∈ N4) : rows.length <= (q7 rows AB).length + (q7 rows XM).length := by
 induction rows with
 | nil => simp
 | cons kv l ih =>
   have h1 := ih fun r hr => h r (.tail _ hr)
   unfold q7 at *
   simp only [filter_cons, PH] at *
   rcases xU _ (h kv (.head _)) with e | e
   ·rw [e, show (AB == AB) = true by simp, show (AB == XM) = false by decide +kernel]
    simp only [if_true, R7, if_false, SW]
    lia
   ·rw [e, show (XM == XM) = true by simp, show (XM == AB) = false by decide +kernel]
    simp only [if_true, R7, if_false, SW]
    lia
theorem jm.len {rows : Ps} {pa pb : Loc} (v : jm rows pa pb) : rows.length <= pa.length + pb.length := by
 have h1 := VJ fun kv hk => (v.nm kv hk).1
 have h2 := v.cnt (x := AB) (.inl rfl)
 have h3 := v.cnt (x := XM) (.inr rfl)
 have hne := Zx
 unfold qw at h2 h3
 rw [if_pos rfl] at h2
 rw [if_neg hne] at h3
 lia
theorem Id {l : List Str} {r : Str} (h : r ∈ l) : r.length + 2 <= (l.map fun r => r.length + 2).sum := by
 induction l with
 | nil => cases h
 | cons a l ih =>
   rw [RO, TT]
   rcases Rq.mp h with rfl | h
   ·lia
   ·have := ih h; lia
theorem gf (l : List Str) : (l.map (·.length)).sum + l.length * 2 = (l.map fun r => r.length + 2).sum := by
 induction l with
 | nil => rfl
 | cons a l ih =>
   simp only [RO, TT, SW] at ih ⊢
   lia
theorem vf {pa pb : Loc} {n : Nat} (ha : pa.length <= n) (hb : pb.length <= n) (x : Str) : (qw pa pb x).length <= n := by
 unfold qw; split <;> assumption
theorem W7 {y s : Str} (h : s ∈ qH y) : s ∈ jL y := by
 unfold qH Kj at h
 unfold jL raw run
 split at h
 ·rw [Rt]; exact Ro _ h
 ·exact h
theorem PI.run : ∀ {cs : List Nat} {s : PM'} {i : Nat}, PI s i -> PI (xo s cs) (i + cs.length)
 | [], _, _, h => h
 | c :: cs, s, i, h => by
   have := PI.run (cs := cs) (h.step (c := c))
   rwa [A5, UB 1] at this
theorem QA (y : Str) : (qH y).length <= y.length + 1 := by
 have h := (PI.run (cs := y.cps.toList) (s := m0) (i := 0) ⟨PJ 0, PJ 0, fun zz h => nomatch h⟩).l
 rw [Nat.zero_add, zr] at h
 unfold qH Kj
 rw [PH]
 split
 ·exact Ru h
 ·rw [PB]
  exact Rb h
theorem vE : qM.length = 2 := by decide +kernel
theorem XN {x : Str} (h : wt (Pt x)) : KeyOK x := by
 obtain ⟨f1, f2, f3, _⟩ := wo _ (gk h)
 exact ⟨Pq f2 (by decide), f3⟩
theorem Fq {x : Str} (h : wt (Pt x)) : kW x := ⟨XN h, (wo _ (gk h)).1⟩
theorem jm.rd {rows : Ps} {pa pb : Loc} (v : jm rows pa pb) (ha : pa.length <= 20) (hb : pb.length <= 20) {x : Str} (hx : wt (Pt x)) : Zl rows x := by
 have e24 : Pr = 16777216 := by decide
 obtain ⟨f1, f2, f3, _⟩ := wo _ (gk hx)
 have hpl := vf ha hb (Pt x)
 have hbd := v.bd _ hx
 have hst := gf (q7 rows (Pt x))
 have hjl := w6 (sep := qM) (l := q7 rows (Pt x))
 rw [vE] at hjl
 have hcl : ∀ r ∈ q7 rows (Pt x), qp r := fun r hr => (v.gr hr).cl
 have hchr : ∀ c ∈ (PU qM (q7 rows (Pt x))).cps.toList, okC c = true := by
  intro c hc
  rcases yU hc with ⟨r, hr, h⟩ | h
  ·exact (v.gr hr).ch c h
  ·exact gX c h
 have hlen := v.len
 have hit : ∀ s ∈ qz (q7 rows (Pt x)), IOK s /\ Pz s = true /\ InE (ent s) := by
  intro s hs
  rw [wX hcl, Ui] at hs
  obtain ⟨r, hr, hs⟩ := hs
  exact (v.gr hr).io s hs
 refine ⟨Fq hx, by lia, fun kv hk => XN (xU _ (v.nm kv hk).1), ⟨yP (by rw [vE]; lia), fun c hc => JI (hchr c hc), by lia, ?_, fun s hs => ?_⟩, fun s hs => (hit s hs).1, ?_⟩
 ·have := QA (PU qM (q7 rows (Pt x)))
  lia
 ·by_cases he : (s == Pv "") = true
  ·rw [eq_of_beq he]; exact Ee
  ·have hm : s ∈ qz (q7 rows (Pt x)) := by
    unfold qz
    rw [RM]
    exact ⟨hs, by simpa using he⟩
   exact (hit s hm).2.1
 ·rw [wX hcl]
  have e := congrArg Sp (v.pg _ hx)
  rw [PH] at e
  lia
theorem jm.items {rows : Ps} {pa pb : Loc} (v : jm rows pa pb) {x : Str} (hx : wt x) : (qz (q7 rows x)).map ent = qw pa pb x := by
 rw [wX fun r hr => (v.gr hr).cl]
 exact v.pg x hx
theorem jm.ine {rows : Ps} {pa pb : Loc} (v : jm rows pa pb) {x : Str} (hx : wt x) : ∀ e ∈ qw pa pb x, InE e := by
 intro e he
 rw [<- v.pg x hx] at he
 obtain ⟨s, hs, rfl⟩ := Ri.mp he
 rw [Ui] at hs
 obtain ⟨r, hr, hs⟩ := hs
 exact ((v.gr hr).io s hs).2.2
theorem jm.fst {rows : Ps} {pa pb : Loc} (v : jm rows pa pb) {x : Str} (hx : wt x) : (first rows x = none ↔ qw pa pb x = []) /\ (q7 rows x = [] ↔ qw pa pb x = []) := by
 have h2 : q7 rows x = [] ↔ qw pa pb x = [] := by
  constructor
  ·intro h
   rw [<- v.pg x hx, h]; rfl
  ·intro h
   have := v.cnt hx
   rw [h] at this
   simpa using this
 refine ⟨?_, h2⟩
 rw [yh, List.head?_eq_none_iff]
 exact h2
theorem jF (a b : Ps) (x : Str) : q7 (a ++ b) x = q7 a x ++ q7 b x := by
 unfold q7; rw [SL, Rt]
theorem vN {nm x : Str} (h : Pt nm = x) (l : List Str) : q7 (l.map fun r => (nm, r)) x = l := by
 unfold q7
 rw [ax.mpr, Su]
 ·simp [Function.comp_def]
 ·intro kv hk
  obtain ⟨r, _, rfl⟩ := Ri.mp hk
  simp [h]
theorem QU {nm x : Str} (h : Pt nm ≠ x) (l : List Str) : q7 (l.map fun r => (nm, r)) x = [] := by
 unfold q7
 rw [T3, Aq]
 intro kv hk
 obtain ⟨r, _, rfl⟩ := Ri.mp hk
 simpa using h
theorem zN (rows : Ps) (x : Str) : q7 (qd rows x) x = [] := by
 unfold q7 qd
 rw [T3, aY, Aq]
 intro kv _
 cases (Pt kv.1 == x) <;> simp
theorem xl {rows : Ps} {x y : Str} (h : y ≠ x) : q7 (qd rows x) y = q7 rows y := by
 unfold q7 qd
 rw [aY]
 congr 1
 apply UX
 intro kv _
 by_cases e : Pt kv.1 = y
 ·have : (Pt kv.1 == x) = false := by rw [beq_eq_false_iff_ne, e]; exact h
  rw [this]; simp
 ·have : (Pt kv.1 == y) = false := by rw [beq_eq_false_iff_ne]; exact e
  rw [this]; rfl
theorem wJ {nm x r : Str} (h : Pt nm = x) : q7 [(nm, r)] x = [r] := vN h [r]
theorem wA {nm x r : Str} (h : Pt nm ≠ x) : q7 [(nm, r)] x = [] := QU h [r]
theorem wW {rows : Ps} {nm r : Str} : q7 (put rows nm r) (Pt nm) = [r] := by
 unfold put
 rw [jF, zN, wJ rfl]
 rfl
theorem Qt {rows : Ps} {nm r y : Str} (h : y ≠ Pt nm) : q7 (put rows nm r) y = q7 rows y := by
 unfold put
 rw [jF, xl h, wA (SN h), PQ]
theorem vc {rows : Ps} {x : Str} {kv : Str × Str} (h : kv ∈ qd rows x) : kv ∈ rows := (RM.mp h).1
theorem Yj {rows : Ps} (h : ∀ kv ∈ rows, kv.1 ∈ N4) (x : Str) : q7 (rows.map swp) x = q7 rows x := by
 unfold q7
 rw [bP, Su]
 have e : (fun x : Str × Str => x.2) ∘ swp = fun x => x.2 := rfl
 rw [e]
 congr 1
 apply UX
 intro kv hk
 have := (zQ _ (h kv hk)).2.2.2.2
 simp only [Function.comp, swp, this]
theorem Fw {pa pb new : Loc} {x : Str} (hx : wt x) : qw (if x = AB then new else pa) (if x = AB then pb else new) x = new /\ ∀ y, wt y -> y ≠ x -> qw (if x = AB then new else pa) (if x = AB then pb else new) y = qw pa pb y := by
 have hne := Zx
 unfold qw
 rcases hx with rfl | rfl
 ·refine ⟨by simp, fun y hy h => ?_⟩
  rcases hy with rfl | rfl
  ·exact absurd rfl h
  ·simp [hne]
 ·refine ⟨by simp [hne], fun y hy h => ?_⟩
  rcases hy with rfl | rfl
  ·simp [hne]
  ·exact absurd rfl h
theorem jm.upd {rows rows' : Ps} {pa pb new : Loc} {x : Str} (v : jm rows pa pb) (hx : wt x) (hn : ∀ kv ∈ rows', kv.1 ∈ N4 /\ GR kv.2) (ho : ∀ y, y ≠ x -> q7 rows' y = q7 rows y) (hp : ((q7 rows' x).flatMap its).map ent = new) (hb : ((q7 rows' x).map fun r => r.length + 2).sum <= 100 * new.length) :
 jm rows' (if x = AB then new else pa) (if x = AB then pb else new) := by
 obtain ⟨q1, q2⟩ := Fw (pa := pa) (pb := pb) (new := new) hx
 refine ⟨hn, fun y hy => ?_, fun y hy => ?_⟩
 ·by_cases h : y = x
  ·subst h; rw [q1]; exact hp
  ·rw [q2 y hy h, ho y h]; exact v.pg y hy
 ·by_cases h : y = x
  ·subst h; rw [q1]; exact hb
  ·rw [q2 y hy h, ho y h]; exact v.bd y hy
theorem jm.same {rows : Ps} {pa pb : Loc} {x : Str} (v : jm rows pa pb) (hx : wt x) : jm rows (if x = AB then qw pa pb x else pa) (if x = AB then pb else qw pa pb x) :=
 v.upd hx v.nm (fun zz zz => rfl) (v.pg x hx) (v.bd x hx)
theorem Zj {r : Str} (h : ∀ c ∈ r.cps.toList, okC c = true) : bad false r = false := by
 unfold bad
 rw [if_neg (by decide), bj]
 intro c hc
 have := h c hc
 unfold okC at this
 simp only [Rl, S8] at this
 rw [this.2]
 decide
theorem Wz {r : Str} (h : ∀ c ∈ r.cps.toList, okC c = true) : Pz r = true := (we r).mpr fun c hc => JI (h c hc)
theorem gn (a b : Str) : bad false (a ++ b) = (bad false a || bad false b) := by
 unfold bad
 simp only [R7, if_false, qr, bQ]
structure za (s : St) : Prop where
 nm : s.name ∈ N4
 ky : s.key ∈ K3
 tx : s.text ∈ TXT
 rw : s.quote = 2 -> s.text ∈ RAW
 q3 : s.quote < 3
 kd : s.kind < 10
theorem Mo (x : Nat) : za (yg x) := by
 have b1 : x / 10 % 4 < N4.length := by rw [show N4.length = 4 by decide +kernel]; lia
 have b2 : x / 40 % 3 < K3.length := by rw [show K3.length = 3 by decide +kernel]; lia
 obtain ⟨h1, h2⟩ := Kk x
 exact ⟨xV b1, xV b2, h1, h2, by show x / 38400 % 3 < 3; lia, by show x % 10 < 10; lia⟩
theorem BP {k : Str} (h : k ∈ K3) : k ∈ K6 /\ zed ++ k ∈ K6 := ⟨Ro _ h, Ra _ (Ri.mpr ⟨k, h, rfl⟩)⟩
theorem Xa : ∀ k ∈ K3, (yi.contains (dsh k) = true /\ bad true (dsh k) = false /\ (dsh k).length <= 1000 /\ (usc (dsh k)).length <= 1000) /\ k.length <= 100 /\ usc (dsh k) = k /\ bad false k = false /\ Pz k = true := by decide +kernel
theorem TxF.ws {t : Str} (f : TxF t) : WS' t := ⟨f.so, Pq f.ln (by decide), Pq f.el (by decide), Pq f.rl (by decide)⟩
theorem za.stf {s : St} (f : za s) : StF s := by
 obtain ⟨⟨a1, a2, a3, a4⟩, a5, a6, _⟩ := Xa _ f.ky
 have t := txF f.tx
 exact ⟨(zQ _ f.nm).1, ⟨a1, a2, a3, a4⟩, a5, a6, Pq t.ln (by decide), t.ws⟩
theorem jm.tn {rows : Ps} {pa pb : Loc} (v : jm rows pa pb) (ha : pa.length <= 20) (hb : pb.length <= 20) {x : Str} (hx : x ∈ N4) : TN rows x :=
 ⟨Fq (xU _ hx), (zQ _ hx).1, Pq v.len (Pq (RP ha hb) (by decide)), fun kv hk => XN (xU _ (v.nm kv hk).1)⟩
theorem za.two {s : St} (f : za s) : wt (Pt s.name) := xU _ f.nm
theorem BK : bad false EQ = false /\ bad false QT = false /\ Pz EQ = true /\ Pz QT = true := by decide +kernel
theorem wV {t : Str} (h : t.length = 0) : gd t = true := by
 have : t = PE := jU (List.length_eq_zero_iff.mp (zr.trans h))
 rw [this]; decide +kernel
section
variable {k t : Str} {q : Int}
theorem Yh {x : Str} {b : Bool} (hk : bad false k = false /\ Pz k = true) (hx : bad false x = b /\ Pz x = true) : bad false (k ++ (EQ ++ x)) = b /\ Pz (k ++ (EQ ++ x)) = true := by
 obtain ⟨e1, _, e3, _⟩ := BK
 refine ⟨?_, xb hk.2 (xb e3 hx.2)⟩
 rw [gn, gn, hk.1, e1, hx.1]; rfl
theorem Ii {x : Str} {b : Bool} (hx : bad false x = b /\ Pz x = true) : bad false (quo x) = b /\ Pz (quo x) = true := by
 obtain ⟨_, e2, _, e4⟩ := BK
 refine ⟨?_, xb e4 (xb hx.2 e4)⟩
 unfold quo
 rw [gn, gn, e2, hx.1, Bool.false_or, A1]
set_option tactic.hygienic true in
theorem Iu (hk : bad false k = false /\ Pz k = true) (f : TxF t) : bad false (fmt k t q) = !gd t /\ Pz (fmt k t q) = true := by
 unfold fmt
 split
 ·rename_i h
  rw [wV h]; exact hk
 ·split
  ·rw [ge]; exact Yh hk (Ii ⟨f.be, f.eo⟩)
  ·rw [WB]; exact Yh hk ⟨f.bt, f.so⟩
set_option tactic.hygienic true in
theorem Pb (hk : bad false k = false /\ Pz k = true) (f : TxF t) : bad false (wr k (.str t) 2) = !gd t /\ Pz (wr k (.str t) 2) = true := by
 have e : wr k (.str t) 2 = k ++ (EQ ++ (if t.length = 0 then Pv "\"\"" else t)) := by
  show k ++ EQ ++ (if t.length = 0 then Pv "\"\"" else t) = _
  rw [qh]
 rw [e]
 refine Yh hk ?_
 split
 ·rename_i h
  rw [wV h]; exact ⟨by decide +kernel, by decide +kernel⟩
 ·exact ⟨f.bt, f.so⟩
end
theorem za.bw {s : St} (f : za s) : bad false s.w = !gd s.text /\ Pz s.w = true := by
 obtain ⟨_, _, _, kb, ko⟩ := Xa _ f.ky
 have t := txF f.tx
 by_cases h2 : (s.quote : Int) = 2
 ·unfold St.w
  rw [h2]
  exact Pb ⟨kb, ko⟩ t
 ·unfold St.w
  rw [GE h2 (fun h3 => absurd (T2 h3 : s.quote = 3) (RQ f.q3))]
  exact Iu ⟨kb, ko⟩ t
theorem QM {sep : Str} : ∀ {l : List Str}, l ≠ [] -> (PU sep l).length + sep.length <= (l.map (·.length)).sum + l.length * sep.length
 | [], h => absurd rfl h
 | [a], _ => by rw [jB]; simp
 | a :: b :: l, _ => by
   have ih := QM (sep := sep) (l := b :: l) (by simp)
   rw [jC, PL, PL]
   simp only [RO, TT, SW, Nat.succ_mul] at ih ⊢
   lia
abbrev jl := Loc × Loc × List jE
noncomputable def jl.pg (q : jl) (s : St) : Loc := qw q.1 q.2.1 (Pt s.name)
noncomputable def gE (q : jl) (s : St) (new : Loc) : Loc := if Pt s.name = AB then new else q.1
noncomputable def gQ (q : jl) (s : St) (new : Loc) : Loc := if Pt s.name = AB then q.2.1 else new
noncomputable def Bj (q : jl) (s : St) : jl := (gE q s (zi s (q.pg s)), gQ q s (zi s (q.pg s)), q.2.2 ++ xJ s (q.pg s))
structure BL (q : jl) (n : Nat) : Prop where
 la : q.1.length <= n
 lb : q.2.1.length <= n
 ln : q.2.2.length <= n
theorem Fj {k : Nat} {page fresh thin : Loc} (h1 : fresh.length <= 1) (h2 : thin.length = page.length) : (kM k page fresh thin).length <= page.length + 1 := by
 have h3 : fresh.length <= page.length + 1 := Pq h1 (Uu ..)
 have h4 : page.length <= page.length + 1 := U4 _
 unfold kM
 split
 ·rw [PB]; exact So h1 _
 ·split
  ·exact h3
  ·split
   ·split
    ·exact h3
    ·exact h4
   ·split
    ·exact Rj _
    ·split
     ·rw [h2]; exact h4
     ·exact h4
theorem CC (s : St) : (qP s).length <= 1 := by
 unfold qP; split
 ·exact PJ 1
 ·exact Rj _
theorem VR (s : St) (page : Loc) : (zi s page).length <= page.length + 1 := Fj (CC s) (PH ..)
theorem Fs (s : St) (page : Loc) : (xJ s page).length <= 1 := by
 unfold xJ
 split
 ·decide
 ·split
  ·decide
  ·split
   ·exact PJ 1
   ·split <;> exact PJ 1
theorem BL.step {q : jl} {n : Nat} (b : BL q n) (s : St) : BL (Bj q s) (n + 1) := by
 have h := Pq (VR s (q.pg s)) (Rb (vf b.la b.lb (Pt s.name)))
 refine ⟨?_, ?_, ?_⟩
 ·show (gE q s _).length <= _
  unfold gE; split
  ·exact h
  ·exact Ru b.la
 ·show (gQ q s _).length <= _
  unfold gQ; split
  ·exact Ru b.lb
  ·exact h
 ·show (q.2.2 ++ _).length <= _
  rw [PB]
  exact RP b.ln (Fs s _)
structure PG (q : jl) (n : Nat) (rows : Ps) (ns : List jE) : Prop where
 v : jm rows q.1 q.2.1
 e : ns = q.2.2
 l : BL q n
def w5 (n P k : Nat) (μ0 μ : q4) (T N : Nat) (q : jl) (s : St) : Prop := ∃ rows' ns', wv n P μ0 μ T N s rows' ns' /\ PG (Bj q s) (k + 1) rows' ns'
structure qQ (k : Nat) (μ0 μ : q4) (T d H N : Nat) (rows : Ps) (zs : ZL) (q : jl) (s : St) : Prop where
 p : PG q k rows (zs.map Rh)
 k : k <= 15
 pi : xg μ0 μ T d H N rows zs
 f : za s
section
variable {n P k T d H N : Nat} {μ0 μ : q4} {rows rows' : Ps} {zs : ZL} {q : jl} {s : St} {ns' : List jE} {new : Loc} {nt : List jE}
theorem qQ.a (h : qQ k μ0 μ T d H N rows zs q s) : q.1.length <= 20 := Pq h.p.l.la (Pq h.k (by decide))
theorem qQ.b (h : qQ k μ0 μ T d H N rows zs q s) : q.2.1.length <= 20 := Pq h.p.l.lb (Pq h.k (by decide))
theorem qQ.rl (h : qQ k μ0 μ T d H N rows zs q s) : rows.length <= 40 := Pq h.p.v.len (RP h.a h.b)
theorem qQ.rl' (h : qQ k μ0 μ T d H N rows zs q s) : rows.length <= 1000 := Pq h.rl (by decide)
theorem qQ.zl (h : qQ k μ0 μ T d H N rows zs q s) : zs.length <= 1000 := by
 have e := congrArg Sp h.p.e
 rw [PH] at e
 rw [e]
 exact Pq h.p.l.ln (Pq h.k (by decide))
theorem qQ.rd (h : qQ k μ0 μ T d H N rows zs q s) : Zl rows s.name := h.p.v.rd h.a h.b h.f.two
theorem qQ.tn (h : qQ k μ0 μ T d H N rows zs q s) : TN rows s.name := h.p.v.tn h.a h.b h.f.nm
theorem qQ.pl (h : qQ k μ0 μ T d H N rows zs q s) : (q.pg s).length <= 15 := vf (Pq h.p.l.la h.k) (Pq h.p.l.lb h.k) _
theorem qQ.ine (h : qQ k μ0 μ T d H N rows zs q s) : ∀ e ∈ q.pg s, InE e := h.p.v.ine h.f.two
theorem qQ.fin (h : qQ k μ0 μ T d H N rows zs q s) (hd : wv n P μ0 μ T N s rows' (zs.map Rh ++ nt)) (h1 : zi s (q.pg s) = new) (h2 : xJ s (q.pg s) = nt) (hv : jm rows' (gE q s new) (gQ q s new)) : w5 n P k μ0 μ T N q s := by
 subst h1
 subst h2
 exact ⟨_, _, hd, hv, by rw [h.p.e]; rfl, h.p.l.step s⟩
end
theorem MD {k t z : Str} : z ++ fmt k t 1 = fmt (z ++ k) t 1 := by
 unfold fmt
 split
 ·rfl
 ·rw [if_pos (.inl (by decide)), if_pos (.inl (by decide)), ge, ge, qh]
theorem vM {s : St} (hg : gd s.text = false) : qP s = [] := if_neg (by rw [hg]; decide)
theorem D7 {s : St} {z : Bool} (f : za s) (hk : s.kind = zk z) (hg : gd s.text = true) : qP s = [(zp z ++ s.key, back s.text 1)] /\ zc (zp z ++ fmt s.key s.text 1) (zp z ++ s.key, back s.text 1) /\ InE (zp z ++ s.key, back s.text 1) := by
 obtain ⟨k1, k2⟩ := BP f.ky
 have hm : zp z ++ s.key ∈ K6 := by
  cases z
  ·rw [show zp false ++ s.key = s.key from jP _]; exact k1
  ·exact k2
 refine ⟨?_, ?_, hm, vB f.tx hg 1⟩
 ·unfold qP
  rw [if_pos hg, hk]
  cases z
  ·rw [show zp false ++ s.key = s.key from jP _]; rfl
  ·rfl
 ·rw [MD]
  exact gm hm f.tx hg (.inr rfl)
theorem Wj {s : St} (f : za s) (h1 : s.kind ≠ 1) (h2 : ¬ s.kind < 2) (hg : gd s.text = true) : qP s = [(s.key, back s.text s.quote)] /\ zc s.w (s.key, back s.text s.quote) /\ InE (s.key, back s.text s.quote) := by
 obtain ⟨k1, _⟩ := BP f.ky
 refine ⟨?_, ?_, k1, vB f.tx hg _⟩
 ·unfold qP
  rw [if_pos hg, if_neg h1, if_neg h2]
 ·unfold St.w
  by_cases h : s.quote = 2
  ·rw [h, show back s.text (2 : Nat) = .str s.text from if_pos rfl]
   exact EW k1 (f.rw h)
  ·have h3 := f.q3
   rw [GE (by lia) (by lia)]
   exact gm k1 f.tx hg (by lia)
theorem jm.add {rows : Ps} {q : jl} {s : St} {r : Str} {e : Str × PV} (v : jm rows q.1 q.2.1) (f : za s) (hr : zc r e) (he : InE e) : jm (rows ++ [(s.name, r)]) (gE q s (q.pg s ++ [e])) (gQ q s (q.pg s ++ [e])) := by
 obtain ⟨x, h1, h2, h3, h4⟩ := hr.it
 refine v.upd f.two (fun kv hk => ?_) (fun y hy => ?_) ?_ ?_
 ·rcases PT.mp hk with h | h
  ·exact v.nm kv h
  ·rw [Pw.mp h]; exact ⟨f.nm, hr.gr he⟩
 ·rw [jF, wA (SN hy), PQ]
 ·rw [jF, wJ rfl, List.flatMap_append, Rt, v.pg _ f.two, Ts, h2, <- h4]; rfl
 ·rw [jF, wJ rfl, Rt, bO, PB, Nat.mul_add]
  exact RP (v.bd _ f.two) (Pq (RX hr.ln 2) (show 60 + 2 <= 100 * 1 by decide))
theorem jm.one {rows : Ps} {q : jl} {s : St} {new : Loc} {r : Str} (v : jm rows q.1 q.2.1) (f : za s) (hr : GR r) (he : (its r).map ent = new) (hl : r.length + 2 <= 100 * new.length) : jm (put rows s.name r) (gE q s new) (gQ q s new) := by
 refine v.upd f.two (fun kv hk => ?_) (fun y hy => Qt hy) ?_ ?_
 ·rcases PT.mp hk with h | h
  ·exact v.nm kv (vc h)
  ·rw [Pw.mp h]; exact ⟨f.nm, hr⟩
 ·rw [wW, Ts, List.flatMap_nil, PQ, he]
 ·rw [wW]; exact hl
theorem jm.drop {rows : Ps} {q : jl} {s : St} (v : jm rows q.1 q.2.1) (f : za s) : jm (qd rows (Pt s.name)) (gE q s []) (gQ q s []) :=
 v.upd f.two (fun kv hk => v.nm kv (vc hk)) (fun y hy => xl hy) (by rw [zN]; rfl) (by rw [zN]; exact PJ 0)
theorem jm.sam {rows : Ps} {q : jl} {s : St} (v : jm rows q.1 q.2.1) (f : za s) : jm rows (gE q s (q.pg s)) (gQ q s (q.pg s)) := v.same f.two
theorem swF {s : St} (f : za s) : SwF s := by
 obtain ⟨_, _, _, h4, h5⟩ := zQ _ f.nm
 exact ⟨h5, Pq (zQ _ h4).2.1 (by decide)⟩
section
variable {n P k T d H N : Nat} {μ0 μ : q4} {rows rows' : Ps} {zs : ZL} {q : jl} {s : St} {page : Loc} {z : Bool}
theorem EL (h : s.kind < 2) : zi s page = page ++ qP s := if_pos h
theorem MX (h : s.kind = 2) : zi s page = qP s := by unfold zi kM; rw [h]; rfl
theorem Lz (h : s.kind = 3) : zi s page = if page = [] then qP s else page := by unfold zi kM; rw [h]; rfl
theorem OI (h : s.kind = 4) : zi s page = [] := by unfold zi kM; rw [h]; rfl
theorem H9 (h : s.kind = 6 \/ s.kind = 7) : zi s page = xN s page := by unfold zi kM; rcases h with h | h <;> (rw [h]; rfl)
theorem Ju (h : s.kind = 5 \/ s.kind = 8 \/ s.kind = 9) : zi s page = page := by unfold zi kM; rcases h with h | h | h <;> (rw [h]; rfl)
theorem Jc (h : s.kind < 4) (hg : gd s.text = false) (h3 : s.kind < 3 \/ page = []) : xJ s page = [.ctl] := if_pos ⟨h, hg, h3⟩
theorem MC (h : s.kind < 2) (hg : gd s.text = true) : xJ s page = [.no] := by
 unfold xJ
 rw [if_neg (fun e => absurd (hg.symm.trans e.2.1) (by decide)), if_neg (by lia), if_neg (by lia), if_neg (by lia)]
theorem NX (h : s.kind = 2) (hg : gd s.text = true) : xJ s page = [] := by
 unfold xJ
 rw [if_neg (fun e => absurd (hg.symm.trans e.2.1) (by decide)), if_pos (.inl h)]
theorem NM (h : s.kind = 4) : xJ s page = [] := by unfold xJ; rw [h]; rfl
theorem EF (h : s.kind = 3) (hg : gd s.text = true \/ page ≠ []) : xJ s page = [.yes true] := by
 unfold xJ
 rw [if_neg (fun e => hg.elim (fun g => absurd (g.symm.trans e.2.1) (by decide)) (fun g => e.2.2.elim (fun q => absurd (h ▸ q : 3 < 3) (by decide)) g)), h]; rfl
theorem Hi (h : s.kind = 8) : xJ s page = [.lst (Rw page.length [false, true]).flatten] := by unfold xJ; rw [h]; rfl
theorem Z4 (h : s.kind = 5 \/ s.kind = 6 \/ s.kind = 7 \/ s.kind = 9) : xJ s page = [.no] := by unfold xJ; rcases h with h | h | h | h <;> (rw [h]; rfl)
theorem FW (h : qQ k μ0 μ T d H N rows zs q s) (hk : s.kind = zk z) : w5 n P k μ0 μ T N q s := by
 have hlt : s.kind < 2 := by rw [hk]; cases z <;> decide
 have hb := (txF h.f.tx).bt
 have hd : wv n P μ0 μ T N s (if bad false s.text = true then rows else rows ++ [(s.name, zp z ++ fmt s.key s.text 1)]) (zs.map Rh ++ [if bad false s.text = true then .ctl else .no]) := by
  by_cases h0 : s.text.length = 0
  ·have e := Pi (n := n) (P := P) h.pi h.f.stf hk h.rl' h.zl h0
   rw [hb, wV h0, show fmt s.key s.text 1 = s.key from if_pos h0]
   exact e
  ·exact OS h.pi h.f.stf hk h.rl' h.zl h0
 rw [hb] at hd
 induction hg : gd s.text with
 | false =>
   rw [hg] at hd
   exact h.fin hd ((EL hlt).trans ((congrArg _ (vM hg)).trans (PQ _))) (Jc (PY hlt (show 2 <= 4 by decide)) hg (.inl (PY hlt (show 2 <= 3 by decide)))) (h.p.v.sam h.f)
 | true =>
   rw [hg] at hd
   obtain ⟨g1, g2, g3⟩ := D7 h.f hk hg
   exact h.fin hd ((EL hlt).trans (congrArg _ g1)) (MC hlt hg) (h.p.v.add h.f g2 g3)
theorem Nq (h : qQ k μ0 μ T d H N rows zs q s) (hk : s.kind = 2) : w5 n P k μ0 μ T N q s := by
 have hd := t2 (n := n) (P := P) h.pi h.f.stf h.tn hk h.zl
 rw [h.f.bw.1] at hd
 cases hg : gd s.text with
 | false =>
   rw [hg] at hd
   exact h.fin hd ((MX hk).trans (vM hg)) (Jc (by rw [hk]; decide) hg (.inl (by rw [hk]; decide))) (h.p.v.drop h.f)
 | true =>
   rw [hg] at hd
   obtain ⟨g1, g2, g3⟩ := Wj h.f (by rw [hk]; decide) (by rw [hk]; decide) hg
   obtain ⟨s', e1, e2, e3, e4⟩ := g2.it
   exact h.fin hd ((MX hk).trans g1) (NX hk hg) (h.p.v.one h.f (g2.gr g3) (by rw [e2, <- e4]; rfl) (Pq (RX g2.ln 2) (show 60 + 2 <= 100 * 1 by decide)))
theorem O4 (h : qQ k μ0 μ T d H N rows zs q s) (hk : s.kind = 3) : w5 n P k μ0 μ T N q s := by
 have hfst := (h.p.v.fst h.f.two).2
 obtain ⟨hb, hwo⟩ := h.f.bw
 induction hr : q7 rows (Pt s.name) using PC with
 | cons r tl =>
   have he : q.pg s ≠ [] := fun e => by rw [hfst.mpr e] at hr; cases hr
   have hd := t3s (n := n) (P := P) h.pi h.f.stf h.tn (swF h.f) hk h.zl hr (Wz (h.p.v.gr (x := Pt s.name) (by rw [hr]; exact .head _)).ch)
   exact h.fin hd ((Lz hk).trans (if_neg he)) (EF hk (.inr he)) (h.p.v.sam h.f)
 | nil =>
   have he : q.pg s = [] := hfst.mp hr
   have h' : TN (rows ++ [(s.name, s.w)]) s.name := ⟨h.tn.n, h.tn.b, by rw [PB]; exact Pq (RX h.rl' 1) (by decide), fun kv hkv => (PT.mp hkv).elim (h.tn.k kv) fun hm => by rw [Pw.mp hm]; exact h.tn.n.toKeyOK⟩
   have hd := t3n (n := n) (P := P) h.pi h.f.stf h.tn h' (swF h.f) hk h.zl hr hwo
   rw [hb] at hd
   induction hg : gd s.text with
   | false =>
     rw [hg] at hd
     have hv := h.p.v.sam h.f
     rw [he] at hv
     exact h.fin hd ((Lz hk).trans ((if_pos he).trans (vM hg))) (Jc (by rw [hk]; decide) hg (.inr he)) hv
   | true =>
     rw [hg] at hd
     obtain ⟨g1, g2, g3⟩ := Wj h.f (by rw [hk]; decide) (by rw [hk]; decide) hg
     have hv := h.p.v.add h.f g2 g3
     rw [he] at hv
     exact h.fin hd ((Lz hk).trans ((if_pos he).trans g1)) (EF hk (.inl hg)) hv
theorem Ma (h : qQ k μ0 μ T d H N rows zs q s) (hk : s.kind = 4) : w5 n P k μ0 μ T N q s := by
 have hd := t4 (n := n) (P := P) h.pi h.tn hk
 rw [<- PQ (zs.map Rh)] at hd
 exact h.fin hd (OI hk) (NM hk) (h.p.v.drop h.f)
end
theorem Cq {p : PV} (h : InT p) : WOK p := by
 rcases h with rfl | rfl | ⟨t, ht, _, rfl⟩
 ·exact .inl rfl
 ·exact .inr (.inl rfl)
 ·exact .inr (.inr ⟨t, rfl, (txF ht).ws⟩)
theorem MY {e : Str × PV} (h : InE e) : e.1.length <= 1000 /\ WOK e.2 := ⟨Pq (Yo h.1).ln (by decide), Cq h.2⟩
noncomputable def yy (page : Loc) (q : Int) : List Str := page.map fun e => wr e.1 e.2 q
noncomputable def y4 (page : Loc) (q : Int) : Loc := page.map fun e => (e.1, tq e.2 q)
theorem Nx {p : PV} {q : Int} (h : InT p) : InT (tq p q) := by
 unfold tq; split
 ·exact h
 ·exact Ht h q
noncomputable def itm (r : Str) : Str := (jL r).headD PE
structure WR (r : Str) : Prop where
 g : GR r
 b : jL r = [itm r]
 i : its r = [itm r]
 e : isE (itm r) = false
 l : r.length <= 60
theorem Fv {e : Str × PV} {q : Int} (he : InE e) (hq : q = 0 \/ q = 1 \/ q = 3) : WR (wr e.1 e.2 q) /\ ent (itm (wr e.1 e.2 q)) = (e.1, tq e.2 q) := by
 have hr : zc (wr e.1 e.2 q) (e.1, tq e.2 q) := LM he.1 he.2 (hq.imp_right (Or.imp_right Or.inl))
 obtain ⟨s, g1, g2, g3, g4⟩ := hr.it
 have hit : itm (wr e.1 e.2 q) = s := by unfold itm; rw [g1]; rfl
 subst hit
 exact ⟨⟨hr.gr ⟨he.1, Nx he.2⟩, g1, g2, g3, hr.ln⟩, g4⟩
section
variable {page : Loc} {q : Int}
theorem MH (h : ∀ e ∈ page, InE e) (hq : q = 0 \/ q = 1 \/ q = 3) : ∀ r ∈ yy page q, WR r := fun r hr => by
 obtain ⟨e, he, rfl⟩ := Ri.mp hr
 exact (Fv (h e he) hq).1
theorem GX (h : ∀ e ∈ page, InE e) (hq : q = 0 \/ q = 1 \/ q = 3) : ((yy page q).map itm).map ent = y4 page q := by
 unfold yy y4
 rw [Su, Su]
 exact SJ fun e he => (Fv (h e he) hq).2
theorem CR {ws : List Str} (h : ∀ r ∈ ws, WR r) : ws.flatMap its = ws.map itm := by
 induction ws with
 | nil => rfl
 | cons r l ih => rw [Ts, (h r (.head _)).i, ih fun x hx => h x (.tail _ hx)]; rfl
theorem W6 {ws : List Str} (h : ∀ r ∈ ws, WR r) : (ws.map fun r => r.length + 2).sum <= 62 * ws.length := by
 induction ws with
 | nil => exact PJ 0
 | cons r l ih =>
   rw [RO, TT, SW, Nat.mul_succ, UB]
   exact RP (ih fun x hx => h x (.tail _ hx)) (RX (h r (.head _)).l 2)
theorem Jb : (yy page q).length = page.length := PH ..
theorem BH : (y4 page q).length = page.length := PH ..
end
theorem BJ {α : Type} {f : α -> Nat} {B : Nat} : ∀ {l : List α}, (∀ x ∈ l, f x <= B) -> (l.map f).sum <= l.length * B
 | [], _ => Rj _
 | a :: l, h => by
   rw [RO, TT, SW, Nat.succ_mul, UB]
   exact RP (BJ fun x hx => h x (.tail _ hx)) (h a (.head _))
theorem Et (l : List Str) : (l.map (·.length)).sum <= (l.map fun r => r.length + 2).sum := by rw [<- gf l]; exact Rd ..
theorem C0 {l : List Str} {n : Nat} (h0 : l ≠ []) (h : (l.map fun r => r.length + 2).sum <= n) : (PU qM l).length + 2 <= n := by
 have hj := QM (sep := qM) h0
 rw [vE, gf] at hj
 exact Pq hj h
theorem ZK {l : List Str} (h : ∀ r ∈ l, GR r) : bad false (PU qM l) = false := Zj fun c hc => (yU hc).elim (fun ⟨r, hr, g⟩ => (h r hr).ch c g) (gX c)
section
variable {n P k T d H N : Nat} {μ0 μ : q4} {rows rows' : Ps} {zs : ZL} {q : jl} {s : St} {nq : Int}
theorem kp (h : 4 < s.kind) : KP s := ⟨by lia, by lia, by lia, by lia⟩
theorem qQ.px {kd : Nat} {k8 : (kd : Int) ≠ 8} (h : qQ k μ0 μ T d H N rows zs q s) (hk : s.kind = kd) (h4 : 4 < kd) (hp : PX (n + 3) T d H kd s.name μ rows') : wv n P μ0 μ T N s rows' (zs.map Rh ++ [.no]) := by
 obtain ⟨ν, c1, c2, c3⟩ := hp
 subst hk
 exact tP h.pi (kp h4) k8 h.zl ⟨c1, c2, c3, .inl rfl⟩
theorem jm.join {l : List Str} {new : Loc} (v : jm rows q.1 q.2.1) (f : za s) (hg : ∀ r ∈ l, GR r) (he : (l.flatMap its).map ent = new) (hs : (l.map fun r => r.length + 2).sum <= 100 * new.length) (h0 : l ≠ []) : jm (put rows s.name (PU qM l)) (gE q s new) (gQ q s new) :=
 v.one f (Eb h0 hg) (by rw [gO h0 fun r hr => (hg r hr).cl]; exact he) (C0 h0 hs)
theorem O2 (h : qQ k μ0 μ T d H N rows zs q s) (hk : s.kind = 5) : w5 n P k μ0 μ T N q s := by
 have hgr : ∀ r ∈ q7 rows (Pt s.name), GR r := fun r hr => h.p.v.gr hr
 have hp := I5 (n := n + 3) h.pi.tab h.tn (fun r hr => Wz (hgr r hr).ch) h.rd.r (ZK hgr)
 refine h.fin (h.px (k8 := by decide) hk (by decide) hp) (Ju (.inl hk)) (Z4 (.inl hk)) ?_
 by_cases h0 : q7 rows (Pt s.name) = []
 ·rw [if_pos h0]
  exact h.p.v.sam h.f
 ·rw [if_neg h0]
  exact h.p.v.join h.f hgr (h.p.v.pg _ h.f.two) (h.p.v.bd _ h.f.two) h0
theorem JG (h : qQ k μ0 μ T d H N rows zs q s) (x : Int) : yw (q7 rows (Pt s.name)) x = yy (q.pg s) x := by
 unfold yw yy
 rw [h.p.v.items h.f.two]; rfl
theorem qQ.told (h : qQ k μ0 μ T d H N rows zs q s) : ∀ e ∈ told rows s.name, e.1.length <= 1000 /\ WOK e.2 := by
 show ∀ e ∈ (qz (q7 rows (Pt s.name))).map ent, _
 rw [h.p.v.items h.f.two]
 exact fun e he => MY (h.ine e he)
theorem qQ.ws (h : qQ k μ0 μ T d H N rows zs q s) (hq : nq = 0 \/ nq = 1 \/ nq = 3) : ∀ r ∈ yy (q.pg s) nq, WR r := MH h.ine hq
theorem qQ.wl (h : qQ k μ0 μ T d H N rows zs q s) : (yy (q.pg s) nq).length <= 15 := by rw [Jb]; exact h.pl
theorem qQ.wsum (h : qQ k μ0 μ T d H N rows zs q s) (hq : nq = 0 \/ nq = 1 \/ nq = 3) : ((yy (q.pg s) nq).map fun r => r.length + 2).sum <= 62 * 15 := Pq (W6 (h.ws hq)) (TJ _ h.wl)
theorem qQ.jw (h : qQ k μ0 μ T d H N rows zs q s) (hq : nq = 0 \/ nq = 1 \/ nq = 3) : JW (yy (q.pg s) nq) :=
 ⟨fun r hr => Wz (h.ws hq r hr).g.ch, Pq h.wl (by decide), Pq (Et _) (Pq (h.wsum hq) (by decide))⟩
theorem qQ.went (h : qQ k μ0 μ T d H N rows zs q s) (hq : nq = 0 \/ nq = 1 \/ nq = 3) : ((yy (q.pg s) nq).flatMap its).map ent = y4 (q.pg s) nq := by
 rw [CR (h.ws hq)]; exact GX h.ine hq
theorem qQ.wbd (h : qQ k μ0 μ T d H N rows zs q s) (hq : nq = 0 \/ nq = 1 \/ nq = 3) : ((yy (q.pg s) nq).map fun r => r.length + 2).sum <= 100 * (y4 (q.pg s) nq).length := by
 rw [BH]
 exact Pq (W6 (h.ws hq)) (by rw [Jb]; exact af _ (by decide))
theorem Ok (hk : s.kind = 6) (page : Loc) : xN s page = y4 page 1 := by unfold xN y4; rw [hk]; rfl
theorem NR (hk : s.kind = 7) (page : Loc) : xN s page = y4 page 0 := by unfold xN y4; rw [hk]; rfl
theorem NY (h : qQ k μ0 μ T d H N rows zs q s) (hk : s.kind = 6) : w5 n P k μ0 μ T N q s := by
 have hq : (1 : Int) = 0 \/ (1 : Int) = 1 \/ (1 : Int) = 3 := .inr (.inl rfl)
 have w1 := h.ws hq
 have ha := JG h 1
 have hp := Hy (n := n + 3) h.pi.tab h.tn h.rd h.told (by rw [ha]; exact fun r hr => ⟨Zj (w1 r hr).g.ch, Pq (w1 r hr).l (by decide)⟩) (by rw [ha]; exact Pq (RP h.rl h.wl) (by decide))
 rw [ha] at hp
 refine h.fin (h.px (k8 := by decide) hk (by decide) hp) ((H9 (.inl hk)).trans (Ok hk _)) (Z4 (.inr (.inl hk))) ?_
 refine h.p.v.upd h.f.two (fun kv hkv => ?_) (fun y hy => ?_) ?_ ?_
 ·rcases PT.mp hkv with hm | hm
  ·exact h.p.v.nm kv (vc hm)
  ·obtain ⟨r, hr', rfl⟩ := Ri.mp hm
   exact ⟨h.f.nm, (w1 r hr').g⟩
 ·rw [jF, xl hy, QU (SN hy), PQ]
 ·rw [jF, zN, vN rfl, U2]
  exact h.went hq
 ·rw [jF, zN, vN rfl, U2]
  exact h.wbd hq
theorem MI (h : qQ k μ0 μ T d H N rows zs q s) (hk : s.kind = 7) : w5 n P k μ0 μ T N q s := by
 have hq : (0 : Int) = 0 \/ (0 : Int) = 1 \/ (0 : Int) = 3 := .inl rfl
 have w1 := fun r hr => (h.ws hq r hr).g
 have ha := JG h 0
 have hp := L3 (n := n + 3) h.pi.tab h.tn h.rd h.told (by rw [ha]; exact h.jw hq) (by rw [ha]; exact ZK w1)
 rw [ha] at hp
 refine h.fin (h.px (k8 := by decide) hk (by decide) hp) ((H9 (.inr hk)).trans (NR hk _)) (Z4 (.inr (.inr (.inl hk)))) ?_
 by_cases h0 : yy (q.pg s) 0 = []
 ·rw [if_pos h0]
  have hto : y4 (q.pg s) 0 = q.pg s := by unfold y4; rw [T3.mp h0]; rfl
  rw [hto]
  exact h.p.v.sam h.f
 ·rw [if_neg h0]
  exact h.p.v.join h.f w1 (h.went hq) (h.wbd hq) h0
theorem qQ.val (h : qQ k μ0 μ T d H N rows zs q s) {kv : Str × Str} (hkv : kv ∈ rows) : kv.2.length <= 2000 := by
 have hm : kv.2 ∈ q7 rows (Pt kv.1) := Ri.mpr ⟨kv, RM.mpr ⟨hkv, beq_self_eq_true _⟩, rfl⟩
 exact Pq (Rd _ 2) (Pq (Id hm) (Pq (h.p.v.bd _ (xU _ (h.p.v.nm kv hkv).1)) (TJ 100 (vf h.a h.b _))))
theorem qQ.r9 (h : qQ k μ0 μ T d H N rows zs q s) {kv : Str × Str} (hkv : kv ∈ rows) : R9 kv := by
 obtain ⟨hn, hg⟩ := h.p.v.nm kv hkv
 obtain ⟨a1, a2, ⟨a3, a4⟩, a5, a6⟩ := zQ _ hn
 obtain ⟨b1, b2, _⟩ := zQ _ a5
 exact ⟨a2, Pq (h.val hkv) (by decide), a3, a4, fun hc => absurd (hg.ch _ hc) (by decide +kernel), b2, b1, Zj hg.ch⟩
theorem Vr {kv : Str × Str} (h1 : kv.1.length <= 1000) (h2 : kv.2.length <= 2000) : (line kv).length <= 3002 := by
 unfold line
 rw [PL, PL]
 exact RP (RP h1 (PJ 2)) h2
theorem Nn (h : qQ k μ0 μ T d H N rows zs q s) (hk : s.kind = 9) : w5 n P k μ0 μ T N q s := by
 have hsum : ((rows.map line).map (·.length)).sum <= 500000 := by
  rw [Su]
  exact Pq (BJ fun kv hkv => Vr (h.r9 hkv).l1 (h.val hkv)) (Pq (af _ h.rl) (by decide))
 obtain ⟨ν, T', d', H', c1, c2, c3, c4⟩ := Ll (n := n + 3) (nm := s.name) h.pi.tab h.rl' (fun kv hkv => h.r9 hkv) hsum
 have h9 : (s.kind : Int) = 9 := congrArg _ hk
 have hd := tP (n := n) (P := P) h.pi (kp (by rw [hk]; decide)) (by rw [h9]; decide) h.zl ⟨by rw [h9]; exact c1, c2, c3, .inr c4⟩
 refine h.fin hd (Ju (.inr (.inr hk))) (Z4 (.inr (.inr (.inr hk)))) ?_
 have hsw := fun y => Yj (fun kv hkv => (h.p.v.nm kv hkv).1) (rows := rows) y
 refine h.p.v.upd h.f.two (fun kv hkv => ?_) (fun y zz => hsw y) (by rw [hsw]; exact h.p.v.pg _ h.f.two) (by rw [hsw]; exact h.p.v.bd _ h.f.two)
 obtain ⟨x, hx, rfl⟩ := Ri.mp hkv
 exact ⟨(zQ _ (h.p.v.nm x hx).1).2.2.2.1, (h.p.v.nm x hx).2⟩
end
theorem O7 (page : Loc) : y4 page 3 = page := by
 have : (fun e : Str × PV => (e.1, tq e.2 3)) = id := funext fun e => cu rfl (Oq (.inr rfl))
 unfold y4
 rw [this, List.map_id]
theorem Vm {ws : List Str} (h : ∀ r ∈ ws, GR r) : ∀ c ∈ (j6 ws).cps.toList, okC c = true := by
 intro c hc
 unfold j6 at hc
 rw [qr, qr, mem_append, mem_append] at hc
 have e1 : ∀ c ∈ bl8.cps.toList, okC c = true := by decide +kernel
 have e2 : ∀ c ∈ FE.cps.toList, okC c = true := by decide +kernel
 rcases hc with (h1 | h1) | h1
 ·exact e1 c h1
 ·rcases yU h1 with ⟨r, hr, h2⟩ | h2
  ·exact (h r hr).ch c h2
  ·exact Dd c h2
 ·exact e2 c h1
theorem GQ {ws : List Str} : (j6 ws).length <= 1 + ((ws.map (·.length)).sum + ws.length * 4) + 3 := by
 have l1 : bl8.length = 1 := by decide +kernel
 have l2 : FE.length = 3 := by decide +kernel
 have l3 : xW.length = 4 := by decide +kernel
 have hj := w6 (sep := xW) (l := ws)
 unfold j6
 rw [l3] at hj
 rw [PL, PL, l1, l2]
 exact RX (So hj 1) 3
structure WD (ws : List Str) : Prop where
 g : GR (j6 ws)
 i : its (j6 ws) = ws.map itm
 e : (qH (j6 ws)).map isE = (Rw ws.length [false, true]).flatten
 l : (j6 ws).length + 2 <= 100 * ws.length
theorem Mt {ws : List Str} (h0 : ws ≠ []) (h : ∀ r ∈ ws, WR r) : WD ws := by
 obtain ⟨b1, b2, b3⟩ := VP (g := itm) h0 fun r hr => ⟨(h r hr).g.cl, (h r hr).b⟩
 have hall : ∀ x ∈ ws.map itm, isE x = false := fun x hx => by
  obtain ⟨r, hr, rfl⟩ := Ri.mp hx
  exact (h r hr).e
 rw [fZ hall] at b2
 have hwn : ws.map itm ≠ [] := fun e => h0 (T3.mp e)
 have halt := We hwn hall
 rw [<- b1, PH] at halt
 refine ⟨⟨b3, by rw [b2]; exact hwn, fun y hy => ?_, Vm fun r hr => (h r hr).g⟩, b2, halt, ?_⟩
 ·rw [b2] at hy
  obtain ⟨r, hr, rfl⟩ := Ri.mp hy
  exact (h r hr).g.io _ (by rw [(h r hr).i]; exact .head _)
 ·have h1 := W6 h
  have h2 := gf ws
  have h3 := GQ (ws := ws)
  have h4 : ws.length ≠ 0 := fun e => h0 (List.eq_nil_of_length_eq_zero e)
  lia
theorem M8 {x : Str} (h : GR x) (hl : x.length <= 10000) : R8 x := by
 have hh := QA x
 refine ⟨fun c hc => JI (h.ch c hc), Pq hl (by decide), Pq hh (Pq (Rb hl) (by decide)), fun y hy => ?_⟩
 induction he : (y == Pv "") with
 | true => rw [eq_of_beq he]; exact Ee
 | false =>
   have hm : y ∈ its x := by
    unfold its
    rw [RM, he]
    exact ⟨W7 hy, rfl⟩
   exact (h.io y hm).2.1
section
variable {n P k T d H N : Nat} {μ0 μ : q4} {rows rows' : Ps} {zs : ZL} {q : jl} {s : St}
theorem Lb {r : Str} (h : TN rows s.name) (hr : rows.length <= 1000) : TN (put rows s.name r) s.name :=
 ⟨h.n, h.b, by unfold put; rw [PB]; exact Pq (RX (Pq zO hr) 1) (by decide), fun kv hkv => (PT.mp hkv).elim (fun hm => h.k kv (vc hm)) fun hm => by rw [Pw.mp hm]; exact h.n.toKeyOK⟩
theorem qQ.p8 (h : qQ k μ0 μ T d H N rows zs q s) {x : Str} (hk : s.kind = 8) (hp : PX (n + 3) T d H 8 s.name μ rows') (ht : TN rows' s.name) (hx : x = (first rows' (Pt s.name)).getD emS) (r : R8 x) : wv n P μ0 μ T N s rows' (zs.map Rh ++ [.lst ((qH x).map isE)]) := by
 obtain ⟨ν, c1, c2, c3⟩ := hp
 have h8 : (s.kind : Int) = 8 := congrArg _ hk
 exact t8 h.pi (kp (by rw [hk]; decide)) h8 h.zl ⟨by rw [h8]; exact c1, c2, c3, .inl rfl⟩ ht hx r
theorem P9 : R8 emS := ⟨by decide +kernel, by decide +kernel, by decide +kernel, by decide +kernel⟩
theorem Na (h : qQ k μ0 μ T d H N rows zs q s) (hk : s.kind = 8) : w5 n P k μ0 μ T N q s := by
 have hq : (3 : Int) = 0 \/ (3 : Int) = 1 \/ (3 : Int) = 3 := .inr (.inr rfl)
 have w1 := h.ws hq
 have ha := JG h 3
 have hp := HU (n := n + 3) h.pi.tab h.tn h.rd h.told (by rw [ha]; exact h.jw hq) (by rw [ha]; exact Zj (Vm fun r hr => (w1 r hr).g))
 rw [ha] at hp
 by_cases h0 : yy (q.pg s) 3 = []
 ·rw [if_pos h0] at hp
  have hpe : q.pg s = [] := T3.mp h0
  have hf : first rows (Pt s.name) = none := ((h.p.v.fst h.f.two).1).mpr hpe
  refine h.fin (h.p8 hk hp h.tn (x := emS) (by rw [hf]; rfl) P9) (Ju (.inr (.inl hk))) ((Hi hk).trans ?_) (h.p.v.sam h.f)
  rw [hpe, show (qH emS).map isE = [] by decide +kernel]; rfl
 ·rw [if_neg h0] at hp
  have wd := Mt h0 w1
  have hfr : first (put rows s.name (j6 (yy (q.pg s) 3))) (Pt s.name) = some (j6 (yy (q.pg s) 3)) := by rw [yh, wW]; rfl
  have hl : (j6 (yy (q.pg s) 3)).length <= 10000 := Pq (Pq (Rd _ 2) wd.l) (Pq (TJ 100 h.wl) (by decide))
  refine h.fin (h.p8 hk hp (Lb h.tn h.rl') (x := j6 (yy (q.pg s) 3)) (by rw [hfr]; rfl) (M8 wd.g hl)) (Ju (.inr (.inl hk))) ((Hi hk).trans ?_) (h.p.v.one h.f wd.g ?_ ?_)
  ·rw [wd.e, Jb]
  ·rw [wd.i, GX h.ine hq, O7]
  ·have := wd.l
   rwa [Jb] at this
theorem ten {k : Nat} (h : k < 10) : k = 0 \/ k = 1 \/ k = 2 \/ k = 3 \/ k = 4 \/ k = 5 \/ k = 6 \/ k = 7 \/ k = 8 \/ k = 9 := by lia
theorem Mi (h : qQ k μ0 μ T d H N rows zs q s) : w5 n P k μ0 μ T N q s := by
 rcases ten h.f.kd with g | g | g | g | g | g | g | g | g | g
 ·exact FW (z := false) h g
 ·exact FW (z := true) h g
 ·exact Nq h g
 ·exact O4 h g
 ·exact Ma h g
 ·exact O2 h g
 ·exact NY h g
 ·exact MI h g
 ·exact Na h g
 ·exact Nn h g
end
section
variable {s : Str} {r items : List Str} {d page : Loc} {p : PV} {l : List PV} {e : Str × PV}
inductive KQ (s : Str) (r : List Str) (d : Loc) : Prop where
 | go (o : YI (ent s).2 = false) (h : kq (s :: r) d = kq r (qU d (ent s).1 (ent s).2))
 | stop (x : Exn) (o : YI (ent s).2 = true) (h : kq (s :: r) d = .error x) (t : Jo x = (ent s).2)
theorem Ng (h : zU s) : KQ s r d := by
 rcases h.s with ⟨x, hs⟩ | ⟨k, v, hs, _⟩
 ·have e : (ent s).2 = .none := by unfold ent; rw [hs]; rfl
  refine .stop wT (by rw [e]; rfl) (by unfold kq; rw [hs]; rfl) (by rw [e]; exact if_pos rfl)
 ·by_cases h0 : v.length = 0
  ·have e : (ent s).2 = .int 0 := by unfold ent; rw [hs]; exact if_pos h0
   refine .stop xH (by rw [e]; rfl) ?_ (by rw [e]; exact if_neg (by decide))
   rw [kq, hs]
   exact if_pos h0
  ·have e : ent s = (k, .str (unq v)) := by
    unfold ent
    rw [hs]
    exact cu rfl (if_neg h0)
   refine .go (by rw [e]; rfl) ?_
   rw [e, kq, hs]
   exact if_neg h0
theorem Gw (o : YI e.2 = false) : z0 (e :: page) = z0 page := by
 unfold z0
 rw [RO, filter_cons, o]; rfl
theorem Be (o : YI e.2 = true) : z0 (e :: page) = e.2 :: z0 page := by
 unfold z0
 rw [RO, filter_cons, o]; rfl
theorem N8 (h : ∀ s ∈ items, zU s) (ho : z0 (items.map ent) = []) : kq items d = .ok ((items.map ent).foldl (fun d e => qU d e.1 e.2) d) := by
 induction items generalizing d with
 | nil => rfl
 | cons s r ih =>
   cases Ng (r := r) (d := d) (h s (.head _)) with
   | go o q =>
     rw [RO, Gw o] at ho
     exact q.trans (ih (fun x hx => h x (.tail _ hx)) ho)
   | stop x o q t =>
     rw [RO, Be o] at ho
     cases ho
theorem IO (h : ∀ s ∈ items, zU s) (ho : z0 (items.map ent) = p :: l) : ∃ x, kq items d = .error x /\ Jo x = p := by
 induction items generalizing d with
 | nil => cases ho
 | cons s r ih =>
   cases Ng (r := r) (d := d) (h s (.head _)) with
   | go o q =>
     rw [RO, Gw o] at ho
     rw [q]
     exact ih (fun x hx => h x (.tail _ hx)) ho
   | stop x o q t =>
     rw [RO, Be o] at ho
     exact ⟨x, q, t.trans (aK ho).1⟩
end
noncomputable def Z1 (e x : Str × PV) : Str × PV := if x.1 = e.1 then (x.1, e.2) else x
theorem WU {page : Loc} {e : Str × PV} {i : Nat} (h : i < page.length) : kAt (page ++ [e]) i = kAt page i := by
 unfold kAt
 rw [Rt, S7, S7, RB (by simpa using h)]
theorem WW {page : Loc} {e : Str × PV} : kAt (page ++ [e]) page.length = e.1 := by
 unfold kAt
 rw [Rt, S7, Rn (by simp)]
 simp
theorem Ej {page : Loc} {e : Str × PV} {i : Nat} (h : i < page.length) : gAt (page ++ [e]) i = gAt page i := by
 unfold gAt
 rw [WU h, Rt, Ta (by simp; lia)]
theorem Cz {page : Loc} {e : Str × PV} : gAt (page ++ [e]) page.length = !(page.map (·.1)).contains e.1 := by
 unfold gAt
 rw [WW, Rt, Ta (by simp), Tg (by simp)]
theorem Zv {page : Loc} {e : Str × PV} {k : Str} : vP (page ++ [e]) k = vP page k ++ (if e.1 = k then [e.2] else []) := by
 unfold vP
 rw [SL, Rt]
 by_cases h : e.1 = k
 ·rw [if_pos h]; simp [h]
 ·rw [if_neg h]
  have : (e.1 == k) = false := by rw [beq_eq_false_iff_ne]; exact h
  simp [this]
theorem Vt {page : Loc} {e : Str × PV} {i : Nat} (h : i < page.length) : ku (page ++ [e]) i = Z1 e (ku page i) := by
 unfold ku Z1
 rw [WU h, Zv]
 simp only
 by_cases hk : e.1 = kAt page i
 ·rw [if_pos hk, if_pos hk.symm]; simp
 ·rw [if_neg hk, if_neg (SN hk), PQ]
theorem Kz {page : Loc} {e : Str × PV} : ku (page ++ [e]) page.length = e := by
 unfold ku
 rw [WW, Zv, if_pos rfl]
 simp
theorem gU (page : Loc) (e : Str × PV) : qJ (page ++ [e]) = (qJ page).map (Z1 e) ++ (if (page.map (·.1)).contains e.1 then [] else [e]) := by
 unfold qJ
 rw [PB, List.length_singleton, bM, SL, Rt]
 congr 1
 ·rw [Su, UX fun i hi => Ej (e := e) (Uf.mp hi)]
  exact SJ fun i hi => Vt (Uf.mp (RM.mp hi).1)
 ·rw [filter_cons, Cz]
  induction (page.map (·.1)).contains e.1 with
  | true => rfl
  | false => exact congrArg (· :: []) Kz
theorem Dj {l : Loc} {e : Str × PV} {k : Str} : (l.map (Z1 e)).any (fun kv => decide (kv.1 = k)) = l.any (fun kv => decide (kv.1 = k)) := by
 rw [An]
 congr 1
 funext x
 show decide ((Z1 e x).1 = k) = _
 unfold Z1
 split <;> rfl
theorem ZY {α : Type} {P : List α -> Prop} (h0 : P []) (hs : ∀ l a, P l -> P (l ++ [a])) (l : List α) : P l := by
 have : ∀ m : List α, P m.reverse := by
  intro m
  induction m with
  | nil => exact h0
  | cons a m ih => rw [bb]; exact hs _ _ ih
 rw [<- Up l]
 exact this _
theorem Xb (page : Loc) : ∀ k, (qJ page).any (fun kv => decide (kv.1 = k)) = (page.map (·.1)).contains k := by
 refine ZY (P := fun page => ∀ k, (qJ page).any (fun kv => decide (kv.1 = k)) = (page.map (·.1)).contains k) (fun k => rfl) (fun page e ih k => ?_) page
 rw [gU, bQ, Dj, ih k, Rt]
 rw [Bool.eq_iff_iff]
 induction hc : (page.map (·.1)).contains e.1 with
 | true =>
   simp only [if_true, List.any_nil, A1, RR, mem_append, RO, Al, mem_singleton]
   constructor
   ·exact .inl
   ·rintro (h | rfl)
    ·exact h
    ·exact RR.mp hc
 | false =>
   simp only [R7, if_false, TR, List.any_nil, A1, Tj, decide_eq_true_eq, RR, mem_append, RO, Al, mem_singleton]
   constructor
   ·rintro (h | h)
    ·exact .inl h
    ·exact .inr h.symm
   ·rintro (h | h)
    ·exact .inl h
    ·exact .inr h.symm
theorem Kh (page : Loc) : page.foldl (fun d e => qU d e.1 e.2) [] = qJ page := by
 refine ZY (P := fun page => page.foldl (fun d e => qU d e.1 e.2) [] = qJ page) rfl (fun page e ih => ?_) page
 rw [bl, ih, gU]
 show qU (qJ page) e.1 e.2 = _
 unfold qU
 rw [Xb]
 induction hc : (page.map (·.1)).contains e.1 with
 | true =>
   rw [if_pos rfl, if_pos rfl, PQ]
   rfl
 | false =>
   rw [if_neg (by decide), if_neg (by decide)]
   have : (qJ page).map (Z1 e) = qJ page := by
    have h1 : ∀ x ∈ qJ page, Z1 e x = x := by
     intro x hx
     unfold Z1
     rw [if_neg]
     intro he
     have h2 := Xb page e.1
     rw [hc, bj] at h2
     have := h2 x hx
     simp [he] at this
    rw [SJ h1, List.map_id']
   rw [this]
theorem BG {page : Loc} {e : Str × PV} (h : e ∈ qJ page) : (∃ x ∈ page, x.1 = e.1) /\ (∃ x ∈ page, x.2 = e.2) := by
 unfold qJ at h
 obtain ⟨i, hi, rfl⟩ := Ri.mp h
 have hi2 := (RM.mp hi).1
 have hlt := Uf.mp hi2
 refine ⟨⟨page[i], Rx hlt, (Q2 hlt).symm⟩, ?_⟩
 have hl := QQ hlt
 have hm := List.mem_of_getLast? hl
 unfold vP at hm
 obtain ⟨x, hx, he⟩ := Ri.mp hm
 exact ⟨x, (RM.mp hx).1, he⟩
theorem JS {e : Str × PV} (h : InE e) : EOK e := ⟨Wz (Yo h.1).ch, Wc h.2⟩
theorem BL.pl {q : jl} {n : Nat} (b : BL q n) (hn : n <= 15) (x : Str) : (qw q.1 q.2.1 x).length <= 15 := vf (Pq b.la hn) (Pq b.lb hn) x
theorem EZ {q : jl} {n : Nat} {rows : Ps} {ns : List jE} (p : PG q n rows ns) (hn : n <= 15) {x : Str} (hx : wt x) : ZJ rows (qw q.1 q.2.1 x) x := by
 have la := Pq p.l.la (Pq hn (by decide : 15 <= 20))
 have lb := Pq p.l.lb (Pq hn (by decide : 15 <= 20))
 obtain ⟨f1, f2, f3, f4, f5, f6⟩ := wo _ (gk hx)
 have hine := p.v.ine hx
 have rd := p.v.rd la lb (x := x) (by rw [f4]; exact hx)
 have hit := p.v.items hx
 have hio : ∀ s ∈ qz (q7 rows x), zU s := by
  have := rd.hio
  rw [f4] at this
  exact fun s hs => (this s hs).ok
 have hlast : ∀ e ∈ qJ (qw q.1 q.2.1 x), e.1.length <= 1000 /\ EOK e := by
  intro e he
  obtain ⟨⟨a, ha, h1⟩, ⟨b, hb, h2⟩⟩ := BG he
  have ka := hine a ha
  rw [<- h1]
  exact ⟨Pq (Yo ka.1).ln (by decide), by rw [<- h1]; exact (JS ka).1, by rw [<- h2]; exact (JS (hine b hb)).2⟩
 refine ⟨hx, f4, f5, Pq f6 (by decide), p.v.rd la lb (by rw [f5]; exact hx), rd, hit, fun e he => JS (hine e he), Pq (p.l.pl hn x) (by decide), fun ho => ?_, fun pv l ho => ?_, fun e he => (hlast e he).1, fun e he => (hlast e he).2, ?_⟩
 ·rw [<- hit] at ho ⊢
  rw [N8 hio ho, Kh]
 ·rw [<- hit] at ho
  exact IO hio ho
 ·have hf := (p.v.fst hx).1
  induction hq : first rows x with
  | none =>
    rw [hf.mp hq]
    rfl
  | some r =>
    induction hp : qw q.1 q.2.1 x using PC with
    | nil => rw [hf.mpr hp] at hq; cases hq
    | cons a l => rfl
set_option tactic.hygienic true in
theorem BQ {s : St} (f : za s) : ∀ e ∈ qP s, InE e := fun e he => by
 unfold qP at he
 split at he
 ·rename_i hg
  rw [Pw.mp he]
  obtain ⟨k1, k2⟩ := BP f.ky
  refine ⟨?_, vB f.tx hg _⟩
  show (if s.kind = 1 then zed ++ s.key else s.key) ∈ K6
  split
  ·exact k2
  ·exact k1
 ·cases he
theorem Gy {s : St} (f : za s) {page : Loc} (h : ∀ e ∈ page, InE e) : ∀ e ∈ zi s page, InE e := fun e he => by
 have hf := BQ f e
 have h := h e
 have ht : e ∈ xN s page -> InE e := fun he => by
  obtain ⟨x, hx, rfl⟩ := Ri.mp he
  exact ⟨(‹∀ e ∈ page, InE e› x hx).1, Ht (‹∀ e ∈ page, InE e› x hx).2 _⟩
 unfold zi kM at he
 split at he
 ·exact (PT.mp he).elim h hf
 ·split at he
  ·exact hf he
  ·split at he
   ·split at he
    ·exact hf he
    ·exact h he
   ·split at he
    ·cases he
    ·split at he
     ·exact ht he
     ·exact h he
structure Kb (q : jl) (n : Nat) : Prop where
 a : ∀ e ∈ q.1, InE e
 b : ∀ e ∈ q.2.1, InE e
 l : BL q n
theorem Kb.pg {q : jl} {n : Nat} (b : Kb q n) (s : St) : ∀ e ∈ q.pg s, InE e := by
 unfold jl.pg qw
 split
 ·exact b.a
 ·exact b.b
theorem Kb.step {q : jl} {n : Nat} {s : St} (b : Kb q n) (f : za s) : Kb (Bj q s) (n + 1) := by
 have h3 := Gy f (b.pg s)
 refine ⟨?_, ?_, b.l.step s⟩
 ·show ∀ e ∈ gE q s _, InE e
  unfold gE
  split
  ·exact h3
  ·exact b.a
 ·show ∀ e ∈ gQ q s _, InE e
  unfold gQ
  split
  ·exact b.b
  ·exact h3
noncomputable def fF (l : List St) (i : Nat) : jl := (l.take i).foldl Bj ([], [], [])
theorem QR {l : List St} {i : Nat} (h : i < l.length) : fF l (i + 1) = Bj (fF l i) l[i] := by
 unfold fF
 rw [<- List.take_append_getElem h, bl]
 rfl
theorem WJ {xs : List Int} {s : St} (h : s ∈ je xs) : za s := by
 obtain ⟨i, _, rfl⟩ := Ri.mp h
 exact Mo _
theorem J5 (xs : List Int) : (je xs).length <= 11 := by
 unfold je
 rw [PH, PB, T8]
 exact So (TY ..) 6
theorem DW {p : PV} (h : InT p) : TL1 p := by
 rcases h with rfl | rfl | ⟨t, ht, _, rfl⟩
 ·exact .inl rfl
 ·exact .inr (.inl rfl)
 ·exact .inr (.inr ⟨t, rfl, (txF ht).so, Pq (txF ht).ln (by decide)⟩)
noncomputable abbrev GPq (xs : List Int) (i : Nat) (rows : Ps) (ns : List jE) : Prop := PG (fF (je xs) i) i rows ns
structure GDq (xs : List Int) (i : Nat) (pa pb : Loc) (ns : List jE) : Prop where
 e : fF (je xs) i = (pa, pb, ns)
 b : Kb (pa, pb, ns) i
theorem Ov (xs : List Int) : GPq xs 0 [] [] := by
 have h : ∀ x, qw [] [] x = [] := fun x => by unfold qw; split <;> rfl
 exact ⟨⟨fun zz h => (nomatch h), fun x zz => (h x).symm, fun x zz => Rj _⟩, rfl, ⟨PJ _, PJ _, PJ _⟩⟩
theorem OX (xs : List Int) : GDq xs 0 [] [] [] := ⟨rfl, ⟨fun zz h => (nomatch h), fun zz h => (nomatch h), ⟨PJ _, PJ _, PJ _⟩⟩⟩
theorem DM (xs : List Int) : gg (je xs) (GDq xs) := fun i hi pa pb ns ⟨he, hb⟩ => by
 have f := WJ (Rx hi)
 have hl := J5 xs
 have hi' : i <= 15 := Pq (Tf hi) (Pq hl (by decide))
 have p1 := hb.pg (je xs)[i]
 refine ⟨⟨f.stf, f.two, f.kd, fun e h => ⟨JS (p1 e h), DW (p1 e h).2⟩, Pq hb.l.ln (Pq hi' (by decide)), Pq (hb.l.pl hi' _) (by decide)⟩, ?_, hb.step f⟩
 rw [QR hi, he]; rfl
theorem law201 (xs : List Int) (hl : xs.length <= 63) : ∃ μ', (evN ftT 201).call 250 [.il xs] [] [] = some (.ok (.bool true), μ') := by
 have hlen := Pq (J5 xs) (show 11 <= 15 by decide)
 refine DP (n := 79) (μ := []) hl (GP := GPq xs) (GD := GDq xs) (Ov xs) (OX xs) (fun P i hi μ0 μ1 T d H N rows zs hG pi => ?_) (DM xs) (fun rows ns pa pb ns' hP hD => ?_)
 ·obtain ⟨rows', ns', h1, h2⟩ := Mi (n := 79 + 17) (P := P) ⟨hG, Pq (Tf hi) hlen, pi, WJ (Rx hi)⟩
  exact ⟨rows', ns', h1, by rw [GPq, QR hi]; exact h2⟩
 ·have hP : PG _ _ rows ns := hP
  rw [hD.e] at hP
  exact ⟨hP.e, EZ hP hlen (.inl rfl), EZ hP hlen (.inr rfl)⟩
end Mine
theorem PySem.Challenge.cw_pk0114_01_holds : PySem.Challenge.rw_pk0114_01.Holds :=
 Mine.link (Mine.lawP_of Mine.law201)
