import PyProof.Rows.All
import Wide.All
import OpenK.AllK
import Wide.FinOn
import KE.KSortTup
import KE.KPar
import Lean
import PySem.Challenge.RW_rs0232_01
set_option Elab.async false
set_option bootstrap.genMatcherCode false
set_option genInjectivity false
set_option genSizeOf false
set_option genSizeOfSpec false
set_option tactic.hygienic false
set_option linter.all false
open Option renaming some->U, none->zF
open Bool renaming true->zG, false->zH
noncomputable section
set_option backward.match.sparseCases false
set_option maxRecDepth 100000
open Array renaming any_toList->o0
open Bool renaming false_ne_true->aU, or_eq_true_iff->dL, and_eq_true->dR, eq_iff_iff->eI, or_eq_false_iff->eT, or_eq_true->fj, true_and->fQ, eq_false_iff->gK, and_eq_true_iff->gL, false_xor->im, true_xor->iV, false_or->iW, or_false->og, or_true->pG, false_eq_true->wa
open Int renaming fmod_nonneg_of_pos->eD, fmod_lt_of_pos->fq, natCast_nonneg->fM, not_lt->jc, eq_ofNat_of_zero_le->oZ, add_assoc->uH, zero_add->xS
open List renaming length_map->aD, length_append->aF, mem_singleton->aH, getD_eq_getElem?_getD->aI, mem_append_right->aL, getElem?_eq_getElem->aM, mem_append->aO, mem_append_left->aP, length_range->aQ, all_eq_true->aR, mem_cons->aX, getElem?_map->bD, mem_of_getElem? ->bF, getElem?_append_right->bG, size_toArray->bI, getElem?_append_left->bM, mem_range->bN, getElem?_set_ne->bU, getElem?_toArray->cA, mem_map->cC, append_nil->cF, getElem?_eq_none->cI, getElem?_range->cM, append_assoc->cN, filter_eq_self->cS, getElem?_eq_some_iff->cV, filter_cons_of_pos->dK, mem_filter->dO, map_append->dP, lookup_cons->dQ, map_map->eC, mem_flatMap->eJ, getElem?_set_self->eY, length_eq_zero_iff->fw, length_cons->fy, getElem?_of_mem->fA, filter_cons_of_neg->fB, map_congr_left->fF, forIn_cons->fH, take_add_one->fT, take_length->gd, length_filter_le->gi, reverse_cons->gH, flatten_cons->gJ, not_mem_nil->gX, getElem_mem->gY, mem_iff_getElem? ->hM, drop_eq_getElem_cons->iI, any_cons->iU, length_set->i7, length_nil->i8, pairwise_singleton->jl, find?_cons_of_pos->jE, find?_cons_of_neg->jF, dropLast_concat->kZ, nodup_cons->lu, filter_map->ly, replicate_succ->lA, map_eq_nil_iff->lB, filter_append->mK, getLast?_eq_getElem? ->nn, map_id->nB, length_drop->oU, isEmpty_iff->oV, head_eq_of_cons_eq->oW, drop_length->oX, any_eq_true->oY, filter_eq_nil_iff->pF, pairwise_append->r0, map_cons->uF, drop_nil->uG, mem_filterMap->v9, pairwise_map->xP, foldl_append->xQ, all_map->xR
open List.Pairwise renaming imp_of_mem->oe
open Nat renaming le_trans->aA, le_refl->aJ, lt_of_le_of_lt->aK, lt_of_lt_of_le->aT, le_of_ble_eq_true->aY, le_of_lt->bA, le_of_eq->bJ, le_of_not_lt->bK, le_add_right->bL, not_lt->bP, lt_succ_self->bQ, add_le_add_right->bS, ne_of_lt->bT, le_of_succ_le->bW, add_le_add->bY, lt_irrefl->cD, le_of_lt_succ->cG, succ_le_succ->cH, zero_le->cK, lt_trans->cO, lt_succ_of_lt->cX, add_sub_cancel_left->cY, ble_eq_true_of_le->dJ, le_succ_of_le->dT, ne_of_gt->eB, le_add_left->eH, eq_of_beq_eq_true->eL, lt_succ_of_le->eN, zero_add->eW, succ_ne_zero->eX, sub_self->fh, le_succ->fR, mul_le_mul_left->f4, lt_or_eq_of_le->gf, not_lt_zero->gC, le_antisymm->gD, add_assoc->gQ, min_le_right->gW, add_comm->iB, succ_pos->jD, not_le->kC, lt_of_not_le->kD, add_left_cancel->lz, succ_ne_self->oS, lt_add_of_pos_right->oT
open Nat.succ renaming inj->fP
open Option renaming bind_some->bO, isSome_iff_exists->cR, map_eq_some_iff->f5, map_some->lp, bind_eq_some_iff->oR, toList_some->v8
open Option.some renaming inj->aC
open PySem renaming wpAny_bind->aB, wpAny_pure->aG, wpAny_mono->bX, wpAny_holding->cZ, wpAny_standAt->fc, wpAny_call_entry->fL, wpAny_updateSeq->hH, builtinLookup_eq_fast->hL, wpAny_rule->ii, wpAny_of_eq->ij, wpAny_field->jk, wpAny_newTuple->jC, typeLookup_type->ln, wpAny_Constant_str->mH, strKind_is->mI, call_meets->mJ, wpAny_pyIter_list->ny, slot_list_setitem->nA, wpAny_items_cons->oQ, wpAny_call->pC, wpAny_Assign_Subscript->pD, typeIs_str->pE, wpAny_specialOf->pP, wpAny_seqItems->rZ, wpAny_newList->uD, getMethod_builtin->xO
open PySem.F renaming slot_dict_itemiterator_iter->uE
open PySem.Heap renaming get?_push_of_some->aS, get?_push_size->bE, get?_update_self->cP, lt_size->dD, size_push->ff, get?_update_other->jG
open PySem.Heap.SameBut renaming update->eK
section T1
namespace MI.Lake
theorem f7{B J G:Prop}(h:B/\J)(k:B->J->G):G:=k h.1 h.2
theorem pc{B J Y G:Prop}(h:B/\J/\Y)(k:B->J->Y->G):G:=k h.1 h.2.1 h.2.2
theorem Ie{B J Y aa G:Prop}(h:B/\J/\Y/\aa)(k:B->J->Y->aa->G):G:=k h.1 h.2.1 h.2.2.1 h.2.2.2
theorem dS{Y:Sort _}{J:Y->Prop}{G:Prop}(h:∃B,J B)(k:∀B,J B->G):G:=h.elim λB h=>k B h
theorem cJ{aa:Sort _}{J Y:aa->Prop}{G:Prop}(h:∃B,J B/\Y B)(k:∀B,J B->Y B->G):G:=h.elim λB h=>k B h.1 h.2
theorem cU{J:Sort _}{Y aa:J->Prop}(B:J)(h0:Y B)(h1:aa B):∃B,Y B/\aa B:=⟨B,h0,h1⟩
theorem fZ{ab:Sort _}{J Y aa:ab->Prop}{G:Prop}(h:∃B,J B/\Y B/\aa B)(k:∀B,J B->Y B->aa B->G):G:=h.elim λB h=>k B h.1 h.2.1 h.2.2
theorem g8{J:Sort _}{Y aa ab:J->Prop}(B:J)(h0:Y B)(h1:aa B)(h2:ab B):∃B,Y B/\aa B/\ab B:=⟨B,h0,h1,h2⟩
theorem Hh{ae:Sort _}{J Y aa ab:ae->Prop}{G:Prop}(h:∃B,J B/\Y B/\aa B/\ab B)(k:∀B,J B->Y B->aa B->ab B->G):G:=h.elim λB h=>k B h.1 h.2.1 h.2.2.1 h.2.2.2
theorem Ig{J:Sort _}{Y aa ab ae:J->Prop}(B:J)(h0:Y B)(h1:aa B)(h2:ab B)(h3:ae B):∃B,Y B/\aa B/\ab B/\ae B:=⟨B,h0,h1,h2,h3⟩
theorem Er{aa:Sort _}{ab:Sort _}{Y:aa->ab->Prop}{G:Prop}(h:∃B,∃J,Y B J)(k:∀B J,Y B J->G):G:=h.elim λB h=>h.elim λJ h=>k B J h
theorem Ho{Y:Sort _}{aa:Sort _}{ab:Y->aa->Prop}(B:Y)(J:aa)(h0:ab B J):∃B,∃J,ab B J:=⟨B,J,h0⟩
theorem je{ab:Sort _}{ae:Sort _}{Y aa:ab->ae->Prop}{G:Prop}(h:∃B,∃J,Y B J/\aa B J)(k:∀B J,Y B J->aa B J->G):G:=h.elim λB h=>h.elim λJ h=>k B J h.1 h.2
theorem rO{Y:Sort _}{aa:Sort _}{ab ae:Y->aa->Prop}(B:Y)(J:aa)(h0:ab B J)(h1:ae B J):∃B,∃J,ab B J/\ae B J:=⟨B,J,h0,h1⟩
theorem ga{ae:Sort _}{af:Sort _}{Y aa ab:ae->af->Prop}{G:Prop}(h:∃B,∃J,Y B J/\aa B J/\ab B J)(k:∀B J,Y B J->aa B J->ab B J->G):G:=h.elim λB h=>h.elim λJ h=>k B J h.1 h.2.1 h.2.2
theorem iS{Y:Sort _}{aa:Sort _}{ab ae af:Y->aa->Prop}(B:Y)(J:aa)(h0:ab B J)(h1:ae B J)(h2:af B J):∃B,∃J,ab B J/\ae B J/\af B J:=⟨B,J,h0,h1,h2⟩
theorem pb{af:Sort _}{ag:Sort _}{Y aa ab ae:af->ag->Prop}{G:Prop}(h:∃B,∃J,Y B J/\aa B J/\ab B J/\ae B J)(k:∀B J,Y B J->aa B J->ab B J->ae B J->G):G:=h.elim λB h=>h.elim λJ h=>k B J h.1 h.2.1 h.2.2.1 h.2.2.2
theorem tY{Y:Sort _}{aa:Sort _}{ab ae af ag:Y->aa->Prop}(B:Y)(J:aa)(h0:ab B J)(h1:ae B J)(h2:af B J)(h3:ag B J):∃B,∃J,ab B J/\ae B J/\af B J/\ag B J:=⟨B,J,h0,h1,h2,h3⟩
theorem KA{ag:Sort _}{ah:Sort _}{Y aa ab ae af:ag->ah->Prop}{G:Prop}(h:∃B,∃J,Y B J/\aa B J/\ab B J/\ae B J/\af B J)(k:∀B J,Y B J->aa B J->ab B J->ae B J->af B J->G):G:=h.elim λB h=>h.elim λJ h=>k B J h.1 h.2.1 h.2.2.1 h.2.2.2.1 h.2.2.2.2
theorem Lq{Y:Sort _}{aa:Sort _}{ab ae af ag ah:Y->aa->Prop}(B:Y)(J:aa)(h0:ab B J)(h1:ae B J)(h2:af B J)(h3:ag B J)(h4:ah B J):∃B,∃J,ab B J/\ae B J/\af B J/\ag B J/\ah B J:=⟨B,J,h0,h1,h2,h3,h4⟩
theorem Ep{ab:Sort _}{ae:Sort _}{af:Sort _}{aa:ab->ae->af->Prop}{G:Prop}(h:∃B,∃J,∃Y,aa B J Y)(k:∀B J Y,aa B J Y->G):G:=h.elim λB h=>h.elim λJ h=>h.elim λY h=>k B J Y h
theorem Jh{aa:Sort _}{ab:Sort _}{ae:Sort _}{af:aa->ab->ae->Prop}(B:aa)(J:ab)(Y:ae)(h0:af B J Y):∃B,∃J,∃Y,af B J Y:=⟨B,J,Y,h0⟩
theorem BX{ae:Sort _}{af:Sort _}{ag:Sort _}{aa ab:ae->af->ag->Prop}{G:Prop}(h:∃B,∃J,∃Y,aa B J Y/\ab B J Y)(k:∀B J Y,aa B J Y->ab B J Y->G):G:=h.elim λB h=>h.elim λJ h=>h.elim λY h=>k B J Y h.1 h.2
theorem Ey{aa:Sort _}{ab:Sort _}{ae:Sort _}{af ag:aa->ab->ae->Prop}(B:aa)(J:ab)(Y:ae)(h0:af B J Y)(h1:ag B J Y):∃B,∃J,∃Y,af B J Y/\ag B J Y:=⟨B,J,Y,h0,h1⟩
theorem I8{af:Sort _}{ag:Sort _}{ah:Sort _}{aa ab ae:af->ag->ah->Prop}{G:Prop}(h:∃B,∃J,∃Y,aa B J Y/\ab B J Y/\ae B J Y)(k:∀B J Y,aa B J Y->ab B J Y->ae B J Y->G):G:=h.elim λB h=>h.elim λJ h=>h.elim λY h=>k B J Y h.1 h.2.1 h.2.2
theorem JT{aa:Sort _}{ab:Sort _}{ae:Sort _}{af ag ah:aa->ab->ae->Prop}(B:aa)(J:ab)(Y:ae)(h0:af B J Y)(h1:ag B J Y)(h2:ah B J Y):∃B,∃J,∃Y,af B J Y/\ag B J Y/\ah B J Y:=⟨B,J,Y,h0,h1,h2⟩
theorem Ar{ag:Sort _}{ah:Sort _}{ai:Sort _}{aa ab ae af:ag->ah->ai->Prop}{G:Prop}(h:∃B,∃J,∃Y,aa B J Y/\ab B J Y/\ae B J Y/\af B J Y)(k:∀B J Y,aa B J Y->ab B J Y->ae B J Y->af B J Y->G):G:=h.elim λB h=>h.elim λJ h=>h.elim λY h=>k B J Y h.1 h.2.1 h.2.2.1 h.2.2.2
theorem Hn{aa:Sort _}{ab:Sort _}{ae:Sort _}{af ag ah ai:aa->ab->ae->Prop}(B:aa)(J:ab)(Y:ae)(h0:af B J Y)(h1:ag B J Y)(h2:ah B J Y)(h3:ai B J Y):∃B,∃J,∃Y,af B J Y/\ag B J Y/\ah B J Y/\ai B J Y:=⟨B,J,Y,h0,h1,h2,h3⟩
theorem Aq{ah:Sort _}{ai:Sort _}{aj:Sort _}{aa ab ae af ag:ah->ai->aj->Prop}{G:Prop}(h:∃B,∃J,∃Y,aa B J Y/\ab B J Y/\ae B J Y/\af B J Y/\ag B J Y)(k:∀B J Y,aa B J Y->ab B J Y->ae B J Y->af B J Y->ag B J Y->G):G:=h.elim λB h=>h.elim λJ h=>h.elim λY h=>k B J Y h.1 h.2.1 h.2.2.1 h.2.2.2.1 h.2.2.2.2
theorem Jg{aa:Sort _}{ab:Sort _}{ae:Sort _}{af ag ah ai aj:aa->ab->ae->Prop}(B:aa)(J:ab)(Y:ae)(h0:af B J Y)(h1:ag B J Y)(h2:ah B J Y)(h3:ai B J Y)(h4:aj B J Y):∃B,∃J,∃Y,af B J Y/\ag B J Y/\ah B J Y/\ai B J Y/\aj B J Y:=⟨B,J,Y,h0,h1,h2,h3,h4⟩
theorem LS{ab:Sort _}{ae:Sort _}{af:Sort _}{ag:Sort _}{aa:ab->ae->af->ag->Prop}{G:Prop}(h:∃B,∃J,∃Y,∃x3,aa B J Y x3)(k:∀B J Y x3,aa B J Y x3->G):G:=h.elim λB h=>h.elim λJ h=>h.elim λY h=>h.elim λx3 h=>k B J Y x3 h
theorem Kz{ae:Sort _}{af:Sort _}{ag:Sort _}{ah:Sort _}{aa ab:ae->af->ag->ah->Prop}{G:Prop}(h:∃B,∃J,∃Y,∃x3,aa B J Y x3/\ab B J Y x3)(k:∀B J Y x3,aa B J Y x3->ab B J Y x3->G):G:=h.elim λB h=>h.elim λJ h=>h.elim λY h=>h.elim λx3 h=>k B J Y x3 h.1 h.2
theorem I7{af:Sort _}{ag:Sort _}{ah:Sort _}{ai:Sort _}{aa ab ae:af->ag->ah->ai->Prop}{G:Prop}(h:∃B,∃J,∃Y,∃x3,aa B J Y x3/\ab B J Y x3/\ae B J Y x3)(k:∀B J Y x3,aa B J Y x3->ab B J Y x3->ae B J Y x3->G):G:=h.elim λB h=>h.elim λJ h=>h.elim λY h=>h.elim λx3 h=>k B J Y x3 h.1 h.2.1 h.2.2
theorem LX{aa:Sort _}{ab:Sort _}{ae:Sort _}{af:Sort _}{ag ah ai:aa->ab->ae->af->Prop}(B:aa)(J:ab)(Y:ae)(x3:af)(h0:ag B J Y x3)(h1:ah B J Y x3)(h2:ai B J Y x3):∃B,∃J,∃Y,∃x3,ag B J Y x3/\ah B J Y x3/\ai B J Y x3:=⟨B,J,Y,x3,h0,h1,h2⟩
theorem JQ{ag:Sort _}{ah:Sort _}{ai:Sort _}{aj:Sort _}{aa ab ae af:ag->ah->ai->aj->Prop}{G:Prop}(h:∃B,∃J,∃Y,∃x3,aa B J Y x3/\ab B J Y x3/\ae B J Y x3/\af B J Y x3)(k:∀B J Y x3,aa B J Y x3->ab B J Y x3->ae B J Y x3->af B J Y x3->G):G:=h.elim λB h=>h.elim λJ h=>h.elim λY h=>h.elim λx3 h=>k B J Y x3 h.1 h.2.1 h.2.2.1 h.2.2.2
theorem KJ{aa:Sort _}{ab:Sort _}{ae:Sort _}{af:Sort _}{ag ah ai aj:aa->ab->ae->af->Prop}(B:aa)(J:ab)(Y:ae)(x3:af)(h0:ag B J Y x3)(h1:ah B J Y x3)(h2:ai B J Y x3)(h3:aj B J Y x3):∃B,∃J,∃Y,∃x3,ag B J Y x3/\ah B J Y x3/\ai B J Y x3/\aj B J Y x3:=⟨B,J,Y,x3,h0,h1,h2,h3⟩
theorem Ky{ah:Sort _}{ai:Sort _}{aj:Sort _}{ak:Sort _}{aa ab ae af ag:ah->ai->aj->ak->Prop}{G:Prop}(h:∃B,∃J,∃Y,∃x3,aa B J Y x3/\ab B J Y x3/\ae B J Y x3/\af B J Y x3/\ag B J Y x3)(k:∀B J Y x3,aa B J Y x3->ab B J Y x3->ae B J Y x3->af B J Y x3->ag B J Y x3->G):G:=h.elim λB h=>h.elim λJ h=>h.elim λY h=>h.elim λx3 h=>k B J Y x3 h.1 h.2.1 h.2.2.1 h.2.2.2.1 h.2.2.2.2
theorem KI{aa:Sort _}{ab:Sort _}{ae:Sort _}{af:Sort _}{ag ah ai aj ak:aa->ab->ae->af->Prop}(B:aa)(J:ab)(Y:ae)(x3:af)(h0:ag B J Y x3)(h1:ah B J Y x3)(h2:ai B J Y x3)(h3:aj B J Y x3)(h4:ak B J Y x3):∃B,∃J,∃Y,∃x3,ag B J Y x3/\ah B J Y x3/\ai B J Y x3/\aj B J Y x3/\ak B J Y x3:=⟨B,J,Y,x3,h0,h1,h2,h3,h4⟩
theorem Kx{ai:Sort _}{aj:Sort _}{ak:Sort _}{al:Sort _}{aa ab ae af ag ah:ai->aj->ak->al->Prop}{G:Prop}(h:∃B,∃J,∃Y,∃x3,aa B J Y x3/\ab B J Y x3/\ae B J Y x3/\af B J Y x3/\ag B J Y x3/\ah B J Y x3)(k:∀B J Y x3,aa B J Y x3->ab B J Y x3->ae B J Y x3->af B J Y x3->ag B J Y x3->ah B J Y x3->G):G:=h.elim λB h=>h.elim λJ h=>h.elim λY h=>h.elim λx3 h=>k B J Y x3 h.1 h.2.1 h.2.2.1 h.2.2.2.1 h.2.2.2.2.1 h.2.2.2.2.2
theorem JP{al:Sort _}{am:Sort _}{ao:Sort _}{ap:Sort _}{aa ab ae af ag ah ai aj ak:al->am->ao->ap->Prop}{G:Prop}(h:∃B,∃J,∃Y,∃x3,aa B J Y x3/\ab B J Y x3/\ae B J Y x3/\af B J Y x3/\ag B J Y x3/\ah B J Y x3/\ai B J Y x3/\aj B J Y x3/\ak B J Y x3)(k:∀B J Y x3,aa B J Y x3->ab B J Y x3->ae B J Y x3->af B J Y x3->ag B J Y x3->ah B J Y x3->ai B J Y x3->aj B J Y x3->ak B J Y x3->G):G:=h.elim λB h=>h.elim λJ h=>h.elim λY h=>h.elim λx3 h=>k B J Y x3 h.1 h.2.1 h.2.2.1 h.2.2.2.1 h.2.2.2.2.1 h.2.2.2.2.2.1 h.2.2.2.2.2.2.1 h.2.2.2.2.2.2.2.1 h.2.2.2.2.2.2.2.2
theorem LV{aa:Sort _}{ab:Sort _}{ae:Sort _}{af:Sort _}{ag ah ai aj ak al am ao ap:aa->ab->ae->af->Prop}(B:aa)(J:ab)(Y:ae)(x3:af)(h0:ag B J Y x3)(h1:ah B J Y x3)(h2:ai B J Y x3)(h3:aj B J Y x3)(h4:ak B J Y x3)(h5:al B J Y x3)(h6:am B J Y x3)(h7:ao B J Y x3)(h8:ap B J Y x3):∃B,∃J,∃Y,∃x3,ag B J Y x3/\ah B J Y x3/\ai B J Y x3/\aj B J Y x3/\ak B J Y x3/\al B J Y x3/\am B J Y x3/\ao B J Y x3/\ap B J Y x3:=⟨B,J,Y,x3,h0,h1,h2,h3,h4,h5,h6,h7,h8⟩
theorem JO{af:Sort _}{ag:Sort _}{ah:Sort _}{ai:Sort _}{aj:Sort _}{aa ab ae:af->ag->ah->ai->aj->Prop}{G:Prop}(h:∃B,∃J,∃Y,∃x3,∃x4,aa B J Y x3 x4/\ab B J Y x3 x4/\ae B J Y x3 x4)(k:∀B J Y x3 x4,aa B J Y x3 x4->ab B J Y x3 x4->ae B J Y x3 x4->G):G:=h.elim λB h=>h.elim λJ h=>h.elim λY h=>h.elim λx3 h=>h.elim λx4 h=>k B J Y x3 x4 h.1 h.2.1 h.2.2
theorem JS{aa:Sort _}{ab:Sort _}{ae:Sort _}{af:Sort _}{ag:Sort _}{ah ai aj:aa->ab->ae->af->ag->Prop}(B:aa)(J:ab)(Y:ae)(x3:af)(x4:ag)(h0:ah B J Y x3 x4)(h1:ai B J Y x3 x4)(h2:aj B J Y x3 x4):∃B,∃J,∃Y,∃x3,∃x4,ah B J Y x3 x4/\ai B J Y x3 x4/\aj B J Y x3 x4:=⟨B,J,Y,x3,x4,h0,h1,h2⟩
theorem JN{ag:Sort _}{ah:Sort _}{ai:Sort _}{aj:Sort _}{ak:Sort _}{aa ab ae af:ag->ah->ai->aj->ak->Prop}{G:Prop}(h:∃B,∃J,∃Y,∃x3,∃x4,aa B J Y x3 x4/\ab B J Y x3 x4/\ae B J Y x3 x4/\af B J Y x3 x4)(k:∀B J Y x3 x4,aa B J Y x3 x4->ab B J Y x3 x4->ae B J Y x3 x4->af B J Y x3 x4->G):G:=h.elim λB h=>h.elim λJ h=>h.elim λY h=>h.elim λx3 h=>h.elim λx4 h=>k B J Y x3 x4 h.1 h.2.1 h.2.2.1 h.2.2.2
theorem Lp{aa:Sort _}{ab:Sort _}{ae:Sort _}{af:Sort _}{ag:Sort _}{ah ai aj ak:aa->ab->ae->af->ag->Prop}(B:aa)(J:ab)(Y:ae)(x3:af)(x4:ag)(h0:ah B J Y x3 x4)(h1:ai B J Y x3 x4)(h2:aj B J Y x3 x4)(h3:ak B J Y x3 x4):∃B,∃J,∃Y,∃x3,∃x4,ah B J Y x3 x4/\ai B J Y x3 x4/\aj B J Y x3 x4/\ak B J Y x3 x4:=⟨B,J,Y,x3,x4,h0,h1,h2,h3⟩
theorem LR{ai:Sort _}{aj:Sort _}{ak:Sort _}{al:Sort _}{am:Sort _}{aa ab ae af ag ah:ai->aj->ak->al->am->Prop}{G:Prop}(h:∃B,∃J,∃Y,∃x3,∃x4,aa B J Y x3 x4/\ab B J Y x3 x4/\ae B J Y x3 x4/\af B J Y x3 x4/\ag B J Y x3 x4/\ah B J Y x3 x4)(k:∀B J Y x3 x4,aa B J Y x3 x4->ab B J Y x3 x4->ae B J Y x3 x4->af B J Y x3 x4->ag B J Y x3 x4->ah B J Y x3 x4->G):G:=h.elim λB h=>h.elim λJ h=>h.elim λY h=>h.elim λx3 h=>h.elim λx4 h=>k B J Y x3 x4 h.1 h.2.1 h.2.2.1 h.2.2.2.1 h.2.2.2.2.1 h.2.2.2.2.2
theorem LQ{ae:Sort _}{af:Sort _}{ag:Sort _}{ah:Sort _}{ai:Sort _}{aj:Sort _}{aa ab:ae->af->ag->ah->ai->aj->Prop}{G:Prop}(h:∃B,∃J,∃Y,∃x3,∃x4,∃x5,aa B J Y x3 x4 x5/\ab B J Y x3 x4 x5)(k:∀B J Y x3 x4 x5,aa B J Y x3 x4 x5->ab B J Y x3 x4 x5->G):G:=h.elim λB h=>h.elim λJ h=>h.elim λY h=>h.elim λx3 h=>h.elim λx4 h=>h.elim λx5 h=>k B J Y x3 x4 x5 h.1 h.2
theorem Lm{ag:Sort _}{ah:Sort _}{ai:Sort _}{aj:Sort _}{ak:Sort _}{al:Sort _}{aa ab ae af:ag->ah->ai->aj->ak->al->Prop}{G:Prop}(h:∃B,∃J,∃Y,∃x3,∃x4,∃x5,aa B J Y x3 x4 x5/\ab B J Y x3 x4 x5/\ae B J Y x3 x4 x5/\af B J Y x3 x4 x5)(k:∀B J Y x3 x4 x5,aa B J Y x3 x4 x5->ab B J Y x3 x4 x5->ae B J Y x3 x4 x5->af B J Y x3 x4 x5->G):G:=h.elim λB h=>h.elim λJ h=>h.elim λY h=>h.elim λx3 h=>h.elim λx4 h=>h.elim λx5 h=>k B J Y x3 x4 x5 h.1 h.2.1 h.2.2.1 h.2.2.2
theorem Lo{aa:Sort _}{ab:Sort _}{ae:Sort _}{af:Sort _}{ag:Sort _}{ah:Sort _}{ai:Sort _}{aj:aa->ab->ae->af->ag->ah->ai->Prop}(B:aa)(J:ab)(Y:ae)(x3:af)(x4:ag)(x5:ah)(x6:ai)(h0:aj B J Y x3 x4 x5 x6):∃B,∃J,∃Y,∃x3,∃x4,∃x5,∃x6,aj B J Y x3 x4 x5 x6:=⟨B,J,Y,x3,x4,x5,x6,h0⟩
theorem Ll{ag:Sort _}{ah:Sort _}{ai:Sort _}{aj:Sort _}{ak:Sort _}{al:Sort _}{am:Sort _}{aa ab ae af:ag->ah->ai->aj->ak->al->am->Prop}{G:Prop}(h:∃B,∃J,∃Y,∃x3,∃x4,∃x5,∃x6,aa B J Y x3 x4 x5 x6/\ab B J Y x3 x4 x5 x6/\ae B J Y x3 x4 x5 x6/\af B J Y x3 x4 x5 x6)(k:∀B J Y x3 x4 x5 x6,aa B J Y x3 x4 x5 x6->ab B J Y x3 x4 x5 x6->ae B J Y x3 x4 x5 x6->af B J Y x3 x4 x5 x6->G):G:=h.elim λB h=>h.elim λJ h=>h.elim λY h=>h.elim λx3 h=>h.elim λx4 h=>h.elim λx5 h=>h.elim λx6 h=>k B J Y x3 x4 x5 x6 h.1 h.2.1 h.2.2.1 h.2.2.2
theorem JR{aa:Sort _}{ab:Sort _}{ae:Sort _}{af:Sort _}{ag:Sort _}{ah:Sort _}{ai:Sort _}{aj ak al am ao ap aq:aa->ab->ae->af->ag->ah->ai->Prop}(B:aa)(J:ab)(Y:ae)(x3:af)(x4:ag)(x5:ah)(x6:ai)(h0:aj B J Y x3 x4 x5 x6)(h1:ak B J Y x3 x4 x5 x6)(h2:al B J Y x3 x4 x5 x6)(h3:am B J Y x3 x4 x5 x6)(h4:ao B J Y x3 x4 x5 x6)(h5:ap B J Y x3 x4 x5 x6)(h6:aq B J Y x3 x4 x5 x6):∃B,∃J,∃Y,∃x3,∃x4,∃x5,∃x6,aj B J Y x3 x4 x5 x6/\ak B J Y x3 x4 x5 x6/\al B J Y x3 x4 x5 x6/\am B J Y x3 x4 x5 x6/\ao B J Y x3 x4 x5 x6/\ap B J Y x3 x4 x5 x6/\aq B J Y x3 x4 x5 x6:=⟨B,J,Y,x3,x4,x5,x6,h0,h1,h2,h3,h4,h5,h6⟩
theorem LP{ag:Sort _}{ah:Sort _}{ai:Sort _}{aj:Sort _}{ak:Sort _}{al:Sort _}{am:Sort _}{ao:Sort _}{ap:Sort _}{aa ab ae af:ag->ah->ai->aj->ak->al->am->ao->ap->Prop}{G:Prop}(h:∃B,∃J,∃Y,∃x3,∃x4,∃x5,∃x6,∃x7,∃x8,aa B J Y x3 x4 x5 x6 x7 x8/\ab B J Y x3 x4 x5 x6 x7 x8/\ae B J Y x3 x4 x5 x6 x7 x8/\af B J Y x3 x4 x5 x6 x7 x8)(k:∀B J Y x3 x4 x5 x6 x7 x8,aa B J Y x3 x4 x5 x6 x7 x8->ab B J Y x3 x4 x5 x6 x7 x8->ae B J Y x3 x4 x5 x6 x7 x8->af B J Y x3 x4 x5 x6 x7 x8->G):G:=h.elim λB h=>h.elim λJ h=>h.elim λY h=>h.elim λx3 h=>h.elim λx4 h=>h.elim λx5 h=>h.elim λx6 h=>h.elim λx7 h=>h.elim λx8 h=>k B J Y x3 x4 x5 x6 x7 x8 h.1 h.2.1 h.2.2.1 h.2.2.2
theorem aZ{B:Type _}{l:List B}{i:Nat}{x:B}(e:l[i]? =U x):i < l.length:=(cV.mp e).1
theorem ns{B:Type _}{x:B}{G:Prop}(h:Option.none=U x):G:=nomatch h
theorem sn{B:Type _}{x:B}{G:Prop}(h:U x=Option.none):G:=nomatch h
theorem ft{G:Prop}(h:zH=zG):G:=nomatch h
theorem tf{G:Prop}(h:zG=zH):G:=nomatch h
theorem sp{B J:Type _}{a c:B}{b d:J}{G:Prop}(h:U (a,b)=U (c,d))(k:a=c->b=d->G):G:=k (congrArg Prod.fst (aC h)) (congrArg Prod.snd (aC h))
theorem si{B:Type _}{a c:B}{G:Prop}(h:U a=U c)(k:a=c->G):G:=k (aC h)
open PySem
theorem Ec{P:Nat->Prop}:∀k,k < 0->P k:=λB h=>absurd h (gC _)
theorem j0{n:Nat}{P:Nat->Prop}(h:∀k,k < n->P k)(p:P n):∀k,k < n+1->P k:=λk B=>(gf (cG B)).elim (h k) λe=>e▸p
theorem mi{B J:Type _}{f:B->J}{o:Option B}{y:J}{G:Prop}(h:o.map f=U y)(k:∀x,o=U x->f x=y->G):G:=cJ (f5.mp h) k
theorem bi{B J:Type _}{f:B->Option J}{o:Option B}{y:J}{G:Prop}(h:o.bind f=U y)(k:∀x,o=U x->f x=U y->G):G:=cJ (oR.mp h) k
theorem mm{B J:Type _}{f:B->J}{l:List B}{y:J}{G:Prop}(h:y∈l.map f)(k:∀x,x∈l->f x=y->G):G:=cJ (cC.mp h) k
theorem mL{zB:Model}{A:Around}{B:Type}{c:Prop}[i:Decidable c]{x y:Sem B}{Q:B->Shared->Prop}{E:Value->Shared->Prop}{s:Shared}(J:c)(h:wpAny zB A x Q E s):wpAny zB A (@ite _ c i x y) Q E s:=Eq.symm (if_pos J)▸h
theorem j7{zB:Model}{A:Around}{B:Type}{c:Prop}[i:Decidable c]{x y:Sem B}{Q:B->Shared->Prop}{E:Value->Shared->Prop}{s:Shared}(J: ¬c)(h:wpAny zB A y Q E s):wpAny zB A (@ite _ c i x y) Q E s:=Eq.symm (if_neg J)▸h
theorem nL(k:Nat):(-4611686018427387904:Int) < (k:Int):=Int.lt_of_lt_of_le (by decide) (fM k)
theorem nH{k:Nat}(h:k<=1000000000):(k:Int) < 4611686018427387904:=Int.lt_of_le_of_lt (Int.ofNat_le.mpr h) (by decide)
theorem jS{j f n:Nat}(h:j+(f+1)=n):j+1+f=n:=(Nat.add_right_comm ..).trans h
theorem jL{j f n:Nat}(h:j+(f+1)=n):j < n:=Nat.lt_of_lt_of_eq (oT (jD f)) h
theorem aN{w i j:Nat}(h:i≠j):w+i≠w+j:=λq=>h (lz q)
theorem i4{i:Nat}(h:i < 5):i+1+(4 - i)=5:=(Nat.add_right_comm i 1 (4 - i)).trans (congrArg Nat.succ (Nat.add_sub_cancel' (cG h)))
theorem a1{a b:Bool}(h:(a&&b)=zG):a=zG:=(gL.mp h).1
theorem a2{a b:Bool}(h:(a&&b)=zG):b=zG:=(gL.mp h).2
end MI.Lake
end T1
section T2
open PySem
namespace MI.Lake
abbrev Txt:=List Nat
set_option genInjectivity false
set_option genSizeOf false
set_option genSizeOfSpec false
set_option genCtorIdx false in
inductive V where
 |none
 |bool (b:Bool)
 |int (i:Int)
 |str (s:Txt)
 |tup (vs:List V)
 |ref (i:Nat)
 |cst (c:Value)
 |flist (vs:List V)
 |rng (a b:Int)
 |kws (ks:List Txt) (vs:List V)
noncomputable def V.ctorIdx(x:V):Nat:=V.casesOn x 0 (λB=>1) (λB=>2) (λB=>3) (λB=>4) (λB=>5) (λB=>6) (λB=>7) (λB B=>8) (λB B=>9)
set_option genCtorIdx false in
inductive O where
 |list (vs:List V)
 |inst (zD:Addr) (fs:List (Nat×V))
noncomputable def O.ctorIdx(x:O):Nat:=O.casesOn x (λB=>0) (λB B=>1)
abbrev H:=List O
abbrev aW:=List (Nat×Option V)
noncomputable def aW.get(x:Nat):aW->Option V
 |[]=>.none
 |(y,v)::r=>if y==x then v else aW.get x r
noncomputable def aW.set(x:Nat)(v:V):aW->aW
 |[]=>[(x,U v)]
 |(y,u)::r=>if y==x then (y,U v)::r else (y,u)::aW.set x v r
noncomputable def look(x:Nat):List (Nat×V)->Option V
 |[]=>.none
 |(y,v)::r=>if y==x then U v else look x r
noncomputable def put(x:Nat)(v:V):List (Nat×V)->List (Nat×V)
 |[]=>[(x,v)]
 |(y,u)::r=>if y==x then (y,v)::r else (y,u)::put x v r
set_option genCtorIdx false in
inductive C0| add| sub| mul| fdiv| mod (u:Unit:=())
noncomputable def C0.ctorIdx(x:C0):Nat:=C0.casesOn x 0 1 2 3 (λB=>4)
set_option genCtorIdx false in
inductive F3| eq| ne| lt| le| gt| ge| isIn| notIn| is_| isNot (u:Unit:=())
noncomputable def F3.ctorIdx(x:F3):Nat:=F3.casesOn x 0 1 2 3 4 5 6 7 8 (λB=>9)
set_option genCtorIdx false in
inductive T where
 |name (x:Nat)
 |tup (ts:List T)
noncomputable def T.ctorIdx(x:T):Nat:=T.casesOn x (λB=>0) (λB=>1)
set_option genCtorIdx false in
mutual
inductive E where
 |lit (v:V)
 |var (x:Nat)
 |bin (op:C0) (a b:E)
 |neg (a:E)
 |not (a:E)
 |and (a b:E)
 |or (a b:E)
 |ite (t a b:E)
 |list (es:List E)
 |tup (es:List E)
 |dsub (ks:List Int) (vs:List E) (i:E)
 |dsubS (ks:List Txt) (vs:List E) (i:E)
 |listZip (es:List E)
 |repl (a:E) (x y:Txt)
 |fv (a:E)
 |fmt (es:List E)
 |cmp (op:F3) (a b:E)
 |sub (a i:E)
 |slice (a:E) (l u s:Option E)
 |attr (a:E) (x:Nat)
 |call (f:E) (as:List E)
 |callM (o:E) (x:Nat) (as:List E) (ks:List (Nat×E))
 |comp (elt:E) (gens:List L6) (own:List Nat)
inductive L6 where
 |mk (t:T) (it:It) (ifs:List E)
inductive It where
 |plain (e:E)
 |enum (e:E)
 |zip (a b:E)
 |items (e:E)
end
noncomputable def E.ctorIdx(x:E):Nat:=E.casesOn x (λB=>0) (λB=>1) (λB B B=>2) (λB=>3) (λB=>4) (λB B=>5) (λB B=>6) (λB B B=>7) (λB=>8) (λB=>9) (λB B B=>10) (λB B B=>11) (λB=>12) (λB B B=>13) (λB=>14) (λB=>15) (λB B B=>16) (λB B=>17) (λB B B B=>18) (λB B=>19) (λB B=>20) (λB B B B=>21) (λB B B=>22)
noncomputable def It.ctorIdx(x:It):Nat:=It.casesOn x (λB=>0) (λB=>1) (λB B=>2) (λB=>3)
set_option genCtorIdx false in
inductive S where
 |names (I:List Nat) (e:E)
 |unpack (ts:List T) (e:E)
 |setAttr (o:E) (x:Nat) (e:E)
 |setSub (o i e:E)
 |setAll (o e:E)
 |del (o i:E)
 |expr (e:E)
 |ite (t:E) (a b:List S)
 |whil (t:E) (b:List S)
 |for_ (t:T) (it:It) (b:List S)
 |ret (e:Option E)
 |brk
 |pass
 |bad
noncomputable def S.ctorIdx(x:S):Nat:=S.casesOn x (λB B=>0) (λB B=>1) (λB B B=>2) (λB B B=>3) (λB B=>4) (λB B=>5) (λB=>6) (λB B B=>7) (λB B=>8) (λB B B=>9) (λB=>10) 11 12 13
structure Fn where
 params:List Nat
 dflts:List V
 kwonly:List Nat
 kwarg:Option Nat
 body:List S
structure Ij where
 meths:List (Nat×Addr)
 init:Addr
 flds:List Nat
structure G where
 fns:List (Addr×Fn)
 clss:List (Addr×Ij)
 dicts:List (Addr×List (Txt×V))
 pats:List Addr
 ids:List Txt
 delId:Nat
 setId:Nat
set_option genCtorIdx false in
inductive Fl where
 |next| brk| ret (v:V)
noncomputable def Fl.ctorIdx(x:Fl):Nat:=Fl.casesOn x 0 1 (λB=>2)
noncomputable def jh(i:Int):Bool:=decide (-4611686018427387904 < i)&&decide (i < 4611686018427387904)
def mkI(i:Int):Option V:=if jh i then U (.int i) else .none
noncomputable def iM(n:Nat):Bool:=Nat.ble n 1000000
def iP(vs:List V)(N:H):Option (V×H):=if iM vs.length then U (.ref N.length,N++ [.list vs]) else .none
def GY(s:Txt)(N:H):Option (V×H):=if iM s.length then U (.str s,N) else .none
def jV(N:H)(i:Nat)(vs:List V)(v:V):Option (V×H):=if iM vs.length then U (v,N.set i (.list vs)) else .none
noncomputable def dX(N:H):V->Option (List V)
 |.ref i=>match N[i]? with
  |some (.list I)=>U I
  |_=>.none
 |_=>.none
def KU(op:C0)(a b:Int)(N:H):Option (V×H):=match op with
 |.add=>(mkI (a+b)).map (λB=>(B,N))
 |.sub=>(mkI (a - b)).map (λB=>(B,N))
 |.mul=>if jh a then (mkI (a*b)).map (λB=>(B,N)) else .none
 |.fdiv=>if decide (0 < b)&&decide (b < 1000000000) then (mkI (Int.fdiv a b)).map (λB=>(B,N)) else .none
 |.mod _=>if decide (0 < b) then (mkI (Int.fmod a b)).map (λB=>(B,N)) else .none
def addL(x y:V)(N:H):Option (V×H):=(dX N x).bind λI=>(dX N y).bind λys=>iP (I++ys) N
def Kh(x y:V)(N:H):Option (V×H):=match y with
 |.int n=>(dX N x).bind λI=>if decide (n<=1000)&&(jh n&&Nat.ble I.length 1000) then iP (List.replicate n.toNat I).flatten N else .none
 |_=>.none
def KS(x y:V)(N:H):Option (V×H):=match x with
 |.str a=>match y with
  |.str b=>GY (a++b) N
  |_=>.none
 |_=>.none
def Jy(op:C0)(x y:V)(N:H):Option (V×H):=match op with
 |.add=>addL x y N
 |.mul=>Kh x y N
 |_=>.none
def mR(op:C0)(x y:V)(N:H):Option (V×H):=match x with
 |.int a=>match y with
  |.int b=>KU op a b N
  |_=>.none
 |.str _=>match op with
  |.add=>KS x y N
  |_=>.none
 |_=>Jy op x y N
noncomputable def truthy:V->Option Bool
 |.none=>U zH
 |.bool b=>U b
 |.int i=>U (!(i==0))
 |_=>.none
noncomputable def cW:Txt->Txt->Bool
 |[],[]=>zG
 |a::r,b::q=>Nat.beq a b&&cW r q
 |_,_=>zH
noncomputable def oq(s:Txt):Bool:=s.all λc=>Nat.blt c 1114112
noncomputable def gP(f:V->Option V):List V->Option (List V)
 |[]=>U []
 |x::r=>match f x with
  |some y=>match gP f r with
   |some ys=>U (y::ys)
   |.none=>.none
  |.none=>.none
noncomputable def flat(N:H):Nat->V->Option V
 | 0,_=>.none
 |n+1,v=>match v with
  |.none=>U .none
  |.bool b=>U (.bool b)
  |.int i=>U (.int i)
  |.str s=>if oq s then U (.str s) else .none
  |.tup vs=>match gP (flat N n) vs with
   |some ds=>U (.tup ds)
   |.none=>.none
  |.ref i=>match N[i]? with
   |some (.list vs)=>match gP (flat N n) vs with
    |some ds=>U (.flist ds)
    |.none=>.none
   |_=>.none
  |_=>.none
mutual
noncomputable def uB:V->V->Bool
 |.none,.none=>zG
 |.bool a,.bool b=>a==b
 |.bool a,.int j=>(if a then 1 else 0)==j
 |.int i,.bool b=>i==(if b then 1 else 0)
 |.int a,.int b=>a==b
 |.str a,.str b=>cW a b
 |.tup I,.tup ys=>z6 I ys
 |.flist I,.flist ys=>z6 I ys
 |_,_=>zH
noncomputable def z6:List V->List V->Bool
 |[],[]=>zG
 |x::I,y::ys=>uB x y&&z6 I ys
 |_,_=>zH
end
def yJ(N:H)(a b:V):Option Bool:=match flat N 12 a with
 |some x=>match flat N 12 b with
  |some y=>U (uB x y)
  |.none=>.none
 |.none=>.none
def G0(N:H)(x:V)(ys:List V):Option Bool:=match flat N 12 x with
 |some d=>match gP (flat N 12) ys with
  |some es=>U (es.any λe=>uB e d)
  |.none=>.none
 |.none=>.none
noncomputable def gM(s:Txt):Str:=⟨s.toArray⟩
noncomputable def rv(s:Str):Txt:=s.cps.toList
noncomputable def lC(k:Txt):List (Txt×V)->Option V
 |[]=>.none
 |(a,v)::r=>if cW a k then U v else lC k r
noncomputable def B5:V->Option Int
 |.int i=>U i
 |_=>.none
noncomputable def jI:V->Option Txt
 |.str p=>U p
 |_=>.none
def iO:V->Option (Txt×Txt)
 |.tup vs=>match vs with
  |[]=>.none
  |a::r=>match r with
   |[]=>.none
   |b::r=>match r with
    |[]=>(jI a).bind λx=>(jI b).map λy=>(x,y)
    |_=>.none
 |_=>.none
noncomputable def C6:Txt->Txt->Bool
 |[],t=>match t with
  |[]=>zH
  |_=>zG
 |a::r,t=>match t with
  |[]=>zH
  |b::q=>Nat.blt a b || (Nat.beq a b&&C6 r q)
def G6(p q:Txt×Txt):Bool:=C6 p.1 q.1 || (cW p.1 q.1&&C6 p.2 q.2)
def JM(x y:V):Bool:=(iO x).any λa=>(iO y).any λb=>G6 a b
def mV(I:List V):Bool:=Nat.blt I.length 64&&(I.all λv=>(iO v).isSome)
noncomputable def jN(n:Nat)(lt:Nat->Nat->Bool):PySem.W.KasT B->Option B
 |.ret a=>U a
 |.ask i j k=>if Nat.blt i n&&Nat.blt j n then jN n lt (k (lt i j)) else .none
def zy(I:List V)(i j:Nat):Bool:=JM (I.getD i .none) (I.getD j .none)
def o5(I:List V)(N:H):Option (V×H):=if Nat.blt I.length 2 then iP I N else match jN I.length (zy I) (PySem.W.kas_sort I.length) with
 |some p=>if Nat.ble p.size 64 then iP (p.toList.map λi=>I.getD i .none) N else .none
 |.none=>.none
noncomputable def CI(f:Int->Int->Bool):V->V->Option Bool
 |.int a,.int b=>U (f a b)
 |_,_=>.none
noncomputable def jO(Γ:G)(op:F3)(x y:V)(N:H):Option Bool:=match op with
 |.eq=>yJ N x y
 |.ne=>(yJ N x y).map (λB=>!B)
 |.lt=>CI (λa b=>decide (a < b)) x y
 |.le=>CI (λa b=>decide (a<=b)) x y
 |.gt=>CI (λa b=>decide (b < a)) x y
 |.ge=>CI (λa b=>decide (b<=a)) x y
 |.isIn=>inV x y
 |.notIn=>(inV x y).map (λB=>!B)
 |.is_=>isV x y
 |.isNot _=>(isV x y).map (λB=>!B)
where
 inV (x y:V):Option Bool:=match y with
  |.ref i=>match N[i]? with
   |some (.list I)=>G0 N x I
   |_=>.none
  |.cst (.ref a)=>match x with
   |.str s=>match Γ.dicts.lookup a with
    |some J=>U (lC s J).isSome
    |.none=>.none
   |_=>.none
  |.str t=>match x with
   |.str s=>U (!(Builtin.Str.occurrences (gM t) (gM s) 0 t.length 1).isEmpty)
   |_=>.none
  |_=>.none
 isN:V->Option Bool
  |.none=>U zG
  |.str _=>U zH
  |.ref _=>U zH
  |.int _=>U zH
  |_=>.none
 isV (x y:V):Option Bool:=match y with
  |.none=>isN x
  |.cst b=>match b with
   |.type b=>match x with
    |.cst a=>match a with
     |.type a=>U (a==b)
     |_=>.none
    |_=>.none
   |_=>.none
  |_=>.none
def yz(n:Nat)(i:Int):Option Nat:=if jh i then seqIndex? i n else .none
def Hi(N:H)(x:V)(k:Int):Option V:=match x with
 |.ref a=>match N[a]? with
  |some (.list I)=>(yz I.length k).bind λj=>I[j]?
  |_=>.none
 |.tup I=>(yz I.length k).bind λj=>I[j]?
 |.str I=>(yz I.length k).bind λj=>(I[j]?).map λc=>.str [c]
 |_=>.none
def g9(_:G)(x i:V)(N:H):Option V:=match i with
 |.int k=>Hi N x k
 |_=>.none
noncomputable def vh:V->Option (Option Int)
 |.none=>U .none
 |.int i=>U (U i)
 |_=>.none
noncomputable def js(I:List V)(lo B st:Option Int):List V:=
 let b:=sliceBounds lo B st I.length
 (sliceRange b.1 b.2.1 b.2.2).filterMap λ(i:Nat)=>I[i]?
noncomputable def o4(I:Txt)(lo B st:Option Int):Txt:=
 let l:=Builtin.Str.strSliceIndices lo B (st.getD 1) I.length
 if (st.getD 1==1&&l.length==I.length)=zG then I else l.filterMap λ(i:Nat)=>I[i]?
def AZ(x:V)(lo B st:Option Int)(N:H):Option (V×H):=match x with
 |.str I=>if Nat.ble (o4 I lo B st).length 1000000 then U (.str (o4 I lo B st),N) else .none
 |.flist I=>iP (js I lo B st) N
 |.ref i=>match N[i]? with
  |some (.list I)=>iP (js I lo B st) N
  |_=>.none
 |_=>.none
def lT(x l u s:V)(N:H):Option (V×H):=
 match vh l with
 |.none=>.none
 |some lo=>match vh u with
  |.none=>.none
  |some B=>match vh s with
   |.none=>.none
   |some st=>if st==U 0 then .none else AZ x lo B st N
noncomputable def ir:List V->Option (List Int)
 |[]=>U []
 |.int i::r=>(ir r).map (λB=>i::B)
 |_=>.none
noncomputable def hO:List V->Option (List Txt)
 |[]=>U []
 |.str s::r=>(hO r).map (λB=>s::B)
 |_=>.none
noncomputable def ot:Int->List Int->Int
 |m,[]=>m
 |m,x::r=>ot (if decide (m < x) then x else m) r
noncomputable def pA:Int->List Int->Int
 |m,[]=>m
 |m,x::r=>pA (if decide (x < m) then x else m) r
noncomputable def uU:Int->List Int->Option Int
 |a,[]=>U a
 |a,x::r=>if jh x&&jh (a+x) then uU (a+x) r else .none
noncomputable def kK(a:Int):Nat->List V
 | 0=>[]
 |n+1=>.int a::kK (a+1) n
def j9(a b:Int):List V:=kK a (b - a).toNat
def p7(i:Int):Txt:=rv (Str.ofString (toString i))
def j2(B:Txt)(l:List Txt):Bool:=Nat.ble ((l.map λx=>(gM x).length).sum+l.length*(gM B).length) 1000000
noncomputable def zz(c:Nat):Nat:=if Nat.ble 65 c&&Nat.ble c 90 then c+32 else c
noncomputable def n5(s:Txt):Bool:=s.all λc=>Nat.blt c 128
noncomputable def kh(s:Txt):Bool:=s.all λc=>Nat.ble 32 c&&Nat.blt c 127
def KY(v:V)(N:H):Option (V×H):=match v with
 |.str s=>if iM s.length then U (.int (s.length:Int),N) else .none
 |.tup I=>U (.int (I.length:Int),N)
 |.ref i=>match N[i]? with
  |some (.list I)=>U (.int (I.length:Int),N)
  |_=>.none
 |_=>.none
def HZ(I:List V)(N:H):Option (V×H):=(ir I).bind λl=>match l with
 |[]=>.none
 |x::r=>U (.int (ot x r),N)
def HY(I:List V)(N:H):Option (V×H):=(ir I).bind λl=>match l with
 |[]=>.none
 |x::r=>U (.int (pA x r),N)
def KW(I:List V)(N:H):Option (V×H):=(ir I).bind λl=>(uU 0 l).map λr=>(.int r,N)
def v4(I:List V)(N:H):Option (V×H):=if mV I then o5 I N else .none
def KX(s:String)(v:V)(N:H):Option (V×H):=if s="len" then KY v N else if s="max" then (dX N v).bind λI=>HZ I N else if s="min" then (dX N v).bind λI=>HY I N
  else if s="sum" then (dX N v).bind λI=>KW I N else if s="sorted" then (dX N v).bind λI=>v4 I N else .none
noncomputable def JB(s:String)(x y:V)(N:H):Option (V×H):=match x with
 |.int a=>match y with
  |.int b=>if s="max" then U (.int (if decide (a < b) then b else a),N) else .none
  |_=>.none
 |_=>.none
def L2(s:String)(as:List V)(N:H):Option (V×H):=match as with
 |[v]=>KX s v N
 |[x,y]=>JB s x y N
 |_=>.none
def AP(b:Int)(N:H):Option (V×H):=if jh b then U (.rng 0 b,N) else .none
def Iz(v:V)(N:H):Option (V×H):=match v with
 |.rng a b=>if decide (b - a < 1000)&&jh a&&jh b then iP (j9 a b) N else .none
 |.ref i=>(dX N (.ref i)).bind λI=>iP I N
 |_=>.none
def Iy(v:V)(N:H):Option (V×H):=match v with
 |.int i=>if jh i then U (.str (p7 i),N) else .none
 |_=>.none
noncomputable def Fw(v:V)(N:H):Option (V×H):=match v with
 |.str _=>U (.cst (.type "str"),N)
 |.ref i=>match N[i]? with
  |some (.list _)=>U (.cst (.type "list"),N)
  |_=>.none
 |_=>.none
def Gk(s:String)(v:V)(N:H):Option (V×H):=if s="range" then (match v with| .int b=>AP b N| _=>.none) else if s="list" then Iz v N else if s="tuple" then (dX N v).map λI=>(.tup I,N)
  else if s="str" then Iy v N else if s="type" then Fw v N else .none
def Ds(s:String)(x y:V)(N:H):Option (V×H):=match x with
 |.int a=>match y with
  |.int b=>if s="range" then (if jh a&&jh b then U (.rng a b,N) else .none) else .none
  |_=>.none
 |_=>.none
def LF(s:String)(as:List V)(N:H):Option (V×H):=match as with
 |[v]=>Gk s v N
 |[x,y]=>Ds s x y N
 |_=>.none
def builtin(f:Value)(as:List V)(N:H):Option (V×H):=match f with
 |.builtin s=>L2 s as N
 |.type s=>LF s as N
 |_=>.none
def Fz(N:H)(v:V):Option (List V):=match v with
 |.tup I=>U I
 |_=>dX N v
def ID(s:Txt)(as:List V)(N:H):Option (V×H):=match as with
 |[v]=>(Fz N v).bind λI=>(hO I).bind λl=>if j2 s l then U (.str (rv (PySem.Txt.join (gM s) (l.map gM))),N) else .none
 |_=>.none
def J9(f:Nat->Nat)(s:Txt)(as:List V)(N:H):Option (V×H):=match as with
 |[]=>if n5 s&&iM s.length then U (.str (s.map f),N) else .none
 |_=>.none
def IE(s:Txt)(as:List V)(N:H):Option (V×H):=match as with
 |[v]=>(jI v).map λp=>(.int (PySem.Txt.find (gM s) (gM p)),N)
 |_=>.none
noncomputable def IK:Txt->Option Nat
 |[c]=>U c
 |_=>.none
def Gr(s:Txt)(as:List V)(N:H):Option (V×H):=match as with
 |[v]=>(jI v).bind λp=>(IK p).bind λc=>if iM s.length then iP ((PySem.Txt.split (gM s) (gM [c])).map λx=>.str (rv x)) N else .none
 |_=>.none
def xX(s:Txt)(m:Txt)(as:List V)(N:H):Option (V×H):=
 if cW m [106,111,105,110] then ID s as N
 else if cW m [108,111,119,101,114] then J9 zz s as N
 else if cW m [102,105,110,100] then IE s as N
 else if cW m [115,112,108,105,116] then Gr s as N
 else .none
def En(i:Nat)(I:List V)(as:List V)(N:H):Option (V×H):=match as with
 |[v]=>jV N i (I++ [v]) .none
 |_=>.none
def Kt(i:Nat)(I:List V)(as:List V)(N:H):Option (V×H):=match as with
 |[]=>I.getLast?.bind λv=>jV N i I.dropLast v
 |_=>.none
def Em(i:Nat)(I:List V)(as:List V)(N:H):Option (V×H):=match as with
 |[v]=>(dX N v).bind λys=>jV N i (I++ys) .none
 |_=>.none
def vA(i:Nat)(I:List V)(m:Txt)(as:List V)(N:H):Option (V×H):=
 if cW m [97,112,112,101,110,100] then En i I as N
 else if cW m [112,111,112] then Kt i I as N
 else if cW m [101,120,116,101,110,100] then Em i I as N
 else .none
set_option genCtorIdx false in
inductive Zc where
 |ls (i k:Nat)
 |vs (l:List V)
noncomputable def Zc.ctorIdx(x:Zc):Nat:=Zc.casesOn x (λB B=>0) (λB=>1)
set_option genCtorIdx false in
inductive gx where
 |one (z:Zc)
 |enum (i k:Nat)
 |zip (i j k:Nat)
 |its (ks:List Txt) (vs:List V)
noncomputable def gx.ctorIdx(x:gx):Nat:=gx.casesOn x (λB=>0) (λB B=>1) (λB B B=>2) (λB B=>3)
noncomputable def Zc.next(N:H):Zc->Option (Option (V×Zc))
 |.ls i k=>match N[i]? with
  |some (.list I)=>match I[k]? with
   |some v=>U (U (v,.ls i (k+1)))
   |.none=>U .none
  |_=>.none
 |.vs []=>U .none
 |.vs (v::r)=>U (U (v,.vs r))
def gx.next(N:H):gx->Option (Option (V×gx))
 |.one z=>match z.next N with
  |some (U (v,J))=>U (U (v,.one J))
  |some .none=>U .none
  |.none=>.none
 |.enum i k=>match N[i]? with
  |some (.list I)=>match I[k]? with
   |some v=>U (U (.tup [.int (k:Int),v],.enum i (k+1)))
   |.none=>U .none
  |_=>.none
 |.zip i j k=>(dX N (.ref i)).bind λI=>(dX N (.ref j)).bind λys=>match I[k]? with
  |some v=>match ys[k]? with
   |some w=>U (U (.tup [v,w],.zip i j (k+1)))
   |.none=>.none
  |.none=>U .none
 |.its B vs=>match B with
  |[]=>match vs with
   |[]=>U .none
   |_=>.none
  |k::B=>match vs with
   |[]=>.none
   |v::vs=>U (U (.tup [.str k,v],.its B vs))
def s7(v:V)(N:H):Option Zc:=match v with
 |.ref i=>match N[i]? with
  |some (.list _)=>U (.ls i 0)
  |_=>.none
 |.tup vs=>U (.vs vs)
 |.str s=>if n5 s then U (.vs (s.map λc=>.str [c])) else .none
 |.rng a b=>if decide (b - a < 1000)&&jh a&&jh b then U (.vs (j9 a b)) else .none
 |_=>.none
mutual
noncomputable def gc:T->V->H->aW->Option aW
 |.name x,v,_,M=>U (M.set x v)
 |.tup B,v,N,M=>match v with
  |.tup vs=>j5 B vs N M
  |_=>.none
noncomputable def j5:List T->List V->H->aW->Option aW
 |[],[],_,M=>U M
 |t::J,v::vs,N,M=>match gc t v N M with
  |some B=>j5 J vs N B
  |.none=>.none
 |_,_,_,_=>.none
end
noncomputable def jM(next:H->gx->Option (Option (V×gx)))(body:V->aW->H->Option (Fl×aW×H)):Nat->gx->aW->H->Option (Fl×aW×H)
 | 0,_,_,_=>.none
 |k+1,it,M,N=>match next N it with
  |.none=>.none
  |some .none=>U (.next,M,N)
  |some (U (v,Y))=>match body v M N with
   |some (fl,B,J)=>match fl with
    |.next=>jM next body k Y B J
    |.brk=>U (.next,B,J)
    |.ret v=>U (.ret v,B,J)
   |.none=>.none
noncomputable def kl(Y:aW->H->Option (Bool×H))(body:aW->H->Option (Fl×aW×H)):Nat->aW->H->Option (Fl×aW×H)
 | 0,_,_=>.none
 |k+1,M,N=>match Y M N with
  |some (x,aa)=>match x with
   |false=>U (.next,M,aa)
   |true=>match body M aa with
    |some (fl,B,J)=>match fl with
     |.next=>kl Y body k B J
     |.brk=>U (.next,B,J)
     |.ret v=>U (.ret v,B,J)
    |.none=>.none
  |.none=>.none
noncomputable def gr(next:H->gx->Option (Option (V×gx)))(body:V->aW->List V->H->Option (aW×List V×H)):Nat->gx->aW->List V->H->Option (aW×List V×H)
 | 0,_,_,_,_=>.none
 |k+1,it,M,acc,N=>match next N it with
  |.none=>.none
  |some .none=>U (M,acc,N)
  |some (U (v,Y))=>match body v M acc N with
   |some (B,J,aa)=>gr next body k Y B J aa
   |.none=>.none
noncomputable def dW:Nat:=2000
theorem aW.get_cons(x y:Nat)(v:Option V)(r:aW):aW.get x ((y,v)::r)=if y==x then v else aW.get x r:=rfl
theorem aW.set_cons(x y:Nat)(v:V)(u:Option V)(r:aW):aW.set x v ((y,u)::r)=if y==x then (y,U v)::r else (y,u)::aW.set x v r:=rfl
section
variable(next:H->gx->Option (Option (V×gx)))(k:Nat)(B:gx)(M:aW)(N:H)
theorem qy(body:V->aW->H->Option (Fl×aW×H)):jM next body (k+1) B M N=(match next N B with
  |.none=>.none
  |some .none=>U (.next,M,N)
  |some (U (v,aa))=>match body v M N with
   |some (fl,J,Y)=>match fl with
    |.next=>jM next body k aa J Y
    |.brk=>U (.next,J,Y)
    |.ret v=>U (.ret v,J,Y)
   |.none=>.none):=rfl
theorem jm(body:V->aW->List V->H->Option (aW×List V×H))(acc:List V):gr next body (k+1) B M acc N=(match next N B with
  |.none=>.none
  |some .none=>U (M,acc,N)
  |some (U (v,aa))=>match body v M acc N with
   |some (J,Y,ab)=>gr next body k aa J Y ab
   |.none=>.none):=rfl
theorem vx(Y:aW->H->Option (Bool×H))(body:aW->H->Option (Fl×aW×H)):kl Y body (k+1) M N=(match Y M N with
  |some (x,ab)=>match x with
   |false=>U (.next,M,ab)
   |true=>match body M ab with
    |some (fl,J,aa)=>match fl with
     |.next=>kl Y body k J aa
     |.brk=>U (.next,J,aa)
     |.ret v=>U (.ret v,J,aa)
    |.none=>.none
  |.none=>.none):=rfl
end
abbrev Ev:=E->aW->H->Option (V×H)
abbrev Cf:=Addr->List V->List (Nat×V)->H->Option (V×H)
noncomputable def dY(ev:Ev):List E->aW->H->Option (List V×H)
 |[],_,N=>U ([],N)
 |e::r,M,N=>match ev e M N with
  |some (v,J)=>match dY ev r M J with
   |some (vs,B)=>U (v::vs,B)
   |.none=>.none
  |.none=>.none
noncomputable def jr(ev:Ev):Option E->aW->H->Option (V×H)
 |.none,_,N=>U (.none,N)
 |some e,M,N=>ev e M N
noncomputable def mD(ev:Ev):List (Nat×E)->aW->H->Option (List (Nat×V)×H)
 |[],_,N=>U ([],N)
 |(x,e)::r,M,N=>match ev e M N with
  |some (v,J)=>match mD ev r M J with
   |some (vs,B)=>U ((x,v)::vs,B)
   |.none=>.none
  |.none=>.none
noncomputable def hJ(ev:Ev):E->aW->H->Option (Bool×H)
 |.not a,M,N=>match hJ ev a M N with
  |some (b,B)=>U (!b,B)
  |.none=>.none
 |.and a b,M,N=>match hJ ev a M N with
  |some (x,B)=>match x with
   |true=>hJ ev b M B
   |false=>U (zH,B)
  |.none=>.none
 |.or a b,M,N=>match hJ ev a M N with
  |some (x,B)=>match x with
   |true=>U (zG,B)
   |false=>hJ ev b M B
  |.none=>.none
 |.ite t a b,M,N=>match hJ ev t M N with
  |some (x,B)=>match x with
   |true=>hJ ev a M B
   |false=>hJ ev b M B
  |.none=>.none
 |e,M,N=>match ev e M N with
  |some (v,B)=>(truthy v).map (λJ=>(J,B))
  |.none=>.none
noncomputable def k7(ev:Ev):List E->aW->H->Option (Bool×H)
 |[],_,N=>U (zG,N)
 |e::r,M,N=>match hJ ev e M N with
  |some (x,B)=>match x with
   |true=>k7 ev r M B
   |false=>U (zH,B)
  |.none=>.none
noncomputable def qb:V->Option Nat
 |.ref i=>U i
 |_=>.none
def xT(v w:V)(N:H):Option (gx×H):=(qb v).bind λi=>(qb w).bind λj=>(dX N (.ref i)).bind λB=>(dX N (.ref j)).map λB=>(.zip i j 0,N)
def gG(ev:Ev):It->aW->H->Option (gx×H)
 |.plain e,M,N=>match ev e M N with
  |some (v,B)=>(s7 v B).map λz=>(.one z,B)
  |.none=>.none
 |.enum e,M,N=>match ev e M N with
  |some (.ref i,B)=>match B[i]? with
   |some (.list _)=>U (.enum i 0,B)
   |_=>.none
  |_=>.none
 |.zip a b,M,N=>match ev a M N with
  |some (v,B)=>match ev b M B with
   |some (w,J)=>xT v w J
   |.none=>.none
  |.none=>.none
 |.items e,M,N=>match ev e M N with
  |some (v,B)=>match v with
   |.kws Y vs=>U (.its Y vs,B)
   |_=>.none
  |.none=>.none
noncomputable def lM:T->gx->Bool
 |.name _,.one _=>zG
 |.tup _,.one (.ls _ _)=>zG
 |.tup _,.one (.vs [])=>zG
 |.tup _,.enum _ _=>zG
 |.tup _,.zip _ _ _=>zG
 |.tup _,.its _ _=>zG
 |_,_=>zH
def j4(ev:Ev)(elt:E)(t:T)(ifs:List E):gx->aW->List V->H->Option (aW×List V×H):=
 gr (λN B=>B.next N) (λv M acc N=>
   match gc t v N M with
   |some M=>match k7 ev ifs M N with
    |some (x,N)=>match x with
     |false=>U (M,acc,N)
     |true=>match ev elt M N with
      |some (v,N)=>if iM acc.length then U (M,acc++ [v],N) else .none
      |.none=>.none
    |.none=>.none
   |.none=>.none) dW
noncomputable def m6(Γ:G)(zD:Addr)(x:Nat):Bool:=(Γ.clss.lookup zD).any λc=>c.flds.contains x
noncomputable def wS:Option V->Option V
 |some (.cst _)=>.none
 |o=>o
def fields(Γ:G)(N:H)(i:Nat)(x:Nat):Option V:=match N[i]? with
 |some (.inst zD fs)=>if m6 Γ zD x then wS (look x fs) else .none
 |_=>.none
set_option genCtorIdx false in
inductive oN where
 |fn (f:Addr) (self:V)
 |lst (i:Nat) (m:Txt)
 |str (s m:Txt)
 |dget (a:Addr)
 |search (a:Addr)
noncomputable def oN.ctorIdx(x:oN):Nat:=oN.casesOn x (λB B=>0) (λB B=>1) (λB B=>2) (λB=>3) (λB=>4)
noncomputable def gO(Γ:G)(zD:Addr)(x:Nat):Option Addr:=match Γ.clss.lookup zD with
 |some c=>c.meths.lookup x
 |.none=>.none
noncomputable def sC:List Txt:= [[97,112,112,101,110,100],[112,111,112],[101,120,116,101,110,100]]
noncomputable def uW:List Txt:= [[106,111,105,110],[108,111,119,101,114],[102,105,110,100],[115,112,108,105,116]]
def fJ(Γ:G)(o:V)(x:Nat)(N:H):Option oN:=match o with
 |.ref i=>match N[i]? with
  |some (.inst zD fs)=>match look x fs with
   |some _=>.none
   |.none=>(gO Γ zD x).map λf=>.fn f (.ref i)
  |some (.list _)=>match Γ.ids[x]? with
   |some m=>if sC.any (cW m) then U (.lst i m) else .none
   |.none=>.none
  |.none=>.none
 |.str s=>match Γ.ids[x]? with
  |some m=>if uW.any (cW m) then U (.str s m) else .none
  |.none=>.none
 |.cst (.ref a)=>match Γ.ids[x]? with
  |some m=>if cW m [103,101,116]&&(Γ.dicts.lookup a).isSome then U (.dget a)
   else if cW m [115,101,97,114,99,104]&&Γ.pats.contains a then U (.search a) else .none
  |.none=>.none
 |_=>.none
def KQ(Γ:G)(a:Addr)(as:List V)(N:H):Option (V×H):=match as with
 |[v,d]=>(jI v).bind λk=>(Γ.dicts.lookup a).map λB=>((lC k B).getD d,N)
 |_=>.none
def EX(as:List V)(N:H):Option (V×H):=match as with
 |[v]=>(jI v).bind λs=>if kh s then U (.none,N) else .none
 |_=>.none
def hK(Γ:G)(C:Cf)(m:oN)(as:List V)(B:List (Nat×V))(N:H):Option (V×H):=match m with
 |.fn f self=>C f (self::as) B N
 |.lst i m=>if B.isEmpty then (dX N (.ref i)).bind λI=>vA i I m as N else .none
 |.str s m=>if B.isEmpty then xX s m as N else .none
 |.dget a=>if B.isEmpty then KQ Γ a as N else .none
 |.search _=>if B.isEmpty then EX as N else .none
noncomputable def Bs(a:Addr)(N:H)(o:Option (V×H)):Option (V×H):=match o with
 |some (v,B)=>match v with
  |.none=>U (.ref N.length,B)
  |_=>.none
 |.none=>.none
def CJ(Γ:G)(C:Cf)(a:Addr)(as:List V)(N:H):Option (V×H):=match Γ.clss.lookup a with
 |some c=>Bs a N (C c.init (.ref N.length::as) [] (N++ [.inst a []]))
 |.none=>C a as [] N
def nX(Γ:G)(C:Cf)(f:V)(as:List V)(N:H):Option (V×H):=match f with
 |.cst w=>match w with
  |.ref a=>CJ Γ C a as N
  |_=>builtin w as N
 |_=>.none
noncomputable def yc(w:Int):List Int->List V->Option V
 |k::B,u::us=>if decide (k=w) then U u else yc w B us
 |_,_=>.none
def Ba(B:List Int)(us:List V)(w:V):Option V:=(B5 w).bind λi=>yc i B us
noncomputable def yb(w:Txt):List Txt->List V->Option V
 |k::B,u::us=>if cW k w then U u else yb w B us
 |_,_=>.none
def vg(B:List Txt)(us:List V)(w:V):Option V:=(jI w).bind λi=>yb i B us
def FD(v:V)(x y:Txt)(N:H):Option (V×H):=(jI v).bind λs=>if Nat.ble s.length 1000&&Nat.ble y.length 2 then U (.str (rv (PySem.Txt.replace (gM s) (gM x) (gM y))),N) else .none
def Lu(v:V)(N:H):Option (V×H):=(jI v).bind λs=>if iM s.length then U (.str s,N) else .none
def Jl(vs:List V)(N:H):Option (V×H):=(hO vs).bind λB=>if iM B.flatten.length&&Nat.ble 2 vs.length then U (.str B.flatten,N) else .none
noncomputable def pS:Int->Nat->List V->List V->List V
 |_,0,_,_=>[]
 |a,n+1,I,ys=>match I with
  |[]=>[]
  |x::I=>match ys with
   |[]=>[]
   |y::ys=>.tup [.int a,x,y]::pS (a+1) n I ys
def nS(x y z:V)(N:H):Option (V×H):=match x with
 |.rng a b=>(dX N y).bind λI=>(dX N z).bind λys=>if decide (b - a < 1000)&&(decide (a < b)&&(jh a&&(jh b&&(Nat.ble (b - a).toNat I.length&&Nat.ble (b - a).toNat ys.length)))) then iP (pS a (b - a).toNat I ys) N else .none
 |_=>.none
def listZip(vs:List V)(N:H):Option (V×H):=match vs with
 |x::r=>match r with
  |y::r=>match r with
   |z::r=>match r with
    |[]=>nS x y z N
    |_=>.none
   |_=>.none
  |_=>.none
 |_=>.none
def Kg(x:V)(N:H):Option (V×H):=match x with
 |.int i=>(mkI (-i)).map (λB=>(B,N))
 |_=>.none
noncomputable def ev(Γ:G)(C:Cf):Nat->Ev
 | 0,_,_,_=>.none
 |n+1,e,M,N=>match e with
  |.lit v=>U (v,N)
  |.var x=>(M.get x).map (λB=>(B,N))
  |.bin op a b=>match ev Γ C n a M N with
   |some (x,N)=>match ev Γ C n b M N with
    |some (y,N)=>mR op x y N
    |.none=>.none
   |.none=>.none
  |.neg a=>match ev Γ C n a M N with
   |some (x,N)=>Kg x N
   |.none=>.none
  |.not _=>.none
  |.and a b=>match ev Γ C n a M N with
   |some (x,N)=>match truthy x with
    |some t=>match t with
     |true=>ev Γ C n b M N
     |false=>U (x,N)
    |.none=>.none
   |.none=>.none
  |.or _ _=>.none
  |.ite t a b=>match hJ (ev Γ C n) t M N with
   |some (x,N)=>match x with
    |true=>ev Γ C n a M N
    |false=>ev Γ C n b M N
   |.none=>.none
  |.list es=>match dY (ev Γ C n) es M N with
   |some (vs,N)=>iP vs N
   |.none=>.none
  |.tup es=>match dY (ev Γ C n) es M N with
   |some (vs,N)=>if iM vs.length then U (.tup vs,N) else .none
   |.none=>.none
  |.dsub J vs i=>match dY (ev Γ C n) vs M N with
   |some (us,N)=>match ev Γ C n i M N with
    |some (w,N)=>(Ba J us w).map (λB=>(B,N))
    |.none=>.none
   |.none=>.none
  |.dsubS J vs i=>match dY (ev Γ C n) vs M N with
   |some (us,N)=>match ev Γ C n i M N with
    |some (w,N)=>(vg J us w).map (λB=>(B,N))
    |.none=>.none
   |.none=>.none
  |.listZip es=>match dY (ev Γ C n) es M N with
   |some (vs,N)=>listZip vs N
   |.none=>.none
  |.fv a=>match ev Γ C n a M N with
   |some (v,N)=>Lu v N
   |.none=>.none
  |.fmt es=>match dY (ev Γ C n) es M N with
   |some (vs,N)=>Jl vs N
   |.none=>.none
  |.repl a x y=>match ev Γ C n a M N with
   |some (v,N)=>FD v x y N
   |.none=>.none
  |.cmp op a b=>match ev Γ C n a M N with
   |some (x,N)=>match ev Γ C n b M N with
    |some (y,N)=>(jO Γ op x y N).map λb=>(.bool b,N)
    |.none=>.none
   |.none=>.none
  |.sub a i=>match ev Γ C n a M N with
   |some (x,N)=>match ev Γ C n i M N with
    |some (y,N)=>(g9 Γ x y N).map (λB=>(B,N))
    |.none=>.none
   |.none=>.none
  |.slice a l u s=>match ev Γ C n a M N with
   |some (x,N)=>match jr (ev Γ C n) l M N with
    |some (lv,N)=>match jr (ev Γ C n) u M N with
     |some (uv,N)=>match jr (ev Γ C n) s M N with
      |some (sv,N)=>lT x lv uv sv N
      |.none=>.none
     |.none=>.none
    |.none=>.none
   |.none=>.none
  |.attr a x=>match ev Γ C n a M N with
   |some (.ref i,N)=>(fields Γ N i x).map (λB=>(B,N))
   |_=>.none
  |.call f as=>match ev Γ C n f M N with
   |some (fv,N)=>match dY (ev Γ C n) as M N with
    |some (vs,N)=>nX Γ C fv vs N
    |.none=>.none
   |.none=>.none
  |.callM o x as J=>match ev Γ C n o M N with
   |some (ov,N)=>match fJ Γ ov x N with
    |some m=>match dY (ev Γ C n) as M N with
     |some (vs,N)=>match mD (ev Γ C n) J M N with
      |some (kv,N)=>hK Γ C m vs kv N
      |.none=>.none
     |.none=>.none
    |.none=>.none
   |.none=>.none
  |.comp elt ab own=>match ab with
   |[.mk t Y ifs]=>match gG (ev Γ C n) Y M N with
    |some (itr,N)=>if lM t itr then match j4 (ev Γ C n) elt t ifs itr (own.map (λB=>(B,.none))++M) [] N with
     |some (_,acc,N)=>iP acc N
     |.none=>.none else .none
    |.none=>.none
   |[.mk t Y ifs,.mk t2 it2 ae]=>match ifs with
    |[]=>match gG (ev Γ C n) Y M N with
     |some (itr,N)=>if lM t itr then match gr (λN Y=>Y.next N) (λv M acc N=>match gc t v N M with
       |some M=>match gG (ev Γ C n) it2 M N with
        |some (aa,N)=>if lM t2 aa then j4 (ev Γ C n) elt t2 ae aa M acc N else .none
        |.none=>.none
       |.none=>.none) dW itr (own.map (λB=>(B,.none))++M) [] N with
      |some (_,acc,N)=>iP acc N
      |.none=>.none else .none
     |.none=>.none
    |_=>.none
   |_=>.none
inductive eZ{α β:Type}(R:α->β->Prop):List α->List β->Prop
 |nil:eZ R [] []
 |cons {a b l m}:R a b->eZ R l m->eZ R (a::l) (b::m)
set_option genInjectivity false
set_option genSizeOf false
set_option genSizeOfSpec false
noncomputable def rX:Txt:= [97,116,95]
noncomputable def rW:Txt:= [98,121,95]
def I6(ids:List Txt)(i j:Nat):Bool:=(ids[i]?).any (cW rX)&&(ids[j]?).any (cW rW)
def hX(Γ:G)(F:Fn)(as:List V)(B:List (Nat×V)):Option aW:=
 let J:=F.params.length;let Y:=as.length
 if Nat.blt J Y then .none else
 let miss:=J - Y
 if Nat.blt F.dflts.length miss then .none else
 let aa:=F.params.zip (as++F.dflts.drop (F.dflts.length - miss));let base:aW:=aa.map λp=>(p.1,U p.2)
 match F.kwonly,F.kwarg with
 |[],.none=>if B.isEmpty then U base else .none
 |ko,.none=>if B.map (λab=>ab.1)==ko then U (base++B.map λp=>(p.1,U p.2)) else .none
 |[],U d=>match B with
  |[]=>U (base++ [(d,U (.kws [] []))])
  |[(i,v),(j,w)]=>if I6 Γ.ids i j then U (base++ [(d,U (.kws [rX,rW] [v,w]))]) else .none
  |_=>.none
 |_,_=>.none
def xZ(N:H)(j:Nat)(B v:V)(M:aW):Option (Fl×aW×H):=match B with
 |.int k=>if decide (0<=k) then (dX N (.ref j)).bind λI=>(yz I.length k).bind λq=>(jV N j (I.set q v) .none).map λp=>(.next,M,p.2) else .none
 |_=>.none
noncomputable def hE(N:H)(j:Nat):Option Addr:=match N[j]? with
 |some o=>match o with
  |.inst zD _=>U zD
  |_=>.none
 |.none=>.none
noncomputable def isNone:V->Bool
 |.none=>zG
 |_=>zH
def yw(Γ:G)(C:Cf)(o i v:V)(M:aW)(N:H):Option (Fl×aW×H):=(qb o).bind λj=>match hE N j with
 |some zD=>(gO Γ zD Γ.setId).bind λf=>(C f [.ref j,i,v] [] N).bind λp=>if isNone p.1 then U (.next,M,p.2) else .none
 |.none=>xZ N j i v M
def Es(Γ:G)(C:Cf)(o i:V)(M:aW)(N:H):Option (Fl×aW×H):=(qb o).bind λj=>(hE N j).bind λzD=>
 (gO Γ zD Γ.delId).bind λf=>(C f [.ref j,i] [] N).bind λp=>if isNone p.1 then U (.next,M,p.2) else .none
def GB(o v:V)(M:aW)(N:H):Option (Fl×aW×H):=(qb o).bind λi=>(dX N (.ref i)).bind λB=>(dX N v).bind λys=>(jV N i ys .none).map λp=>(.next,M,p.2)
mutual
noncomputable def ex(Γ:G)(C:Cf)(fe:Nat):Nat->S->aW->H->Option (Fl×aW×H)
 | 0,_,_,_=>.none
 |n+1,s,M,N=>
  let B:=ev Γ C fe
  match s with
  |.names I e=>match B e M N with
   |some (v,N)=>U (.next,I.foldl (λvs x=>vs.set x v) M,N)
   |.none=>.none
  |.unpack ts e=>match B e M N with
   |some (v,N)=>match gc (.tup ts) v N M with
    |some M=>U (.next,M,N)
    |.none=>.none
   |.none=>.none
  |.setAttr o x e=>match B e M N with
   |some (v,N)=>match B o M N with
    |some (.ref i,N)=>match N[i]? with
     |some (.inst zD fs)=>if m6 Γ zD x&&Nat.ble fs.length 100 then U (.next,M,N.set i (.inst zD (put x v fs))) else .none
     |_=>.none
    |_=>.none
   |.none=>.none
  |.setSub o i e=>match B e M N with
   |some (v,N)=>match B o M N with
    |some (J,N)=>match B i M N with
     |some (Y,N)=>yw Γ C J Y v M N
     |.none=>.none
    |.none=>.none
   |.none=>.none
  |.setAll o e=>match B e M N with
   |some (v,N)=>match B o M N with
    |some (J,N)=>GB J v M N
    |.none=>.none
   |.none=>.none
  |.del o i=>match B o M N with
   |some (J,N)=>match B i M N with
    |some (Y,N)=>Es Γ C J Y M N
    |.none=>.none
   |.none=>.none
  |.expr e=>match B e M N with
   |some (_,N)=>U (.next,M,N)
   |.none=>.none
  |.ite t a b=>match hJ B t M N with
   |some (x,N)=>match x with
    |true=>ic Γ C fe n a M N
    |false=>ic Γ C fe n b M N
   |.none=>.none
  |.whil t b=>kl (λM N=>hJ B t M N) (λM N=>ic Γ C fe n b M N) dW M N
  |.for_ t it b=>match gG B it M N with
   |some (itr,N)=>if lM t itr then jM (λN it=>it.next N) (λv M N=>match gc t v N M with
     |some M=>ic Γ C fe n b M N
     |.none=>.none) dW itr M N else .none
   |.none=>.none
  |.ret .none=>U (.ret .none,M,N)
  |.ret (U e)=>match B e M N with
   |some (v,N)=>U (.ret v,M,N)
   |.none=>.none
  |.brk=>U (.brk,M,N)
  |.pass=>U (.next,M,N)
  |.bad=>.none
noncomputable def ic(Γ:G)(C:Cf)(fe:Nat):Nat->List S->aW->H->Option (Fl×aW×H)
 | 0,_,_,_=>.none
 |_+1,[],M,N=>U (.next,M,N)
 |n+1,s::r,M,N=>match ex Γ C fe n s M N with
  |some (fl,M,N)=>match fl with
   |.next=>ic Γ C fe n r M N
   |.brk=>U (.brk,M,N)
   |.ret v=>U (.ret v,M,N)
  |.none=>.none
end
def f6(Γ:G)(C:Cf)(fe fs:Nat)(F:Fn)(as:List V)(B:List (Nat×V))(N:H):Option (V×H):=
 match hX Γ F as B with
 |some M=>match ic Γ C fe fs F.body M N with
  |some (fl,_,N)=>match fl with
   |.ret v=>U (v,N)
   |.next=>U (.none,N)
   |.brk=>.none
  |.none=>.none
 |.none=>.none
structure Tx where
 ids:List Str
 glob:Str->Option V
 clsAttr:Addr->Str->Option V
noncomputable def yy(x:Str):List Str->Option Nat
 |[]=>.none
 |y::r=>if y==x then U 0 else (yy x r).map Nat.succ
def Tx.id(t:Tx)(x:Str):Option Nat:=yy x t.ids
noncomputable def Iu:Operator->Option C0
 |.Add=>U .add| .Sub=>U .sub| .Mult=>U .mul| .FloorDiv=>U .fdiv| .Mod=>U .mod| _=>zF
noncomputable def xU:C0->Operator
 |.add=>.Add| .sub=>.Sub| .mul=>.Mult| .fdiv=>.FloorDiv| .mod _=>.Mod
noncomputable def AD:F3->CmpOp
 |.eq=>.Eq| .ne=>.NotEq| .lt=>.Lt| .le=>.LtE| .gt=>.Gt| .ge=>.GtE| .isIn=>.In| .notIn=>.NotIn| .is_=>.Is| .isNot _=>.IsNot
noncomputable def Ir:CmpOp->Option F3
 |.Eq=>U .eq| .NotEq=>U .ne| .Lt=>U .lt| .LtE=>U .le| .Gt=>U .gt| .GtE=>U .ge
 |.In=>U .isIn| .NotIn=>U .notIn| .Is=>U .is_| .IsNot=>U .isNot
noncomputable def iX(sc:Scope)(x:Str):Option Bool:=match sc.names.lookup x with
 |some .local| some .cell| some .free=>U zG
 |some .globalImplicit=>U zH
 |_=>zF
noncomputable def fV(t:Tx):List (Str×NameKind)->Option (List Nat)
 |[]=>U []
 |y::r=>if (y.2== .local || y.2== .cell)&& !(y.1==(".0":Str)) then (t.id y.1).bind λi=>(fV t r).map (λB=>i::B) else fV t r
noncomputable def iE(e:Expr):Bool:=Nat.beq e.ctorIdx 26
noncomputable def B4(e:Expr):Bool:=Nat.beq e.ctorIdx 20
noncomputable def K7(w v:V):Bool:=match w with
 |.none=>match v with
  |.none=>zG
  |_=>zH
 |.int a=>match v with
  |.int b=>decide (a=b)
  |_=>zH
 |.str a=>match v with
  |.str b=>decide (a=b)
  |_=>zH
 |.cst a=>match v with
  |.cst b=>decide (a=b)
  |_=>zH
 |_=>zH
def JK(o:Option V)(v:V):Bool:=match o with
 |some w=>K7 w v
 |.none=>zH
def fS(t:Tx)(sc:Scope)(x:Str)(v:Value):Bool:=decide (iX sc x=U zH)&&JK (t.glob x) (.cst v)&& !(x==("__debug__":Str))
noncomputable def zm(sc:Scope)(x:Str):Bool:=match sc.names.lookup x with
 |some .local| some .cell=>zG
 |_=>zH
noncomputable def jt(sc B:Scope):Bool:=B.names.all λx=>B.names.lookup x.1==U x.2&&(x.2 != .free || (sc.names.lookup x.1==U .cell || sc.names.lookup x.1==U .free))
noncomputable def JV(d:J)(bl:List Expr->BoolOp->Pos->J)(bn:Expr->Expr->Operator->Pos->J)(uy:Expr->UnaryOp->Pos->J)(ie:Expr->Expr->Expr->Pos->J)(lc:Expr->List Comprehension->Scope->Pos->J)(cm:Expr->List CmpOp->List Expr->Pos->J)
  (ca:Expr->List Expr->List Keyword->Pos->J) (cs:Const->Nat->Pos->J) (Y:Expr->Str->Pos->J) (sb:Expr->Expr->Pos->J) (nm:Str->Pos->J) (ls:List Expr->Pos->J) (tp:List Expr->Nat->Pos->J) (sl:Option Expr->Option Expr->Option Expr->Pos->J) (di:List (Option Expr)->List Expr->Pos->J) (e:Expr):J:=
 Expr.casesOn e (λo es p=>bl es o p) (λB B B=>d) (λa o b p=>bn a b o p) (λo a p=>uy a o p) (λB B B B=>d) ie di (λB B B=>d) lc (λB B B B=>d) (λB B B B B=>d) (λB B B B=>d) (λB B=>d) (λB B=>d) (λB B=>d) cm ca (λB B B B=>d) (λB B=>d) cs Y sb (λB B=>d) nm ls tp sl
noncomputable def LZ(d:J)(fv:Expr->Option Expr->Pos->J)(Y:List Expr->Pos->J)(e:Expr):J:=
 Expr.casesOn e (λB B B=>d) (λB B B=>d) (λB B B B=>d) (λB B B=>d) (λB B B B=>d) (λB B B B=>d) (λB B B=>d) (λB B B=>d) (λB B B B=>d) (λB B B B=>d) (λB B B B B=>d) (λB B B B=>d) (λB B=>d) (λB B=>d) (λB B=>d) (λB B B B=>d) (λB B B B=>d) (λv B q p=>fv v q p) (λes p=>Y es p) (λB B B=>d) (λB B B=>d) (λB B B=>d) (λB B=>d) (λB B=>d) (λB B=>d) (λB B B=>d) (λB B B B=>d)
noncomputable def LG(d:J)(re:Option Expr->Pos->J)(de:List Expr->Pos->J)(as:List Expr->Expr->Pos->J)(fo:Expr->Expr->List Stmt->List Stmt->Pos->J)(wh:Expr->List Stmt->List Stmt->Pos->J)(Y:Expr->List Stmt->List Stmt->Pos->J)(ex:Expr->Pos->J)(pa br:Pos->J)(s:Stmt):J:=
 Stmt.casesOn s (λB B B B B B B B B B=>d) (λB B B B B B B B B B=>d) (λB B B B B B B B B B B=>d) re de as (λB B B B B B B=>d) (λB B B B=>d) (λB B B B B=>d) fo (λB B B B B=>d) wh Y (λB B B=>d) (λB B B=>d) (λB B B=>d) (λB B B=>d) (λB B B B B=>d) (λB B B B B=>d) (λB B B=>d) (λB B=>d) (λB B B B=>d) (λB B=>d) (λB B=>d) ex pa br (λB=>d)
def EH(d:J)(nm:Str->Pos->J)(tp:List Expr->Nat->Pos->J)(sl:Option Expr->Option Expr->Option Expr->Pos->J)(Y:Expr->Str->Pos->J)(ca:Expr->List Expr->List Keyword->Pos->J)(sb:Expr->Expr->Pos->J):Expr->J:=
 JV d (λB B B=>d) (λB B B B=>d) (λB B B=>d) (λB B B B=>d) (λB B B B=>d) (λB B B B=>d) ca (λB B B=>d) Y sb nm (λB B=>d) tp sl (λB B B=>d)
def rc(d:J)(Y:Str->Pos->J):Expr->J:=EH d Y (λB B B=>d) (λB B B B=>d) (λB B B=>d) (λB B B B=>d) (λB B B=>d)
def xH(d:J)(Y:Expr->List Expr->List Keyword->Pos->J):Expr->J:=EH d (λB B=>d) (λB B B=>d) (λB B B B=>d) (λB B B=>d) Y (λB B B=>d)
def JC(d:J)(Y:List Expr->Nat->Pos->J):Expr->J:=EH d (λB B=>d) Y (λB B B B=>d) (λB B B=>d) (λB B B B=>d) (λB B B=>d)
def yQ(d:J)(Y:Option Expr->Option Expr->Option Expr->Pos->J):Expr->J:=EH d (λB B=>d) (λB B B=>d) Y (λB B B=>d) (λB B B B=>d) (λB B B=>d)
def H1(d:J)(Y:Expr->Str->Pos->J):Expr->J:=EH d (λB B=>d) (λB B B=>d) (λB B B B=>d) Y (λB B B B=>d) (λB B B=>d)
def hG:Expr->Bool:=xH zH λf as J B=>rc zH (λB B=>as.isEmpty&&J.isEmpty) f
set_option genCtorIdx false in
inductive AT where
 |name (x:Str) (i:Nat) (p:Pos)
 |tup (ts:List AT) (k:Nat) (p:Pos)
noncomputable def AT.ctorIdx(x:AT):Nat:=AT.casesOn x (λB B B=>0) (λB B B=>1)
set_option genCtorIdx false in
mutual
inductive AE where
 |cst (k:Const) (v:V) (n:Nat) (p:Pos)
 |dbg (x:Str) (p:Pos)
 |glob (x:Str) (v:V) (p:Pos)
 |clsA (c:Str) (p:Pos) (x:Str) (q:Pos) (v:V)
 |var (x:Str) (i:Nat) (p:Pos)
 |bin (o:C0) (a b:AE) (p:Pos)
 |neg (a:AE) (p:Pos)
 |not (a:AE) (p:Pos)
 |and (a b:AE) (p:Pos)
 |or (a b:AE) (p:Pos)
 |ite (q a b:AE) (p:Pos)
 |list (es:List AE) (p:Pos)
 |tup (es:List AE) (k:Nat) (p:Pos)
 |cmp (o:F3) (a b:AE) (p:Pos)
 |slice (a:AE) (l u s:Option AE) (q p:Pos)
 |sub (a i:AE) (p:Pos)
 |attr (a:AE) (x:Str) (i:Nat) (p:Pos)
 |callM (o:AE) (x:Str) (i:Nat) (q:Pos) (as:List AE) (ks:List AK) (p:Pos)
 |call (f:AE) (as:List AE) (p:Pos)
 |dsub (ks:List (Int×Nat×Pos)) (vs:List AE) (q:Pos) (i:AE) (p:Pos)
 |dsubS (ks:List (Txt×Nat×Pos)) (vs:List AE) (q:Pos) (i:AE) (p:Pos)
 |listZip (f:Str) (fp:Pos) (z:Str) (zp:Pos) (zs:List AE) (q p:Pos)
 |repl (a:AE) (q:Pos) (x:Txt) (n1:Nat) (p1:Pos) (y:Txt) (n2:Nat) (p2:Pos) (p:Pos)
 |fv (a:AE) (p:Pos)
 |fmt (es:List AE) (p:Pos)
 |comp2 (elt:AE) (tg:AT) (it:AI) (tg2:AT) (it2:AI) (ifs:List AE) (sc:Scope) (own:List Nat) (p:Pos)
 |comp (elt:AE) (tg:AT) (it:AI) (ifs:List AE) (sc:Scope) (own:List Nat) (p:Pos)
inductive AK where
 |mk (x:Str) (i:Nat) (e:AE) (p:Pos)
inductive AI where
 |plain (e:AE)
 |enum (z:Str) (zp:Pos) (e:AE) (q:Pos)
 |zip (z:Str) (zp:Pos) (a b:AE) (q:Pos)
 |items (e:AE) (x:Str) (xp q:Pos)
end
noncomputable def AE.ctorIdx(x:AE):Nat:=AE.casesOn x (λB B B B=>0) (λB B=>1) (λB B B=>2) (λB B B B B=>3) (λB B B=>4) (λB B B B=>5) (λB B=>6) (λB B=>7) (λB B B=>8) (λB B B=>9) (λB B B B=>10) (λB B=>11) (λB B B=>12) (λB B B B=>13) (λB B B B B B=>14) (λB B B=>15) (λB B B B=>16) (λB B B B B B B=>17) (λB B B=>18) (λB B B B B=>19) (λB B B B B=>20) (λB B B B B B B=>21) (λB B B B B B B B B=>22) (λB B=>23) (λB B=>24) (λB B B B B B B B B=>25) (λB B B B B B B=>26)
noncomputable def AI.ctorIdx(x:AI):Nat:=AI.casesOn x (λB=>0) (λB B B B=>1) (λB B B B B=>2) (λB B B B=>3)
mutual
noncomputable def AT.un:AT->Expr
 |.name x _ p=>.Name x p
 |.tup B k p=>.Tuple (jT B) k p
noncomputable def jT:List AT->List Expr
 |[]=>[]
 |t::r=>t.un::jT r
end
mutual
noncomputable def AT.er:AT->T
 |.name _ i _=>.name i
 |.tup B _ _=>.tup (oG B)
noncomputable def oG:List AT->List T
 |[]=>[]
 |t::r=>t.er::oG r
end
mutual
noncomputable def AT.ok(t:Tx)(sc:Scope):AT->Bool
 |.name x i _=>zm sc x&&decide (t.id x=U i)
 |.tup B _ _=>zn t sc B
noncomputable def zn(t:Tx)(sc:Scope):List AT->Bool
 |[]=>zG
 |a::r=>a.ok t sc&&zn t sc r
end
mutual
noncomputable def AE.un:AE->Expr
 |.cst k _ n p=>.Constant k n p
 |.dbg x p=>.Name x p
 |.glob x _ p=>.Name x p
 |.clsA c p x q _=>.Attribute (.Name c p) x q
 |.var x _ p=>.Name x p
 |.bin o a b p=>.BinOp a.un (xU o) b.un p
 |.neg a p=>.UnaryOp .USub a.un p
 |.not a p=>.UnaryOp .Not a.un p
 |.and a b p=>.BoolOp .And [a.un,b.un] p
 |.or a b p=>.BoolOp .Or [a.un,b.un] p
 |.ite q a b p=>.IfExp q.un a.un b.un p
 |.list es p=>.List (np es) p
 |.tup es k p=>.Tuple (np es) k p
 |.cmp o a b p=>.Compare a.un [AD o] [b.un] p
 |.slice a l u s q p=>.Subscript a.un (.Slice (Ia l) (Ia u) (Ia s) q) p
 |.sub a i p=>.Subscript a.un i.un p
 |.attr a x _ p=>.Attribute a.un x p
 |.callM o x _ q as B p=>.Call (.Attribute o.un x q) (np as) (C4 B) p
 |.call f as p=>.Call f.un (np as) [] p
 |.dsub B vs q i p=>.Subscript (.Dict (B.map λk=>U (.Constant (.int k.1) k.2.1 k.2.2)) (np vs) q) i.un p
 |.dsubS B vs q i p=>.Subscript (.Dict (B.map λk=>U (.Constant (.str (gM k.1)) k.2.1 k.2.2)) (np vs) q) i.un p
 |.listZip f fp z zp zs q p=>.Call (.Name f fp) [.Call (.Name z zp) (np zs) [] q] [] p
 |.repl a q x n1 p1 y n2 p2 p=>.Call (.Attribute a.un (Str.ofString "replace") q) [.Constant (.str (gM x)) n1 p1,.Constant (.str (gM y)) n2 p2] [] p
 |.fv a p=>.FormattedValue a.un 115 zF p
 |.fmt es p=>.JoinedStr (np es) p
 |.comp2 elt J Y aa it2 ifs sc _ p=>.ListComp elt.un [⟨J.un,Y.un,[],0⟩,⟨aa.un,it2.un,np ifs,0⟩] sc p
 |.comp elt J Y ifs sc _ p=>.ListComp elt.un [⟨J.un,Y.un,np ifs,0⟩] sc p
noncomputable def AK.un:AK->Keyword
 |.mk x _ e p=>⟨U x,e.un,p⟩
noncomputable def AI.un:AI->Expr
 |.plain e=>e.un
 |.enum z B e q=>.Call (.Name z B) [e.un] [] q
 |.zip z B a b q=>.Call (.Name z B) [a.un,b.un] [] q
 |.items e x J q=>.Call (.Attribute e.un x J) [] [] q
noncomputable def np:List AE->List Expr
 |[]=>[]
 |a::r=>a.un::np r
noncomputable def Ia:Option AE->Option Expr
 |.none=>.none
 |some a=>U a.un
noncomputable def C4:List AK->List Keyword
 |[]=>[]
 |k::r=>k.un::C4 r
end
mutual
noncomputable def AE.er:AE->E
 |.cst _ v _ _=>.lit v
 |.dbg _ _=>.lit (.bool zG)
 |.glob _ v _=>.lit v
 |.clsA _ _ _ _ v=>.lit v
 |.var _ i _=>.var i
 |.bin o a b _=>.bin o a.er b.er
 |.neg a _=>.neg a.er
 |.not a _=>.not a.er
 |.and a b _=>.and a.er b.er
 |.or a b _=>.or a.er b.er
 |.ite q a b _=>.ite q.er a.er b.er
 |.list es _=>.list (oi es)
 |.tup es _ _=>.tup (oi es)
 |.cmp o a b _=>.cmp o a.er b.er
 |.slice a l u s _ _=>.slice a.er (EO l) (EO u) (EO s)
 |.sub a i _=>.sub a.er i.er
 |.attr a _ i _=>.attr a.er i
 |.callM o _ i _ as B _=>.callM o.er i (oi as) (Ih B)
 |.call f as _=>.call f.er (oi as)
 |.dsub B vs _ i _=>.dsub (B.map (λJ=>J.1)) (oi vs) i.er
 |.dsubS B vs _ i _=>.dsubS (B.map (λJ=>J.1)) (oi vs) i.er
 |.listZip _ _ _ _ zs _ _=>.listZip (oi zs)
 |.repl a _ x _ _ y _ _ _=>.repl a.er x y
 |.fv a _=>.fv a.er
 |.fmt es _=>.fmt (oi es)
 |.comp2 elt Y it aa it2 ifs _ own _=>.comp elt.er [.mk Y.er it.er [],.mk aa.er it2.er (oi ifs)] own
 |.comp elt Y it ifs _ own _=>.comp elt.er [.mk Y.er it.er (oi ifs)] own
noncomputable def AK.er:AK->Nat×E
 |.mk _ i e _=>(i,e.er)
noncomputable def AI.er:AI->It
 |.plain e=>.plain e.er
 |.enum _ _ e _=>.enum e.er
 |.zip _ _ a b _=>.zip a.er b.er
 |.items e _ _ _=>.items e.er
noncomputable def oi:List AE->List E
 |[]=>[]
 |a::r=>a.er::oi r
noncomputable def EO:Option AE->Option E
 |.none=>.none
 |some a=>U a.er
noncomputable def Ih:List AK->List (Nat×E)
 |[]=>[]
 |k::r=>k.er::Ih r
end
noncomputable def Jp:Const->Option V
 |.none=>U .none
 |.bool b=>U (.bool b)
 |.int i=>U (.int i)
 |.str s=>U (.str s.cps.toList)
 |_=>.none
noncomputable def FY(k:Const)(v:V):Bool:=match k with
 |.none=>match v with
  |.none=>zG
  |_=>zH
 |.bool b=>match v with
  |.bool c=>b==c
  |_=>zH
 |.int i=>match v with
  |.int j=>decide (i=j)
  |_=>zH
 |.str s=>match v with
  |.str x=>decide (s.cps.toList=x)
  |_=>zH
 |_=>zH
mutual
noncomputable def AE.ok(t:Tx):Scope->AE->Bool
 |_,.cst k v _ _=>FY k v
 |_,.dbg x _=>x==("__debug__":Str)
 |sc,.glob x v _=>!(x==("__debug__":Str))&&(decide (iX sc x=U zH)&&JK (t.glob x) v)
 |sc,.clsA c _ x _ v=>decide (iX sc c=U zH)&&(!(c==("__debug__":Str))&&(match t.glob c with
  |some (.cst (.ref ad))=>JK (t.clsAttr ad x) v
  |_=>zH))
 |sc,.var x i _=>!(x==("__debug__":Str))&&(!(x==("__classdict__":Str))&&(decide (iX sc x=U zG)&&decide (t.id x=U i)))
 |sc,.bin o a b _=>a.ok t sc&&b.ok t sc
 |sc,.neg a _=>a.ok t sc
 |sc,.not a _=>a.ok t sc
 |sc,.and a b _=>a.ok t sc&&b.ok t sc
 |sc,.or a b _=>a.ok t sc&&b.ok t sc
 |sc,.ite q a b _=>q.ok t sc&&(a.ok t sc&&b.ok t sc)
 |sc,.list es _=>rJ t sc es
 |sc,.tup es _ _=>rJ t sc es
 |sc,.cmp o a b _=>a.ok t sc&&b.ok t sc
 |sc,.slice a l u s _ _=>a.ok t sc&&(Ib t sc l&&(Ib t sc u&&Ib t sc s))
 |sc,.sub a i _=>!iE i.un&&(a.ok t sc&&i.ok t sc)
 |sc,.attr a x i _=>!hG a.un&&(a.ok t sc&&decide (t.id x=U i))
 |sc,.callM o x i q as J p=>decide (q.endLine=p.line)&&(!hG o.un&&(Nat.ble (as.length+J.length) 20&&(o.ok t sc&&(decide (t.id x=U i)&&(rJ t sc as&&IL t sc J)))))
 |sc,.call f as _=>!B4 f.un&&(f.ok t sc&&rJ t sc as)
 |sc,.dsub J vs _ i _=>decide (J.map (λY=>Y.1)).Nodup&&(J.all (λk=>jh k.1)&&(decide (J.length=vs.length)&&(Nat.ble vs.length 15&&(rJ t sc vs&&(!iE i.un&&i.ok t sc)))))
 |sc,.dsubS J vs _ i _=>decide (J.map (λY=>Y.1)).Nodup&&(decide (J.length=vs.length)&&(Nat.ble vs.length 15&&(rJ t sc vs&&(!iE i.un&&i.ok t sc))))
 |sc,.listZip f _ z _ zs _ _=>fS t sc f (.type "list")&&(fS t sc z (.type "zip")&&rJ t sc zs)
 |sc,.repl a q x _ _ y _ _ p=>decide (q.endLine=p.line)&&(!hG a.un&&(!(cW x y)&&a.ok t sc))
 |sc,.fv a _=>a.ok t sc
 |sc,.fmt es _=>rJ t sc es
 |sc,.comp2 elt tg it aa it2 ifs B own _=>decide (B.kind= .function)&&(jt sc B&&(elt.ok t B&&(tg.ok t B&&(it.ok t sc&&(aa.ok t B&&(it2.ok t B&&(rJ t B ifs&&decide (fV t B.names=U own))))))))
 |sc,.comp elt tg it ifs B own _=>decide (B.kind= .function)&&(jt sc B&&(elt.ok t B&&(tg.ok t B&&(it.ok t sc&&(rJ t B ifs&&decide (fV t B.names=U own))))))
noncomputable def AK.ok(t:Tx):Scope->AK->Bool
 |sc,.mk x i e _=>decide (t.id x=U i)&&e.ok t sc
noncomputable def AI.ok(t:Tx):Scope->AI->Bool
 |sc,.plain e=>e.ok t sc
 |sc,.enum z _ e _=>fS t sc z (.type "enumerate")&&e.ok t sc
 |sc,.zip z _ a b _=>fS t sc z (.type "zip")&&(a.ok t sc&&b.ok t sc)
 |sc,.items e x B q=>x==("items":Str)&&(decide (B.endLine=q.line)&&(!hG e.un&&e.ok t sc))
noncomputable def rJ(t:Tx):Scope->List AE->Bool
 |_,[]=>zG
 |sc,a::r=>a.ok t sc&&rJ t sc r
noncomputable def Ib(t:Tx):Scope->Option AE->Bool
 |_,.none=>zG
 |sc,U a=>a.ok t sc
noncomputable def IL(t:Tx):Scope->List AK->Bool
 |_,[]=>zG
 |sc,k::r=>k.ok t sc&&IL t sc r
end
noncomputable def jZ(f:B->Option J):List B->Option (List J)
 |[]=>U []
 |x::r=>match f x with
  |some y=>match jZ f r with
   |some ys=>U (y::ys)
   |none=>zF
  |none=>zF
noncomputable def one(d:B)(f:J->B):List J->B
 |[a]=>f a
 |_=>d
noncomputable def Bi(d:B)(f:J->B)(Y:J->J->B):List J->B
 |[a]=>f a
 |[a,b]=>Y a b
 |_=>d
def Iv(t:Tx)(n:Nat):Expr->Option AT:=Nat.rec (λB=>zF) (λB J=>EH zF (λx p=>(t.id x).map λi=>.name x i p) (λes k p=>(jZ J es).map λY=>.tup Y k p) (λB B B B=>zF) (λB B B=>zF) (λB B B B=>zF) (λB B B=>zF)) n
noncomputable def JL(f:B->Option J)(o:Option B):Option (Option J):=Option.casesOn o (U zF) λx=>(f x).map U
def Dn(t:Tx)(sc:Scope)(f:Expr->Option AE)(Y:Expr)(k:Option AI->aa):aa:=
 let d:=(f Y).map AI.plain
 k (xH d (λg as B q=>EH d (λz zp=>cond (fS t sc z (.type "enumerate")) (as.head?.bind λa=>(f a).map λJ=>AI.enum z zp J q)
  (cond (fS t sc z (.type "zip")) (as.head?.bind λa=>(as.drop 1).head?.bind λb=>(f a).bind λJ=>(f b).map λb'=>AI.zip z zp J b' q) d)) (λB B B=>d) (λB B B B=>d) (λe x xp=>cond (x==("items":Str)) ((f e).map λe'=>AI.items e' x xp q) d) (λB B B B=>d) (λB B B=>d) g) Y)
def Iw(o:Option Expr):Option (V×Nat×Pos):=o.bind λe=>JV zF (λB B B=>zF) (λB B B B=>zF) (λB B B=>zF) (λB B B B=>zF) (λB B B B=>zF) (λB B B B=>zF) (λB B B B=>zF) (λk m p=>(Jp k).map λv=>(v,m,p)) (λB B B=>zF) (λB B B=>zF) (λB B=>zF) (λB B=>zF) (λB B B=>zF) (λB B B B=>zF) (λB B B=>zF) e
def J6(o:Option Expr):Option (Int×Nat×Pos):=(Iw o).bind λv=>(B5 v.1).map λi=>(i,v.2)
def Ge(o:Option Expr):Option (Txt×Nat×Pos):=(Iw o).bind λv=>(jI v.1).map λi=>(i,v.2)
def J5(g:Expr->Option AE)(d:Option AE)(a i:Expr)(p:Pos):Option AE:=
 JV d (λB B B=>d) (λB B B B=>d) (λB B B=>d) (λB B B B=>d) (λB B B B=>d) (λB B B B=>d) (λB B B B=>d) (λB B B=>d) (λB B B=>d) (λB B B=>d) (λB B=>d) (λB B=>d) (λB B B=>d) (λB B B B=>d)
  (λks vs q=>(jZ g vs).bind λY=>(g i).bind λi'=>Option.casesOn (jZ J6 ks) ((jZ Ge ks).map λJ=>.dsubS J Y q i' p) λJ=>U (.dsub J Y q i' p)) a
def J4(t:Tx)(sc:Scope)(g:Expr->Option AE)(d:Option AE)(f:Expr)(as:List Expr)(p:Pos):Option AE:=
 rc d (λfn J=>one d (xH d λh Y aa q=>rc d (λz zp=>cond (fS t sc fn (.type "list")&&fS t sc z (.type "zip")) ((jZ g Y).map λB=>.listZip fn J z zp B q p) d) h) as) f
def J3(g:Expr->Option AE)(d:Option AE)(o:Expr)(x:Str)(q:Pos)(as:List Expr)(p:Pos):Option AE:=
 cond (x==("replace":Str)) (Bi d (λJ=>d) (λa b=>(Ge (U a)).bind λu=>(Ge (U b)).bind λv=>(g o).map λB=>.repl B q u.1 u.2.1 u.2.2 v.1 v.2.1 v.2.2 p) as) d
def LD(t:Tx)(g:Expr->Option AE)(k:Keyword):Option AK:=k.arg.bind λa=>(t.id a).bind λi=>(g k.value).map λB=>AK.mk a i B k.pos
noncomputable def Kb(v:V):Option Addr:=match v with
 |.cst c=>(match c with
  |.ref ad=>U ad
  |_=>zF)
 |_=>zF
def J7(t:Tx)(x:Str)(o:Expr)(q:Pos)(sc:Scope)(d:Option AE):Option AE:=
 rc d (λc p=>cond (iX sc c==U zH) ((t.glob c).bind λv=>(Kb v).bind λad=>(t.clsAttr ad x).map λv=>.clsA c p x q v) d) o
def Ao(t:Tx)(n:Nat):Scope->Expr->Option AE:=Nat.rec (λaa aa=>zF) (λaa B sc e=>
 LZ (JV zF (λes op p=>(es.head?).bind λa=>(es.drop 1).head?.bind λb=>(B sc a).bind λJ=>(B sc b).map λb'=>BoolOp.casesOn op (.and J b' p) (.or J b' p))
  (λa b op p=>(Iu op).bind λo=>(B sc a).bind λJ=>(B sc b).map λb'=>.bin o J b' p)
  (λa op p=>(B sc a).map λJ=>cond (op== .Not) (.not J p) (.neg J p))
  (λq a b p=>(B sc q).bind λq'=>(B sc a).bind λJ=>(B sc b).map λb'=>.ite q' J b' p)
  (λelt gs Y p=>Bi zF (λg=>(B Y elt).bind λe'=>(Iv t 9 g.target).bind λaf=>(jZ (B Y) g.ifs).bind λae=>(fV t Y.names).bind λown=>Dn t sc (B sc) g.iter λo=>o.map λag=>.comp e' af ag ae Y own p)
   (λg h=>(B Y elt).bind λe'=>(Iv t 9 g.target).bind λaf=>(Iv t 9 h.target).bind λai=>(jZ (B Y) h.ifs).bind λae=>(fV t Y.names).bind λown=>Dn t sc (B sc) g.iter λo=>o.bind λag=>Dn t Y (B Y) h.iter λo=>o.map λit2=>.comp2 e' af ag ai it2 ae Y own p) gs)
  (λa aj bs p=>one zF (λop=>one zF (λb=>(Ir op).bind λo=>(B sc a).bind λJ=>(B sc b).map λb'=>.cmp o J b' p) bs) aj)
  (λf as ks p=>H1 (J4 t sc (B sc) ((B sc f).bind λf'=>(jZ (B sc) as).map λah=>.call f' ah p) f as p) (λo x q=>J3 (B sc) ((B sc o).bind λo'=>(t.id x).bind λi=>(jZ (B sc) as).bind λah=>(jZ (LD t (B sc)) ks).map λak=>.callM o' x i q ah ak p) o x q as p) f)
  (λk m p=>(Jp k).map λv=>.cst k v m p)
  (λa x q=>J7 t x a q sc ((B sc a).bind λJ=>(t.id x).map λi=>.attr J x i q))
  (λa i p=>J5 (B sc) ((B sc a).bind λJ=>yQ ((B sc i).map λi'=>.sub J i' p) (λl u s q=>(JL (B sc) l).bind λl'=>(JL (B sc) u).bind λu'=>(JL (B sc) s).map λs'=>.slice J l' u' s' q p) i) a i p)
  (λx p=>cond (x==("__debug__":Str)) (U (.dbg x p)) ((iX sc x).bind λb=>cond b ((t.id x).map λi=>.var x i p) ((t.glob x).map λv=>.glob x v p)))
  (λes p=>(jZ (B sc) es).map λab=>.list ab p)
  (λes k p=>(jZ (B sc) es).map λab=>.tup ab k p)
  (λaa aa aa aa=>zF) (λaa aa aa=>zF) e) (λv q p=>(B sc v).map λv'=>.fv v' p) (λes p=>(jZ (B sc) es).map λab=>.fmt ab p) e) n
noncomputable def T.id?:T->Option Nat
 |.name i=>U i
 |.tup _=>zF
noncomputable def oC(e:Expr):Bool:=Nat.beq e.ctorIdx 8
def th:Expr->Bool:=JC zG λvs B B=>!(vs.all (constantsAlone 8)) || vs.all (foldedForSure 8)
set_option genCtorIdx false in
inductive AN where
 |mk (x:Str) (i:Nat) (p:Pos)
set_option genCtorIdx false in
inductive AS where
 |names (I:List AN) (e:AE) (p:Pos)
 |unpack (ts:List AT) (k:Nat) (q:Pos) (e:AE) (p:Pos)
 |setAttr (o:AE) (x:Str) (i:Nat) (q:Pos) (e:AE) (p:Pos)
 |setSub (o i:AE) (q:Pos) (e:AE) (p:Pos)
 |setAll (o:AE) (qs q:Pos) (e:AE) (p:Pos)
 |del (o i:AE) (q p:Pos)
 |expr (e:AE) (p:Pos)
 |ite (q:AE) (a b:List AS) (p:Pos)
 |whil (q:AE) (b:List AS) (p:Pos)
 |for_ (tg:AT) (it:AI) (b:List AS) (p:Pos)
 |ret (e:Option AE) (p:Pos)
 |brk (p:Pos)
 |pass (p:Pos)
 |bad (s:Stmt)
noncomputable def AS.ctorIdx(x:AS):Nat:=AS.casesOn x (λB B B=>0) (λB B B B B=>1) (λB B B B B B=>2) (λB B B B B=>3) (λB B B B B=>4) (λB B B B=>5) (λB B=>6) (λB B B B=>7) (λB B B=>8) (λB B B B=>9) (λB B=>10) (λB=>11) (λB=>12) (λB=>13)
noncomputable def AN.un:AN->Expr
 |.mk x _ p=>.Name x p
noncomputable def AN.er:AN->Nat
 |.mk _ i _=>i
def AN.ok(t:Tx)(sc:Scope):AN->Bool
 |.mk x i _=>zm sc x&&decide (t.id x=U i)
mutual
noncomputable def AS.un:AS->Stmt
 |.names I e p=>.Assign (I.map AN.un) e.un p
 |.unpack B k q e p=>.Assign [.Tuple (jT B) k q] e.un p
 |.setAttr o x _ q e p=>.Assign [.Attribute o.un x q] e.un p
 |.setSub o i q e p=>.Assign [.Subscript o.un i.un q] e.un p
 |.setAll o J q e p=>.Assign [.Subscript o.un (.Slice zF zF zF J) q] e.un p
 |.del o i q p=>.Delete [.Subscript o.un i.un q] p
 |.expr e p=>.Expr e.un p
 |.ite q a b p=>.If q.un (pT a) (pT b) p
 |.whil q b p=>.While q.un (pT b) [] p
 |.for_ Y it b p=>.For Y.un it.un (pT b) [] p
 |.ret e p=>.Return (Ia e) p
 |.brk p=>.Break p
 |.pass p=>.Pass p
 |.bad s=>s
noncomputable def pT:List AS->List Stmt
 |[]=>[]
 |a::r=>a.un::pT r
end
mutual
noncomputable def AS.er:AS->S
 |.names I e _=>.names (I.map AN.er) e.er
 |.unpack B _ _ e _=>.unpack (oG B) e.er
 |.setAttr o _ i _ e _=>.setAttr o.er i e.er
 |.setSub o i _ e _=>.setSub o.er i.er e.er
 |.setAll o _ _ e _=>.setAll o.er e.er
 |.del o i _ _=>.del o.er i.er
 |.expr e _=>.expr e.er
 |.ite q a b _=>.ite q.er (nU a) (nU b)
 |.whil q b _=>.whil q.er (nU b)
 |.for_ J Y b _=>.for_ J.er Y.er (nU b)
 |.ret e _=>.ret (EO e)
 |.brk _=>.brk
 |.pass _=>.pass
 |.bad _=>.bad
noncomputable def nU:List AS->List S
 |[]=>[]
 |a::r=>a.er::nU r
end
mutual
noncomputable def AS.ok(t:Tx)(sc:Scope):AS->Bool
 |.names I e _=>!I.isEmpty&&(I.all (AN.ok t sc)&&e.ok t sc)
 |.unpack B _ _ e _=>th e.un&&(decide ((oG B).filterMap T.id?).Nodup&&(zn t sc B&&e.ok t sc))
 |.setAttr o x i _ e _=>!oC e.un&&(o.ok t sc&&(decide (t.id x=U i)&&e.ok t sc))
 |.setSub o i _ e _=>!iE i.un&&(o.ok t sc&&(i.ok t sc&&e.ok t sc))
 |.setAll o _ _ e _=>o.ok t sc&&e.ok t sc
 |.del o i _ _=>!iE i.un&&(o.ok t sc&&i.ok t sc)
 |.expr e _=>!oC e.un&&e.ok t sc
 |.ite q a b _=>q.ok t sc&&(qj t sc a&&qj t sc b)
 |.whil q b _=>q.ok t sc&&qj t sc b
 |.for_ J Y b _=>J.ok t sc&&(Y.ok t sc&&qj t sc b)
 |.ret e _=>Ib t sc e
 |.brk _=>zG
 |.pass _=>zG
 |.bad _=>zG
noncomputable def qj(t:Tx)(sc:Scope):List AS->Bool
 |[]=>zG
 |a::r=>a.ok t sc&&qj t sc r
end
def LC(t:Tx):Expr->Option AN:=rc zF λx p=>(t.id x).map λi=>.mk x i p
def LB(t:Tx)(sc:Scope)(n:Nat):Stmt->Option AS:=Nat.rec (λB=>zF) (λB ih s=>
 LG (U (.bad s)) (λe p=>(JL (Ao t 60 sc) e).map λe'=>.ret e' p)
  (λts p=>ts.head?.bind λa=>EH (U (.bad s)) (λB B=>U (.bad s)) (λB B B=>U (.bad s)) (λB B B B=>U (.bad s)) (λB B B=>U (.bad s)) (λB B B B=>U (.bad s)) (λo i q=>(Ao t 60 sc o).bind λJ=>(Ao t 60 sc i).map λi'=>.del J i' q p) a)
  (λts v p=>(Ao t 60 sc v).bind λY=>ts.head?.bind λa=>EH (U (.bad s)) (λB B=>(jZ (LC t) ts).map λI=>.names I Y p) (λts k q=>(jZ (Iv t 9) ts).map λaa=>.unpack aa k q Y p) (λB B B B=>zF) (λo x q=>(Ao t 60 sc o).bind λJ=>(t.id x).map λi=>.setAttr J x i q Y p) (λB B B B=>zF) (λo i q=>cond (iE i) (yQ (U (.bad s)) (λl u st qs=>cond (l.isNone&&(u.isNone&&st.isNone)) ((Ao t 60 sc o).map λJ=>.setAll J qs q Y p) (U (.bad s))) i) ((Ao t 60 sc o).bind λJ=>(Ao t 60 sc i).map λi'=>.setSub J i' q Y p)) a)
  (λtg it b B p=>(Iv t 9 tg).bind λab=>Dn t sc (Ao t 60 sc) it λo=>o.bind λae=>(jZ ih b).map λb'=>.for_ ab ae b' p)
  (λq b B p=>(Ao t 60 sc q).bind λq'=>(jZ ih b).map λb'=>.whil q' b' p)
  (λq a b p=>(Ao t 60 sc q).bind λq'=>(jZ ih a).bind λa'=>(jZ ih b).map λb'=>.ite q' a' b' p)
  (λv p=>(Ao t 60 sc v).map λY=>.expr Y p)
  (λp=>U (.pass p)) (λp=>U (.brk p)) s) n
def pt(t:Tx)(sc:Scope)(B:List Stmt):List AS:=(jZ (LB t sc 60) B).getD []
noncomputable def AO(l:List (Txt×Int×Tok×Tok)):List (Txt×V):=l.map λp=>(p.1,.int p.2.1)
noncomputable def mP(Γ:G)(J:Cf)(fe fs:Nat):Nat->Cf
 | 0,f,as,B,N=>J f as B N
 |n+1,f,as,B,N=>match J f as B N with
  |some r=>U r
  |.none=>match Γ.fns.lookup f with
   |some F=>f6 Γ (mP Γ J fe fs n) fe fs F as B N
   |.none=>.none
theorem nW(Γ:G)(B:Cf)(fe fs n:Nat)(f:Addr)(as:List V)(J:List (Nat×V))(N:H):mP Γ B fe fs (n+1) f as J N=(match B f as J N with
  |some r=>U r
  |.none=>match Γ.fns.lookup f with
   |some F=>f6 Γ (mP Γ B fe fs n) fe fs F as J N
   |.none=>.none):=rfl
def gg(Γ:G)(fe fs n:Nat):Cf:=mP Γ (λB B B B=>.none) fe fs n
end MI.Lake
end T2
section T3
open PySem PySem.Spec PySem.Calls PyProof.Rows PySem.W
namespace MI.Lake
structure Rh where
 ob:List (Addr×Addr)
 pv:List Addr
def Rh.own(r:Rh)(b:Addr):Prop:=∃p∈r.ob,b=p.1\/b=p.2
def Rh.mut(r:Rh)(b:Addr):Prop:=r.own b\/b∈r.pv
noncomputable def fG(items:List Value)(n:Nat):Obj:= {cls:= .type "list",data:= .seq items.toArray n}
noncomputable def pr(items:List Value)(n:Nat):Obj:= {cls:= .type "tuple",data:= .seq items.toArray n}
noncomputable def hD(es:List DictEntry)(n:Nat):Obj:= {cls:= .type "dict",data:= .dict es.toArray n}
noncomputable def DC(a b:Int)(t u v:Tok):Obj:= {cls:= .type "range",dict:=zF,data:= .fields #[.int a t,.int b u,.int 1 v],slots:= #[]}
noncomputable def dE(s:Txt):Str:=⟨s.toArray⟩
noncomputable def BV(P:Params):List Txt->List Tok->List Value->List DictEntry
 |[],_,_=>[]
 |k::J,B,us=>match B with
  |[]=>[]
  |t::B=>match us with
   |[]=>[]
   |u::us=>{hash:=PyData.keyHash P (dE k),key:= .str (dE k) t,val:=u}::BV P J B us
def rl(P:Params)(h:Heap)(B:List Txt)(us:List Value)(a:Addr)(n:Nat):Prop:=
 (∃J,h.get? a=U (hD (BV P B J us) n)/\J.length=us.length)/\B.length=us.length/\B.Nodup
def F2(P:Params)(r:Rh)(h:Heap)(B:List Txt)(us:List Value)(a:Addr):Prop:=∃n,rl P h B us a n/\ ¬r.mut a/\(a==sysModules)=zH
mutual
inductive VR(P:Params)(r:Rh)(h:Heap):V->Value->Prop
 |none:VR P r h .none .none
 |bool (b:Bool):VR P r h (.bool b) (.bool b)
 |int (i:Int) (t:Tok):VR P r h (.int i) (.int i t)
 |str (s:Txt) (t:Tok):VR P r h (.str s) (.str (dE s) t)
 |ref (i:Nat) (p:Addr×Addr):r.ob[i]? =U p->VR P r h (.ref i) (.ref p.1)
 |cst (c:Value):VR P r h (.cst c) c
 |tup (vs:List V) (items:List Value) (n:Nat) (a:Addr):h.get? a=U (pr items n)->¬r.mut a->dZ P r h vs items->items.length<=4000000->VR P r h (.tup vs) (.ref a)
 |flist (vs:List V) (items:List Value) (a:Addr):h.IsList a items.toArray->¬r.mut a->dZ P r h vs items->items.length<=4000000->VR P r h (.flist vs) (.ref a)
 |rng (a b:Int) (t u v:Tok) (x:Addr):h.get? x=U (DC a b t u v)->¬r.mut x->VR P r h (.rng a b) (.ref x)
 |kws (ks:List Txt) (vs:List V) (us:List Value) (a:Addr):F2 P r h ks us a->dZ P r h vs us->VR P r h (.kws ks vs) (.ref a)
inductive dZ(P:Params)(r:Rh)(h:Heap):List V->List Value->Prop
 |nil:dZ P r h [] []
 |cons {v u vs us}:VR P r h v u->dZ P r h vs us->dZ P r h (v::vs) (u::us)
end
inductive D3{κ:Type}(P:Params)(r:Rh)(h:Heap)(f:κ->Tok->Value):List κ->List V->List (Value×Value)->Prop
 |nil:D3 P r h f [] [] []
 |cons {k t u w ks us ps}:VR P r h u w->D3 P r h f ks us ps->D3 P r h f (k::ks) (u::us) ((f k t,w)::ps)
structure dH(r:Rh)(h:Heap)(r':Rh)(h':Heap):Prop where
 ext:∃τ,r'.ob=r.ob++τ/\∀p∈τ,h.get? p.1=zF/\h.get? p.2=zF
 pv:r'.pv=r.pv
 keep:∀b o,h.get? b=U o->¬r.own b->h'.get? b=U o
 live:∀b o,h.get? b=U o->∃o',h'.get? b=U o'
theorem dH.refl(r:Rh)(h:Heap):dH r h r h:=⟨(cU [] (by simp) (λB J=>nomatch J)),rfl,λB B e B=>e,λB o e=>⟨o,e⟩⟩
theorem dH.own_old(S:dH r h r' h')(e:h.get? b=U o)(J:r'.own b):r.own b:=by
 refine cJ (S.ext) λaa Y hf=>cJ J λp B J=>?_;rw[Y] at B;rcases aO.mp B with B| B
 ·exact⟨p,B,J⟩
 ·refine f7 (hf p B) λh1 h2=>?_;rcases J with rfl| rfl
  ·rw[h1] at e;exact ns e
  ·rw[h2] at e;exact ns e
theorem dH.own_new(S:dH r h Y h')(B:r.own b):Y.own b:=by
 exact cJ (S.ext) λaa J hf=>cJ B λp hp B=>⟨p,by rw[J];exact aP _ hp,B⟩
theorem dH.mut_old(S:dH r h J h')(e:h.get? b=U o)(B:J.mut b):r.mut b:=by
 rcases B with B| B
 ·exact .inl (S.own_old e B)
 ·exact .inr (S.pv▸B)
theorem dH.trans(S:dH r h r' h')(J:dH r' h' ae af):dH r h ae af:=by
 refine⟨?_,J.pv.trans S.pv,λb o e hb=>J.keep b o (S.keep b o e hb) λag=>hb (S.own_old e ag),λb o e=>?_⟩
 ·refine cJ (S.ext) λaj ah hf=>cJ (J.ext) λai ab aa=>(cU (aj++ai) (by rw[ab,ah,cN]) (λp B=>?_));rcases aO.mp B with B| B
  ·exact hf p B
  ·have no:∀a,h'.get? a=zF->h.get? a=zF:=λa ha=>by
    cases q:h.get? a with
    |none=>rfl
    |some o=>obtain⟨o',Y⟩:=S.live a o q;rw[ha] at Y;exact ns Y
   exact⟨no _ (aa p B).1,no _ (aa p B).2⟩
 ·exact dS (S.live b o e) λo' Y=>J.live b o' Y
theorem dH.grow(k:∀b o,h.get? b=U o->h'.get? b=U o):dH r h r h':=
 ⟨(cU [] (by simp) (λB J=>nomatch J)),rfl,λb o e B=>k b o e,λb o e=>⟨o,k b o e⟩⟩
theorem dH.at_ob(S:dH r h J h'){i:Nat}(e:r.ob[i]? =U p):J.ob[i]? =U p:=by
 refine cJ (S.ext) λaa B ab=>?_;have Y:=aZ e;rw[B,bM Y];exact e
structure Mv(r:Rh)(h:Heap)(r':Rh)(h':Heap):Prop where
 ob:∀(i:Nat) (p:Addr×Addr),r.ob[i]? =U p->r'.ob[i]? =U p
 fz:∀a o,h.get? a=U o->¬r.mut a->h'.get? a=U o/\ ¬r'.mut a
theorem dZ.ind{zB:List V->List Value->Prop}(n:zB [] [])(c:∀ {v u vs us},VR P r h v u->dZ P r h vs us->zB vs us->zB (v::vs) (u::us))(x:dZ P r h vs us):zB vs us:=
 dZ.rec (motive_1:=λB B B=>True) trivial (λB=>trivial) (λB B=>trivial) (λB B=>trivial) (λB B B=>trivial) (λB=>trivial) (λB B B B B B B B B=>trivial) (λB B B B B B B B=>trivial) (λB B B B B B B B=>trivial) (λB B B B B B B=>trivial) n (λa b B i=>c a b i) x
def L3(P:Params)(r:Rh)(h:Heap)(v:V)(u:Value):Prop:=match v with
 |.none=>u= .none
 |.bool b=>u= .bool b
 |.int i=>∃t,u= .int i t
 |.str s=>∃t,u= .str (dE s) t
 |.ref i=>∃p,u= .ref p.1/\r.ob[i]? =U p
 |.cst c=>u=c
 |.tup vs=>∃items n a,u= .ref a/\h.get? a=U (pr items n)/\ ¬r.mut a/\dZ P r h vs items/\items.length<=4000000
 |.flist vs=>∃items a,u= .ref a/\h.IsList a items.toArray/\ ¬r.mut a/\dZ P r h vs items/\items.length<=4000000
 |.rng a b=>∃t B w y,u= .ref y/\h.get? y=U (DC a b t B w)/\ ¬r.mut y
 |.kws J vs=>∃us a,u= .ref a/\F2 P r h J us a/\dZ P r h vs us
theorem VR.inv(x:VR P r h v u):L3 P r h v u:=
 VR.rec (motive_2:=λB B B=>True) rfl (λB=>rfl) (λB t=>⟨t,rfl⟩) (λB t=>⟨t,rfl⟩) (λB p e=>⟨p,rfl,e⟩) (λB=>rfl)
  (λB items n a e f x l B=>⟨items,n,a,rfl,e,f,x,l⟩) (λB items a e f x l B=>⟨items,a,rfl,e,f,x,l⟩) (λB B t J w y e f=>⟨t,J,w,y,rfl,e,f⟩) (λB B us a e x B=>⟨us,a,rfl,e,x⟩) trivial (λB B B B=>trivial) x
def K3(P:Params)(r:Rh)(h:Heap)(vs:List V)(us:List Value):Prop:=match vs with
 |[]=>us= []
 |v::vs=>∃u B,us=u::B/\VR P r h v u/\dZ P r h vs B
theorem dZ.inv(x:dZ P r h vs us):K3 P r h vs us:=x.ind rfl λa b B=>⟨_,_,rfl,a,b⟩
theorem rl.keep(k:∀b o,h.get? b=U o->h'.get? b=U o)(x:rl P h B us a n):rl P h' B us a n:=
 x.1.elim λJ q=>⟨(cU J (k _ _ q.1) q.2),x.2⟩
theorem rl.mv(zB:Mv r h J h')(x:rl P h Y us a n)(B: ¬r.mut a):rl P h' Y us a n/\ ¬J.mut a:=
 x.1.elim λts q=>⟨⟨(cU ts ((zB.fz a _ q.1 B).1) q.2),x.2⟩,(zB.fz a _ q.1 B).2⟩
theorem F2.mv(zB:Mv r h B h')(x:F2 P r h J us a):F2 P B h' J us a:=
 x.elim λn q=>⟨n,(q.1.mv zB q.2.1).1,(q.1.mv zB q.2.1).2,q.2.2⟩
theorem VR.mv(zB:Mv r h J h')(x:VR P r h v u):VR P J h' v u:=
 VR.rec .none .bool .int .str (λi p e=>.ref i p (zB.ob i p e)) .cst
  (λvs items n a e f B l x=>.tup vs items n a (zB.fz a _ e f).1 (zB.fz a _ e f).2 x l)
  (λvs items a e f B l x=>.flist vs items a (e.elim λo q=>⟨o,(zB.fz a o q.1 f).1,q.2⟩) (e.elim λo q=>(zB.fz a o q.1 f).2) x l)
  (λa b t u v x e f=>.rng a b t u v x (zB.fz x _ e f).1 (zB.fz x _ e f).2) (λY vs us a e B x=>.kws Y vs us a (e.mv zB) x) .nil (λB B a b=>.cons a b) x
theorem dZ.mv(zB:Mv r h B h')(x:dZ P r h vs us):dZ P B h' vs us:=x.ind .nil λa J i=>.cons (a.mv zB) i
theorem dH.mv{h h':Heap}(S:dH r h B h'):Mv r h B h':=
 ⟨λJ J e=>S.at_ob e,λa o e f=>⟨S.keep a o e λq=>f (.inl q),λq=>f (S.mut_old e q)⟩⟩
theorem VR.step(x:VR P r h v u)(S:dH r h B h'):VR P B h' v u:=x.mv S.mv
theorem dZ.step(x:dZ P r h v u)(S:dH r h B h'):dZ P B h' v u:=x.mv S.mv
theorem dZ.length(x:dZ P r h vs us):us.length=vs.length:=x.ind (zB:=λvs us=>us.length=vs.length) rfl λB B i=>congrArg Nat.succ i
theorem dZ.append(x:dZ P r h vs us)(y:dZ P r h B J):dZ P r h (vs++B) (us++J):=
 x.ind (zB:=λvs us=>dZ P r h (vs++B) (us++J)) y λa Y i=>.cons a i
theorem dZ.get{i:Nat}{v:V}(x:dZ P r h vs us)(e:vs[i]? =U v):∃u,us[i]? =U u/\VR P r h v u:=
 x.ind (zB:=λvs us=>∀i:Nat,vs[i]? =U v->∃u,us[i]? =U u/\VR P r h v u) (λJ e=>ns e) (λa J f i e=>by
  cases i with
  |zero=>(refine si e λB=>?_;subst B);exact(cU _ rfl a)
  |succ i=>exact f i e) i e
theorem dZ.none{i:Nat}(x:dZ P r h vs us)(e:vs[i]? = .none):us[i]? = .none:=by
 rw[List.getElem?_eq_none_iff] at e⊢;rw[x.length];exact e
theorem dZ.set(x:dZ P r h vs us)(y:VR P r h v u):dZ P r h (vs.set i v) (us.set i u):=
 x.ind (zB:=λvs us=>∀i:Nat,dZ P r h (vs.set i v) (us.set i u)) (λB=>.nil) (λa b f i=>by
  cases i with
  |zero=>exact .cons y b
  |succ i=>exact .cons a (f i)) i
theorem dZ.take(n:Nat)(x:dZ P r h vs us):dZ P r h (vs.take n) (us.take n):=
 x.ind (zB:=λvs us=>∀n:Nat,dZ P r h (vs.take n) (us.take n)) (λn=>by rw[List.take_nil,List.take_nil];exact .nil) (λa B f n=>by
  cases n with
  |zero=>exact .nil
  |succ n=>exact .cons a (f n)) n
theorem dZ.drop(n:Nat)(x:dZ P r h vs us):dZ P r h (vs.drop n) (us.drop n):=
 x.ind (zB:=λvs us=>∀n:Nat,dZ P r h (vs.drop n) (us.drop n)) (λn=>by rw[uG,uG];exact .nil) (λa b f n=>by
  cases n with
  |zero=>exact .cons a b
  |succ n=>exact f n) n
theorem dZ.reverse(x:dZ P r h vs us):dZ P r h vs.reverse us.reverse:=
 x.ind (zB:=λvs us=>dZ P r h vs.reverse us.reverse) .nil λa B i=>by rw[gH,gH];exact i.append (.cons a .nil)
inductive OR(P:Params)(ids:List Str)(r:Rh)(h:Heap):O->Addr×Addr->Prop
 |list (vs:List V) (items:List Value) (n:Nat) (a:Addr):h.get? a=U (fG items n)->dZ P r h vs items->items.length<=4000000->OR P ids r h (.list vs) (a,a)
 |inst (zD:Addr) (fs:List (Nat×V)) (a d:Addr) (es:List DictEntry) (n:Nat):a≠d->h.get? a=U (instObj zD d)->h.get? d=U (hD es n)->es.length<=fs.length->(es.any (λω=>ω.refKey))=zH->
   (∀i x v,ids[i]? =U x->look i fs=U v->∃u,getL x es=U (U u)/\VR P r h v u)->(∀i x,ids[i]? =U x->look i fs= .none->getL x es=U .none)->
   OR P ids r h (.inst zD fs) (a,d)
structure jj(P:Params)(ids:List Str)(h₀:Heap)(r:Rh)(N:H)(h:Heap):Prop where
 base:∀b o,h₀.get? b=U o->h.get? b=U o
 len:r.ob.length=N.length
 obj:∀(i:Nat) o p,N[i]? =U o->r.ob[i]? =U p->OR P ids r h o p
 fresh:∀b,r.mut b->h₀.get? b= .none
 apart:r.ob.Pairwise λp q=>p.1≠q.1/\p.1≠q.2/\p.2≠q.1/\p.2≠q.2
 pvo:∀b∈r.pv,¬r.own b
 pvl:∀b∈r.pv,∃o,h.get? b=U o
theorem OR.mv(zB:Mv r h J h')(k:∀ob,h.get? p.1=U ob->h'.get? p.1=U ob)(B:∀ob,h.get? p.2=U ob->h'.get? p.2=U ob)(x:OR P ids r h o p):OR P ids J h' o p:=
 OR.rec
  (λvs items n a e x l k aa=>.list vs items n a (k _ e) (x.mv zB) l)
  (λzD fs a d es n ne Y e2 le nr hv hn k B=>.inst zD fs a d es n ne (k _ Y) (B _ e2) le nr (λi x v e e'=>(hv i x v e e').elim λu q=>(cU u q.1 (q.2.mv zB))) hn) x k B
def L5(P:Params)(ids:List Str)(r:Rh)(h:Heap)(o:O)(p:Addr×Addr):Prop:=match o with
 |.list vs=>∃items n,p.2=p.1/\h.get? p.1=U (fG items n)/\dZ P r h vs items/\items.length<=4000000
 |.inst zD fs=>∃es n,p.1≠p.2/\h.get? p.1=U (instObj zD p.2)/\h.get? p.2=U (hD es n)/\es.length<=fs.length/\(es.any (λB=>B.refKey))=zH/\
   (∀i x v,ids[i]? =U x->look i fs=U v->∃u,getL x es=U (U u)/\VR P r h v u)/\(∀i x,ids[i]? =U x->look i fs= .none->getL x es=U .none)
theorem OR.inv(x:OR P ids r h o p):L5 P ids r h o p:=
 OR.rec (λB items n B e x l=>⟨items,n,rfl,e,x,l⟩) (λB B B B es n J Y h3 h4 h5 h6 h7=>⟨es,n,J,Y,h3,h4,h5,h6,h7⟩) x
theorem OR.live(x:OR P ids r h o p):(∃ob,h.get? p.1=U ob)/\∃ob,h.get? p.2=U ob:=
 OR.rec (λB B B B e B B=>⟨⟨_,e⟩,⟨_,e⟩⟩) (λB B B B B B B J Y B B B B=>⟨⟨_,J⟩,⟨_,Y⟩⟩) x
section
variable{P:Params}{ids:List Str}{B:Heap}{r:Rh}{N:H}{h h':Heap}
theorem jj.there(R:jj P ids B r N h){i:Nat}(e:N[i]? =U o):∃p,r.ob[i]? =U p/\OR P ids r h o p:=by
 have Y:=aZ e;have J:i < r.ob.length:=R.len▸Y;exact(cU (r.ob[i]) (aM J) (R.obj i o _ e (aM J)))
theorem jj.ownLive(R:jj P ids B r N h)(J:r.own b):∃o,h.get? b=U o:=by
 refine cJ J λp hp J=>dS (fA hp) λi Y=>?_;have hl:=aZ Y;have aa:i < N.length:=R.len▸hl;have:=(R.obj i _ p (aM aa) Y).live;rcases J with rfl| rfl
 ·exact this.1
 ·exact this.2
theorem jj.mutLive(R:jj P ids B r N h)(J:r.mut b):∃o,h.get? b=U o:=J.elim R.ownLive (R.pvl b)
theorem jj.grow(R:jj P ids B r N h)(k:∀b o,h.get? b=U o->h'.get? b=U o):jj P ids B r N h' where
 base:=λb o e=>k b o (R.base b o e)
 len:=R.len
 obj:=λi o p e Y=>(R.obj i o p e Y).mv ⟨λJ J e=>e,λa o e f=>⟨k a o e,f⟩⟩ (λJ e=>k _ _ e) λJ e=>k _ _ e
 fresh:=R.fresh
 apart:=R.apart
 pvo:=R.pvo
 pvl:=λb hb=>by obtain⟨o,e⟩:=R.pvl b hb;exact⟨o,k b o e⟩
theorem jj.push(R:jj P ids B r N h)(k:∀b ob,h.get? b=U ob->h'.get? b=U ob)(Y:h.get? p.1= .none)(n2:h.get? p.2= .none)
  (ho:OR P ids {r with ob:=r.ob++ [p]} h' o p):jj P ids B {r with ob:=r.ob++ [p]} (N++ [o]) h'/\dH r h {r with ob:=r.ob++ [p]} h':=by
 have S:dH r h {r with ob:=r.ob++ [p]} h':=⟨(cU [p] rfl (λq hq=>by rw[aH.mp hq];exact⟨Y,n2⟩)),rfl,λb ob e ae=>k b ob e,λb ob e=>⟨ob,k b ob e⟩⟩;refine⟨⟨λb ob e=>k b ob (R.base b ob e),by simp[R.len],λi o' q e e'=>?_,λb J=>?_,?_,λb J ab=>?_,λb J=>by obtain⟨ob,e⟩:=R.pvl b J;exact⟨ob,k b ob e⟩⟩,S⟩
 ·by_cases hi:i < N.length
  ·rw[bM hi] at e;rw[bM (R.len▸hi)] at e';exact(R.obj i o' q e e').mv S.mv (λae e=>k _ _ e) λae e=>k _ _ e
  ·have hl:i < N.length+1:=(aF (bs:= [o]))▸(cV.mp e).1;obtain rfl:=gD (cG hl) (bK hi);rw[bG (aJ _),fh] at e;rw[<-R.len,bG (aJ _),fh] at e'
   (refine si e λq9=>?_;subst q9;clear e);(refine si e' λaf=>?_;subst af)
   exact ho
 ·cases q:B.get? b with
  |none=>rfl
  |some ob=>
   have:=S.mut_old (R.base b ob q) J;rw[R.fresh b this] at q;exact ns q
 ·refine r0.mpr ⟨R.apart,jl _ _,λq hq q' ag=>?_⟩;rw[aH.mp ag];refine dS (R.ownLive ⟨q,hq,.inl rfl⟩) λo1 e1=>dS (R.ownLive ⟨q,hq,.inr rfl⟩) λo2 e2=>?_;have no:∀ {a b:Addr} {ob},h.get? b= .none->h.get? a=U ob->a≠b:=λn e z=>ns (n.symm.trans (z▸e));exact⟨no Y e1,no n2 e1,no Y e2,no n2 e2⟩
 ·refine cJ ab λq hq aa=>?_;clear ab;rcases aO.mp hq with hq| hq
  ·exact R.pvo b J ⟨q,hq,aa⟩
  ·rw[aH.mp hq] at aa;refine dS (R.pvl b J) λob e=>?_;clear J;rcases aa with rfl| rfl
   ·rw[Y] at e;exact ns e
   ·rw[n2] at e;exact ns e
theorem jj.upd(R:jj P ids B r N h)(Y:r.ob[i]? =U p)(k:∀b ob,h.get? b=U ob->b≠p.1->b≠p.2->h'.get? b=U ob)
  (lv:∀b ob,h.get? b=U ob->∃aa,h'.get? b=U aa) (ho:∀(zB:Mv r h r h'),OR P ids r h' o p):jj P ids B r (N.set i o) h'/\dH r h r h':=by
 have hm:p∈r.ob:=bF Y;have o1:r.own p.1:=⟨p,hm,.inl rfl⟩;have o2:r.own p.2:=⟨p,hm,.inr rfl⟩;have S:dH r h r h':=⟨(cU [] (by simp) (λaf hq=>nomatch hq)),rfl,λb ob e f=>k b ob e (λz=>f (z▸o1)) λz=>f (z▸o2),lv⟩;refine⟨⟨λb ob e=>?_,by simp[R.len],λj o' q e J=>?_,R.fresh,R.apart,R.pvo,λb hb=>?_⟩,S⟩
 ·have J:=R.base b ob e;refine k b ob J (λz=>?_) λz=>?_
  ·have:=R.fresh p.1 (.inl o1);rw[<-z,e] at this;exact sn this
  ·have:=R.fresh p.2 (.inl o2);rw[<-z,e] at this;exact sn this
 ·by_cases hj:j=i
  ·subst hj;rw[Y] at J;(refine si J λab=>?_;subst ab;clear J);rw[eY (by have hl:=aZ e;simpa using hl)] at e
   (refine si e λae=>?_;subst ae)
   exact ho S.mv
  ·rw[bU (Ne.symm hj)] at e;have A:=List.pairwise_iff_getElem.mp R.apart;obtain⟨li,ei⟩:=cV.mp Y;obtain⟨lj,ej⟩:=cV.mp J;have ne:q.1≠p.1/\q.1≠p.2/\q.2≠p.1/\q.2≠p.2:=by
    rcases Nat.lt_or_gt_of_ne hj with lt| lt
    ·have:=A j i lj li lt;rw[ei,ej] at this;exact this
    ·have:=A i j li lj lt;rw[ei,ej] at this;exact⟨Ne.symm this.1,Ne.symm this.2.2.1,Ne.symm this.2.1,Ne.symm this.2.2.2⟩
   exact(R.obj j o' q e J).mv S.mv (λob e=>k _ ob e ne.1 ne.2.1) λob e=>k _ ob e ne.2.2.1 ne.2.2.2
 ·exact dS (R.pvl b hb) λob e=>⟨ob,k b ob e (λz=>R.pvo b hb (z▸o1)) λz=>R.pvo b hb (z▸o2)⟩
end
set_option tactic.hygienic true in
theorem sd(h:Runs zB Γ p t fs s e s'):s.toks<=s'.toks:=by
 induction h<;>first
  |exact aJ _
  |assumption
  |(rename_i B;exact B)
  |(rename_i B;exact aA (fR _) B)
  |(rename_i J Y;exact aA J Y)
theorem wj(h:Wakes zB Γ p g r s Y s'):s.toks<=s'.toks:=by
 have B:∀ {Γ:PySem.Ctx} {p:Pos} {t:Sem Fin} {fs:List Frame} {s0:Shared},s0.toks=s.toks->(∃e s1,Runs zB Γ p t fs s0 e s1/\e.quiet=zG/\Y=e.result/\s'=s1.setGen g e.genState)->s.toks<=s'.toks:=λe0 h=>by
  refine pb h λe s1 h1 aa aa q=>?_;rw[q,<-e0];exact(sd h1:_<=s1.toks)
 unfold Wakes at h;cases J:s.gens[g]? with
 |none=>rw[J] at h;exact h.elim
 |some st=>
  rw[J] at h;cases st with
  |fresh c=>cases r with
   |send v=>cases v with
    |none=>exact B (s0:=s.setGen g .running) rfl h
    |_=>exact h.2▸aJ _
   |throw x=>exact h.2▸aJ _
  |suspended=>exact B (s0:=s.setGen g .running) rfl h
  |running=>exact h.2▸aJ _
  |finished=>exact h.2▸aJ _
set_option tactic.hygienic true in
theorem pI(zB:Model)(Γ:PySem.Ctx)(n:Nat){Q:aa->Pos->Shared->Prop}{E:Value->Pos->Shared->Prop}:∀(t:Sem aa) (p:Pos) (s:Shared),n<=s.toks->Sem.wp zB Γ t Q E p s->Sem.wp zB Γ t (λa p' s'=>n<=s'.toks/\Q a p' s') (λe p' s'=>n<=s'.toks/\E e p' s') p s:=by
 intro t;induction t<;>intro p s J h<;>rw[Sem.wp] at h⊢
 case call B=>
  refine je h λr s1 Y h2=>?_;clear h;exact⟨r,s1,Y,B _ _ _ (aA J (sd Y)) h2⟩
 case resume B=>
  refine je h λr s1 Y h2=>?_;clear h;exact(rO r s1 Y (B _ _ _ (aA J (wj Y)) h2))
 case fresh B=>exact B _ _ _ (dT J) h
 case load B=>obtain⟨o,Y,h2⟩:=h;exact(cU o Y (B _ _ _ J h2))
 case genState B=>obtain⟨o,Y,h2⟩:=h;exact(cU o Y (B _ _ _ J h2))
 case update B=>exact⟨h.1,B _ _ _ J h.2⟩
 case choose B=>exact⟨h.1,B _ _ _ J h.2⟩
 all_goals first
  |exact⟨J,h⟩
  |exact h
  |(rename_i B;exact B _ _ _ J h)
theorem wi{Q:Y->Shared->Prop}{E:Value->Shared->Prop}{s:Shared}(J:n<=s.toks)(h:wpAny zB A t Q E s):wpAny zB A t (λa s'=>n<=s'.toks/\Q a s') (λe s'=>n<=s'.toks/\E e s') s:=
 λΓ p B=>pI zB Γ n t p s J (h Γ p B)
theorem eS{zB:Model}{A:Around}{J:Type}{t:Sem J}{Q:J->Shared->Prop}{E:Value->Shared->Prop}{s:Shared}[Y:NeZero s.toks](h:wpAny zB A t (λa s'=>[NeZero s'.toks]->Q a s') E s):wpAny zB A t Q E s:=
 bX (wi (Nat.pos_of_ne_zero Y.out) h) (λB B q=>@q.2 ⟨eB q.1⟩) (λB B q=>q.2)
theorem tX{b:Bool}{x y:J}(e:(if b=zG then U x else .none)=U y):b=zG/\y=x:=by
 cases b with
 |true=>(refine si e λB=>?_;subst B;clear e);exact⟨rfl,rfl⟩
 |false=>exact ns e
theorem jB{G:Prop}(e:(if b=zG then U x else .none)=U y)(k:b=zG->y=x->G):G:=f7 (tX e) k
theorem Hm{x:Option B}{y:B}(e:(if b=zG then x else .none)=U y):b=zG/\x=U y:=by
 cases b with
 |true=>exact⟨rfl,e⟩
 |false=>exact ns e
theorem qH{x:Option B}{y:B}{G:Prop}(e:(if b=zG then x else .none)=U y)(k:b=zG->x=U y->G):G:=f7 (Hm e) k
theorem hY{a b:Bool}(h:(a&&b)=zG):a=zG/\b=zG:=by
 cases a with
 |true=>exact⟨rfl,h⟩
 |false=>exact ft h
theorem an{a b:Bool}{G:Prop}(h:(a&&b)=zG)(k:a=zG->b=zG->G):G:=f7 (hY h) k
theorem KV{f:Bool->H->Option J}{y:J} (e:(match o with
  |some (v,B)=>f v B
  |.none=>.none)=U y):∃v B,o=U (v,B)/\f v B=U y:=by
 cases o with
 |none=>exact ns e
 |some x=>exact(rO x.1 x.2 rfl e)
theorem Fa{f:Bool->H->Option J}{y:J}{G:Prop} (e:(match o with
  |some (v,B)=>f v B
  |.none=>.none)=U y) (k:∀v B,o=U (v,B)->f v B=U y->G):G:=je (KV e) k
theorem J1{f:V->H->Option J}{y:J} (e:(match o with
  |some (v,B)=>f v B
  |.none=>.none)=U y):∃v B,o=U (v,B)/\f v B=U y:=by
 cases o with
 |none=>exact ns e
 |some x=>exact(rO x.1 x.2 rfl e)
theorem jH{f:V->H->Option J}{y:J}{G:Prop} (e:(match o with
  |some (v,B)=>f v B
  |.none=>.none)=U y) (k:∀v B,o=U (v,B)->f v B=U y->G):G:=je (J1 e) k
theorem JZ{f:List V->H->Option J}{y:J} (e:(match o with
  |some (v,B)=>f v B
  |.none=>.none)=U y):∃v B,o=U (v,B)/\f v B=U y:=by
 cases o with
 |none=>exact ns e
 |some x=>exact(rO x.1 x.2 rfl e)
theorem An{f:List V->H->Option J}{y:J}{G:Prop} (e:(match o with
  |some (v,B)=>f v B
  |.none=>.none)=U y) (k:∀v B,o=U (v,B)->f v B=U y->G):G:=je (JZ e) k
theorem Kv{f:List (Nat×V)->H->Option J}{y:J} (e:(match o with
  |some (v,B)=>f v B
  |.none=>.none)=U y):∃v B,o=U (v,B)/\f v B=U y:=by
 cases o with
 |none=>exact ns e
 |some x=>exact(rO x.1 x.2 rfl e)
theorem Lk{f:List (Nat×V)->H->Option J}{y:J}{G:Prop} (e:(match o with
  |some (v,B)=>f v B
  |.none=>.none)=U y) (k:∀v B,o=U (v,B)->f v B=U y->G):G:=je (Kv e) k
theorem CR{o:Option B}{f:B->Bool}(h:o.any f=zG):∃x,o=U x/\f x=zG:=by
 cases o with
 |none=>exact ft h
 |some x=>exact(cU x rfl h)
theorem H3{o:Option B}{f:B->Bool}{G:Prop}(h:o.any f=zG)(k:∀x,o=U x->f x=zG->G):G:=cJ (CR h) k
theorem fW{a:Bool}(h:(!a)=zG):a=zH:=by
 cases a with
 |true=>exact ft h
 |false=>rfl
theorem ms{N:H}{i:Nat}{I:List V}(e:dX N (.ref i)=U I):N[i]? =U (.list I):=by
 replace e:(match N[i]? with| some (.list I)=>U I| _=>.none)=U I:=e;cases q:N[i]? with
 |none=>replace e:=q▸e;exact ns e
 |some o=>
  replace e:=q▸e;cases o with
  |list ys=>exact congrArg (λx=>U (O.list x)) (aC e)
  |inst zD fs=>exact ns e
theorem Ed{N:H}{v:V}{I:List V}(e:dX N v=U I):∃i,v= .ref i/\N[i]? =U (.list I):=by
 cases v with
 |ref i=>
  replace e:(match N[i]? with
   |some (.list I)=>U I
   |_=>.none)=U I:=e
  cases h:N[i]? with
  |none=>replace e:=h▸e;exact ns e
  |some o=>
   replace e:=h▸e;cases o with
   |list ys=>(refine si e λB=>?_;subst B;clear e);exact(cU i rfl h)
   |inst _ _=>exact ns e
 |_=>exact ns e
theorem ym{N:H}{v:V}{I:List V}{G:Prop}(e:dX N v=U I)(k:∀i,v= .ref i->N[i]? =U (.list I)->G):G:=cJ (Ed e) k
structure Cx where
 prog:Program
 w:World
 K:Frag
 h₀:Heap
 mg:Str->Option Value
 mb:Str->Option Value
 p:Program
 loose:List Str
 X:K.In h₀
 T:TopRead p loose mg mb h₀
 Γ:G
 t:Tx
noncomputable abbrev Cx.R(c:Cx)(r:Rh)(N:H)(h:Heap):Prop:=jj c.w.params c.t.ids c.h₀ r N h
noncomputable abbrev Cx.V(c:Cx)(r:Rh)(h:Heap)(v:V)(u:Value):Prop:=VR c.w.params r h v u
noncomputable abbrev Cx.M(c:Cx):Model:=model c.prog c.w
def gp(c:Cx)(r:Rh)(s:Shared)(J:H)(v:V)(Q:Value->Shared->Prop):Prop:=
 ∀u B h' tk,c.R B J h'->dH r s.heap B h'->c.V B h' v u->[NeZero tk]->Q u {s with heap:=h',toks:=tk}
theorem gp.cast{c:Cx}{r:Rh}{s:Shared}{B σ₀:H}{v v₀:V}{Q:Value->Shared->Prop}(O:gp c r s B v Q)(e:U (v₀,σ₀)=U (v,B)):gp c r s σ₀ v₀ Q:=by(refine sp e λJ Y=>?_;subst J;subst Y);exact O
theorem gp.to{c:Cx}{r:Rh}{s:Shared}{B σ₀:H}{v v₀:V}{Q:Value->Shared->Prop}(O:gp c r s B v Q)(J:v=v₀)(Y:B=σ₀):gp c r s σ₀ v₀ Q:=J▸Y▸O
theorem gp.same{c:Cx}{r:Rh}{s:Shared}{N:H}{v:V}{Q:Value->Shared->Prop}(O:gp c r s N v Q)(R:c.R r N s.heap){u:Value}(x:c.V r s.heap v u)(tk:Nat)[NeZero tk]:Q u {s with toks:=tk}:=O u r s.heap tk R (dH.refl _ _) x
theorem gp.here{c:Cx}{r:Rh}{s:Shared}[NeZero s.toks]{N:H}{v:V}{Q:Value->Shared->Prop}(O:gp c r s N v Q)(R:c.R r N s.heap){u:Value}(x:c.V r s.heap v u):Q u s:=O u r s.heap s.toks R (dH.refl _ _) x
theorem iC{n:Nat}(h:iM n=zG):n<=1000000:=aY h
set_option tactic.hygienic true in
theorem wT{vs:List V}{N B:H}{v:V}(e:iP vs N=U (v,B)):vs.length<=1000000/\v= .ref N.length/\B=N++ [.list vs]:=by
 unfold iP at e;split at e
 ·rename_i h;(refine sp e λJ Y=>?_;subst J;subst Y;clear e);exact⟨iC h,rfl,rfl⟩
 ·exact ns e
theorem zu{vs:List V}{N B:H}{v:V}{G:Prop}(e:iP vs N=U (v,B))(k:vs.length<=1000000->v= .ref N.length->B=N++ [.list vs]->G):G:=pc (wT e) k
set_option tactic.hygienic true in
theorem GX{x:Txt}{N B:H}{v:V}(e:GY x N=U (v,B)):x.length<=1000000/\v= .str x/\B=N:=by
 unfold GY at e;split at e
 ·rename_i h;(refine sp e λJ Y=>?_;subst J;subst Y;clear e);exact⟨iC h,rfl,rfl⟩
 ·exact ns e
set_option tactic.hygienic true in
theorem GZ{i:Int}{v:V}(e:mkI i=U v):jh i=zG/\v= .int i:=by
 unfold mkI at e;split at e
 ·rename_i h;(refine si e λB=>?_;subst B;clear e);exact⟨h,rfl⟩
 ·exact ns e
theorem iF{i:Int}:jh i=zG↔ -4611686018427387904 < i/\i < 4611686018427387904:=by
 unfold jh;simp[dR]
theorem yi{i:Int}{N B:H}{v:V}(e:(mkI i).map (λaa=>(aa,N))=U (v,B)):jh i=zG/\v= .int i/\B=N:=by
 cases h:mkI i with
 |none=>rw[h] at e;exact ns e
 |some v'=>
  rw[h] at e;refine f7 (GZ h) λf q1=>?_;clear h;subst q1
  (refine sp e λJ Y=>?_;subst J;subst Y;clear e)
  exact⟨f,rfl,rfl⟩
theorem gp.list(O:gp c r s J v Q)(e:iP vs N=U (v,J))(R:c.R r N s.heap)
  (x:dZ c.w.params r s.heap vs items) (tk:Nat) [NeZero tk]:Q (.ref s.heap.objs.size) {s with heap:=s.heap.push (fG items 0),toks:=tk}:=by
 refine zu e λY q2 q3=>?_;subst q2;clear e;subst q3;have B:s.heap.get? s.heap.objs.size= .none:=by
  cases q:s.heap.get? s.heap.objs.size with
  |none=>rfl
  |some o=>exact absurd (dD q) (cD _)
 have k:∀b ob,s.heap.get? b=U ob->(s.heap.push (fG items 0)).get? b=U ob:=λb ob e=>aS _ e;have mv:Mv r s.heap {r with ob:=r.ob++ [(s.heap.objs.size,s.heap.objs.size)]} (s.heap.push (fG items 0)):=dH.mv ⟨(cU _ rfl (λq hq=>by refine Eq.symm (aH.mp hq)▸?_;exact⟨B,B⟩)),rfl,λb ob e ae=>k b ob e,λb ob e=>⟨ob,k b ob e⟩⟩;refine f7 (R.push (p:=(s.heap.objs.size,s.heap.objs.size)) k B B (.list vs items 0 _ (bE _ rfl) (x.mv mv) (by refine Eq.symm (x.length)▸?_;exact aA Y (by decide)))) λaa ab=>?_;refine O _ _ _ tk aa ab ?_;refine .ref _ (s.heap.objs.size,s.heap.objs.size) ?_;show(r.ob++ [_])[N.length]? =_;rw[<-R.len,bG (aJ _),fh];rfl
theorem jj.listAt{P:Params}{ids:List Str}{J:Heap}{r:Rh}{N:H}{h:Heap}(R:jj P ids J r N h){i:Nat}{vs:List V}(e:N[i]? =U (.list vs)){u:Value}(x:VR P r h (.ref i) u):
  ∃a items n,u= .ref a/\r.ob[i]? =U (a,a)/\h.get? a=U (fG items n)/\dZ P r h vs items/\items.length<=4000000:=by
 refine cJ x.inv λp q B=>?_;subst q;refine pb (R.obj i _ p e B).inv λitems n q Y h2 h3=>?_;cases p with
 |mk a b=>clear x;cases q;exact(Jg a items n rfl B Y h2 h3)
theorem jj.listIs(R:jj P ids aa r N h){i:Nat}(e:N[i]? =U (.list vs))(B:r.ob[i]? =U (a,b)):∃items n,h.get? a=U (fG items n)/\dZ P r h vs items:=by
 refine pb (R.obj i _ _ e B).inv λitems n q J Y h3=>(rO items n J Y)
theorem jj.listE{P:Params}{ids:List Str}{B:Heap}{r:Rh}{N:H}{h:Heap}(R:jj P ids B r N h){i:Nat}{vs:List V}(e:N[i]? =U (.list vs)){u:Value}(x:VR P r h (.ref i) u){G:Prop}(k:∀a items n,u= .ref a->r.ob[i]? =U (a,a)->h.get? a=U (fG items n)->dZ P r h vs items->items.length<=4000000->G):G:=Aq (R.listAt e x) k
theorem jj.lisE(R:jj P ids J r N h){i:Nat}(e:N[i]? =U (.list vs))(B:r.ob[i]? =U (a,b)){G:Prop}(k:∀items n,h.get? a=U (fG items n)->dZ P r h vs items->G):G:=je (R.listIs e B) k
theorem dG{h:Heap}(e:h.get? a=U (fG items n)):h.IsList a items.toArray:=⟨_,e,rfl,n,rfl⟩
section
variable{c:Cx}{A:Around}{E:Value->Shared->Prop}{s:Shared}[NeZero s.toks]{r:Rh}{N B:H}{v:V}{Q:Value->Shared->Prop}
theorem eM(x:Txt):(dE x).length=x.length:=by simp[dE,PySem.Str.length]
theorem pY(x y:Txt):dE x++dE y=dE (x++y):=by
 show PySem.Str.append _ _=_;simp[dE,PySem.Str.append]
theorem dM:4000000<=sizeLine:=by refine sizeLine_eq.symm▸?_;exact eH ..
set_option tactic.hygienic true in
theorem rz{x y:Txt}{t u:Tok}(R:c.R r N s.heap)(e:GY (x++y) N=U (v,B))(O:gp c r s B v Q):wpAny c.M A (binaryOp .Add (.str (dE x) t) (.str (dE y) u)) Q E s:=by
 refine pc (GX e) λJ q4 q5=>?_;subst q4;subst q5;refine PySem.P.add_str ?_;rw[eM,eM];split
 ·rename_i Y
  have:x= []:=fw.mp (by simpa using Y);clear J e Y;subst this;exact O.here R (.str y u)
 ·split
  ·rename_i h1
   have:y= []:=fw.mp (by simpa using h1);clear J e h1;subst this;rw[cF] at O;exact O.here R (.str x t)
  ·rw[pY];refine⟨?_,O.same R (.str _ _) _⟩;rw[eM];have:=dM;exact aA J (aA (by decide) this)
theorem gp.mkI{i:Int}{N B:H}{v:V}{Q:Value->Shared->Prop}(O:gp c r s B v Q)(e:(Lake.mkI i).map (λJ=>(J,N))=U (v,B)):gp c r s N (.int i) Q:=pc (yi e) λJ Y q7=>O.to Y q7
theorem py(ae:A.handled=zF)(R:c.R r N s.heap)(e:mR op (.int a) (.int b) N=U (v,B))(O:gp c r s B v Q):
  wpAny c.M A (binaryOp (xU op) (.int a t) (.int b u)) Q E s:=by
 cases op with
 |add=>exact PySem.P.add_int ((O.mkI e).same R (.int _ _) _)
 |sub=>exact PySem.P.sub_int ((O.mkI e).same R (.int _ _) _)
 |mul=>
  refine qH e λJ e=>?_;exact PySem.P.mul_int ((O.mkI e).same R (.int _ _) _) ((by
    rw[iF] at J;exact IntMulOk.of_left (intBits_le_64 (Int.lt_trans (by decide) J.1) (Int.lt_trans J.2 (by decide)))))
 |fdiv=>
  replace e:(if (decide (0 < b)&&decide (b < 1000000000))=zG then (mkI (Int.fdiv a b)).map (λaa=>(aa,N)) else .none)=U (v,B):=e;refine qH e λJ e=>an J λY h2=>?_;replace Y:=of_decide_eq_true Y;replace h2:=of_decide_eq_true h2;exact floordiv_int_or ae (λh0=>absurd h0 (Int.ne_of_gt Y)) (λaa=>(O.mkI e).same R (.int _ _) _) (λaa=>.inl (PyProof.noPylong_small ((dS (oZ (Int.le_of_lt Y)) λk ab=>by rw[ab,Int.natAbs_natCast];exact cO (Int.ofNat_lt.mp (ab▸h2)) (by decide)))))
 |mod=>
  exact qH e λJ e=>mod_int' (Int.ne_of_gt (of_decide_eq_true J)) ((O.mkI e).same R (.int _ _) _)
theorem zY(n:Nat)(its:List Value):List.foldl (λJ Y=>J++Y) #[] (List.replicate n its.toArray)=(List.replicate n its).flatten.toArray:=by
 have g:∀(n:Nat) (acc:Array Value),List.foldl (λJ Y=>J++Y) acc (List.replicate n its.toArray)=acc++(List.replicate n its).flatten.toArray:=by
  intro n;induction n with
  |zero=>intro acc;simp
  |succ n ih=>intro acc;rw[lA,List.foldl_cons,ih,lA,gJ];simp[Array.append_assoc]
 rw[g];simp
theorem dZ.rep{P:Params}{r:Rh}{h:Heap}{vs:List V}{us:List Value}(x:dZ P r h vs us):∀n:Nat,dZ P r h (List.replicate n vs).flatten (List.replicate n us).flatten:=by
 intro n;induction n with
 |zero=>exact .nil
 |succ n J=>rw[lA,gJ,lA,gJ];exact x.append J
set_option tactic.hygienic true in
theorem pZ(R:c.R r N s.heap)(hi:N[i]? =U (.list I))(x:c.V r s.heap (.ref i) ux)(hk:k<=1000)(hf:jh k=zG)(ab:I.length<=1000)
  (e:iP (List.replicate k.toNat I).flatten N=U (v,B)) (O:gp c r s B v Q):wpAny c.M A (binaryOp .Mult ux (.int k t)) Q E s:=by
 refine R.listE hi x λa its n ae aa J hx lx=>?_;clear x;subst ae;rw[iF] at hf;refine zu e λhl aa aa=>?_;have Y:its.length*k.toNat<=1000*1000:=Nat.mul_le_mul (by refine Eq.symm (hx.length)▸?_;exact ab) (by exact Int.toNat_le.mpr hk);refine wpAny_binaryOp_repeat_ref (T:="list") (U:="int") (by decide) ⟨_,J,rfl⟩ (λs'=>typeIs_int s' k t) noFill_list_mul PySem.F.fills_int_mul PySem.F.slot_int_rmul repeat_list PySem.F.slot_int_index.lookup
  (mJ PySem.F.slot_int_rmul (typeIs_int s k t) PySem.F.entry_int_rmul (PySem.F.args_int_rmul_2 _ _) (int___rmul___int_list k t a its.toArray n)
   ⟨J,rfl,⟨_,J,rfl⟩,mJ PySem.F.slot_list_mul ⟨_,J,rfl⟩ PySem.F.entry_list_mul (PySem.F.args_list_mul_2 _ _)
    (AutoListH.list___mul___list_int_3 a its.toArray n k t (by simp[Builtin.List.listFitsIndex];exact⟨Int.le_of_lt (Int.lt_trans (by decide) hf.1),Int.lt_trans hf.2 (by decide)⟩) (by simp only[bI];exact bP.mpr (aA Y (by decide))) (by simp[Builtin.List.listTooLong,sizeLine];exact aA Y (by decide)))
    ⟨J,?_⟩⟩)
 have:List.foldl (λx1 x2=>x1++x2) #[] (List.replicate (if its.toArray.isEmpty=zG then 0 else k.toNat) its.toArray)=(List.replicate k.toNat its).flatten.toArray:=by
  rw[zY];split
  ·rename_i h0
   have:its= []:=by simpa using h0
   clear J hx lx Y h0;subst this;simp
  ·rfl
 refine this.symm▸?_;exact O.list e R (hx.rep _) s.toks
end
mutual
noncomputable def xV:V->PyData
 |.none=>.none
 |.bool b=>.bool b
 |.int i=>.int i
 |.str s=>.str (dE s)
 |.tup vs=>.tuple (mU vs)
 |.flist vs=>.list (mU vs)
 |.ref _=>.none
 |.cst _=>.none
 |.rng _ _=>.none
 |.kws _ _=>.none
noncomputable def mU:List V->List PyData
 |[]=>[]
 |v::vs=>xV v::mU vs
end
inductive uC:V->Prop
 |none:uC .none
 |bool b:uC (.bool b)
 |int i:uC (.int i)
 |str s:oq s=zG->uC (.str s)
 |tup vs:(∀v∈vs,uC v)->uC (.tup vs)
 |flist vs:(∀v∈vs,uC v)->uC (.flist vs)
theorem dA:cW a b=zG↔a=b:=by
 induction a generalizing b with
 |nil=>cases b with
  |nil=>exact⟨λB=>rfl,λB=>rfl⟩
  |cons=>exact⟨λh=>ft h,λh=>nomatch h⟩
 |cons x r J=>cases b with
  |nil=>exact⟨λh=>ft h,λh=>nomatch h⟩
  |cons y q=>
   show(Nat.beq x y&&cW r q)=zG↔_;rw[dR,J,List.cons.injEq];exact⟨λh=>⟨eL h.1,h.2⟩,λh=>⟨h.1▸Nat.beq_refl _,h.2⟩⟩
theorem nE:dE a=dE b↔a=b:=by
 unfold dE;constructor
 ·intro h;injection h with h;simpa using h
 ·rintro rfl;rfl
theorem pW(a b:Txt):cW a b=(dE a==dE b):=by
 rw[eI,dA,beq_iff_eq,nE]
theorem yK(h:∀v∈I,∀ {b:V},uC b->uB v b=PyData.eqv (xV v) (xV b))(B:∀v∈ys,uC v):z6 I ys=PyData.eqvAll (mU I) (mU ys):=by
 induction I generalizing ys with
 |nil=>clear B;cases ys<;>rfl
 |cons x I Y=>cases ys with
  |nil=>rfl
  |cons y ys=>exact congr (congrArg and (h x (.head _) (B y (.head _)))) (Y (λv J=>h v (.tail _ J)) (λv J=>B v (.tail _ J)))
theorem t8(Y:uC a)(B:uC b):uB a b=PyData.eqv (xV a) (xV b):=by
 induction Y generalizing b with
 |none=>cases B<;>rfl
 |bool x=>cases B<;>rfl
 |int i=>cases B<;>rfl
 |str s _=>cases B with
  |str t _=>exact pW s t
  |_=>rfl
 |tup vs _ J=>cases B with
  |tup ws B=>exact yK J B
  |_=>rfl
 |flist vs _ J=>cases B with
  |flist ws B=>exact yK J B
  |_=>rfl
theorem sx{f:List V->B}{d:B} (e:(match o with
  |some ds=>U (f ds)
  |.none=>.none)=U d):∃ds,o=U ds/\d=f ds:=by
 cases o with
 |none=>exact ns e
 |some x=>(refine si e λJ=>?_;subst J;clear e);exact(cU x rfl rfl)
theorem yh{f:V->Option B}{d:B} (e:(match o with
  |some x=>f x
  |.none=>.none)=U d):∃x,o=U x/\f x=U d:=by
 cases o with
 |none=>exact ns e
 |some x=>exact(cU x rfl e)
theorem I3{o:Option O}{f:List V->Option B}{y:B} (e:(match o with
  |some (.list vs)=>f vs
  |_=>.none)=U y):∃vs,o=U (.list vs)/\f vs=U y:=by
 cases o with
 |none=>exact ns e
 |some x=>cases x with
  |list vs=>exact(cU vs rfl e)
  |inst zD fs=>exact ns e
theorem tS{o:Option O}{f:List V->Option B}{y:B}{G:Prop} (e:(match o with
  |some (.list vs)=>f vs
  |_=>.none)=U y) (k:∀vs,o=U (.list vs)->f vs=U y->G):G:=cJ (I3 e) k
theorem B6{o:Option O}{f:Addr->List (Nat×V)->Option B}{y:B} (e:(match o with
  |some (.inst zD fs)=>f zD fs
  |_=>.none)=U y):∃zD fs,o=U (.inst zD fs)/\f zD fs=U y:=by
 cases o with
 |none=>exact ns e
 |some x=>cases x with
  |list vs=>exact ns e
  |inst zD fs=>exact(rO zD fs rfl e)
theorem oy(e:gP f (x::r)=U ys):∃y q,ys=y::q/\f x=U y/\gP f r=U q:=by
 refine cJ (yh e) λy h e=>cJ (sx (o:=gP f r) e) λq hq B=>?_;subst B;exact(iS y q rfl h hq)
theorem jq:∀(n:Nat) {v d:V},flat N n v=U d->uC d:=by
 intro n;induction n with
 |zero=>
  intro _ _ e;exact ns e
 |succ n Y=>
  intro v d e;have all:∀ {vs ds:List V},gP (flat N n) vs=U ds->∀x∈ds,uC x:=by
   intro vs;induction vs with
   |nil=>intro ds e;(refine si e λaa=>?_;subst aa;clear e);simp
   |cons a r ih=>
    intro ds e;refine ga (oy e) λy q q2 hy hq=>?_;subst q2;intro x J;rcases aX.mp J with rfl| J
    ·exact Y hy
    ·exact ih hq x J
  cases v with
  |none=>(refine si e λab=>?_;subst ab;clear e);exact .none
  |bool b=>(refine si e λae=>?_;subst ae;clear e);exact .bool _
  |int i=>(refine si e λaf=>?_;subst af;clear e);exact .int _
  |str x=>
   refine jB e λh q3=>?_;clear e;subst q3;exact .str _ h
  |tup vs=>
   refine cJ (sx e) λds B q4=>?_;clear e;subst q4;exact .tup _ (all B)
  |ref i=>
   refine tS e λvs ag e=>cJ (sx (o:=gP (flat N n) vs) (f:=V.flist) e) λds B q5=>?_;subst q5;exact .flist _ (all B)
  |cst _=>exact ns e
  |flist _=>exact ns e
  |rng _ _=>exact ns e
  |kws _ _=>exact ns e
section
variable{P:Params}{ids:List Str}{B:Heap}{r:Rh}{N:H}{h:Heap}
def l9(h:Heap)(d:V)(u:Value)(n:Nat):Prop:=∃as,Reads h u (xV d) as/\(xV d).canLay0=zG/\(xV d).depth<=n
def ur(h:Heap)(ds:List V)(us:List Value)(n:Nat):Prop:=∃as,ReadsAll h us (mU ds) as/\PyData.canLayAll0 (mU ds)=zG/\PyData.depthAll (mU ds)<=n
theorem l9.tup(H:ur h ds us n)(J:h.get? a=U (pr us k)):l9 h (.tup ds) (.ref a) (n+1):=
 H.elim λY q=>⟨_,.tuple J rfl rfl q.1,q.2.1,cH q.2.2⟩
theorem l9.lst(H:ur h ds us n)(J:h.get? a=U (fG us k)):l9 h (.flist ds) (.ref a) (n+1):=
 H.elim λY q=>⟨_,.list J rfl rfl q.1,q.2.1,cH q.2.2⟩
theorem vK(F:∀ {v d:V} {u:Value},f v=U d->VR P r h v u->l9 h d u n):∀ {vs ds:List V} {us:List Value},gP f vs=U ds->dZ P r h vs us->ur h ds us n:=by
 intro vs;induction vs with
 |nil=>intro ds us e x;obtain rfl:=x.inv;obtain rfl:=aC e;exact⟨[],.nil,rfl,cK _⟩
 |cons a r J=>
  intro ds us e x;refine ga (oy e) λy q Y hy hq=>?_;clear e;subst Y;refine ga x.inv λu aa z x1 x2=>?_;clear x;subst z;exact fZ (F hy x1) λas r1 c1 d1=>fZ (J hq x2) λbs r2 c2 d2=>⟨_,.cons r1 r2,(congr (congrArg and c1) c2:_=(zG&&zG)),(Nat.max_le.mpr ⟨d1,d2⟩)⟩
theorem zV(R:jj P ids B r N h)(F:∀ {v d:V} {u:Value},flat N n v=U d->VR P r h v u->l9 h d u n)(e:flat N (n+1) v=U d)(x:VR P r h v u):l9 h d u (n+1):=by
 cases v with
 |none=>obtain rfl:=aC e;obtain rfl:=x.inv;exact⟨_,.none,rfl,cK _⟩
 |bool b=>obtain rfl:=aC e;obtain rfl:=x.inv;exact⟨_,.bool _,rfl,cK _⟩
 |int i=>obtain rfl:=aC e;refine dS x.inv λt q=>?_;clear x;subst q;exact⟨_,.int _ _,rfl,cK _⟩
 |str t=>
  refine jB e λY q7=>?_;clear e;subst q7;refine dS x.inv λt q=>?_;clear x;subst q;exact⟨_,.str _ _,(by
    unfold PyData.strOk dE;unfold oq at Y;rw[<-Array.all_toList];rw[aR] at Y⊢;intro x aa;have:=Y x aa;exact decide_eq_true (aY this):PyData.strOk (dE _)=zG),cK _⟩
 |tup vs=>
  refine cJ (sx e) λds J q8=>?_;clear e;subst q8;refine Aq x.inv λitems k a q ha hf hx hl=>?_;clear x;subst q;exact .tup (vK F J hx) ha
 |ref i=>
  refine tS e λvs ab e=>cJ (sx (o:=gP (flat N n) vs) (f:=V.flist) e) λds J q9=>?_;subst q9;refine R.listE ab x λa items k ae af ha hx hl=>?_;clear x;subst ae;exact .lst (vK F J hx) ha
 |_=>exact ns e
theorem iu(R:jj P ids B r N h)(n:Nat):∀ {v d:V} {u:Value},flat N n v=U d->VR P r h v u->l9 h d u n:=by
 induction n with
 |zero=>exact λe Y=>ns e
 |succ n J=>exact zV R J
end
section
variable{c:Cx}{A:Around}{E:Value->Shared->Prop}{s:Shared}{r:Rh}{N Y:H}{Q:Value->Shared->Prop}{a b:V}{B J:Value}{y:Bool}
theorem FW(e:yJ N a b=U y):∃d d',flat N 12 a=U d/\flat N 12 b=U d'/\y=uB d d':=by
 refine cJ (yh e) λd h e=>cJ (yh (o:=flat N 12 b) e) λd' h' e=>?_
 (refine si e λaa=>?_;subst aa;clear e)
 exact(iS d d' h h' rfl)
theorem BE:∀ {vs ds:List V},gP (flat N n) vs=U ds->∀x∈ds,uC x:=by
 intro vs;induction vs with
 |nil=>
  intro _ e
  (refine si e λaa=>?_;subst aa;clear e);simp
 |cons a r ab=>
  intro _ e;refine ga (oy e) λy q ae hy hq=>?_;subst ae;intro x hx;rcases aX.mp hx with rfl| hx
  ·exact jq n hy
  ·exact ab hq x hx
theorem Fd(hd:uC d):∀ {ds:List V},(∀x∈ds,uC x)->(ds.any λe=>uB e d)=(mU ds).any λy=>PyData.eqv y (xV d):=by
 intro ds;induction ds with
 |nil=>exact λab=>rfl
 |cons e ds aa=>
  intro h;show(uB e d || ds.any λe=>uB e d)=(PyData.eqv (xV e) (xV d) || (mU ds).any λy=>PyData.eqv y (xV d));rw[t8 (h e (.head _)) hd,aa λx hx=>h x (.tail _ hx)]
theorem w3(R:c.R r N s.heap)(hi:N[i]? =U (.list I))(x:c.V r s.heap (.ref i) u)(e:gP (flat N n) I=U ds):
  ∃as,Reads s.heap u (.list (mU ds)) as/\PyData.canLayAll0 (mU ds)=zG/\PyData.depthAll (mU ds)<=n:=by
 have:flat N (n+1) (.ref i)=U (.flist ds):=by
  show(match N[i]? with
   |some (O.list vs)=>(match gP (flat N n) vs with
    |some ds=>U (V.flist ds)
    |.none=>.none)
   |_=>.none)=_
  rw[hi];simp only[e]
 refine fZ (iu R (n+1) this x) λas r1 c1 d1=>?_;rw[show xV (.flist ds)= .list (mU ds) from rfl] at r1 c1 d1;simp only[PyData.canLay0,PyData.depth] at c1 d1;exact(g8 as r1 c1 (cG (by assumption)))
theorem wy(R:c.R r N s.heap)(hu:A.units+100 < cLine)(hi:N[i]? =U (.list I))(x:c.V r s.heap a B)(x':c.V r s.heap (.ref i) J)(e:G0 N a I=U y)(neg:Bool)
  (h:Q (.bool (neg^^y)) s):wpAny c.M A (compareOp (if neg then .NotIn else .In) B J) Q E s:=by
 refine cJ (yh e) λd hd e=>?_
 ·refine cJ (sx (f:=λes=>es.any λe=>uB e d) e) λes aa ab=>?_;subst ab;refine fZ (iu R 12 hd x) λas r1 c1 l1=>fZ (w3 R hi x' aa) λbs r2 c2 l2=>?_;rw[Fd (jq _ hd) (BE aa)] at h;have hm:=gW (PyData.depthAll (mU es)) (xV d).depth;cases neg with
  |true=>exact SeqAt.notIn_list_reads r2 r1 c2 c1 (aK (aA (bJ (gQ ..)) (Nat.add_le_add_left (aA (Nat.add_le_add_left (aA hm l1) 1) (by decide)) _)) hu) (by rw[iV] at h;exact h)
  |false=>exact SeqAt.in_list_reads r2 r1 c2 c1 (aK (aA (bJ (gQ ..)) (Nat.add_le_add_left (aA (Nat.add_le_add_left (aA hm l1) 1) (by decide)) _)) hu) (by rw[im] at h;exact h)
end
abbrev iz(P:Params)(r:Rh)(h:Heap)(k:List (Txt×V))(e:List DictEntry):Prop:=eZ (λk e=>∃t,e.key= .str (dE k.1) t/\e.hash=PyData.keyHash P (dE k.1)/\VR P r h k.2 e.val) k e
theorem w7(k x:Txt)(t:Tok):Value.isStrOf (dE x) (.str (dE k) t)=cW k x:=by
 rw[pW];rfl
section
variable{P:Params}{r:Rh}{h:Heap}
theorem iz.keys(T:iz w.params r h aa es):∀e∈es,∃x,(strKind prog w).is x e.key=zG/\e.hash=(strKind prog w).hash x:=by
 induction T with
 |nil=>exact λJ B=>nomatch B
 |cons y T Y=>exact λe B=>(aX.mp B).elim (λq=>by clear B;subst q;exact fZ y λt hk hh J=>cU _ (by rw[hk];exact mI prog w _ _) hh) (Y e)
def CW(P:Params)(r:Rh)(h:Heap)(o:Option V)(q:Option Value):Prop:=match o with
 |some v=>∃u,q=U u/\VR P r h v u
 |.none=>q= .none
theorem iz.find(T:iz P r h B es):CW P r h (lC x B) ((es.find? λd=>Value.isStrOf (dE x) d.key).map (λJ=>J.val)):=by
 induction T with
 |nil=>exact rfl
 |@cons p e B es y T Y=>
  refine fZ y λt hk hh hv=>?_;have hq:Value.isStrOf (dE x) e.key=cW p.1 x:=by rw[hk,w7]
  show CW P r h (if cW p.1 x=zG then U p.2 else lC x B) _;by_cases q:cW p.1 x=zG
  ·rw[if_pos q,jE (p:=λd:DictEntry=>Value.isStrOf (dE x) d.key) (hq.trans q)];exact⟨e.val,rfl,hv⟩
  ·rw[if_neg q,jF (p:=λd:DictEntry=>Value.isStrOf (dE x) d.key) (λz=>q (hq.symm.trans z))];exact Y
end
section
variable{prog:Program}{w:World}{r:Rh}{h:Heap}{B:List (Txt×V)}{es:List DictEntry}{n:Nat}{a:Addr}
theorem iz.mapOf(T:iz w.params r h B es)(e:h.get? a=U (hD es n)):h.MapOf (strKind prog w) a (λx=>findBy Value.isStrOf es.toArray x):=
 ⟨_,es.toArray,n,e,⟨rfl,rfl,rfl⟩,rfl,λd hd=>T.keys d (by simpa using hd),λJ=>rfl⟩
theorem iz.look(T:iz w.params r h B es)(x:Txt):CW w.params r h (lC x B) (findBy Value.isStrOf es.toArray (dE x)):=by
 unfold findBy;rw[List.find?_toArray];exact T.find
theorem CW.isSome(h':CW P r h o q):q.isSome=o.isSome:=by
 cases o with
 |none=>exact(show q= .none from h')▸rfl
 |some v=>exact h'.elim λu z=>z.1▸rfl
end
def Cx.TabOk(c:Cx):Prop:=∀a B,c.Γ.dicts.lookup a=U B->(a==sysModules)=zH/\∃es n,c.K.lookup a=U (hD es n)/\iz c.w.params ⟨[],[]⟩ c.h₀ B es
section
variable{c:Cx}{A:Around}{E:Value->Shared->Prop}{s:Shared}[NeZero s.toks]{r:Rh}{N Y:H}{Q:Value->Shared->Prop}{a b:V}{B J:Value}{y:Bool}
theorem VR.base(R:c.R r N s.heap)(x:c.V ⟨[],[]⟩ c.h₀ v u):c.V r s.heap v u:=
 x.mv ⟨λi p e=>by simp at e,λa o e aa=>⟨R.base a o e,λhm=>by have:=R.fresh a hm;rw[this] at e;exact ns e⟩⟩
theorem iz.base(R:c.R r N s.heap)(T:iz c.w.params ⟨[],[]⟩ c.h₀ aa es):iz c.w.params r s.heap aa es:=by
 induction T with
 |nil=>exact .nil
 |cons y T ih=>exact .cons (fZ y λt a b d=>g8 t a b (VR.base R d)) ih
theorem pf(x y:String):isSame (.type x) (.type y)=pure (x==y):=by
 show(pure (Value.type x==Value.type y):Sem Bool)=_
 congr 1
 rw[eI];simp
theorem VR.int_inv(x:VR P r h (.int i) u):∃t,u= .int i t:=x.inv
theorem VR.str_inv(x:VR P r h (.str i) u):∃t,u= .str (dE i) t:=x.inv
theorem VR.cst_inv(x:VR P r h (.cst i) u):u=i:=x.inv
theorem VR.bool_inv(x:VR P r h (.bool i) u):u= .bool i:=x.inv
theorem VR.none_inv(x:VR P r h .none u):u= .none:=x.inv
theorem sG(x:c.V r s.heap a B)(x':c.V r s.heap b J)(e:jO.isV a b=U y)(neg:Bool)(h:Q (.bool (neg^^y)) s):wpAny c.M A (compareOp (if neg then .IsNot else .Is) B J) Q E s:=by
 cases b with
 |none=>
  obtain rfl:=x'.none_inv;obtain rfl:=(by
    cases a with
    |none=>obtain rfl:=x.none_inv;exact aC e
    |str aa=>refine dS x.str_inv λaa q=>?_;clear x;subst q;exact aC e
    |int aa=>refine dS x.int_inv λaa q=>?_;clear x;subst q;exact aC e
    |ref aa=>refine cJ x.inv λab q ae=>?_;clear x;subst q;exact aC e
    |_=>exact ns e:(B==Value.none)=y)
  cases neg with
  |true=>exact isNot_none (by rw[iV] at h;exact h)
  |false=>exact is_none (by rw[im] at h;exact h)
 |cst w=>cases w with
  |type b=>cases a with
   |cst w=>cases w with
    |type a=>
     obtain rfl:=x.cst_inv;obtain rfl:=x'.cst_inv;obtain rfl:=aC e;cases neg with
     |true=>
      show wpAny _ _ (isSame _ _>>=λb=>pure (Value.bool (!b))) _ _ _;rw[pf];exact aB (aG (aG (by rw[iV] at h;exact h)))
     |false=>
      show wpAny _ _ (isSame _ _>>=λb=>pure (Value.bool b)) _ _ _;rw[pf];exact aB (aG (aG (by rw[im] at h;exact h)))
    |_=>exact ns e
   |_=>exact ns e
  |_=>exact ns e
 |_=>exact ns e
theorem ug(x:VR P r h a B)(x':VR P r h b J)(e:CI f a b=U y){K:Value->Value->Bool->Prop}(k:∀i j t t',K (.int i t) (.int j t') (f i j)):K B J y:=by
 cases a with
 |int i=>cases b with
  |int j=>
   refine dS x.int_inv λt q=>?_;clear x;subst q;refine dS x'.int_inv λt' q=>?_;clear x';subst q;exact aC e▸k i j t t'
  |_=>exact ns e
 |_=>exact ns e
theorem IZ{f:List (Txt×V)->ab}{d:ab} (e:(match o with
  |some ds=>U (f ds)
  |.none=>.none)=U d):∃ds,o=U ds/\d=f ds:=by
 cases o with
 |none=>exact ns e
 |some x=>(refine si e λaa=>?_;subst aa;clear e);exact(cU x rfl rfl)
theorem u3(HT:c.TabOk)(R:c.R r N s.heap)(hu:A.units+100 < cLine)(neg:Bool)(x:c.V r s.heap a B)(x':c.V r s.heap b J)(e:jO.inV c.Γ N a b=U y)
  (h:∀tk,Q (.bool (neg^^y)) {s with toks:=tk}):wpAny c.M A (compareOp (if neg then .NotIn else .In) B J) Q E s:=by
 cases b with
 |ref i=>
  exact tS e λI hi e=>wy R hu hi x x' e neg (h s.toks)
 |cst w=>
  cases w with
  |ref ad=>
   cases a with
   |str k=>
    refine cJ (IZ (f:=λaa=>(lC k aa).isSome) e) λaa hk q1=>?_;clear e;subst q1;obtain⟨hs,es,n,af,T⟩:=HT _ _ hk;have:=x'.cst_inv;clear x';subst this;refine dS (x.str_inv) λt q2=>?_;clear x;subst q2;have ho:s.heap.get? ad=U (hD es n):=R.base _ _ (c.X _ _ af);have ae:=T.base R;have L:=ae.look k;have hm:=ae.mapOf (prog:=c.prog) ho;have ab:=L.isSome;cases neg with
    |true=>exact wpAny_notIn_of (mI c.prog c.w _ t) hs hm (by rw[ab,<-iV];exact h _)
    |false=>exact wpAny_in_of (mI c.prog c.w _ t) hs hm (by rw[ab,<-im (lC k aa).isSome];exact h _)
   |_=>exact ns e
  |_=>exact ns e
 |str t=>cases a with
  |str k=>
   refine dS (x'.str_inv) λt' q=>?_;clear x';subst q;refine dS (x.str_inv) λt2 q=>?_;clear x;subst q;refine si e λq=>?_;have h0:=h s.toks;cases neg with
   |true=>rw[iV,<-q] at h0;exact PySem.P.notIn_str (by rw[eM];exact h0)
   |false=>rw[im,<-q] at h0;exact PySem.P.in_str (by rw[eM];exact h0)
  |_=>exact ns e
 |_=>exact ns e
theorem y8(HT:c.TabOk)(R:c.R r N s.heap)(hu:A.units+100 < cLine)(x:c.V r s.heap a B)(x':c.V r s.heap b J)(e:jO c.Γ op a b N=U y)
  (h:∀tk,Q (.bool y) {s with toks:=tk}):wpAny c.M A (compareOp (AD op) B J) Q E s:=by
 have h0:=h s.toks;cases op with
 |eq=>
  refine ga (FW e) λd aj hd aa ah=>?_;clear e;subst ah;exact fZ (iu R 12 hd x) λas ab ae af=>fZ (iu R 12 aa x') λak ag c2 l2=>SeqAt.compareEq_reads ab ag ae c2 (aK (Nat.add_le_add_left (aA (Nat.min_le_left ..) (aA af (by decide))) _) hu) (t8 (jq _ hd) (jq _ aa)▸h0)
 |ne=>
  refine mi e λz hz q3=>?_;clear h e;subst q3;refine ga (FW hz) λd aj hd aa ai=>?_;clear hz;subst ai;exact fZ (iu R 12 hd x) λas ab ae af=>fZ (iu R 12 aa x') λak ag c2 l2=>SeqAt.compareNe_reads ab ag ae c2 (aK (Nat.add_le_add_left (aA (Nat.min_le_left ..) (aA af (by decide))) _) hu) (t8 (jq _ hd) (jq _ aa)▸h0)
 |lt=>exact ug x x' e (K:=λB J y=>Q (.bool y) s->wpAny c.M A (compareOp .Lt B J) Q E s) (λi j t t' h=>PySem.P.lt_int h) h0
 |le=>exact ug x x' e (K:=λB J y=>Q (.bool y) s->wpAny c.M A (compareOp .LtE B J) Q E s) (λi j t t' h=>PySem.P.le_int h) h0
 |gt=>exact ug x x' e (K:=λB J y=>Q (.bool y) s->wpAny c.M A (compareOp .Gt B J) Q E s) (λi j t t' h=>PySem.P.gt_int h) h0
 |ge=>exact ug x x' e (K:=λB J y=>Q (.bool y) s->wpAny c.M A (compareOp .GtE B J) Q E s) (λi j t t' h=>PySem.P.ge_int h) h0
 |isIn=>exact u3 HT R hu zH x x' e λtk=>by rw[im];exact h tk
 |notIn=>
  refine mi e λz hz al=>?_;clear h0 e;subst al;exact u3 HT R hu zG x x' hz λtk=>by rw[iV];exact h tk
 |is_=>exact sG x x' e zH (by rw[im];exact h0)
 |isNot=>
  refine mi e λz hz am=>?_;clear h e;subst am;exact sG x x' hz zG (by rw[iV];exact h0)
end
theorem Io(h:K7 w v=zG):w=v:=by
 cases w with
 |none=>cases v with
  |none=>rfl
  |_=>exact ft h
 |int a=>cases v with
  |int b=>exact congrArg V.int (of_decide_eq_true h)
  |_=>exact ft h
 |str a=>cases v with
  |str b=>exact congrArg V.str (of_decide_eq_true h)
  |_=>exact ft h
 |cst a=>cases v with
  |cst b=>exact congrArg V.cst (of_decide_eq_true h)
  |_=>exact ft h
 |_=>exact ft h
theorem AB(h:JK o v=zG):o=U v:=by
 cases o with
 |none=>exact ft h
 |some w=>exact congrArg U (Io h)
inductive CY:Const->V->Prop
 |none:CY .none .none
 |bool b:CY (.bool b) (.bool b)
 |int i:CY (.int i) (.int i)
 |str (s:Str):CY (.str s) (.str s.cps.toList)
theorem E0(h:FY k v=zG):CY k v:=by
 cases k with
 |none=>cases v with
  |none=>exact .none
  |_=>exact ft h
 |bool b=>cases v with
  |bool c=>exact eq_of_beq (show(b==c)=zG from h)▸.bool b
  |_=>exact ft h
 |int i=>cases v with
  |int j=>exact of_decide_eq_true (show decide (i=j)=zG from h)▸.int i
  |_=>exact ft h
 |str t=>cases v with
  |str x=>exact of_decide_eq_true (show decide (t.cps.toList=x)=zG from h)▸.str t
  |_=>exact ft h
 |_=>exact ft h
def wd(t:Tx)(sc:Scope)(e:Expr)(u:T):Prop:=∃a:AT,e=a.un/\u=a.er/\a.ok t sc=zG
def Tr(t:Tx)(sc:Scope)(e:Expr)(u:E):Prop:=∃a:AE,e=a.un/\u=a.er/\a.ok t sc=zG
def rV(t:Tx)(sc:Scope)(es:List Expr)(us:List E):Prop:=∃as,es=np as/\us=oi as/\rJ t sc as=zG
def Ii(t:Tx)(sc:Scope)(e:Option Expr)(u:Option E):Prop:=∃a,e=Ia a/\u=EO a/\Ib t sc a=zG
def Al(t:Tx)(sc:Scope)(B:List Keyword)(us:List (Nat×E)):Prop:=∃as,B=C4 as/\us=Ih as/\IL t sc as=zG
def Db(t:Tx)(sc:Scope)(e:Expr)(u:It):Prop:=∃a:AI,e=a.un/\u=a.er/\a.ok t sc=zG
section
variable{t:Tx}{sc:Scope}
theorem Tr.mk{a:AE}(h:a.ok t sc=zG):Tr t sc a.un a.er:=⟨a,rfl,rfl,h⟩
theorem wd.mk{a:AT}(h:a.ok t sc=zG):wd t sc a.un a.er:=⟨a,rfl,rfl,h⟩
theorem rV.mk{as:List AE}(h:rJ t sc as=zG):rV t sc (np as) (oi as):=⟨as,rfl,rfl,h⟩
theorem Ii.mk{a:Option AE}(h:Ib t sc a=zG):Ii t sc (Ia a) (EO a):=⟨a,rfl,rfl,h⟩
theorem Al.mk{as:List AK}(h:IL t sc as=zG):Al t sc (C4 as) (Ih as):=⟨as,rfl,rfl,h⟩
theorem Db.mk{a:AI}(h:a.ok t sc=zG):Db t sc a.un a.er:=⟨a,rfl,rfl,h⟩
theorem Al.nil:Al t sc [] []:=⟨[],rfl,rfl,rfl⟩
theorem mT:∀as:List AE,(np as).length=as.length:=by
 intro as;induction as with
 |nil=>exact rfl
 |cons a r B=>exact congrArg Nat.succ (B)
theorem wn:∀as:List AK,(C4 as).length=as.length:=by
 intro as;induction as with
 |nil=>exact rfl
 |cons a r B=>exact congrArg Nat.succ (B)
end
structure bZ(c:Cx)(sc:Scope)(D:Env)(pv:List Addr):Prop where
 kind:D.scope.kind= .function
 glob:D.globals=mainGlobals
 bi:D.builtins=builtinsNs
 lpv:D.locals∈pv
 cpv:∀n a,D.cells.lookup n=U a->a∈pv
 loc:∀x,sc.names.lookup x=U .local->D.kindOf x=U .local
 cel:∀x,sc.names.lookup x=U .cell->D.kindOf x=U .cell/\(D.cells.lookup x).isSome=zG
 fre:∀x,sc.names.lookup x=U .free->(D.kindOf x=U .cell\/D.kindOf x=U .free)/\(D.cells.lookup x).isSome=zG
 glb:∀x,iX sc x=U zH->D.kindOf x=U .globalImplicit
 inj:∀x y a,D.cells.lookup x=U a->D.cells.lookup y=U a->x=y
 apl:∀x a,D.cells.lookup x=U a->a≠D.locals
theorem qF(h:iX sc x=U zG):sc.names.lookup x=U .local\/sc.names.lookup x=U .cell\/sc.names.lookup x=U .free:=by
 unfold iX at h;generalize sc.names.lookup x=o at h⊢;cases o with
 |none=>exact ns h
 |some k=>cases k with
  | «local» =>exact .inl rfl
  |cell=>exact .inr (.inl rfl)
  |free=>exact .inr (.inr rfl)
  |globalImplicit=>exact ft (aC h)
  |_=>exact ns h
theorem pd(h:iX sc x=U zH):sc.names.lookup x=U .globalImplicit:=by
 unfold iX at h;generalize sc.names.lookup x=o at h⊢;cases o with
 |none=>exact ns h
 |some k=>cases k with
  |globalImplicit=>rfl
  | «local» =>exact tf (aC h)
  |cell=>exact tf (aC h)
  |free=>exact tf (aC h)
  |_=>exact ns h
def Fj(D:Env)(h:Heap)(x:Str)(u:Value):Prop:=
 (D.kindOf x=U .local/\∃m,h.Ns D.locals m/\m x=U u)\/((D.kindOf x=U .cell\/D.kindOf x=U .free)/\∃a,D.cells.lookup x=U a/\h.IsCell a (U u))
structure bV(c:Cx)(sc:Scope)(D:Env)(r:Rh)(h:Heap)(M:aW):Prop where
 ns:∃m,h.Ns D.locals m
 cells:∀x a,D.cells.lookup x=U a->∃v,h.IsCell a v
 held:∀x i v,c.t.id x=U i->iX sc x=U zG->aW.get i M=U v->∃u,Fj D h x u/\c.V r h v u
def Cx.GlobOk(c:Cx):Prop:=∀x v,c.t.glob x=U v->∃u,c.V ⟨[],[]⟩ c.h₀ v u/\(nsIn c.K mainGlobals x=U (U u)\/(nsIn c.K mainGlobals x=U .none/\bootBuiltins x=U u/\x≠"__name__"))
section
variable{c:Cx}{sc:Scope}{D:Env}{r B:Rh}{h h':Heap}{M:aW}{N:H}
theorem Fj.keep(H:Fj D h x u)(Y:bZ c sc D pv)(k:∀b∈pv,∀o,h.get? b=U o->h'.get? b=U o):Fj D h' x u:=by
 rcases H with⟨J,m,hn,hm⟩| ⟨J,a,ha,hc⟩
 ·exact .inl ⟨J,m,hn.at' λo e=>k _ Y.lpv o e,hm⟩
 ·refine cJ hc λo ho hd=>?_;clear hc;exact .inr ⟨J,a,ha,o,k a (Y.cpv _ _ ha) o ho,hd⟩
theorem bV.keep(J:bV c sc D r h M)(Y:bZ c sc D pv)(k:∀b∈pv,∀o,h.get? b=U o->h'.get? b=U o)(zB:Mv r h B h'):bV c sc D B h' M:=by
 refine⟨?_,λx a e=>?_,λx i v e1 e2 e3=>?_⟩
 ·exact dS (J.ns) λm hn=>⟨m,hn.at' λo e=>k _ Y.lpv o e⟩
 ·exact je (J.cells x a e) λv o ho hd=>⟨v,o,k a (Y.cpv _ _ e) o ho,hd⟩
 ·exact cJ (J.held x i v e1 e2 e3) λu hu hr=>(cU u (hu.keep Y k) (hr.mv zB))
theorem bV.step(J:bV c sc D r h M)(Y:bZ c sc D r.pv)(R:c.R r N h)(S:dH r h B h'):bV c sc D B h' M:=
 J.keep Y (λb hb o e=>S.keep b o e (R.pvo b hb)) S.mv
theorem bZ.step(J:bZ c sc D r.pv)(S:dH r h B h'):bZ c sc D B.pv:=S.pv▸J
end
theorem gp.after(O:gp c r s B v Q)(S:dH r s.heap r' h'):gp c r' {s with heap:=h',toks:=tk} B v Q:=
 λu J Y aa ab ae x=>O u J Y aa ab (S.trans ae) x
def eV(c:Cx)(A:Around)(ev:Ev):Prop:=
 ∀ {sc:Scope} {e:Expr} {u:E} {D:Env} {r:Rh} {N B:H} {s:Shared} [NeZero s.toks] {M:aW} {v:V},Tr c.t sc e u->bZ c sc D r.pv->bV c sc D r s.heap M->c.R r N s.heap->ev u M N=U (v,B)->
  ∀ {Q:Value->Shared->Prop} {E':Value->Shared->Prop},gp c r s B v Q->wpAny c.M A (eval e D) Q E' s
structure JH(A:Around):Prop where
 hd:A.handled= .none
 un:A.units+400 < cLine
 dp:A.depth+5 < recursionLimit
section
variable{c:Cx}{A:Around}{E':Value->Shared->Prop}{s:Shared}[NeZero s.toks]{sc:Scope}{D:Env}{r:Rh}{N B J:H}{M:aW}{v:V}{Q:Value->Shared->Prop}{ev:Ev}
theorem ji(aa:c.GlobOk)(hd:(x==("__debug__":Str))=zH)(hv:iX sc x=U zH)(hg:c.t.glob x=U v)(Y:bZ c sc D r.pv)(R:c.R r N s.heap)(O:gp c r s N v Q):
  wpAny c.M A (eval (.Name x p) D) Q E' s:=by
 refine cJ (aa x v hg) λu hu hc=>?_;have go:=O.here R (VR.base R hu);rcases hc with hc| ⟨h1,h2,h3⟩
 ·exact Name_function_global Y.kind (Y.glb x hv) (loadGlobal_global (Y.glob▸c.T.g.keeps R.base) (mg_of c.X c.T.g hc) go) hd
 ·exact Name_function_global Y.kind (Y.glb x hv) (loadGlobal_builtin (Y.glob▸c.T.g.keeps R.base) (mg_none_of c.X c.T.g h1) (Y.bi▸c.T.b.keeps R.base) ((c.T.builtins x h3).trans h2) go) hd
theorem Gq(ih:eV c A ev)(ta:Tr c.t sc a a')(tb:Tr c.t sc b b')(eo:bZ c sc D r.pv)(vo:bV c sc D r s.heap M)(R:c.R r N s.heap)
  (e1:ev a' M N=U (x,J)) (e2:ev b' M J=U (y,ae)) {k:Value->Value->Sem Value} (f:∀Y ub r' h' tk,c.R r' ae h'->dH r s.heap r' h'->c.V r' h' x Y->c.V r' h' y ub->[NeZero tk]->wpAny c.M A (k Y ub) Q E' {s with heap:=h',toks:=tk}):
  wpAny c.M A (eval a D) (λY ag=>wpAny c.M A (eval b D) (λub ah=>wpAny c.M A (k Y ub) Q E' ah) E' ag) E' s:=by
 exact ih ta eo vo R e1 λY ao ap am ai aa xa=>ih tb (eo.step aa) (vo.step eo R aa) ai e2 λub aj ak af al ab xb=>f Y ub aj ak af al (aa.trans ab) (xa.step ab) xb
theorem nC(Y:c.V r s.heap x u)(e:truthy x=U b){Q:Bool->Shared->Prop}(h:Q b s):wpAny c.M A (PySem.truthy u) Q E' s:=by
 cases x with
 |none=>(refine si e λq3=>?_;subst q3;clear e);have:=Y.none_inv;subst this;exact λaa aa aa=>h
 |bool b=>(refine si e λq5=>?_;subst q5;clear e);have:=Y.bool_inv;subst this;exact wpAny_truthy_bool h
 |int i=>
  refine dS (Y.int_inv) λt q1=>?_;clear Y;subst q1
  (refine si e λq8=>?_;subst q8;clear e)
  exact PySem.P.truthy_int (by rw[bne];exact h)
 |_=>exact ns e
def xN(c:Cx)(r:Rh)(s:Shared)(B:H)(b:Bool)(Q:Bool->Shared->Prop):Prop:=∀Y h' tk,c.R Y B h'->dH r s.heap Y h'->[NeZero tk]->Q b {s with heap:=h',toks:=tk}
theorem vX(ar:JH A)(R:c.R r N s.heap)(xa:c.V r s.heap x ua)(Y:c.V r s.heap y ub)(e:mR op x y N=U (v,B))(O:gp c r s B v Q):
  wpAny c.M A (binaryOp (xU op) ua ub) Q E' s:=by
 have ab:Jy op x y N=U (v,B)->wpAny c.M A (binaryOp (xU op) ua ub) Q E' s:=λe=>by
  cases op with
  |add=>
   refine bi e λI h1 e1=>bi e1 λys h2 e2=>ym h1 λi q2 hi=>ym h2 λj q3 hj=>?_;have ak:=(q2▸xa);have al:=(q3▸Y);refine R.listE hi ak λa its n am ae af ag au=>?_;clear ak;subst am;refine R.listE hj al λb aa ap ao ae ah ai av=>?_;clear al;subst ao;have aq:=dM;refine zu e2 λaj ae ae=>?_;refine concat_meets ⟨_,af,rfl⟩ ⟨_,ah,rfl⟩ noFill_list_add seq_list_add PySem.F.slot_list_add PySem.F.entry_list_add (PySem.F.args_list_add_2 _ _)
    (list_addW a b its.toArray aa.toArray n ap zF zF #[] #[] (by rw[aF,<-ag.length,<-ai.length] at aj;simp only[bI];exact aA aj (aA (by decide) aq))) ⟨af,ah,?_⟩
   rw[show its.toArray++aa.toArray=(its++aa).toArray by simp];exact O.list e2 R (ag.append ai) s.toks
  |mul=>
   cases y with
   |int k=>
    refine bi e λI h1 e1=>ym h1 λi q4 hi=>qH e1 λhc e2=>dS (Y.int_inv) λt' q5=>?_;clear Y;subst q5;exact pZ R hi (q4▸xa) (of_decide_eq_true (a1 hc)) (a1 (a2 hc)) (aY (a2 (a2 hc))) e2 O
   |_=>exact ns e
  |_=>exact ns e
 cases x with
 |int a=>cases y with
  |int b=>
   refine dS (xa.int_inv) λt q6=>?_;clear xa;subst q6;refine dS (Y.int_inv) λt' q7=>?_;clear Y ab;subst q7;exact py ar.hd R e O
  |_=>exact ns e
 |str a=>
  cases op with
  |add=>
   cases y with
   |str b=>
    refine dS (xa.str_inv) λt q8=>?_;clear xa;subst q8;refine dS (Y.str_inv) λt' q9=>?_;clear Y ab;subst q9;exact rz R e O
   |_=>exact ns e
  |_=>exact ns e
 |_=>exact ab e
end
theorem fU{i:Expr}(h:iE i=zH)(o B:Value):subscripted i zH o B=operate [o,B] (getItem o B):=by
 cases i with
 |Slice=>exact tf h
 |_=>rfl
section
variable{c:Cx}{A:Around}{E':Value->Shared->Prop}{s:Shared}[NeZero s.toks]{sc:Scope}{D:Env}{r:Rh}{N B J:H}{M:aW}{v:V}{Q:Value->Shared->Prop}
theorem pO{n j:Nat}{k:Int}(e:yz n k=U j):jh k=zG/\seqIndex? k n=U j:=Hm e
theorem nG(e:seqIndex? k n=U j):(0<=k/\k < n/\j=k.toNat)\/(k < 0/\ -(n:Int)<=k/\j=(k+n).toNat):=by
 have key:∀q:Int,(if (decide (0<=q)&&decide (q < n))=zG then U q.toNat else zF)=U j->0<=q/\q < n/\j=q.toNat:=λq e=>by
  exact jB e λh q1=>⟨of_decide_eq_true (a1 h),of_decide_eq_true (a2 h),q1⟩
 by_cases Y:k < 0
 ·exact pc (key (k+n) (by unfold seqIndex? at e;replace e:=(if_pos Y)▸e;exact e)) λh1 h2 q=>.inr ⟨Y,Int.neg_le_of_neg_le (by exact Int.sub_nonneg.mp (by rw[Int.sub_neg,Int.add_comm];exact h1)),q⟩
 ·exact .inl (key k (by unfold seqIndex? at e;replace e:=(if_neg Y)▸e;exact e))
theorem VR.tup_inv{P:Params}{r:Rh}{h:Heap}{vs:List V}{u:Value}(x:VR P r h (.tup vs) u):∃items n a,u= .ref a/\h.get? a=U (pr items n)/\ ¬r.mut a/\dZ P r h vs items/\items.length<=4000000:=x.inv
theorem jo{h:Heap}{a:Addr}{items:List Value}{n:Nat}(e:h.get? a=U (pr items n)):IsTup h a items.toArray:=⟨_,e,rfl,n,rfl⟩
theorem iw{k:Int}(h:jh k=zG): -(2^63)<=k/\k < 2^63:=by rw[iF] at h;exact⟨Int.le_of_lt (Int.lt_trans (by decide) h.1),Int.lt_trans h.2 (by decide)⟩
theorem y7(hi:iE i=zH)(R:c.R r N s.heap)(xa:c.V r s.heap x ua)(xb:c.V r s.heap y ub)(e:g9 c.Γ x y N=U v)(O:gp c r s N v Q):
  wpAny c.M A (subscriptTail af i ua ub) Q E' s:=by
 cases y with
 |int k=>cases x with
  |ref a=>
   refine tS (o:=N[a]?) (f:=λI=>(yz I.length k).bind λj=>I[j]?) e λI hx e=>bi e λj Y e=>f7 (pO Y) λhf Y=>dS (xb.int_inv) λt q1=>?_;clear xb;subst q1;refine R.listE hx xa λad items n q2 ae ha aa hl=>?_;clear xa;subst q2;refine cJ (aa.get e) λu hu hv=>?_;have ab:=dG ha;have hb:=iw hf;refine tail_any ab.typeIs slot_list_getitem.lookup ?_ (fU hi _ _);rcases nG Y with⟨h0,h1,rfl⟩| ⟨h0,h1,rfl⟩
   ·exact wpAny_getItem_list ab h0 hb.2 ((cA ..).trans hu) (O.here R hv)
   ·exact wpAny_getItem_list_neg ab h0 (by(refine Eq.symm (bI)▸?_;refine Eq.symm (aa.length)▸?_);exact h1) hb.1 (by(refine Eq.symm (bI)▸?_;refine Eq.symm (aa.length)▸?_);exact(cA ..).trans hu) (O.here R hv)
  |tup I=>
   refine bi e λj Y e=>f7 (pO Y) λhf Y=>dS (xb.int_inv) λt q3=>?_;clear xb;subst q3;refine Aq (xa.tup_inv) λitems n ad q4 ha ae aa hl=>?_;clear xa;subst q4;refine cJ (aa.get e) λu hu hv=>?_;have hb:=iw hf;refine tail_any (jo ha).typeIs slot_tuple_getitem.lookup ?_ (fU hi _ _);exact getItem_tuple (jo ha) hb.1 hb.2 (by(refine Eq.symm (bI)▸?_;refine Eq.symm (aa.length)▸?_);exact Y) ((cA ..).trans hu) (O.here R hv)
  |str I=>
   refine bi e λj Y e=>mi e λch hc q5=>?_;subst q5;refine f7 (pO Y) λhf Y=>dS (xb.int_inv) λt q6=>?_;clear xb;subst q6;refine dS (xa.str_inv) λt' q7=>?_;clear xa;subst q7;have hb:=iw hf;refine tail_any (pE s _ t') PySem.F.slot_str_getitem.lookup ?_ (fU hi _ _);refine PySem.P.getItem_str (c:=ch) ?_ ?_ (O.same R (.str [ch] _) _)
   ·exact eT.mpr ⟨decide_eq_false (jc.mpr hb.1),decide_eq_false (Int.not_le.mpr hb.2)⟩
   ·(rw[eM];refine Y.symm▸?_)
    exact(cA ..).trans hc
  |_=>exact ns e
 |_=>exact ns e
theorem qg{lo:Option Int}(e:vh l=U lo)(x:c.V r s.heap l u):IsPart u lo:=by
 cases l with
 |none=>obtain rfl:=x.none_inv;exact aC e▸.none
 |int i=>refine dS x.int_inv λt q=>?_;clear x;subst q;exact aC e▸.int _ _
 |_=>exact ns e
theorem dZ.pick{P:Params}{r:Rh}{h:Heap}{vs:List V}{us:List Value}(x:dZ P r h vs us):∀l:List Nat,dZ P r h (l.filterMap λi=>vs[i]?) (l.filterMap λi=>us[i]?):=by
 intro l;induction l with
 |nil=>exact .nil
 |cons i l Y=>
  (refine Eq.symm (List.filterMap_cons)▸?_;refine Eq.symm (List.filterMap_cons)▸?_)
  cases q:vs[i]? with
  |none=>refine Eq.symm (x.none q)▸?_;exact Y
  |some v=>
   refine cJ (x.get q) λu hu hv=>hu.symm▸?_;exact .cons hv Y
theorem p6(items:List Value)(lo Y st:Option Int):slicePick items.toArray lo Y st=((sliceRange (sliceBounds lo Y st items.length).1 (sliceBounds lo Y st items.length).2.1 (sliceBounds lo Y st items.length).2.2).filterMap λ(i:Nat)=>items[i]?).toArray:=by
 unfold slicePick;simp
theorem m0{lo:Option Int}(p:IsPart u lo):∃l:Option (Int×Tok),u=partValue l/\l.map (λY=>Y.1)=lo:=by
 cases p with
 |none=>exact(cU .none rfl rfl)
 |int i t=>exact(cU (U (i,t)) rfl rfl)
theorem E1(I:Txt)(l:List Nat):(l.filterMap λi=>(dE I).cps[i]?)=l.filterMap λi=>I[i]? :=congrArg (λf=>List.filterMap f l) (funext λY=>cA ..)
theorem zc{lo Y st:Option Int}(R:c.R r N s.heap)(hs:s.heap.get? sl=U {cls:= .type "slice",data:= .fields #[ul,uu,us]})
  (pl:IsPart ul lo) (pu:IsPart uu Y) (ps:IsPart us st) (h0:st≠U 0) (hb:Nat.ble (o4 I lo Y st).length 1000000=zG) (O:gp c r s N (.str (o4 I lo Y st)) Q):wpAny c.M A (getItem (.str (dE I) t) (.ref sl)) Q E' s:=by
 refine cJ (m0 pl) λl q9 hl=>?_;clear pl;subst q9;refine cJ (m0 pu) λu aa hu=>?_;clear pu;subst aa;refine cJ (m0 ps) λk ab hk=>?_;subst ab;have ae:((k.map (λaf=>af.1)).getD 1==0)=zH:=by
  refine hk.symm▸?_;cases st with
  |none=>rfl
  |some z=>exact beq_eq_false_iff_ne.mpr λhz=>h0 (congrArg U hz)
 refine wpAny_getItem_str_slice ⟨_,hs,rfl,rfl⟩ ae ?_;unfold sliceMade slicePicked
 (refine hl.symm▸?_;refine hu.symm▸?_;refine hk.symm▸?_;rw[eM])
 rw[E1];generalize ag:Builtin.Str.strSliceIndices lo Y (st.getD 1) I.length=L;have ht:o4 I lo Y st=if (st.getD 1==1&&L.length==I.length)=zG then I else L.filterMap λi=>I[i]? :=by refine ag▸?_;rfl
 rw[ht] at O hb;by_cases hc:(st.getD 1==1&&L.length==I.length)=zG
 ·rw[if_pos hc] at O⊢;exact O.here R (.str _ _)
 ·rw[if_neg hc] at O hb⊢;refine⟨?_,O.same R (.str _ _) _⟩;show(List.toArray _).size<=_;refine Eq.symm (bI)▸?_;exact aA (aY hb) (by have:=dM;exact eH ..)
theorem slice_list{lo hi st:Option Int}(R:c.R r N s.heap)(hs:s.heap.get? sl=U {cls:= .type "slice",data:= .fields #[ul,uu,us]})
  (pl:IsPart ul lo) (pu:IsPart uu hi) (ps:IsPart us st) (h0:st≠U 0) (ha:s.heap.IsList a items.toArray) (Y:dZ c.w.params r s.heap I items) (hl:items.length<=4000000) (e:iP (js I lo hi st) N=U (v,B)) (O:gp c r s B v Q):
  (∃T id,s.TypeIs (.ref a) T/\typeLookup (.type T) "__getitem__"=pure (U (.builtin id)))/\wpAny c.M A (getItem (.ref a) (.ref sl)) Q E' s:=by
 refine⟨(rO ("list") _ ha.typeIs slot_list_getitem.lookup),?_⟩;refine wpAny_getItem_list_slice ha ⟨_,hs,rfl,rfl⟩ pl pu ps h0 ?_ (by simp only[bI];have:=dM;exact aA (by assumption) (by assumption));rw[p6];refine O.list e R ?_ s.toks;unfold js;refine(Y.length)▸?_;exact Y.pick _
theorem wA{lo hi st:Option Int}(R:c.R r N s.heap)(Y:c.V r s.heap x ux)(hs:s.heap.get? sl=U {cls:= .type "slice",data:= .fields #[ul,uu,us]})
  (pl:IsPart ul lo) (pu:IsPart uu hi) (ps:IsPart us st) (h0:st≠U 0)
  (e:AZ x lo hi st N=U (v,B)) (O:gp c r s B v Q):(∃T id,s.TypeIs ux T/\typeLookup (.type T) "__getitem__"=pure (U (.builtin id)))/\wpAny c.M A (getItem ux (.ref sl)) Q E' s:=by
 cases x with
 |str I=>
  refine qH e λhb e=>dS (Y.str_inv) λt q8=>?_;clear Y;subst q8;refine sp e λq1 q2=>?_;subst q1;subst q2;exact⟨(rO ("str") _ (pE s _ t) PySem.F.slot_str_getitem.lookup),zc R hs pl pu ps h0 hb O⟩
 |flist I=>
  refine KA Y.inv λitems a q h1 h2 h3 h4=>?_;clear Y;subst q;exact slice_list R hs pl pu ps h0 h1 h3 h4 e O
 |ref i=>
  refine tS (o:=N[i]?) (f:=λI=>iP (js I lo hi st) N) e λI hx e=>R.listE hx Y λad items n aa ae ha ab hl=>?_;clear Y;subst aa;exact slice_list R hs pl pu ps h0 (dG ha) ab hl e O
 |_=>exact ns e
end
structure kX(c:Cx)(zD:Addr)(k:Ij):Prop where
 pg:plainGet c.K zD ""=zG
 hd:hasDictIn c.K zD=zG
 fl:∀i,k.flds.contains i=zG->∃x,c.t.ids[i]? =U x/\(∃attr,findIn c.K (.ref zD) x=U attr/\noGet c.K attr=zG)/\takerIn c.K zD x=U .none
 po:plainOver c.K zD=zG
 sa:findIn c.K (.ref zD) "__setattr__"=U (U (.builtin "object.__setattr__"))
 mks:makesIn c.K zD=zG
 ini:findIn c.K (.ref zD) "__init__"=U (U (.ref k.init))/\typeIn c.K (.ref k.init)=U (.type "function")
 me:∀i f,k.meths.lookup i=U f->∃x,c.t.ids[i]? =U x/\findIn c.K (.ref zD) x=U (U (.ref f))/\typeIn c.K (.ref f)=U (.type "function")/\keepIn c.K (.ref f)=zG
 kp:keepIn c.K (.ref zD)=zG
 nq:noSeq c.K zD=zG
def Cx.ClsOk(c:Cx):Prop:=∀zD k,c.Γ.clss.lookup zD=U k->kX c zD k
theorem zN(h:yy x l=U i):l[i]? =U x:=by
 induction l generalizing i with
 |nil=>exact ns h
 |cons y r J=>
  replace h:(if (y==x)=zG then U 0 else (yy x r).map Nat.succ)=U i:=h;by_cases B:(y==x)=zG
  ·rw[if_pos B] at h;exact aC h▸congrArg U (eq_of_beq B)
  ·rw[if_neg B] at h;refine mi h λj Y q=>?_;clear h;subst q;exact J Y
theorem Tx.id_get{t:Tx}{x:Str}{i:Nat}(h:t.id x=U i):t.ids[i]? =U x:=zN h
theorem w2(x:Str)(es:List DictEntry)(n:Nat):lookIn x (hD es n)=getL x es:=rfl
section
variable{c:Cx}{A:Around}{E':Value->Shared->Prop}{s:Shared}[NeZero s.toks]{sc:Scope}{D:Env}{r:Rh}{N J B:H}{M:aW}{v:V}{Q:Value->Shared->Prop}
theorem jj.instAt(R:jj P ids ab r N h)(e:N[i]? =U (.inst zD fs))(x:VR P r h (.ref i) u):
  ∃a d es n,u= .ref a/\r.ob[i]? =U (a,d)/\a≠d/\h.get? a=U (instObj zD d)/\h.get? d=U (hD es n)/\es.length<=fs.length/\(es.any (λaa=>aa.refKey))=zH/\
   (∀i x v,ids[i]? =U x->look i fs=U v->∃u,getL x es=U (U u)/\VR P r h v u)/\(∀i x,ids[i]? =U x->look i fs= .none->getL x es=U .none):=by
 refine cJ x.inv λp q Y=>?_;clear x;subst q;exact Er (R.obj i _ p e Y).inv λes n H=>(LX p.1 p.2 es n rfl Y H)
theorem jf(Y:h.get? a=U (instObj zD d))(h2:h.get? d=U (hD es n)):InstAt h a (instObj zD d) zD (U (hD es n)):=⟨Y,rfl,rfl,h2⟩
theorem zQ(x:VR P r h v u)(hc:∀b,v≠ .cst b):handedIn u=zG:=by
 cases v with
 |none=>obtain rfl:=x.inv;rfl
 |bool b=>obtain rfl:=x.inv;rfl
 |int i=>refine dS x.inv λt q=>?_;clear x;subst q;rfl
 |str i=>refine dS x.inv λt q=>?_;clear x;subst q;rfl
 |ref i=>refine cJ x.inv λp q Y=>?_;clear x;subst q;rfl
 |cst b=>exact(hc b rfl).elim
 |tup vs=>refine Ep x.inv λitems n a H=>?_;clear x;obtain rfl:=H.1;rfl
 |flist vs=>refine Er x.inv λitems a H=>?_;clear x;obtain rfl:=H.1;rfl
 |rng a b=>refine I7 x.inv λY Y Y Y q Y Y=>?_;clear x;subst q;rfl
 |kws _ _=>refine ga x.inv λY Y q Y Y=>?_;clear x;subst q;rfl
theorem wR(e:wS o=U v):o=U v/\∀b,v≠ .cst b:=by
 cases o with
 |none=>exact ns e
 |some w=>cases w with
  |cst b=>exact ns e
  |_=>exact aC e▸⟨rfl,λb Y=>nomatch Y⟩
theorem xG(aa:c.ClsOk){i:Nat}{x:Nat}{name:Str}{ua:Value}{expr:Bool}(R:c.R r N s.heap)(xa:c.V r s.heap (.ref i) ua)(hx:c.t.ids[x]? =U name)(e:fields c.Γ N i x=U v)(O:gp c r s N v Q):
  wpAny c.M A (getAttr ua name expr) Q E' s:=by
 refine je (B6 e) λzD fs hi e=>qH e λhf e=>H3 hf λk hk hf=>fZ ((aa zD k hk).fl x hf) λy hy hn Y=>?_
 (refine si (hx.symm.trans hy) λab=>?_;subst ab)
 refine cJ hn λattr ha hn=>JP (R.instAt hi xa) λa d es n q1 Y Y h1 h2 Y Y hv Y=>?_;clear xa;subst q1;exact f7 (wR e) λe hc=>cJ (hv x name v hx e) λu hu hr=>get_value (c.X.keeps R.base) (jf h1 h2) (plainGet_of (aa zD k hk).pg).1 (findObj_own (aa zD k hk).hd ha hn hu) (zQ hr hc) (O.same R hr _)
theorem mx(y:Str)(e:DictEntry)(l:List DictEntry)(h:e.refKey=zH):getL y (e::l)=if e.key.isStr y then U (U e.val) else getL y l:=by
 unfold getL;cases q:e.key.isStr y with
 |true=>rw[jE (p:=λd:DictEntry=>d.key.isStr y) q,if_pos rfl]
 |false=>rw[jF (p:=λd:DictEntry=>d.key.isStr y) (a:=e) (by show¬(e.key.isStr y=zG);rw[q];exact aU),iU,h,iW,if_neg aU]
theorem vH(name:Str)(ae:Int)(t:Tok)(v:Value)(y:Str):∀es:List DictEntry,(es.any (λab=>ab.refKey))=zH->getL y (putL name ae (.str name t) v es)=if y=name then U (U v) else getL y es:=by
 intro es;induction es with
 |nil=>
  intro _;unfold putL;rw[mx _ _ _ rfl];by_cases h:y=name
  ·subst h;simp[Value.isStr]
  ·have: ¬name=y:=λe=>h e.symm;simp[Value.isStr,this,h]
 |cons e r af=>
  intro hr;have aa:e.refKey=zH:=by simp at hr;exact hr.1
  have ag:(r.any (λab=>ab.refKey))=zH:=by simp at hr⊢;exact hr.2
  have ih:=af ag;unfold putL;rw[mx y e r aa];by_cases Y:e.key.isStr name=zG
  ·rw[if_pos Y,mx _ _ _ (show DictEntry.refKey ⟨e.hash,e.key,v⟩=zH from aa)];by_cases h:y=name
   ·clear ih;subst h;simp[Y]
   ·have hn: ¬e.key.isStr y=zG:=λq=>h (Value.isStr_inj _ _ _ q Y);simp[h,hn]
  ·rw[if_neg Y,mx _ _ _ aa,ih];by_cases hy:e.key.isStr y=zG
   ·have h: ¬y=name:=λq=>Y (q▸hy);simp[hy,h]
   ·simp[hy]
theorem mo(name:Str)(Y:Int)(k v:Value)(e:DictEntry)(r:List DictEntry):putL name Y k v (e::r)=if e.key.isStr name=zG then ⟨e.hash,e.key,v⟩::r else e::putL name Y k v r:=rfl
theorem vf(name:Str)(Y:Int)(k v:Value)(es:List DictEntry):(putL name Y k v es).length<=es.length+1:=by
 induction es with
 |nil=>exact aJ _
 |cons e r ih=>
  rw[mo];by_cases q:e.key.isStr name=zG
  ·rw[if_pos q];exact fR _
  ·rw[if_neg q];exact cH ih
theorem ve(name:Str)(Y:Int)(k v:Value)(es:List DictEntry)(h:(es.any (λaa=>aa.key.isStr name))=zG):(putL name Y k v es).length=es.length:=by
 induction es with
 |nil=>exact ft h
 |cons e r ih=>
  rw[mo];by_cases q:e.key.isStr name=zG
  ·rw[if_pos q];rfl
  ·rw[if_neg q];exact congrArg Nat.succ (ih ((fj _ _▸(iU▸h)).resolve_left q))
theorem wH(name:Str)(ab:Int)(t:Tok)(v:Value)(es:List DictEntry)(h:(es.any (λaa=>aa.refKey))=zH):((putL name ab (.str name t) v es).any (λaa=>aa.refKey))=zH:=by
 induction es with
 |nil=>rfl
 |cons e r ih=>
  have Y:=eT.mp (iU▸h);rw[mo];by_cases q:e.key.isStr name=zG
  ·rw[if_pos q,iU];exact eT.mpr ⟨Y.1,Y.2⟩
  ·rw[if_neg q,iU];exact eT.mpr ⟨Y.1,ih Y.2⟩
theorem Cd{es:List DictEntry}{x:Str}(h:(getL x es).isSome=zG):(es.any (λY=>Y.key.isStr x))=zG\/((es.any (λY=>Y.refKey))=zH/\getL x es=U .none):=by
 cases q:es.find? (λY=>Y.key.isStr x) with
 |some e=>exact .inl (oY.mpr (cU e (List.mem_of_find?_eq_some q) (List.find?_some (p:=λd:DictEntry=>d.key.isStr x) q)))
 |none=>
  unfold getL at h⊢;rw[q] at h⊢;dsimp only at h⊢;cases z:es.any (λY=>Y.refKey) with
  |true=>replace h:=z▸h;exact ft h
  |false=>exact .inr ⟨rfl,rfl⟩
theorem qe(x:Nat)(v:V)(z:Nat)(w:V)(r:List (Nat×V)):put x v ((z,w)::r)=if (z==x)=zG then (z,v)::r else (z,w)::put x v r:=rfl
theorem jd(x:Nat)(z:Nat)(w:V)(r:List (Nat×V)):look x ((z,w)::r)=if (z==x)=zG then U w else look x r:=rfl
theorem vy(fs:List (Nat×V)):look y (put x v fs)=if y=x then U v else look y fs:=by
 have one:∀w r,look y ((x,w)::r)=if y=x then U w else look y r:=λw r=>by
  rw[jd];by_cases h:y=x
  ·(refine Eq.symm (if_pos h)▸?_;refine Eq.symm (if_pos (beq_iff_eq.mpr h.symm))▸?_;with_reducible rfl)
  ·(refine Eq.symm (if_neg h)▸?_;refine Eq.symm (if_neg λq=>h (eq_of_beq q).symm)▸?_;with_reducible rfl)
 induction fs with
 |nil=>exact one v []
 |cons p r ih=>
  cases p with
  |mk z w=>
   rw[qe];by_cases hz:(z==x)=zG
   ·cases eq_of_beq hz;rw[if_pos hz,one,one];by_cases h:y=x
    ·(refine Eq.symm (if_pos h)▸?_;refine Eq.symm (if_pos h)▸?_;with_reducible rfl)
    ·(refine Eq.symm (if_neg h)▸?_;refine Eq.symm (if_neg h)▸?_;refine Eq.symm (if_neg h)▸?_;with_reducible rfl)
   ·rw[if_neg hz,jd,jd,ih];by_cases Y:(z==y)=zG
    ·(refine Eq.symm (if_pos Y)▸?_;refine Eq.symm (if_pos Y)▸?_;refine Eq.symm (if_neg λh=>hz (beq_iff_eq.mpr ((eq_of_beq Y).trans h)))▸?_;with_reducible rfl)
    ·(refine Eq.symm (if_neg Y)▸?_;refine Eq.symm (if_neg Y)▸?_;with_reducible rfl)
theorem DJ(fs:List (Nat×V))(h:look x fs= .none):(put x v fs).length=fs.length+1:=by
 induction fs with
 |nil=>rfl
 |cons p r ih=>
  cases p with
  |mk z w=>
   rw[jd] at h;rw[qe];by_cases Y:(z==x)=zG
   ·rw[if_pos Y] at h;exact sn h
   ·rw[if_neg Y] at h⊢;exact congrArg Nat.succ (ih h)
theorem wG(fs:List (Nat×V)):fs.length<=(put x v fs).length:=by
 induction fs with
 |nil=>exact cK _
 |cons p r ih=>
  cases p with
  |mk z w=>
   rw[qe];by_cases Y:(z==x)=zG
   ·rw[if_pos Y];exact aJ _
   ·rw[if_neg Y];exact cH ih
theorem DN{K:Frag}{v:Value}(X:K.In s.heap)(hx:s.heap.get? x=U (instObj zD dx))(hd:s.heap.get? dx=U (hD es n))
  (hp:plainOver K zD=zG) (ht:takerIn K zD name=U .none) (hh:(clsIn K zD).any (λY=>Y.hasDict)=zG) (hl:(getL name es).isSome=zG) (hz:es.length<=900)
  (h:R (.ok (.ret .none)) {s with heap:=s.heap.update dx (Obj.putName name (PyData.keyHash c.w.params name) (.str name s.toks) v),toks:=s.toks+1}):
  codeAny c.M A (.call (.builtin "object.__setattr__") ⟨[.ref x,.str name tk,v],[]⟩) R s:=by
 refine osa_open X (jf hx hd) hp ht λb=>cJ (any_some hh) λcd hc aa=>?_;have e:Obj.putName name (PyData.keyHash c.w.params name) (.str name s.toks) v (hD es n)=hD (putL name (PyData.keyHash c.w.params name) (.str name s.toks) v es) (putN name es n):=putName_dict ..;have ae:(s.heap.update dx (Obj.putName name (PyData.keyHash c.w.params name) (.str name s.toks) v)).get? dx=U (hD (putL name (PyData.keyHash c.w.params name) (.str name s.toks) v es) (putN name es n)):=by
  rw[cP _ hd (by rw[e];rfl),e]
 refine aB (aG (aB (aB (wpAny_loadPart hx (aB ((looks_clsIn X hc).here ?_))))));refine aa.symm▸?_;refine aG (aB (aG (aB ?_)));unfold nsSet;refine aB (aB (wpAny_askSetting (aG (aB (wpAny_mkText (aB (wpAny_loadPart hd ?_)))))));have ab:(!es.toArray.any (λY=>Y.key.isStr name)&&es.toArray.any (λY=>Y.refKey))=zH:=by
  (refine(o0)▸?_;refine(o0)▸?_)
  rcases Cd hl with z| ⟨z,_⟩
  ·refine z.symm▸?_;rfl
  ·rw[z,Bool.and_false]
 dsimp only[hD];rw[aRefKeyMayBeTheName_at,ab];refine wpAny_updatePart hd ?_;refine aB (wpAny_lookBehind ae (pastItsLine_dict (by(refine Eq.symm (bI)▸?_;refine sizeLine_eq.symm▸?_);have:=vf name (PyData.keyHash c.w.params name) (.str name s.toks) v es;exact aA this (cH (aA hz (by decide))))) ?_);exact aG h
theorem rG(am:c.ClsOk)(R:c.R r N s.heap)(hi:N[i]? =U (.inst zD fs))(xa:c.V r s.heap (.ref i) ua)(xv:c.V r s.heap v uv)(hx:c.t.ids[x]? =U name)
  (aa:∀i,c.t.ids[i]? =U name->i=x) (hf:m6 c.Γ zD x=zG) (hl:fs.length<=100) {Q:Unit->Shared->Prop}
  (h:∀h' tk,c.R r (N.set i (.inst zD (put x v fs))) h'->dH r s.heap r h'->[NeZero tk]->Q () {s with heap:=h',toks:=tk}):wpAny c.M A (setAttr ua name uv) Q E' s:=by
 refine H3 hf λk hk hf=>?_;have F:=am zD k hk;refine fZ (F.fl x hf) λy hy ao ah=>?_;replace hy:=hx▸hy;(refine si hy λai=>?_;subst ai;clear hy);refine JP (R.instAt hi xa) λa d es n q2 hp ae h1 h2 af ab hv hn=>?_;clear xa;subst q2;have X:=c.X.keeps R.base;have ag:(getL name es).isSome=zG:=by
  cases q:look x fs with
  |none=>refine Eq.symm (hn x name hx q)▸?_;rfl
  |some w=>obtain⟨u,hu,_⟩:=hv x name w hx q;refine hu.symm▸?_;rfl
 refine set_plain X (jf h1 h2) F.sa (DN (s:= {s with toks:=s.toks+1}) X h1 h2 F.po ah F.hd ag (by exact aA af (aA hl (by decide))) ?_);skip;have e:∀tk,Obj.putName name (PyData.keyHash c.w.params name) (.str name tk) uv (hD es n)=hD (putL name (PyData.keyHash c.w.params name) (.str name tk) uv es) (putN name es n):=λtk=>putName_dict ..;obtain⟨ap,aq⟩:=R.upd (h':=s.heap.update d (Obj.putName name (PyData.keyHash c.w.params name) (.str name (s.toks+1)) uv)) (o:= .inst zD (put x v fs)) hp (λb ob eb n1 n2=>by
  refine Eq.symm (jG _ _ (Ne.symm n2))▸?_;exact eb) (λb ob eb=>by
  by_cases q:b=d
  ·subst q;replace h2:=eb▸h2;(refine si h2 λaj=>?_;subst aj;clear h2);exact⟨_,by rw[cP _ eb (by rw[e];rfl)]⟩
  ·exact⟨ob,by refine Eq.symm (jG _ _ (Ne.symm q))▸?_;exact eb⟩) λzB=>by
  refine .inst zD _ a d (putL name (PyData.keyHash c.w.params name) (.str name (s.toks+1)) uv es) (putN name es n) ae (by refine Eq.symm (jG _ _ (Ne.symm ae))▸?_;exact h1) (by rw[cP _ h2 (by rw[e];rfl),e]) ?_ (wH _ _ _ _ _ ab) ?_ ?_
  ·cases q:look x fs with
   |none=>refine Eq.symm (DJ fs q)▸?_;have:=vf name (PyData.keyHash c.w.params name) (.str name (s.toks+1)) uv es;exact aA this (cH af)
   |some w=>
    refine cJ (hv x name w hx q) λu hu ao=>Eq.symm (ve _ _ _ _ _ (((Cd (hu▸rfl)).resolve_right λq=>ns (aC (q.2.symm.trans hu)))))▸?_;have:=wG (x:=x) (v:=v) fs;exact aA (by assumption) (by assumption)
  ·intro j y w ej Y;refine Eq.symm (vH _ _ _ _ _ _ ab)▸?_;rw[vy] at Y;by_cases hj:j=x
   ·clear aa h;subst hj;replace ej:=hx▸ej;(refine si ej λak=>?_;subst ak;clear ej);rw[if_pos rfl] at Y⊢;(refine si Y λal=>?_;subst al;clear Y);exact(cU uv rfl (xv.mv zB))
   ·have hy: ¬y=name:=λq=>hj (aa j (q▸ej));replace Y:=(if_neg hj)▸Y;refine Eq.symm (if_neg hy)▸?_;exact cJ (hv j y w ej Y) λu hu hr=>(cU u hu (hr.mv zB))
  ·intro j y ej Y;refine Eq.symm (vH _ _ _ _ _ _ ab)▸?_;rw[vy] at Y;by_cases hj:j=x
   ·clear hx aa h;subst hj;replace Y:=(if_pos rfl)▸Y;exact sn Y
   ·have hy: ¬y=name:=λq=>hj (aa j (q▸ej));replace Y:=(if_neg hj)▸Y;refine Eq.symm (if_neg hy)▸?_;exact hn j y ej Y
 exact h _ _ ap aq
end
noncomputable def Hk(e:Expr):Bool:=Nat.beq e.ctorIdx 22
theorem lG(a:AE)(B:List Expr)(D:Env):starEach (a.un::B) D=(zH,eval a.un D)::starEach B D:=by
 have h:=(by cases a<;>rfl:Hk a.un=zH);revert h;generalize a.un=e;intro h;cases e<;>first| rfl| exact tf h
theorem Dv:∀as:List AE,(starEach (np as) D).all (λp=>!p.1)=zG:=by
 intro as;induction as with
 |nil=>exact rfl
 |cons a r B=>
  show(starEach (a.un::np r) D).all _=zG;rw[lG];exact B
theorem rV.star(h:rV t sc es us):(starEach es D).all (λp=>!p.1)=zG:=by
 refine fZ h λas B J J=>?_;clear h;subst B;exact Dv as
theorem qY:(backTo p l).all (λq=>!q.1)=l.all λq=>!q.1:=by
 unfold backTo;rw[xR];rfl
section
variable{c:Cx}{A:Around}{E':Value->Shared->Prop}{s:Shared}[NeZero s.toks]{sc:Scope}{D:Env}{r:Rh}{N B J:H}{M:aW}{v:V}{ev:Ev}
theorem JD{r:List E}(e:dY ev (aa::r) M N=U (vs,B)):∃v J Y,ev aa M N=U (v,J)/\dY ev r M J=U (Y,B)/\vs=v::Y:=by
 replace e:(match ev aa M N with
  |some (v,B)=>match dY ev r M B with
   |some (vs,ab)=>U (v::vs,ab)
   |.none=>.none
  |.none=>.none)=U (vs,B):=e
 refine jH e λv J e1 e=>An e λY ae e2 e=>sp e λq1 q2=>?_;subst q2;exact(JT v J Y e1 e2 q1.symm)
theorem Cu(ih:eV c A ev):∀(as:List AE),rJ c.t sc as=zG->∀ {r:Rh} {N B:H} {s:Shared} [NeZero s.toks] {vs:List V} {Q:List Value->Shared->Prop},bZ c sc D r.pv->bV c sc D r s.heap M->c.R r N s.heap->
  dY ev (oi as) M N=U (vs,B)->(∀items r' h' tk,c.R r' B h'->dH r s.heap r' h'->dZ c.w.params r' h' vs items->[NeZero tk]->Q items {s with heap:=h',toks:=tk})->wpAny c.M A (spliced (backTo p (starEach (np as) D))) Q E' s:=by
 intro as;induction as with
 |nil=>exact λ_ {r N B s} [_] {vs Q} Y vo R e O=>by(refine sp e λal am=>?_;subst al;subst am;clear e);exact wpAny_items_nil (O [] r s.heap s.toks R (dH.refl _ _) .nil)
 |cons a aq ao=>
  intro h r N B s _ vs Q Y vo R e O;refine I8 (JD e) λv J ws e1 e2 q2=>?_;clear e;subst q2;refine oQ ?_ (lG a _ D);exact ih (.mk (a1 h)) Y vo R e1 λu ar au ap af aa ag=>ao (a2 h) (Y.step aa) (vo.step Y R aa) af e2 λitems ah ai ae aj ab ak=>O (u::items) ah ai ae aj (aa.trans ab) (.cons (ag.step ab) ak)
theorem lW(ih:eV c A ev)(tr:rV c.t sc es us)[NeZero s.toks](eo:bZ c sc D r.pv)(vo:bV c sc D r s.heap M)(R:c.R r N s.heap)
  (e:dY ev us M N=U (vs,B)) (O:∀items Y h' tk,c.R Y B h'->dH r s.heap Y h'->dZ c.w.params Y h' vs items->[NeZero tk]->Q items {s with heap:=h',toks:=tk}):wpAny c.M A (spliced (backTo p (starEach es D))) Q E' s:=by
 refine fZ tr λas q3 q4 h=>?_;clear tr;subst q3;subst q4;exact Cu ih as h eo vo R e O
abbrev rj(c:Cx)(r:Rh)(h:Heap)(k:List (Nat×V))(q:List (Str×Value)):Prop:=eZ (λk q=>c.t.ids[k.1]? =U q.1/\c.V r h k.2 q.2) k q
def K4(c:Cx)(r:Rh)(h:Heap)(Y:List (Nat×V))(ab:List (Str×Value)):Prop:=match Y with
 |[]=>ab= []
 |k::Y=>∃x u aa,ab=(x,u)::aa/\c.t.ids[k.1]? =U x/\c.V r h k.2 u/\rj c r h Y aa
theorem rj.inv(y:rj c r h ks Y):K4 c r h ks Y:=
 eZ.rec rfl (λa y aa=>⟨_,_,_,rfl,a.1,a.2,y⟩) y
theorem Hc:(backToKw p l).all (λY=>Y.1.isSome)=l.all (λY=>Y.1.isSome):=by unfold backToKw;rw[xR];rfl
theorem Hb:(backToKw p l).any (λY=>Y.1.isNone)=l.any (λY=>Y.1.isNone):=by unfold backToKw;rw[List.any_map];rfl
theorem vt:∀Y:List AK,(keywordEach (C4 Y) D).all (λaa=>aa.1.isSome)=zG/\(keywordEach (C4 Y) D).any (λaa=>aa.1.isNone)=zH:=by
 intro Y;induction Y with
 |nil=>exact⟨rfl,rfl⟩
 |cons a r ih=>cases a;exact ih
theorem Al.names(h:Al t sc ks us):(backToKw p (keywordEach ks D)).all (λY=>Y.1.isSome)=zG/\(backToKw p (keywordEach ks D)).any (λY=>Y.1.isNone)=zH:=by
 refine fZ h λas q5 Y Y=>?_;clear h;subst q5;exact⟨Hc.trans (vt as).1,Hb.trans (vt as).2⟩
theorem Ku{r:List (Nat×E)}(e:mD ev ((i,aa)::r) M N=U (vs,B)):∃v J Y,ev aa M N=U (v,J)/\mD ev r M J=U (Y,B)/\vs=(i,v)::Y:=by
 replace e:(match ev aa M N with
  |some (v,B)=>match mD ev r M B with
   |some (vs,ab)=>U ((i,v)::vs,ab)
   |.none=>.none
  |.none=>.none)=U (vs,B):=e
 refine jH e λv J e1 e=>Lk e λY ae e2 e=>sp e λq1 q2=>?_;subst q2;exact(JT v J Y e1 e2 q1.symm)
theorem EN(ih:eV c A ev):∀(Y:List AK),IL c.t sc Y=zG->∀ {r:Rh} {N B:H} {s:Shared} [NeZero s.toks] {vs:List (Nat×V)} {Q:List Value->Shared->Prop},bZ c sc D r.pv->bV c sc D r s.heap M->c.R r N s.heap->
  mD ev (Ih Y) M N=U (vs,B)->(∀items r' h' tk,c.R r' B h'->dH r s.heap r' h'->rj c r' h' vs (((backToKw p (keywordEach (C4 Y) D)).filterMap (λaa=>aa.1)).zip items)->[NeZero tk]->Q items {s with heap:=h',toks:=tk})->
  wpAny c.M A (evalAll ((backToKw p (keywordEach (C4 Y) D)).map (λaa=>aa.2))) Q E' s:=by
 intro Y;induction Y with
 |nil=>exact λ_ {r N B s} [_] {vs Q} eo vo R e O=>by(refine sp e λao ap=>?_;subst ao;subst ap;clear e);exact aG (O [] r s.heap s.toks R (dH.refl _ _) .nil)
 |cons k ag aq=>
 intro h r N B s _ vs Q eo vo R e O;cases k with
 |mk x i a q=>
  refine an h λh hr=>I8 (Ku e) λv J ws e1 e2 q6=>?_;clear e;subst q6;show wpAny _ _ (evalAll ((do let v<-eval a.un D;standAt p;pure v)::(backToKw p (keywordEach (C4 ag) D)).map (λaa=>aa.2))) _ _ _;unfold evalAll;refine aB (aB (ih (.mk (a2 h)) eo vo R e1 λu au av ar ah ab ai=>aB (fc (aG ?_))));refine aB (cZ ?_);refine aq hr (eo.step ab) (vo.step eo R ab) ah e2 λitems aj ak af al ae am=>aG ?_;exact O (u::items) aj ak af al (ab.trans ae) (.cons ⟨Tx.id_get (of_decide_eq_true (a1 h)),ai.step ae⟩ am)
theorem qP(ih:eV c A ev)(tr:Al c.t sc ks us)[NeZero s.toks](eo:bZ c sc D r.pv)(vo:bV c sc D r s.heap M)(R:c.R r N s.heap)
  (e:mD ev us M N=U (vs,B)) (O:∀items Y h' tk,c.R Y B h'->dH r s.heap Y h'->rj c Y h' vs (((backToKw p (keywordEach ks D)).filterMap (λaa=>aa.1)).zip items)->[NeZero tk]->Q items {s with heap:=h',toks:=tk}):
  wpAny c.M A (evalAll ((backToKw p (keywordEach ks D)).map (λaa=>aa.2))) Q E' s:=by
 refine fZ tr λas q7 q8 h=>?_;clear tr;subst q7;subst q8;exact EN ih as h eo vo R e O
theorem xI(ih:eV c A ev)(ha:rV c.t sc es us)(hk:Al c.t sc ks am)[NeZero s.toks](eo:bZ c sc D r.pv)(vo:bV c sc D r s.heap M)(R:c.R r N s.heap)(e1:dY ev us M N=U (vs,J))(e2:mD ev am M J=U (ao,B))
  (O:∀items ai r' h' tk,c.R r' B h'->dH r s.heap r' h'->dZ c.w.params r' h' vs items->rj c r' h' ao ai->[NeZero tk]->Q ⟨items,ai⟩ {s with heap:=h',toks:=tk}):
  wpAny c.M A (evalArgs f zG (backTo p (starEach es D)) (backToKw p (keywordEach ks D))) Q E' s:=by
 have aj:=(hk.names (D:=D) (p:=p)).1;refine fZ ha λas q9 ap ho=>?_;clear ha;subst q9;subst ap;cases as with
 |nil=>
  (refine sp e1 λaq ar=>?_;subst aq;subst ar;clear e1)
  refine evalArgs_kw2_nil aj ?_;exact qP ih hk eo vo R e2 λau ab ae aa af Y ag=>O [] _ ab ae aa af Y .nil ag
 |cons a aw=>
  refine evalArgs_kw2 aj ?_ (lG a _ D);exact lW ih (.mk ho) eo vo R e1 λitems ax ay av ak ah al=>qP ih hk (eo.step ah) (vo.step eo R ah) ak e2 λau ab ae aa af Y ag=>O items _ ab ae aa af (ah.trans Y) (al.step Y) ag
end
theorem iY(B:hG o=zH):attributeBase o x D m=m:=by
 cases o with
 |Call f as J p=>cases f with
  |Name=>cases as with
   |nil=>cases J with
    |nil=>exact tf B
    |cons=>rfl
   |cons=>rfl
  |_=>rfl
 |_=>rfl
def jw(c:Cx)(f:Value):Prop:=∀h:Heap,(∀b o,c.h₀.get? b=U o->h.get? b=U o)->∃k,(k=Keeper.frame\/k=Keeper.machine\/k=Keeper.boundFrame)/\Looks c.M h (keeperOf f) k
theorem jw.fn(h:keepIn c.K f=zG):jw c f:=λB b=>keeps_K h _ (c.X.keeps b)
theorem jw.builtin{id:String}:jw c (.builtin id):=λB B=>(cU .machine (.inr (.inl rfl)) (Looks.of_pure rfl))
theorem jw.type{T:String}:jw c (.type T):=λB B=>(cU .machine (.inr (.inl rfl)) (Looks.of_pure rfl))
section
variable{c:Cx}{A:Around}{E':Value->Shared->Prop}{s:Shared}[NeZero s.toks]{sc:Scope}{D:Env}{r:Rh}{N J B:H}{M:aW}{v:V}{ev:Ev}
theorem hW(ih:eV c A ev)(kf:jw c f)(ha:rV c.t sc es us)(hk:Al c.t sc ks af)[NeZero s.toks](eo:bZ c sc D r.pv)(vo:bV c sc D r s.heap M)(R:c.R r N s.heap)(e1:dY ev us M N=U (vs,B))(e2:mD ev af M B=U (ag,J))
  (O:∀items aa Y h' tk,c.R Y J h'->dH r s.heap Y h'->dZ c.w.params Y h' vs items->rj c Y h' ag aa->[NeZero tk]->wpAny c.M A (call f (first++items) aa) Q E' {s with heap:=h',toks:=tk}):
  wpAny c.M A (callWith p f first (backTo p (starEach es D)) (backToKw p (keywordEach ks D))) Q E' s:=by
 have ab:=ha.star (D:=D);rw[<-qY] at ab;have h1:((backTo p (starEach es D)).any λx=>x.1)=zH:=by
  rw[List.any_eq_false];intro x hx;have:=aR.mp ab x hx;simpa using this
 refine callWith_of (by rw[h1,(hk.names).2];rfl) kf ?_;refine xI ih ha hk eo vo R e1 e2 λitems ah Y h' tk ae ai x y=>⟨ae.base,O items ah Y h' tk ae ai x y⟩
theorem gU(ih:eV c A ev)(kf:jw c f)(ha:rV c.t sc es us)[NeZero s.toks](eo:bZ c sc D r.pv)(vo:bV c sc D r s.heap M)(R:c.R r N s.heap)(e1:dY ev us M N=U (vs,B))
  (O:∀items Y h' tk,c.R Y B h'->dH r s.heap Y h'->dZ c.w.params Y h' vs items->[NeZero tk]->wpAny c.M A (call f (first++items) []) Q E' {s with heap:=h',toks:=tk}):
  wpAny c.M A (callWith p f first (backTo p (starEach es D)) (backToKw p (keywordEach [] D))) Q E' s:=
 hW ih kf ha (.nil) eo vo R e1 rfl λitems aa Y h' tk ab ae x y=>(y.inv:aa= [])▸O items Y h' tk ab ae x
theorem jp(hq:q.endLine=p.line)(hn:hG o=zH)(hl:es.length+Y.length<=20)(ha:rV c.t sc es us)(hk:Al c.t sc Y ak)
  (h:wpAny c.M A (eval o D) (λov ab=>wpAny c.M A (getMethod ov x (do return (<-importBound o D).getD zG)) (λfx ae=>wpAny c.M A (callWith p fx.1 fx.2 (backTo p (starEach es D)) (backToKw p (keywordEach Y D))) Q E' ae) E' ab) E' s):
  wpAny c.M A (eval (.Call (.Attribute o x q) es Y p) D) Q E' s:=by
 have hb:attributeBase o x D (eval o D)=eval o D:=iY hn;show wpAny _ _ (do
  let ov<-attributeBase o x D (eval o D)
  standAt q.atName
  methodCall o x q p D ov (es.length+Y.length) (backTo p (starEach es D)) (backToKw p (keywordEach Y D))) _ _ _
 rw[hb];refine aB (bX h (λov ab ag=>aB (fc ?_)) λaa aa x=>x);have af:=ha.star (D:=D);rw[<-qY] at af;have aj:methodCallForm (es.length+Y.length) (backTo p (starEach es D)) (backToKw p (keywordEach Y D))=zG:=by
  unfold methodCallForm;rw[af,(hk.names).1];simp only[fQ,decide_eq_true_eq];split<;>exact aK (bS hl _) (by decide)
 have ah:methodCallPos zG o D q p=pure p:=by unfold methodCallPos;simp[hq]
 unfold methodCall calleeOf;rw[aj,ah];refine aB (cZ (bX ag (λfx ae ai=>?_) λaa aa x=>x));exact aB (aG ai)
end
section
variable{c:Cx}{A:Around}{E':Value->Shared->Prop}{s:Shared}[NeZero s.toks]{sc:Scope}{D:Env}{r:Rh}{N J B:H}{M:aW}{v:V}{ev:Ev}
theorem xN.after(O:xN c r s J b Q)(S:dH r s.heap r' h'):xN c r' {s with heap:=h',toks:=tk} J b Q:=
 λY aa ab ae af=>O Y aa ab ae (S.trans af)
theorem uO(a:AE)(op:CmpOp):behindInMarks op a.un=zH:=by cases a<;>rfl
noncomputable def wI:AE->Bool
 |.not .. =>zH
 |.and .. =>zH
 |.or .. =>zH
 |.ite .. =>zH
 |.cmp .. =>zH
 |_=>zG
theorem zM(h:wI a=zG):isTrue a.un D Y=(do let v<-Y;standAt a.un.pos;holding [v] (PySem.truthy v)):=by
 cases a<;>first| rfl| (exact ft h;done)| skip
theorem z5(h:wI a=zG):hJ ev a.er M N=(match ev a.er M N with| some (v,J)=>(truthy v).map (λY=>(Y,J))| .none=>.none):=by
 cases a<;>first| rfl| exact ft h
theorem Iq(e:(truthy v).map (λY=>(Y,N))=U (b,J)):truthy v=U b/\J=N:=by
 refine mi e λx h e=>?_;cases e;exact⟨h,rfl⟩
theorem mO(ih:eV c A ev)(HT:c.TabOk)(hu:A.units+100 < cLine)(ta:Tr c.t sc a a')(tb:Tr c.t sc b b')(eo:bZ c sc D r.pv)(vo:bV c sc D r s.heap M)(R:c.R r N s.heap)(e1:ev a' M N=U (x,B))(e2:ev b' M B=U (y,aa))(e3:jO c.Γ o x y aa=U z)
  (O:∀Y h' tk,c.R Y aa h'->dH r s.heap Y h'->[NeZero tk]->Q (.bool z) {s with heap:=h',toks:=tk}):
  wpAny c.M A (eval a D) (λua ae=>wpAny c.M A (eval b D) (λub af=>wpAny c.M A (compareOp (AD o) ua ub) Q E' af) E' ae) E' s:=
 Gq ih ta tb eo vo R e1 e2 λua ub Y h' tk ab ah xa xb=>eS (y8 HT ab hu xa xb e3 λag=>O Y h' ag ab ah)
theorem yO(e:Lake.ev Γ C (n+1) (.cmp op a b) M N=U (v,J)):∃x y z B,Lake.ev Γ C n a M N=U (x,B)/\Lake.ev Γ C n b M B=U (y,J)/\jO Γ op x y J=U z/\v= .bool z:=by
 refine jH e λx B Y e=>jH e λy aa e2 e=>mi e λz hz e=>?_;cases e;exact(KJ x y z B Y e2 hz rfl)
def Lx(c:Cx)(A:Around)(sc:Scope)(D:Env)(ev:Ev)(e:Expr)(u:E):Prop:=∀ ⦃M:aW⦄ ⦃r:Rh⦄ ⦃N J:H⦄ ⦃s:Shared⦄ [NeZero s.toks] ⦃b:Bool⦄ ⦃Q:Bool->Shared->Prop⦄ ⦃E':Value->Shared->Prop⦄,bZ c sc D r.pv->bV c sc D r s.heap M->c.R r N s.heap->
  hJ ev u M N=U (b,J)->xN c r s J b Q->wpAny c.M A (isTrue e D (eval e D)) Q E' s
theorem fk(ih:eV c A ev)(h:a.ok c.t sc=zG)(Y:wI a=zG):Lx c A sc D ev a.un a.er:=by
 intro M r N J s _ b Q E' eo vo R eq O;refine jH ((z5 Y).symm.trans eq) λv B e1 e=>f7 (Iq e) λhb q1=>?_;clear e;subst q1;exact wpAny_isTrue_value (ih (.mk h) eo vo R e1 λu r' h' tk aa ab x=>nC x hb (O r' h' tk aa ab)) (zM Y)
theorem kQ(HT:c.TabOk)(hu:A.units+100 < cLine)(ae:∀m,m < n->eV c A (Lake.ev c.Γ C m))(Y:eV c A (Lake.ev c.Γ C n)):∀(a:AE),a.ok c.t sc=zG->Lx c A sc D (Lake.ev c.Γ C n) a.un a.er
 |.not a p=>by
  intro h;intro M r N J s _ b Q E' eo vo R eq O;refine Fa eq λb' B e1 e=>?_
  (refine sp e λak al=>?_;subst ak;clear eq;subst al;clear e)
  exact wpAny_isTrue_Not (kQ HT hu ae Y a h eo vo R e1 O)
 |.and a d p=>by
  intro h;intro M r N J s _ b Q E' eo vo R eq O;refine Fa eq λx B e1 e=>wpAny_isTrue_BoolOp (wpAny_allTrue_And_cons ?_);refine kQ HT hu ae Y a (a1 h) eo vo R e1 λr' h' tk ab aa=>?_;cases x with
  |true=>
   refine(if_pos rfl).mpr ?_;refine wpAny_allTrue_And_cons ?_;refine kQ HT hu ae Y d (a2 h) (eo.step aa) (vo.step eo R aa) ab e λag ah af ai aj _=>?_;have q:=O ag ah af ai (aa.trans aj);cases b with
   |true=>exact wpAny_allTrue_And_nil q
   |false=>exact q
  |false=>
   (refine sp e λam ao=>?_;subst am;clear eq;subst ao;clear e)
   exact O r' h' tk ab aa
 |.or a d p=>by
  intro h;intro M r N J s _ b Q E' eo vo R eq O;refine Fa eq λx B e1 e=>wpAny_isTrue_BoolOp (wpAny_allTrue_Or_cons ?_);refine kQ HT hu ae Y a (a1 h) eo vo R e1 λr' h' tk ab aa=>?_;cases x with
  |true=>
   (refine sp e λap aq=>?_;subst ap;clear eq;subst aq;clear e)
   exact O r' h' tk ab aa
  |false=>
   refine wpAny_allTrue_Or_cons ?_;refine kQ HT hu ae Y d (a2 h) (eo.step aa) (vo.step eo R aa) ab e λag ah af ai aj _=>?_;have q:=O ag ah af ai (aa.trans aj);cases b with
   |true=>exact q
   |false=>exact wpAny_allTrue_Or_nil q
 |.ite t a d p=>by
  intro h;intro M r N J s _ b Q E' eo vo R eq O;refine Fa eq λx B e1 e=>isTrue_IfExp ?_;refine kQ HT hu ae Y t (a1 h) eo vo R e1 λr' h' tk ab aa=>?_;cases x with
  |true=>exact kQ HT hu ae Y a (a1 (a2 h)) (eo.step aa) (vo.step eo R aa) ab e (O.after aa)
  |false=>exact kQ HT hu ae Y d (a2 (a2 h)) (eo.step aa) (vo.step eo R aa) ab e (O.after aa)
 |.cmp o a d p=>by
  intro h;intro M r N J s _ b Q E' eo vo R eq O;refine jH eq λv B e1 e=>f7 (Iq e) λhb q2=>?_;subst q2;cases n with
  |zero=>exact ns e1
  |succ n=>
   refine JQ (yO e1) λx y z au f1 f2 f3 q3=>?_;clear e1;subst q3
   (refine si hb λar=>?_;clear eq e;subst ar;clear hb)
   refine wpAny_isTrue_Compare1 (mO (ae n (bQ n)) HT hu (.mk (a1 h)) (.mk (a2 h)) eo vo R f1 f2 f3 λr' h' tk ab aa=>?_) (uO d _);exact wpAny_truthy_bool (O r' h' tk ab aa)
 |.cst .. =>λh=>fk Y h rfl
 |.dbg .. =>λh=>fk Y h rfl
 |.glob .. =>λh=>fk Y h rfl
 |.clsA .. =>λh=>fk Y h rfl
 |.var .. =>λh=>fk Y h rfl
 |.bin .. =>λh=>fk Y h rfl
 |.neg .. =>λh=>fk Y h rfl
 |.list .. =>λh=>fk Y h rfl
 |.tup .. =>λh=>fk Y h rfl
 |.slice .. =>λh=>fk Y h rfl
 |.sub .. =>λh=>fk Y h rfl
 |.attr .. =>λh=>fk Y h rfl
 |.callM .. =>λh=>fk Y h rfl
 |.call .. =>λh=>fk Y h rfl
 |.dsub .. =>λh=>fk Y h rfl
 |.dsubS .. =>λh=>fk Y h rfl
 |.listZip .. =>λh=>fk Y h rfl
 |.repl .. =>λh=>fk Y h rfl
 |.fv .. =>λh=>fk Y h rfl
 |.fmt .. =>λh=>fk Y h rfl
 |.comp2 .. =>λh=>fk Y h rfl
 |.comp .. =>λh=>fk Y h rfl
theorem my(HT:c.TabOk)(hu:A.units+100 < cLine)(Y:∀m,m < n->eV c A (Lake.ev c.Γ C m))(ih:eV c A (Lake.ev c.Γ C n))(u:E)(tr:Tr c.t sc e u)[NeZero s.toks](eo:bZ c sc D r.pv)(vo:bV c sc D r s.heap M)(R:c.R r N s.heap)
  (eq:hJ (Lake.ev c.Γ C n) u M N=U (b,J)) (O:xN c r s J b Q):wpAny c.M A (isTrue e D (eval e D)) Q E' s:=by
 refine fZ tr λa q4 q5 h=>?_;clear tr;subst q4;subst q5;exact kQ HT hu Y ih a h eo vo R eq O
end
structure kB(A:Around)(n:Nat):Prop where
 hd:A.handled= .none
 dp:A.depth+2*n+9 < recursionLimit
 un:A.units+8*n+500 < cLine
structure iL(A:Around)(n:Nat):Prop where
 hd:A.handled= .none
 dp:A.depth+1+2*n+9 < recursionLimit
 un:A.units+4+8*n+500 < cLine
theorem iL.n{n:Nat}(F:iL A n):kB A n:=⟨F.hd,by have:=F.dp;exact aK (bS (bS (fR _) _) _) this,by have:=F.un;exact aK (bS (bS (bL _ 4) _) _) this⟩
theorem iL.fits{A:Around}{n:Nat}(F:iL A n):JH A:=⟨F.hd,by have:=F.un;exact aK (bY (Nat.le_add_right_of_le (bL _ 4)) (by decide)) this,by have:=F.dp;exact aK (bY (Nat.le_add_right_of_le (bL _ 1)) (by decide)) this⟩
theorem iL.under{A:Around}{n:Nat}(F:iL A n)(zD:Addr)(B:List Value):kB (A.under (.builtin "type.__call__" ⟨.ref zD::B,[]⟩)) n:=
 ⟨F.hd,by rw[depth_under_make];have:=F.dp;assumption,by rw[units_under_make];have:=F.un;exact aK (bS (bS (Nat.add_le_add_left (by decide) _) _) _) this⟩
theorem kB.deeper{A:Around}{n:Nat}(F:kB A (n+1))(D:Env):iL (A.deeper D) n:=
 ⟨F.hd,by rw[depth_deeper];have:=F.dp;exact aK (bS (bJ ((gQ _ 2 (2*n)).trans (congrArg (λB=>A.depth+B) (iB 2 (2*n))))) 9) this,by rw[Around.deeper_units];have:=F.un;exact aK (bS (aA (bJ (gQ _ 7 (8*n))) (Nat.add_le_add_left (aA (bJ (iB 7 (8*n))) (fR _)) _)) 500) this⟩
structure ll(c:Cx)(n:Nat)(C:Cf):Prop where
 keep:∀f as ks N x,C f as ks N=U x->keepIn c.K (.ref f)=zG
 run:∀ {A:Around} {f:Addr} {as:List V} {ks:List (Nat×V)} {N σ':H} {v:V} {r:Rh} {s:Shared} [NeZero s.toks] {us:List Value} {kus:List (Str×Value)} {Rr:Result->Shared->Prop},kB A n->
  C f as ks N=U (v,σ')->c.R r N s.heap->dZ c.w.params r s.heap as us->rj c r s.heap ks kus->
  gp c r s σ' v (λu s'=>Rr (.ok (.ret u)) s')->codeAny c.M A (.call (.ref f) ⟨us,kus⟩) Rr s
def Fm(c:Cx)(A:Around):Prop:=∀f as N v B,builtin f as N=U (v,B)->jw c f/\∀r s us,c.R r N s.heap->dZ c.w.params r s.heap as us->∀Q E',gp c r s B v Q->[NeZero s.toks]->wpAny c.M A (call f us []) Q E' s
def Fi(c:Cx)(A:Around)(C:Cf):Prop:=∀ov x name m u r N s,fJ c.Γ ov x N=U m->(∀f self,m≠ .fn f self)->c.t.ids[x]? =U name->c.R r N s.heap->c.V r s.heap ov u->
 ∃f first,jw c f/\(∀Q E' pl,(∀tk,Q (f,first) {s with toks:=tk})->wpAny c.M A (getMethod u name pl) Q E' s)/\
  ∀as ks B J Y s' v items aa,hK c.Γ C m as ks J=U (v,Y)->dH r s.heap B s'.heap->c.R B J s'.heap->dZ c.w.params B s'.heap as items->rj c B s'.heap ks aa->∀Q E',gp c B s' Y v Q->[NeZero s'.toks]->wpAny c.M A (call f (first++items) aa) Q E' s'
def Cx.CatOk(c:Cx):Prop:=∀ad x v,c.t.clsAttr ad x=U v->∃B u,readsIn c.K ad B=zG/\findCls c.K (.ref ad) B x=U (.val u)/\handedIn u=zG/\c.V ⟨[],[]⟩ c.h₀ v u
section
variable{c:Cx}{A:Around}{E':Value->Shared->Prop}{s:Shared}[NeZero s.toks]{sc:Scope}{D:Env}{r:Rh}{N B J:H}{M:aW}{v:V}{ev:Ev}{n:Nat}{C:Cf}
theorem wY(ak:c.ClsOk)(al:ll c n C)(am:iL A n)(hk:c.Γ.clss.lookup zD=U k)(R:c.R r N s.heap)(x:dZ c.w.params r s.heap as us)
  (e:C k.init (.ref N.length::as) [] (N++ [.inst zD []])=U (.none,B)) (O:gp c r s B (.ref N.length) Q):wpAny c.M A (call (.ref zD) us []) Q E' s:=by
 obtain⟨h,g,d,t,os⟩:=s;have F:=ak zD k hk;have X:=c.X.keeps R.base;refine pC ?_;refine make_core (makes_of X F.mks) (looks_findIn X F.ini.1) (λself=>bind_fn X self F.ini.2) (.inl rfl) ?_;have no:∀i,h.objs.size<=i->h.get? i= .none:=λi hi=>by
  cases q:h.get? i with
  |none=>rfl
  |some o=>exact absurd (dD q) (bP.mpr hi)
 have k1:∀b o,h.get? b=U o->((h.push emptyDict).push (instObj zD h.objs.size)).get? b=U o:=λb o e=>aS _ (aS _ e);have hx:((h.push emptyDict).push (instObj zD h.objs.size)).get? (h.objs.size+1)=U (instObj zD h.objs.size):=by heap_get
 have hd:((h.push emptyDict).push (instObj zD h.objs.size)).get? h.objs.size=U (hD [] 0):=aS _ (bE _ rfl);obtain⟨ao,ae⟩:=R.push (p:=(h.objs.size+1,h.objs.size)) (o:= .inst zD []) k1 (no _ (fR _)) (no _ (aJ _)) (.inst zD [] _ _ [] 0 (oS _) hx hd (aJ _) rfl (λi x v af q=>by exact ns q) (λi x af af=>rfl));have ab:(r.ob++ [(h.objs.size+1,h.objs.size)])[N.length]? =U (h.objs.size+1,h.objs.size):=by rw[<-R.len,bG (aJ _),fh];rfl
 refine al.run (s:=⟨(h.push emptyDict).push (instObj zD h.objs.size),g,d,t,os⟩) (am.under zD us) e ao (.cons (.ref _ (h.objs.size+1,h.objs.size) ab) (x.step ae)) .nil λu ah ai ag aj Y aa=>?_;have:=aa.none_inv;clear aa;subst this;intro _;refine⟨rfl,?_⟩;exact O _ ah ai ag aj (ae.trans Y) (.ref _ (h.objs.size+1,h.objs.size) (Y.at_ob ab))
end
section
variable{c:Cx}{A:Around}{E':Value->Shared->Prop}{s:Shared}[NeZero s.toks]{sc:Scope}{D:Env}{r:Rh}{N B J:H}{M:aW}{v:V}{ev:Ev}{n:Nat}{C:Cf}
theorem gp.tup(O:gp c r s N (.tup vs) Q)(R:c.R r N s.heap)(x:dZ c.w.params r s.heap vs items)(hl:vs.length<=1000000)(tk:Nat)[NeZero tk]:
  Q (.ref s.heap.objs.size) {s with heap:=s.heap.push (pr items 0),toks:=tk}:=by
 have aa:s.heap.get? s.heap.objs.size= .none:=by
  cases q:s.heap.get? s.heap.objs.size with
  |none=>rfl
  |some o=>exact absurd (dD q) (cD _)
 have k:∀b ob,s.heap.get? b=U ob->(s.heap.push (pr items 0)).get? b=U ob:=λb ob e=>aS _ e;have S:=dH.grow (r:=r) k;refine O _ r _ tk (R.grow k) S (.tup vs items 0 _ (bE _ rfl) (λhm=>?_) (x.step S) (by rw[x.length];exact aA hl (by decide)));refine dS (R.mutLive hm) λo Y=>?_;rw[aa] at Y;exact ns Y
theorem oo(Y:eV c A ev)(tr:Ii c.t sc e u)(eo:bZ c sc D r.pv)(vo:bV c sc D r s.heap M)(R:c.R r N s.heap)(eq:jr ev u M N=U (v,B))(O:gp c r s B v Q):
  wpAny c.M A (evalPart e D) Q E' s:=by
 refine fZ tr λa q1 q2 h=>?_;clear tr;subst q1;subst q2;cases a with
 |none=>(refine sp eq λq5 q6=>?_;subst q5;subst q6;clear eq);exact aG (O.here R .none)
 |some a=>exact Y (.mk h) eo vo R eq O
theorem wK{f:Option Int->Option Y}{y:Y} (e:(match o with
  |.none=>.none
  |some x=>f x)=U y):∃x,o=U x/\f x=U y:=by
 cases o with
 |none=>exact ns e
 |some x=>exact(cU x rfl e)
theorem u5(ih:eV c A ev){l u st:Option Expr}(ta:Tr c.t sc a ba)(tl:Ii c.t sc l l')(tu:Ii c.t sc u u')(ts:Ii c.t sc st s')(eo:bZ c sc D r.pv)(vo:bV c sc D r s.heap M)(R:c.R r N s.heap)(e1:ev ba M N=U (x,J))(e2:jr ev l' M J=U (lv,aq))(e3:jr ev u' M aq=U (uv,ar))(e4:jr ev s' M ar=U (sv,au))(Y:lT x lv uv sv au=U (v,B))(O:gp c r s B v Q):wpAny c.M A (eval (.Subscript a (.Slice l u st q) p) D) Q E' s:=by
 refine Subscript_ (ih ta eo vo R e1 λua bg bh bc av af xa=>wpAny_Slice ?_);refine oo ih tl (eo.step af) (vo.step eo R af) av e2 λul bj bl be aw ak xl _=>?_;have ah:=af.trans ak;refine oo ih tu (eo.step ah) (vo.step eo R ah) aw e3 λuu bm al bf ax ag xu _=>?_;have ai:=ah.trans ag;refine oo ih ts (eo.step ai) (vo.step eo R ai) ax e4 λus ay aa aj az ae I _=>?_;have a7:=ai.trans ae;have k:∀b ob,aa.get? b=U ob->(aa.push {cls:= .type "slice",data:= .fields #[ul,uu,us]}).get? b=U ob:=λb ob e=>aS _ e;have ab:=dH.grow (r:=ay) k;have bb:=az.grow k;refine Aq ((by
   unfold lT at Y;refine cJ (wK Y) λlo a0 Y=>cJ (wK Y) λa3 a4 Y=>cJ (wK Y) λst a5 Y=>?_;by_cases h:(st==U 0)=zG
   ·rw[if_pos h] at Y;exact ns Y
   ·rw[if_neg h] at Y;exact(Jg lo a3 st a0 a4 a5 (gK.mpr h) Y))) λlo hi C5 a8 a9 a6 h0 Y=>?_
 let s5:Shared:= {s with heap:=aa.push {cls:= .type "slice",data:= .fields #[ul,uu,us]},toks:=aj};have pl:=qg (s:=s5) a8 (xl.step ((ag.trans ae).trans ab));have pu:=qg (s:=s5) a9 (xu.step (ae.trans ab));have ps:=qg (s:=s5) a6 (I.step ab);have zE:=wA (A:=A) (E':=E') (s:=s5) bb (xa.step (((ak.trans ag).trans ae).trans ab)) (bE _ rfl) pl pu ps (λq=>by rw[q] at h0;exact tf h0) Y (O.after (a7.trans ab));refine je zE.1 λT id ao a'=>?_;unfold subscriptTail;refine aB ?_;rw[getitemInPython_of_ne ao.not_modules];refine aB (pP ao a' ?_);refine aG (aB ?_);have fin:∀vs,wpAny c.M A (operate vs (getItem ua (.ref aa.objs.size))) (λr am=>wpAny c.M A (letTemporaryGo a ua r>>=λap=>pure r) Q E' am) E' {s with heap:=aa.push {cls:= .type "slice",data:= .fields #[ul,uu,us]},toks:=aj}:=λvs=>
  wpAny_operating (bX zE.2 (λr am al=>aB (wpAny_letTemporaryGo (aG al))) λap ap x=>x)
 cases st with
 |none=>exact fin _
 |some e=>exact fin _
end
end MI.Lake
end T3
section T4
open PySem
namespace MI.Lake
section
variable(Γ:G)(C:Cf)(n:Nat)(M:aW)(N:H)
theorem HD(op:C0)(a b:E):ev Γ C (n+1) (.bin op a b) M N=(match ev Γ C n a M N with
   |some (x,N)=>match ev Γ C n b M N with
    |some (y,N)=>mR op x y N
    |.none=>.none
   |.none=>.none):=rfl
theorem EJ(es:List E):ev Γ C (n+1) (.list es) M N=(match dY (ev Γ C n) es M N with
   |some (vs,N)=>iP vs N
   |.none=>.none):=rfl
theorem HA(es:List E):ev Γ C (n+1) (.tup es) M N=(match dY (ev Γ C n) es M N with
   |some (vs,N)=>if iM vs.length then U (.tup vs,N) else .none
   |.none=>.none):=rfl
theorem HB(a i:E):ev Γ C (n+1) (.sub a i) M N=(match ev Γ C n a M N with
   |some (x,N)=>match ev Γ C n i M N with
    |some (y,N)=>(g9 Γ x y N).map (λB=>(B,N))
    |.none=>.none
   |.none=>.none):=rfl
theorem yI(a:E)(x:Nat):ev Γ C (n+1) (.attr a x) M N=(match ev Γ C n a M N with
   |some (.ref i,N)=>(fields Γ N i x).map (λB=>(B,N))
   |_=>.none):=rfl
theorem EM(f:E)(as:List E):ev Γ C (n+1) (.call f as) M N=(match ev Γ C n f M N with
   |some (fv,N)=>match dY (ev Γ C n) as M N with
    |some (vs,N)=>nX Γ C fv vs N
    |.none=>.none
   |.none=>.none):=rfl
theorem Ct(o:E)(x:Nat)(as:List E)(B:List (Nat×E)):ev Γ C (n+1) (.callM o x as B) M N=(match ev Γ C n o M N with
   |some (J,N)=>match fJ Γ J x N with
    |some m=>match dY (ev Γ C n) as M N with
     |some (vs,N)=>match mD (ev Γ C n) B M N with
      |some (Y,N)=>hK Γ C m vs Y N
      |.none=>.none
     |.none=>.none
    |.none=>.none
   |.none=>.none):=rfl
theorem HC(t a b:E):ev Γ C (n+1) (.ite t a b) M N=(match hJ (ev Γ C n) t M N with
   |some (x,N)=>match x with
    |true=>ev Γ C n a M N
    |false=>ev Γ C n b M N
   |.none=>.none):=rfl
theorem Cr(a:E)(l u s:Option E):ev Γ C (n+1) (.slice a l u s) M N=(match ev Γ C n a M N with
   |some (x,N)=>match jr (ev Γ C n) l M N with
    |some (lv,N)=>match jr (ev Γ C n) u M N with
     |some (B,N)=>match jr (ev Γ C n) s M N with
      |some (J,N)=>lT x lv B J N
      |.none=>.none
     |.none=>.none
    |.none=>.none
   |.none=>.none):=rfl
end
section
variable(B:Ev)(M:aW)(N:H)
theorem kR(e:E)(r:List E):dY B (e::r) M N=(match B e M N with
  |some (v,Y)=>match dY B r M Y with
   |some (vs,J)=>U (v::vs,J)
   |.none=>.none
  |.none=>.none):=rfl
theorem z4(x:Nat)(e:E)(r:List (Nat×E)):mD B ((x,e)::r) M N=(match B e M N with
  |some (v,Y)=>match mD B r M Y with
   |some (vs,J)=>U ((x,v)::vs,J)
   |.none=>.none
  |.none=>.none):=rfl
end
section
variable(Γ:G)(C:Cf)(fe n:Nat)(M:aW)(N:H)
theorem qN(s:S)(r:List S):ic Γ C fe (n+1) (s::r) M N=(match ex Γ C fe n s M N with
  |some (fl,M,N)=>match fl with
   |.next=>ic Γ C fe n r M N
   |.brk=>U (.brk,M,N)
   |.ret v=>U (.ret v,M,N)
  |.none=>.none):=rfl
theorem Co(I:List Nat)(e:E):ex Γ C fe (n+1) (.names I e) M N=(match ev Γ C fe e M N with
   |some (v,N)=>U (.next,I.foldl (λvs x=>vs.set x v) M,N)
   |.none=>.none):=rfl
theorem z0(B:List T)(e:E):ex Γ C fe (n+1) (.unpack B e) M N=(match ev Γ C fe e M N with
   |some (v,N)=>match gc (.tup B) v N M with
    |some M=>U (.next,M,N)
    |.none=>.none
   |.none=>.none):=rfl
theorem EG(e:E):ex Γ C fe (n+1) (.expr e) M N=(match ev Γ C fe e M N with
   |some (_,N)=>U (.next,M,N)
   |.none=>.none):=rfl
theorem Hz(t:E)(a b:List S):ex Γ C fe (n+1) (.ite t a b) M N=(match hJ (ev Γ C fe) t M N with
   |some (x,N)=>match x with
    |true=>ic Γ C fe n a M N
    |false=>ic Γ C fe n b M N
   |.none=>.none):=rfl
theorem Hy(e:E):ex Γ C fe (n+1) (.ret (U e)) M N=(match ev Γ C fe e M N with
   |some (v,N)=>U (.ret v,M,N)
   |.none=>.none):=rfl
theorem qO(o:E)(x:Nat)(e:E):ex Γ C fe (n+1) (.setAttr o x e) M N=(match ev Γ C fe e M N with
   |some (v,N)=>match ev Γ C fe o M N with
    |some (.ref i,N)=>match N[i]? with
     |some (.inst zD fs)=>if m6 Γ zD x&&Nat.ble fs.length 100 then U (.next,M,N.set i (.inst zD (put x v fs))) else .none
     |_=>.none
    |_=>.none
   |.none=>.none):=rfl
end
section
variable(B:Ev)(M:aW)(N:H)
end
end MI.Lake
end T4
section T5
open PySem PySem.Spec PySem.Calls PyProof.Rows PySem.W
namespace MI.Lake
structure Cx.Ok(c:Cx):Prop where
 tab:c.TabOk
 glob:c.GlobOk
 cls:c.ClsOk
 cat:c.CatOk
 ids:c.Γ.ids=c.t.ids.map λx=>x.cps.toList
 uniq:∀(i j:Nat) (x:Str),c.t.ids[i]? =U x->c.t.ids[j]? =U x->i=j
 dot:c.t.id (".0":Str)= .none
 setN:c.t.ids[c.Γ.setId]? =U ("__setitem__":Str)
 delN:c.t.ids[c.Γ.delId]? =U ("__delitem__":Str)
section
variable{c:Cx}{A:Around}{n:Nat}{C:Cf}
def uq(c:Cx)(A:Around)(n:Nat)(C:Cf)(P:E->Bool):Prop:=∀ {sc:Scope} {e:Expr} {u:E} {D:Env} {r:Rh} {N B:H} {s:Shared} [NeZero s.toks] {M:aW} {v:V},P u=zG->Tr c.t sc e u->bZ c sc D r.pv->bV c sc D r s.heap M->c.R r N s.heap->ev c.Γ C n u M N=U (v,B)->
  ∀ {Q:Value->Shared->Prop} {E':Value->Shared->Prop},gp c r s B v Q->wpAny c.M A (eval e D) Q E' s
def Jm(e:E):Bool:=Nat.ble 10 e.ctorIdx&&Nat.ble e.ctorIdx 15
def t6(e:E):Bool:=Jm e || Nat.beq e.ctorIdx 22
theorem kH:1000000<=sizeLine:=by have:=dM;exact eH ..
theorem Ki{f:oN->Option B}{y:B} (e:(match o with
  |some m=>f m
  |.none=>.none)=U y):∃m,o=U m/\f m=U y:=by
 cases o with
 |none=>exact ns e
 |some x=>exact(cU x rfl e)
theorem J8{f:Bool->Option B}{y:B} (e:(match o with
  |some m=>f m
  |.none=>.none)=U y):∃m,o=U m/\f m=U y:=by
 cases o with
 |none=>exact ns e
 |some x=>exact(cU x rfl e)
theorem Gc{f:Nat->H->Option J}{o:Option (V×H)}{y:J} (e:(match o with
  |some (.ref i,B)=>f i B
  |_=>.none)=U y):∃i B,o=U (.ref i,B)/\f i B=U y:=by
 cases o with
 |none=>exact ns e
 |some x=>
  obtain⟨v,B⟩:=x;cases v with
  |ref i=>exact(rO i B rfl e)
  |_=>exact ns e
theorem J0{f:Nat->H->Option J}{o:Option (V×H)}{y:J}{G:Prop} (e:(match o with
  |some (.ref i,B)=>f i B
  |_=>.none)=U y) (k:∀i B,o=U (.ref i,B)->f i B=U y->G):G:=je (Gc e) k
theorem t7{a:AE}(B:B4 a.un=zH):eval (.Call a.un es [] p) D=(do callWith p (<-eval a.un D) [] (backTo p (starEach es D)) (backToKw p (keywordEach [] D))):=by
 cases a<;>first| rfl| exact tf B
section
variable{E':Value->Shared->Prop}{s:Shared}[NeZero s.toks]{sc:Scope}{D:Env}{r:Rh}{N J B:H}{M:aW}{v:V}{ev:Ev}
theorem vU(af:c.Ok)(ag:iL A n)(ae:ll c n C)(aj:Fm c A)(ih:eV c A ev)(ab:rV c.t sc es us)(eo:bZ c sc D r.pv)(vo:bV c sc D r s.heap M)(R:c.R r N s.heap)(xf:c.V r s.heap fv uf)
  (e2:dY ev us M N=U (vs,B)) (eq:nX c.Γ C fv vs B=U (v,J)) (O:gp c r s J v Q):wpAny c.M A (callWith p uf [] (backTo p (starEach es D)) (backToKw p (keywordEach [] D))) Q E' s:=by
 cases fv with
 |cst w=>
  have:=xf.cst_inv;subst this;have go:builtin uf vs B=U (v,J)->wpAny c.M A (callWith p uf [] (backTo p (starEach es D)) (backToKw p (keywordEach [] D))) Q E' s:=λeq=>by
   exact f7 (aj _ _ _ _ _ eq) λkf go=>gU ih kf ab eo vo R e2 λitems r' h' tk Y aa x _=>go r' {s with heap:=h',toks:=tk} items Y x _ _ (O.after aa)
  cases uf with
  |ref a=>
   replace eq:CJ c.Γ C a vs B=U (v,J):=eq;unfold CJ at eq;cases hk:c.Γ.clss.lookup a with
   |none=>
    rw[hk] at eq;exact hW ih (.fn (ae.keep _ _ _ _ _ eq)) ab (.nil) eo vo R e2 rfl λitems al r' h' tk Y aa x y _=>pC (ae.run ag.n eq Y x y (O.after aa))
   |some k=>
    rw[hk] at eq;replace eq:Bs a B (C k.init (.ref B.length::vs) [] (B++ [.inst a []]))=U (v,J):=eq;unfold Bs at eq;refine jH eq λw ak e3 eq=>?_;cases w with
    |none=>
     (refine sp eq λah ai=>?_;subst ah;clear go;subst ai;clear eq)
     exact gU ih (.fn (af.cls _ _ hk).kp) ab eo vo R e2 λitems r' h' tk Y aa x _=>wY af.cls ae ag hk Y x e3 (O.after aa)
    |_=>exact ns eq
  |_=>exact go eq
 |_=>exact ns eq
theorem zv(Y:fJ Γ ov x N=U (.fn f self)):∃i zD fs k,ov= .ref i/\self= .ref i/\N[i]? =U (.inst zD fs)/\look x fs= .none/\Γ.clss.lookup zD=U k/\k.meths.lookup x=U f:=by
 have no:∀ {m:Option Txt} {g:Txt->Option oN},(∀t,g t≠U (.fn f self))->(match m with| some m=>g m| .none=>.none)≠U (.fn f self):=λ{m g} h e=>by
  cases m with
  |none=>exact ns e
  |some m=>exact h m e
 have qH:∀ {b:Bool} {y:oN} {z:Option oN},y≠ .fn f self->z≠U (.fn f self)->(if b=zG then U y else z)≠U (.fn f self):=λ{b y z} h h' e=>by
  cases b with
  |true=>exact h (aC e)
  |false=>exact h' e
 cases ov with
 |ref i=>
  unfold fJ at Y;dsimp only at Y;cases hi:N[i]? with
  |none=>rw[hi] at Y;exact ns Y
  |some o=>
   rw[hi] at Y;cases o with
   |list I=>exact absurd Y (no λt=>qH (by intro h;cases h) (by intro h;exact ns h))
   |inst zD fs=>
    dsimp only at Y;cases hl:look x fs with
    |some w=>rw[hl] at Y;exact ns Y
    |none=>
     rw[hl] at Y;refine mi Y λf' aa Y=>?_;clear no qH;cases Y;unfold gO at aa;cases hk:Γ.clss.lookup zD with
     |none=>rw[hk] at aa;exact ns aa
     |some k=>rw[hk] at aa;exact((⟨i,zD,fs,k,rfl,rfl,hi,hl,hk,aa⟩))
 |str s=>exact absurd Y (no λt=>qH (by intro h;cases h) (by intro h;exact ns h))
 |cst w=>
  cases w with
  |ref a=>exact absurd Y (no λt=>qH (by intro h;cases h) (qH (by intro h;cases h) (by intro h;exact ns h)))
  |_=>exact ns Y
 |_=>exact ns Y
theorem wU(aj:c.Ok)(aq:iL A n)(ar:ll c n C)(au:Fi c A C)(ih:eV c A ev)(hm:fJ c.Γ ov x N=U m)(hx:c.t.ids[x]? =U name)
  (ae:rV c.t sc es us) (af:Al c.t sc ks ak) (eo:bZ c sc D r.pv) (vo:bV c sc D r s.heap M) (R:c.R r N s.heap) (xo:c.V r s.heap ov uo)
  (e2:dY ev us M N=U (vs,B)) (e3:mD ev ak M B=U (kv,ab)) (eq:hK c.Γ C m vs kv ab=U (v,J)) (O:gp c r s J v Q):
  wpAny c.M A (getMethod uo name pl) (λfx ai=>wpAny c.M A (callWith p fx.1 fx.2 (backTo p (starEach es D)) (backToKw p (keywordEach ks D))) Q E' ai) E' s:=by
 by_cases hf:∃f self,m= .fn f self
 ·refine Er hf λf self q1=>?_;clear hf;subst q1;refine Kx (zv hm) λi zD fs k q8 q9 hi hl hk al=>?_;subst q8;clear hm;subst q9;have F:=aj.cls _ _ hk;refine Hh (F.me _ _ al) λy hy g1 g2 g3=>?_;rw[hx] at hy;(refine si hy λam=>?_;subst am;clear hy);refine JP (R.instAt hi xo) λa d ag n' ao hp aw h1 h2 ax ay hv hn=>?_;subst ao;have X:=c.X.keeps R.base;have hs:shadowIn (U (hD ag n')) name=U zH:=by
   show(lookIn name (hD ag n')).map (λav=>av.isSome)=U zH;rw[w2,hn x name hx hl];rfl
  refine method_fn X (jf h1 h2) (plainGet_of F.pg).1 (plainGet_of F.pg).2 g1 g2 hs ?_;exact hW ih (.fn g3) ae af eo vo R e2 e3 λitems ah r' h' tk aa Y x' y' _=>pC (ar.run aq.n eq aa (.cons (xo.step Y) x') y' (O.after Y))
 ·refine ga (au ov x name m uo r N s hm (λf self e=>hf (Ho f self e)) hx R xo) λf first kf g1 g2=>eS (g1 _ _ _ λtk=>?_);intro _;exact hW ih kf ae af eo vo R e2 e3 λitems ah r' h' ap aa Y x' y' _=>g2 vs kv r' ab J {s with heap:=h',toks:=ap} v items ah eq Y aa x' y' _ _ (O.after Y)
end
theorem EI(ae:c.Ok)(aj:iL A n)(aq:ll c n C)(a6:Fm c A)(a7:Fi c A C){m:Nat}(ao:∀k,k<=m->eV c A (ev c.Γ C k))(af:uq c A (m+1) C t6):eV c A (ev c.Γ C (m+1)):=by
 have ih:eV c A (ev c.Γ C m):= @ao m (aJ _);have a4:=aj.fits;have hu:A.units+100 < cLine:=by have:=aj.un;exact aK (bY (Nat.le_add_right_of_le (bL _ 4)) (by decide)) this
 intro sc e u D r N bb s _ M v tr B Y R eq Q E' O;refine fZ tr λa q2 q3 h=>?_;clear tr;subst q2;subst q3;cases a with
 |cst k w n p=>
  replace O:=O.cast (v₀:=w) (σ₀:=N) eq;cases E0 h with
  |none=>exact aG (O.here R .none)
  |bool b=>exact aG (O.here R (.bool b))
  |int i=>exact wpAny_Constant_int (O.same R (.int i _) _)
  |str x=>exact mH (O.same R (.str _ _) _)
 |dbg x p=>
  replace O:=O.cast (v₀:= .bool zG) (σ₀:=N) eq;show wpAny _ _ (eval (.Name x p) D) _ _ _;rw[arm_eval_Name,if_pos (show(x==Str.ofString "__debug__")=zG from h)];exact aB (fc (by unfold debugConstant;exact aB (ii (aG (O.here R (.bool zG))))))
 |var x i p=>
  refine an h λh1 h=>mi eq λba ar eq=>?_;cases eq;refine cJ (Y.held x i v (of_decide_eq_true (a2 (a2 h))) (of_decide_eq_true (a1 (a2 h))) ar) λu aw ax=>?_;have go:=O.here R ax;rcases aw with⟨ai,m,ay,az⟩| ⟨ai| ai,a,al,am⟩
  ·exact wpAny_Name (wpAny_loadName_local B.kind ai ay az go) (fW h1)
  ·exact wpAny_Name (wpAny_loadName_cell B.kind ai al am go) (fW h1)
  ·exact wpAny_Name (wpAny_loadName_free B.kind ai al am go (fW (a1 h))) (fW h1)
 |glob x w p=>
  exact ji ae.glob (fW (a1 h)) (of_decide_eq_true (a1 (a2 h))) (AB (a2 (a2 h))) B R (O.cast eq)
 |bin o a b p=>
  exact jH ((HD c.Γ C m M N o a.er b.er).symm.trans eq) λx ab e1 e=>jH e λy ah e2 e=>wpAny_BinOp (Gq ih (.mk (a1 h)) (.mk (a2 h)) B Y R e1 e2 λua ub r' h' tk aa J xa xb=>vX a4 aa xa xb e (O.after J))
 |neg a p=>
  refine jH eq λx ab e1 e=>?_;cases x with
  |int i=>
   have ap:=yi e;refine wpAny_UnaryOp (ih (Tr.mk (a:=a) h) B Y R e1 λu r' h' tk aa J x=>?_);intro _;refine dS (x.int_inv) λt q6=>?_;clear x;subst q6;exact neg_int (((O.to ap.2.1 ap.2.2).after J).same aa (.int _ _) _)
  |_=>exact ns e
 |not a p=>exact ns eq
 |and a b p=>
  refine jH eq λx ab e1 e=>BoolOp_and (ih (.mk (a1 h)) B Y R e1 λu r' h' tk aa J xa=>?_);intro _;refine cJ (J8 e) λt ht e=>nC xa ht ?_;cases t with
  |true=>exact ih (.mk (a2 h)) (B.step J) (Y.step B R J) aa e (O.after J)
  |false=>
   exact(O.cast e) _ r' h' tk aa J xa
 |or a b p=>exact ns eq
 |ite q a b p=>
  refine Fa ((HC c.Γ C m M N q.er a.er b.er).symm.trans eq) λx ab e1 e=>wpAny_IfExp (my ae.tab hu (λk hk=>@ao k (bA hk)) ih _ (.mk (a1 h)) B Y R e1 λr' h' tk aa J=>?_);intro _;cases x with
  |true=>exact ih (.mk (a1 (a2 h))) (B.step J) (Y.step B R J) aa e (O.after J)
  |false=>exact ih (.mk (a2 (a2 h))) (B.step J) (Y.step B R J) aa e (O.after J)
 |list es p=>
  refine An ((EJ c.Γ C m M N (oi es)).symm.trans eq) λvs ab e1 e=>?_;skip;refine aB (fc (aB (lW ih (.mk h) B Y R e1 λitems r' h' tk aa J x=>?_)));intro _;have hl:=(wT e).1;exact uD ((O.after J).list e aa x tk) (by rw[x.length];exact aA hl kH)
 |tup es k p=>
  refine An ((HA c.Γ C m M N (oi es)).symm.trans eq) λvs ab e1 e=>jB e λhz e=>?_;replace O:=O.cast (congrArg U e.symm);have hl:=iC hz;skip;refine aB (fc (aB (lW ih (.mk h) B Y R e1 λitems r' h' tk aa J x=>?_)));intro _;exact jC ((O.after J).tup aa x hl tk) (by rw[x.length];exact aA hl kH)
 |cmp o a b p=>
  exact JQ (yO eq) λx y z ah f1 f2 f3 q7=>wpAny_Compare1 (mO ih ae.tab hu (.mk (a1 h)) (.mk (a2 h)) B Y R f1 f2 f3 λr' h' tk aa J=>O _ r' h' tk aa J (q7▸.bool z)) (uO b _)
 |slice a l u t q p=>
  exact an h λh1 h=>jH ((Cr c.Γ C m M N a.er (EO l) (EO u) (EO t)).symm.trans eq) λx ab e1 e=>jH e λlv ah e2 e=>jH e λuv au e3 e=>jH e λsv a' e4 e=>u5 ih (.mk h1) (.mk (a1 h)) (.mk (a1 (a2 h))) (.mk (a2 (a2 h))) B Y R e1 e2 e3 e4 e O
 |sub a i p=>
  refine jH ((HB c.Γ C m M N a.er i.er).symm.trans eq) λx ab e1 e=>jH e λy ah e2 e=>mi e λv' hv e=>?_;replace O:=O.cast (congrArg U e);exact Subscript_ (Gq ih (.mk (a1 (a2 h))) (.mk (a2 (a2 h))) B Y R e1 e2 λua ub r' h' tk aa J xa xb=>y7 (fW (a1 h)) aa xa xb hv (O.after J))
 |clsA k p x q w=>
  refine an h λh1 h=>an h λh2 h3=>?_;replace O:=O.cast (v₀:=w) (σ₀:=N) eq;cases hg:c.t.glob k with
  |none=>rw[hg] at h3;exact ft h3
  |some gw=>
   rw[hg] at h3;cases gw with
   |cst cw=>
    cases cw with
    |ref ad=>
     refine pb (ae.cat _ _ _ (AB h3)) λmc u a1 a2 a8 a9=>Attribute_any_ (ji ae.glob (fW h2) (of_decide_eq_true h1) hg B R λu' r' h' tk aa J x=>?_);intro _;obtain rfl:=x.cst_inv;exact cls_value (c.X.keeps aa.base) a1 a2 a8 ((O.after J).same aa (VR.base aa a9) _)
    |_=>exact ft h3
   |_=>exact ft h3
 |attr a x i p=>
  refine J0 ((yI c.Γ C m M N a.er i).symm.trans eq) λj ab e1 e=>mi e λv' hv e=>?_;replace O:=O.cast (congrArg U e);refine Attribute_any_ (ih (.mk (a1 (a2 h))) B Y R e1 λua r' h' tk aa J xa=>xG ae.cls aa xa (Tx.id_get (of_decide_eq_true (a2 (a2 h)))) hv (O.after J)) ?_;rw[arm_eval_Attribute];rw[iY (fW (a1 h))]
 |callM o x i q as ks p=>
  refine an h λh1 h=>an h λh2 h=>an h λh3 h=>an h λh4 h=>jH ((Ct c.Γ C m M N o.er i (oi as) (Ih ks)).symm.trans eq) λov ab e1 e=>cJ (Ki e) λme hm e=>An e λvs ah e2 e=>Lk e λkv au e3 e=>jp (of_decide_eq_true h1) (fW h2) (by rw[mT,wn];exact aY h3) (.mk (a1 (a2 h))) (.mk (a2 (a2 h))) (ih (.mk h4) B Y R e1 λuo a0 a3 av ak ag xo=>?_);intro _;exact wU ae aj aq a7 ih hm (Tx.id_get (of_decide_eq_true (a1 h))) (.mk (a1 (a2 h))) (.mk (a2 (a2 h))) (B.step ag) (Y.step B R ag) ak xo e2 e3 e (O.after ag)
 |call f as p=>
  refine jH ((EM c.Γ C m M N f.er (oi as)).symm.trans eq) λfv ab e1 e=>An e λvs ah e2 e=>?_;show wpAny _ _ (eval (.Call f.un (np as) [] p) D) _ _ _;rw[t7 (fW (a1 h))];refine aB (ih (.mk (a1 (a2 h))) B Y R e1 λuf a0 a3 av ak ag xf=>?_);intro _;exact vU ae aj aq a6 ih (.mk (a2 (a2 h))) (B.step ag) (Y.step B R ag) ak xf e2 e (O.after ag)
 |dsub ks vs q i p=>exact af rfl (.mk h) B Y R eq O
 |dsubS ks vs q i p=>exact af rfl (.mk h) B Y R eq O
 |listZip f fp z zp zs q p=>exact af rfl (.mk h) B Y R eq O
 |repl a q x n1 p1 y n2 p2 p=>exact af rfl (.mk h) B Y R eq O
 |fv a p=>exact af rfl (.mk h) B Y R eq O
 |fmt es p=>exact af rfl (.mk h) B Y R eq O
 |comp2 elt tg it bc it2 ifs a5 own p=>exact af rfl (.mk h) B Y R eq O
 |comp elt tg it ifs a5 own p=>exact af rfl (.mk h) B Y R eq O
end
structure eA(X:Addr->Prop)(r:Rh)(h:Heap)(r':Rh)(h':Heap):Prop where
 ext:∃τ,r'.ob=r.ob++τ/\∀p∈τ,h.get? p.1=zF/\h.get? p.2=zF
 pv:r'.pv=r.pv
 keep:∀b o,h.get? b=U o->¬r.own b->¬X b->h'.get? b=U o
 live:∀b o,h.get? b=U o->∃o',h'.get? b=U o'
section
variable{X aa:Addr->Prop}{r B J:Rh}{h h' Y:Heap}
theorem dH.x(S:dH r h B h'):eA X r h B h':=⟨S.ext,S.pv,λb o e n ab=>S.keep b o e n,S.live⟩
theorem eA.mono(S:eA X r h B h')(ab:∀b,X b->aa b):eA aa r h B h':=⟨S.ext,S.pv,λb o e n m=>S.keep b o e n λq=>m (ab b q),S.live⟩
theorem eA.own_old(S:eA X r h B h')(e:h.get? b=U o)(hb:B.own b):r.own b:=by
 refine cJ (S.ext) λae ab hf=>cJ hb λp hp hb=>?_;rw[ab] at hp;rcases aO.mp hp with hp| hp
 ·exact⟨p,hp,hb⟩
 ·refine f7 (hf p hp) λh1 h2=>?_;rcases hb with rfl| rfl
  ·rw[h1] at e;exact ns e
  ·rw[h2] at e;exact ns e
theorem eA.mut_old(S:eA X r h B h'){b:Addr}(e:h.get? b=U o)(hb:B.mut b):r.mut b:=by
 rcases hb with hb| hb
 ·exact .inl (S.own_old e hb)
 ·exact .inr (S.pv▸hb)
theorem eA.trans(S:eA X r h B h')(ab:eA X B h' J Y):eA X r h J Y:=by
 refine⟨?_,ab.pv.trans S.pv,λb o e hb hx=>ab.keep b o (S.keep b o e hb hx) (λag=>hb (S.own_old e ag)) hx,λb o e=>?_⟩
 ·refine cJ (S.ext) λaj ah hf=>cJ (ab.ext) λai af ae=>(cU (aj++ai) (by rw[af,ah,cN]) (λp hp=>?_));rcases aO.mp hp with hp| hp
  ·exact hf p hp
  ·have no:∀a,h'.get? a=zF->h.get? a=zF:=λa ha=>by
    cases q:h.get? a with
    |none=>rfl
    |some o=>obtain⟨o',e'⟩:=S.live a o q;rw[ha] at e';exact ns e'
   exact⟨no _ (ae p hp).1,no _ (ae p hp).2⟩
 ·exact dS (S.live b o e) λo' e'=>ab.live b o' e'
theorem eA.at_ob(S:eA X r h B h'){i:Nat}(e:r.ob[i]? =U p):B.ob[i]? =U p:=by
 refine cJ (S.ext) λae ab af=>?_;have hl:=aZ e;rw[ab,bM hl];exact e
theorem eA.mv(S:eA X r h B h')(ab:∀b,X b->b∈r.pv):Mv r h B h':=
 ⟨λae ae e=>S.at_ob e,λa o e f=>⟨S.keep a o e (λq=>f (.inl q)) λq=>f (.inr (ab a q)),λq=>f (S.mut_old e q)⟩⟩
theorem eA.refl:eA X r h r h:=(dH.refl r h).x
theorem jj.chg(R:jj P ids ae r N h)(ab:∀b,X b->b∈r.pv)(k:∀b o,h.get? b=U o->¬X b->h'.get? b=U o)(lv:∀b o,h.get? b=U o->∃o',h'.get? b=U o'):
  jj P ids ae r N h'/\eA X r h r h':=by
 have S:eA X r h r h':=⟨(cU [] (by simp) (λaf hq=>nomatch hq)),rfl,λb o e af n=>k b o e n,lv⟩;have ow:∀b,r.own b->¬X b:=λb hb hx=>R.pvo b (ab b hx) hb;refine⟨⟨λb o e=>k b o (R.base b o e) λhx=>?_,R.len,λi o p e e'=>?_,R.fresh,R.apart,R.pvo,λb hb=>?_⟩,S⟩
 ·exact ns ((R.fresh b (.inr (ab b hx))).symm.trans e)
 ·have hm:p∈r.ob:=bF e';exact(R.obj i o p e e').mv (S.mv ab) (λob q=>k _ ob q (ow _ ⟨p,hm,.inl rfl⟩)) λob q=>k _ ob q (ow _ ⟨p,hm,.inr rfl⟩)
 ·exact dS (R.pvl b hb) λo e=>lv b o e
theorem jj.enter(R:jj P ids ae r N h)(k:∀b o,h.get? b=U o->h'.get? b=U o)(n:∀b∈L,h.get? b= .none)(l:∀b∈L,∃o,h'.get? b=U o):
  jj P ids ae {r with pv:=r.pv++L} N h'/\Mv r h {r with pv:=r.pv++L} h':=by
 have zB:Mv r h {r with pv:=r.pv++L} h':=⟨λab ab e=>e,λa o e f=>⟨k a o e,λq=>by
  rcases q with q| q
  ·exact f (.inl q)
  ·rcases aO.mp q with q| q
   ·exact f (.inr q)
   ·exact ns ((n a q).symm.trans e)⟩⟩
 refine⟨⟨λb o e=>k b o (R.base b o e),R.len,λi o p e e'=>(R.obj i o p e e').mv zB (λab q=>k _ _ q) λab q=>k _ _ q,λb hb=>?_,R.apart,λb hb ho=>?_,λb hb=>?_⟩,zB⟩
 ·rcases hb with hb| hb
  ·exact R.fresh b (.inl hb)
  ·rcases aO.mp hb with hb| hb
   ·exact R.fresh b (.inr hb)
   ·cases q:ae.get? b with
    |none=>rfl
    |some o=>have:=R.base b o q;rw[n b hb] at this;exact ns this
 ·rcases aO.mp hb with hb| hb
  ·exact R.pvo b hb ho
  ·exact dS (R.ownLive ho) λo e=>ns ((n b hb).symm.trans e)
 ·rcases aO.mp hb with hb| hb
  ·exact dS (R.pvl b hb) λo e=>⟨o,k b o e⟩
  ·exact l b hb
theorem eA.exit(k:∀b o,h.get? b=U o->ab.get? b=U o)(n:∀b∈L,h.get? b= .none)(S:eA X {r with pv:=r.pv++L} ab B h')(af:∀b,X b->b∈L):dH r h {B with pv:=r.pv} h':=by
 refine⟨?_,rfl,λb o e hb=>S.keep b o (k b o e) hb λq=>?_,λb o e=>S.live b o (k b o e)⟩
 ·refine cJ (S.ext) λag ae hf=>?_;have no:∀a,ab.get? a=zF->h.get? a=zF:=λa ha=>by
   cases q:h.get? a with
   |none=>rfl
   |some o=>have:=k a o q;rw[ha] at this;exact ns this
  exact(cU ag ae (λp hp=>⟨no _ (hf p hp).1,no _ (hf p hp).2⟩))
 ·have:=n b (af b q);rw[e] at this;exact sn this
end
def mS(sc:Scope)(D:Env)(b:Addr):Prop:=b=D.locals\/∃x,sc.names.lookup x=U .cell/\D.cells.lookup x=U b
theorem aW.get_set:aW.get y (aW.set x v M)=if y=x then U v else aW.get y M:=by
 have one:∀w r,aW.get y ((x,w)::r)=if y=x then w else aW.get y r:=λw r=>by
  rw[aW.get_cons];by_cases h:y=x
  ·(refine Eq.symm (if_pos h)▸?_;exact Eq.symm (if_pos (beq_iff_eq.mpr h.symm))▸rfl)
  ·(refine Eq.symm (if_neg h)▸?_;exact Eq.symm (if_neg λq=>h (eq_of_beq q).symm)▸rfl)
 induction M with
 |nil=>exact one _ []
 |cons p r Y=>
  cases p with
  |mk z w=>
   rw[aW.set_cons];by_cases J:(z==x)=zG
   ·cases eq_of_beq J
    (refine Eq.symm (if_pos J)▸?_;rw[one,one])
    by_cases h:y=x
    ·(refine Eq.symm (if_pos h)▸?_;exact Eq.symm (if_pos h)▸rfl)
    ·(refine Eq.symm (if_neg h)▸?_;refine Eq.symm (if_neg h)▸?_;exact Eq.symm (if_neg h)▸rfl)
   ·(refine Eq.symm (if_neg J)▸?_;rw[aW.get_cons,aW.get_cons];refine Y.symm▸?_)
    by_cases B:(z==y)=zG
    ·(refine Eq.symm (if_pos B)▸?_;refine Eq.symm (if_pos B)▸?_;exact Eq.symm (if_neg λh=>J (beq_iff_eq.mpr ((eq_of_beq B).trans h)))▸rfl)
    ·(refine Eq.symm (if_neg B)▸?_;exact Eq.symm (if_neg B)▸rfl)
section
variable{c:Cx}{A:Around}{E':Value->Shared->Prop}{s:Shared}[NeZero s.toks]{sc:Scope}{D:Env}{r:Rh}{N:H}{M B:aW}{v:V}{u:Value}
theorem mS.pv(J:bZ c sc D r.pv):∀b,mS sc D b->b∈r.pv:=λb Y=>by
 rcases Y with rfl| ⟨x,_,hx⟩
 ·exact J.lpv
 ·exact J.cpv _ _ hx
def n8(c:Cx)(sc:Scope)(D:Env)(r:Rh)(s:Shared)(Y:H)(B:aW)(Q:Shared->Prop):Prop:=
 ∀J h' tk,c.R J Y h'->eA (mS sc D) r s.heap J h'->bV c sc D J h' B->[NeZero tk]->Q {s with heap:=h',toks:=tk}
theorem n8.after(O:n8 c sc D r s J B Q)(S:eA (mS sc D) r s.heap r' h'):n8 c sc D r' {s with heap:=h',toks:=tk} J B Q:=
 λY aa ab ae af vo=>O Y aa ab ae (S.trans af) vo
theorem GC(h:zm sc x=zG):sc.names.lookup x=U .local\/sc.names.lookup x=U .cell:=by
 unfold zm at h;generalize sc.names.lookup x=o at h⊢;cases o with
 |none=>exact ft h
 |some k=>cases k with
  | «local» =>exact .inl rfl
  |cell=>exact .inr rfl
  |_=>exact ft h
theorem lD(ho:zm sc x=zG)(hi:c.t.id x=U i)(Y:bZ c sc D r.pv)(vo:bV c sc D r s.heap M)(R:c.R r N s.heap)(xv:c.V r s.heap v u)
  (O:n8 c sc D r s N (M.set i v) (Q ())):wpAny c.M A (storeName D x u) Q E' s:=by
 refine dS (vo.ns) λm hm=>?_;have af:∀y,c.t.id y=U i->y=x:=λy hy=>by
  have h1:=Tx.id_get hy;replace h1:=(Tx.id_get hi)▸h1;(refine si h1 λq5=>?_;clear hy;subst q5;clear h1);rfl
 rcases GC ho with hl| hl
 ·have hk:=Y.loc x hl;refine wpAny_storeName_local hk hm (λh' ab aa=>?_) (by refine Eq.symm (Y.kind)▸?_;rfl);obtain⟨ak,ae⟩:=R.chg (mS.pv Y) (λb o e n=>(aa.2 b λq=>n (.inl q)).trans e) (λb o e=>by
   by_cases q:b=D.locals
   ·clear e;subst q;obtain⟨o',es,ep,e',_⟩:=ab;exact⟨o',e'⟩
   ·exact⟨o,(aa.2 b q).trans e⟩)
  refine O r h' _ ak ae ⟨⟨_,ab⟩,λy a e=>?_,λy j w e1 e2 J=>?_⟩
  ·exact je (vo.cells y a e) λv o ho hd=>⟨v,o,(aa.2 a (Y.apl y a e)).trans ho,hd⟩
  ·replace J:=(aW.get_set)▸J;by_cases hj:j=i
   ·clear O;subst hj;replace J:=(if_pos rfl)▸J;(refine si J λq7=>?_;subst q7;clear J);have:=af y e1;clear ho hl hi af;subst this;exact(cU u (.inl ⟨hk,_,ab,by simp⟩) (xv.mv (ae.mv (mS.pv Y))))
   ·replace J:=(if_neg hj)▸J;have ai:y≠x:=λq=>by subst q;replace e1:=hi▸e1;(refine si e1 λq9=>?_;clear J;subst q9;clear e1);exact hj rfl
    refine cJ (vo.held y j w e1 e2 J) λw' hw hr=>(cU w' ?_ (hr.mv (ae.mv (mS.pv Y))));rcases hw with⟨k1,m1,n1,q1⟩| ⟨k1,a,a1,o,b1,b2⟩
    ·refine .inl ⟨k1,_,ab,?_⟩;simp only[ai,if_false];refine q1▸?_;exact congrFun ((by
       refine Ar hm λaz aw ax e d k f=>?_;clear hm;refine Ar n1 λay au av ag ah al am=>?_;clear n1;replace ag:=e▸ag;(refine si ag λao=>?_;subst ao;clear ag);replace ah:=d▸ah;clear al;cases ah
       funext z;(refine(f z)▸?_;exact(am z)▸rfl))) y
    ·exact .inr ⟨k1,a,a1,o,(aa.2 a (Y.apl y a a1)).trans b1,b2⟩
 ·refine f7 (Y.cel x hl) λhk hs=>dS (cR.mp hs) λa ha=>dS (vo.cells x a ha) λv0 hc=>wpAny_storeName_cell Y.kind hk ha hc λh' ab aa=>?_;obtain⟨ak,ae⟩:=R.chg (mS.pv Y) (λb o e n=>(aa.2 b λq=>n (.inr (cU x hl (q▸ha)))).trans e) (λb o e=>by
   by_cases q:b=a
   ·clear ha hc aa;subst q;obtain⟨o',e',_⟩:=ab;exact⟨o',e'⟩
   ·exact⟨o,(aa.2 b q).trans e⟩)
  have aj:D.locals≠a:=Ne.symm (Y.apl x a ha);have ap:h'.Ns D.locals m:=hm.at' λo e=>(aa.2 _ aj).trans e;refine O r h' s.toks ak ae ⟨⟨_,ap⟩,λy b e=>?_,λy j w e1 e2 J=>?_⟩
  ·by_cases q:b=a
   ·clear ha hc aa aj;subst q;exact⟨_,ab⟩
   ·exact je (vo.cells y b e) λv o ho hd=>⟨v,o,(aa.2 b q).trans ho,hd⟩
  ·replace J:=(aW.get_set)▸J;by_cases hj:j=i
   ·clear O;subst hj;replace J:=(if_pos rfl)▸J;(refine si J λaq=>?_;subst aq;clear J);have:=af y e1;clear ho hl hs hi af;subst this;exact(cU u (.inr ⟨.inl hk,a,ha,ab⟩) (xv.mv (ae.mv (mS.pv Y))))
   ·replace J:=(if_neg hj)▸J;have ai:y≠x:=λq=>by subst q;replace e1:=hi▸e1;(refine si e1 λar=>?_;clear J;subst ar;clear e1);exact hj rfl
    refine cJ (vo.held y j w e1 e2 J) λw' hw hr=>(cU w' ?_ (hr.mv (ae.mv (mS.pv Y))));rcases hw with⟨k1,m1,n1,q1⟩| ⟨k1,b,a1,o,b1,b2⟩
    ·exact .inl ⟨k1,m1,n1.at' λo e=>(aa.2 _ aj).trans e,q1⟩
    ·have:b≠a:=λq=>ai (Y.inj y x b a1 (q▸ha));exact .inr ⟨k1,b,a1,o,(aa.2 b this).trans b1,b2⟩
theorem mM(a:AT)(J:List Expr):assignEach (a.un::J) D=(zH,assign a.un D)::assignEach J D:=by cases a<;>rfl
theorem rS:∀as:List AT,(assignEach (jT as) D).findIdx? (λJ=>J.1)=zF/\(assignEach (jT as) D).length=(oG as).length:=by
 intro as;induction as with
 |nil=>exact⟨rfl,rfl⟩
 |cons a r aa=>
  have Y:=aa;show(assignEach (a.un::jT r) D).findIdx? (λJ=>J.1)=zF/\(assignEach (a.un::jT r) D).length=(oG r).length+1;rw[mM];constructor
  ·(refine Eq.symm (List.findIdx?_cons)▸?_;refine Eq.symm (if_neg aU)▸?_;refine Y.1.symm▸?_);rfl
  ·(refine Eq.symm (fy)▸?_;exact Y.2.symm▸rfl)
theorem oj{f:aW->Option J}{y:J} (e:(match o with
  |some x=>f x
  |.none=>.none)=U y):∃x,o=U x/\f x=U y:=by
 cases o with
 |none=>exact ns e
 |some x=>exact(cU x rfl e)
theorem vY(e:j5 (t::ts) vs N M=U B):∃v J Y,vs=v::J/\gc t v N M=U Y/\j5 ts J N Y=U B:=by
 cases vs with
 |nil=>exact ns e
 |cons v J=>
  exact cJ (oj (f:=λB=>j5 ts J N B) e) λY e1 e2=>(JT v J Y rfl e1 e2)
theorem xD(e:j5 J vs N M=U B):J.length=vs.length:=by
 induction J generalizing vs M with
 |nil=>cases vs with
  |nil=>rfl
  |cons _ _=>exact ns e
 |cons t J Y=>
  refine I8 (vY e) λv ws aa q aa e2=>?_;clear e;subst q;exact congrArg Nat.succ (Y e2)
theorem bZ.stepX(J:bZ c sc D r.pv)(S:eA X r h Y h'):bZ c sc D Y.pv:=S.pv▸J
mutual
theorem sY(hh:A.handled=zF):∀(a:AT),a.ok c.t sc=zG->∀ {r:Rh} {s:Shared} [NeZero s.toks] {v:V} {u:Value} {M B:aW},bZ c sc D r.pv->bV c sc D r s.heap M->c.R r N s.heap->c.V r s.heap v u->
  gc a.er v N M=U B->∀ {Q:Unit->Shared->Prop},n8 c sc D r s N B (Q ())->wpAny c.M A (assign a.un D u) Q E' s
 |.name x i p=>by
  intro h r s _ v u M B J vo R Y eq Q O
  (refine si eq λab=>?_;subst ab;clear eq)
  exact wpAny_assign_Name (lD (a1 h) (of_decide_eq_true (a2 h)) J vo R Y O)
 |.tup ts k p=>by
  intro h r s _ v u M B J vo R Y eq Q O;cases v with
  |tup vs=>
   refine Aq (Y.tup_inv) λitems n a q1 ha hm hx hz=>?_;clear Y;subst q1;have aa:=rS (D:=D) ts;refine assign_Tuple_tuple hh (jo ha) (by(refine aa.2.symm▸?_;refine Eq.symm (xD eq)▸?_;refine Eq.symm (bI)▸?_;exact Eq.symm (hx.length)▸rfl)) aa.1 λh' he=>?_;have kp:∀b o,s.heap.get? b=U o->h'.get? b=U o:=λb o e=>he b o (bT (dD e)) e;have S:=dH.grow (r:=r) kp;exact qZ hh ts h J (vo.step J R S) (R.grow kp) (hx.step S) eq (O.after S.x)
  |_=>exact ns eq
theorem qZ(hh:A.handled=zF):∀(as:List AT),zn c.t sc as=zG->∀ {r:Rh} {s:Shared} [NeZero s.toks] {vs:List V} {us:List Value} {M B:aW},bZ c sc D r.pv->bV c sc D r s.heap M->c.R r N s.heap->dZ c.w.params r s.heap vs us->
  j5 (oG as) vs N M=U B->∀ {Q:Unit->Shared->Prop},n8 c sc D r s N B (Q ())->wpAny c.M A (assignInOrder ((assignEach (jT as) D).map (λab=>ab.2)) us) Q E' s
 |[]=>by
  intro h r s _ vs us M B J vo R Y eq Q O;cases vs with
  |nil=>obtain rfl:=Y.inv;obtain rfl:=aC eq;exact aG (O r s.heap s.toks R .refl vo)
  |cons _ _=>exact ns eq
 |a::as=>by
  intro h r s _ vs us M B J vo R Y eq Q O;refine I8 (vY eq) λv ws ag q2 e1 e2=>?_;clear eq;subst q2;refine ga Y.inv λu ak q x y=>?_;clear Y;subst q;show wpAny _ _ (assignInOrder ((assignEach (a.un::jT as) D).map (λab=>ab.2)) _) _ _ _;rw[mM];refine aB (cZ (sY hh a (a1 h) J vo R x e1 λai aj ah af aa ae=>?_));intro _;exact qZ hh as (a2 h) (J.stepX aa) ae af (y.mv (aa.mv (mS.pv J))) e2 (O.after aa)
end
theorem jb(Y:A.handled=zF)(J:T)(tr:wd c.t sc e J)[NeZero s.toks](eo:bZ c sc D r.pv)(vo:bV c sc D r s.heap M)(R:c.R r N s.heap)(xv:c.V r s.heap v u)
  (eq:gc J v N M=U B) (O:n8 c sc D r s N B (Q ())):wpAny c.M A (assign e D u) Q E' s:=by
 refine fZ tr λa q3 q4 h=>?_;clear tr;subst q3;subst q4;exact sY Y a h eo vo R xv eq O
end
inductive pp(c:Cx)(A:Around)(r:Rh)(h:Heap):gx->Addr->List Addr->Prop
 |ls (i k:Nat) (zE a:Addr):r.ob[i]? =U (a,a)->h.IsListIter zE a k->pp c A r h (.one (.ls i k)) zE [zE]
 |vs (l:List V) (zE:Addr) (fp wr:List Addr) (n k:Nat) (P:Nat->Value->Prop) (St:Nat->Heap->Prop):Walks c.prog c.w A zE fp wr n P St->(∀b∈wr,b=zE)->(∀b∈fp,b=zE\/(¬r.mut b/\∃o,h.get? b=U o))->St k h->k+l.length=n->
   (∀i h,St i h->∃o,h.get? zE=U o)->(∀j w,l[j]? =U w->∀v,P (k+j) v->VR c.w.params r h w v)->pp c A r h (.one (.vs l)) zE [zE]
 |enum (i k:Nat) (zE it a:Addr) (old:Value):r.ob[i]? =U (a,a)->IsEnum h zE it (k:Int) old->h.IsListIter it a k->zE≠it->pp c A r h (.enum i k) zE [zE,it]
 |zip (i j k:Nat) (z TI TO i1 i2 a1 a2:Addr):r.ob[i]? =U (a1,a1)->r.ob[j]? =U (a2,a2)->ZipApart z TI TO i1 i2 a1 a2->IsZip h z TI TO .none->IsPair h TI (.ref i1) (.ref i2)->(∃a b,IsPair h TO a b)->h.IsListIter i1 a1 k->h.IsListIter i2 a2 k->pp c A r h (.zip i j k) z [z,TI,TO,i1,i2]
 |its (ks:List Txt) (vs:List V) (zE d:Addr) (ks₀:List Txt) (us:List Value) (i ep:Nat) (ok ov:Value):IsItemIter h zE d i ks₀.length ep ok ov->rl c.w.params h ks₀ us d ep->¬r.mut d->ks=ks₀.drop i->dZ c.w.params r h vs (us.drop i)->pp c A r h (.its ks vs) zE [zE]
section
variable{c:Cx}{A:Around}{E':Value->Shared->Prop}{s:Shared}[NeZero s.toks]{sc:Scope}{D:Env}{r Y:Rh}{h h':Heap}{N:H}{B J:gx}{zE:Addr}{L:List Addr}{v:V}
theorem pp.keep(zB:Mv r h Y h')(k:∀b∈L,∀o,h.get? b=U o->h'.get? b=U o)(x:pp c A r h B zE L):pp c A Y h' B zE L:=by
 revert k;refine pp.rec ?_ ?_ ?_ ?_ ?_ x
 ·intro i k' zE a h1 h2 k;exact .ls i k' zE a (zB.ob _ _ h1) (h2.at λo e=>k zE (.head _) o e)
 ·intro l zE fp wr n k' P St W h1 h2 h3 h4 h5 h6 k;refine .vs l zE fp wr n k' P St W h1 (λb hb=>?_) (W.frame _ _ _ h3 λb hb o e=>?_) h4 h5 λj w e v p=>(h6 j w e v p).mv zB
  ·rcases h2 b hb with q| ⟨q,o,e⟩
   ·exact .inl q
   ·exact .inr ⟨(zB.fz b o e q).2,o,(zB.fz b o e q).1⟩
  ·rcases h2 b hb with q| ⟨q,_⟩
   ·exact k b (q▸.head _) o e
   ·exact(zB.fz b o e q).1
 ·intro i k' zE B a ae h1 h2 h3 h4 k;exact .enum i k' zE B a ae (zB.ob _ _ h1) (k zE (.head _) _ h2) (h3.at λo e=>k B (.tail _ (.head _)) o e) h4
 ·intro i j k' z TI aa i1 i2 a1 a2 p1 p2 ah hz af ag h1 h2 k;exact .zip i j k' z TI aa i1 i2 a1 a2 (zB.ob _ _ p1) (zB.ob _ _ p2) ah (k z (.head _) _ hz) (k TI (.tail _ (.head _)) _ af) (ag.imp λa q=>q.imp λb q=>k aa (.tail _ (.tail _ (.head _))) _ q) (h1.at λo e=>k i1 (.tail _ (.tail _ (.tail _ (.head _)))) o e) (h2.at λo e=>k i2 (.tail _ (.tail _ (.tail _ (.tail _ (.head _))))) o e)
 ·intro ks vs zE d ab us i ep ok ov h1 h2 h3 h4 h5 k;exact .its ks vs zE d ab us i ep ok ov (k zE (.head _) _ h1) (h2.mv zB h3).1 (h2.mv zB h3).2 h4 (h5.mv zB)
theorem yg(ht:wd t sc tg (.name i))(B v:Value):letOwnedTupleGo tg B v=pure ():=by
 refine fZ ht λa q1 e aa=>?_;clear ht;subst q1;cases a with
 |name _ _ _=>rfl
 |tup _ _ _=>cases e
theorem tZ(ht:wd t sc tg (.tup ts)){B u:Value}{P:Sem Unit->Prop}(h:∀es k p,P (letOwnedTupleGo (.Tuple es k p) B u)):P (letOwnedTupleGo tg B u):=by
 refine fZ ht λb q3 eb ab=>?_;subst q3;cases b with
 |name _ _ _=>exact nomatch eb
 |tup aa k' p'=>exact h _ _ _
theorem yn(e:(gx.one (.ls i k)).next N=U (U (v,J))):∃I,N[i]? =U (.list I)/\I[k]? =U v/\J= .one (.ls i (k+1)):=by
 unfold gx.next Zc.next at e;dsimp only at e;generalize N[i]? =o at e;cases o with
 |none=>exact ns e
 |some o=>cases o with
  |inst zD fs=>exact ns e
  |list I=>
   dsimp only at e;cases q':I[k]? with
   |none=>rw[q'] at e;exact ns (aC e)
   |some w=>rw[q'] at e;refine sp (aC e) λq1 q2=>?_;clear e;subst q1;exact(g8 I rfl q' q2.symm)
theorem G8(e:(gx.one (.ls i k)).next N=U .none):∃I,N[i]? =U (.list I)/\I[k]? = .none:=by
 unfold gx.next Zc.next at e;dsimp only at e;generalize N[i]? =o at e;cases o with
 |none=>exact ns e
 |some o=>cases o with
  |inst zD fs=>exact ns e
  |list I=>
   dsimp only at e;cases q':I[k]? with
   |some w=>rw[q'] at e;exact sn (aC e)
   |none=>exact(cU I rfl q')
theorem oH(e:(gx.enum i k).next N=U o):∃I,N[i]? =U (.list I)/\o=(I[k]?).map λv=>(.tup [.int (k:Int),v],.enum i (k+1)):=by
 unfold gx.next at e;dsimp only at e;generalize N[i]? =x at e;cases x with
 |none=>exact ns e
 |some x=>cases x with
  |inst zD fs=>exact ns e
  |list I=>
   refine(cU I rfl ?_);dsimp only at e;cases q':I[k]? with
   |none=>rw[q'] at e;exact(aC e).symm
   |some w=>rw[q'] at e;exact(aC e).symm
theorem we(e:(gx.zip i j k).next N=U o):∃I ys,N[i]? =U (.list I)/\N[j]? =U (.list ys)/\((∃v w,I[k]? =U v/\ys[k]? =U w/\o=U (.tup [v,w],.zip i j (k+1)))\/(I[k]? = .none/\o= .none)):=by
 refine bi e λI h1 e=>bi e λys h2 e=>?_;have hi:=ms h1;have hj:=ms h2;refine(iS I ys hi hj ?_);cases hv:I[k]? with
 |none=>rw[hv] at e;exact .inr ⟨rfl,(aC e).symm⟩
 |some v=>
  rw[hv] at e;cases hw:ys[k]? with
  |none=>rw[hw] at e;exact ns e
  |some w=>rw[hw] at e;exact .inl (iS v w rfl rfl ((aC e).symm))
theorem Gd(aa:s.heap.IsListIter zE a n)(h:Q () s):wpAny c.M A (letOwnedTupleGo (.Tuple es k p) (.ref zE) u) Q E' s:=by
 cases u with
 |ref b=>
  refine fZ aa λo ho hc hd=>aB (wpAny_load ho ?_);rw[hc,hd];skip;refine j7 (by rw[dR];exact λq=>absurd q.1 (by decide)) ?_;exact aG h
 |_=>exact aG h
theorem ja(h:Heap):h.get? h.objs.size= .none:=by
 cases q:h.get? h.objs.size with
 |none=>rfl
 |some o=>exact absurd (dD q) (cD _)
theorem dN:b∈ [zE]↔b=zE:=aH
theorem D1{i k a:Nat}(R:c.R r N s.heap)(af:∀b∈ [zE],b∈r.pv)(h1:r.ob[i]? =U (a,a))(h2:s.heap.IsListIter zE a k)(e:(gx.one (.ls i k)).next N=U (U (v,J))){tg:Expr}{t:T}(ht:wd c.t sc tg t){Q:Value->Shared->Prop}
  (O:∀u h' tk,c.R r N h'->eA (λag=>ag∈ [zE]) r s.heap r h'->c.V r h' v u->pp c A r h' J zE [zE]->[NeZero tk]->Q u {s with heap:=h',toks:=tk}):
  wpAny c.M A (pyNext (.ref zE)) (λo ai=>∃u,o=U u/\wpAny c.M A (letOwnedTupleGo tg (.ref zE) u) (λag aa=>Q u aa) E' ai) E' s:=by
 refine fZ (yn e) λI hx hw q2=>R.lisE hx h1 λitems n hg aj=>cJ (aj.get hw) λu hu hv=>wpAny_pyNext_list_item h2 (dG hg) ((cA ..).trans hu) λh' ab ae=>(cU u rfl ?_);refine f7 (R.chg (h':=h') af (λb o eb n=>(ae.2 b λq=>n (dN.mpr q)).trans eb) (λb o eb=>by
  by_cases q:b=zE
  ·clear af h2 O ae;subst q;exact ab.elim λo' z=>⟨o',z.1⟩
  ·exact⟨o,(ae.2 b q).trans eb⟩)) λak ah=>?_
 have fin:=O u h' s.toks ak ah (hv.mv (ah.mv af)) (q2▸.ls i (k+1) zE a h1 ab);cases t with
 |name j=>rw[yg ht];exact aG fin
 |tup ts=>
  exact tZ ht (P:=λm=>wpAny c.M A m (λag aa=>Q u aa) E' _) λal k' p'=>Gd ab fin
theorem DZ{l:List V}{fp wr:List Addr}{n k:Nat}{P:Nat->Value->Prop}{St:Nat->Heap->Prop}(R:c.R r N s.heap)(aa:∀b∈ [zE],b∈r.pv)(W:Walks c.prog c.w A zE fp wr n P St)(h1:∀b∈wr,b=zE)(h2:∀b∈fp,b=zE\/(¬r.mut b/\∃o,s.heap.get? b=U o))(h3:St k s.heap)(h4:k+l.length=n)
  (h5:∀i h,St i h->∃o,h.get? zE=U o) (h6:∀j w,l[j]? =U w->∀v,P (k+j) v->VR c.w.params r s.heap w v) (e:(gx.one (.vs l)).next N=U (U (v,J))) {tg:Expr} (ht:wd c.t sc tg t) (ok:lM t (.one (.vs l))=zG) {Q:Value->Shared->Prop}
  (O:∀u h' tk,c.R r N h'->eA (λab=>ab∈ [zE]) r s.heap r h'->c.V r h' v u->pp c A r h' J zE [zE]->[NeZero tk]->Q u {s with heap:=h',toks:=tk}):
  wpAny c.M A (pyNext (.ref zE)) (λo af=>∃u,o=U u/\wpAny c.M A (letOwnedTupleGo tg (.ref zE) u) (λab ag=>Q u ag) E' af) E' s:=by
 cases l with
 |nil=>exact ns (aC e)
 |cons w l=>
  refine sp (aC e) λq1 q2=>?_;subst q1;clear e;subst q2;cases t with
  |tup ts=>exact ft ok
  |name j=>
   refine eS (W.item k s _ E' (h4▸oT (jD _)) h3 λu h' tk hp st hk=>?_);intro _;refine(cU u rfl ?_);rw[yg ht];refine aG ?_;have kx:∀b o,s.heap.get? b=U o->¬b∈ [zE]->h'.get? b=U o:=λb o eb nb=>hk b o (λq=>nb (dN.mpr (h1 b q))) eb;refine f7 (R.chg aa kx (λb o eb=>by
    by_cases q:b=zE
    ·clear aa W h1 h2 O kx;subst q;exact h5 _ _ st
    ·exact⟨o,kx b o eb (mt dN.mp q)⟩)) λai ae=>?_
   have zB:=ae.mv aa;refine O u h' tk ai ae ((h6 0 w rfl u hp).mv zB) (.vs l zE fp wr n (k+1) P St W h1 (λb hb=>(h2 b hb).imp id λq=>q.2.elim λo eo=>⟨(zB.fz b o eo q.1).2,o,(zB.fz b o eo q.1).1⟩) st ((Nat.succ_add_eq_add_succ k l.length).trans h4) h5 λj w' ew v' ah=>?_);exact(h6 (j+1) w' ew v' (Nat.succ_add_eq_add_succ k j▸ah)).mv zB
theorem zq{i k:Nat}{B a:Addr}{am:Value}(R:c.R r N s.heap)(ab:∀b∈ [zE,B],b∈r.pv)(h1:r.ob[i]? =U (a,a))(h2:IsEnum s.heap zE B (k:Int) am)(h3:s.heap.IsListIter B a k)(h4:zE≠B)(e:(gx.enum i k).next N=U (U (v,J))){tg:Expr}{t:T}(ht:wd c.t sc tg t)(ok:lM t (.enum i k)=zG){Q:Value->Shared->Prop}
  (O:∀u h' tk,c.R r N h'->eA (λag=>ag∈ [zE,B]) r s.heap r h'->c.V r h' v u->pp c A r h' J zE [zE,B]->[NeZero tk]->Q u {s with heap:=h',toks:=tk}):
  wpAny c.M A (pyNext (.ref zE)) (λo al=>∃u,o=U u/\wpAny c.M A (letOwnedTupleGo tg (.ref zE) u) (λag ae=>Q u ae) E' al) E' s:=by
 refine cJ (oH e) λI hx hw=>mi hw.symm λw ao q=>?_;clear e hw;cases q;refine R.lisE hx h1 λitems n hg ap=>cJ (ap.get ao) λu hu hv=>?_;have ai:=ja s.heap;refine wpAny_pyNext_enum_item h2 h3 (dG hg) (x:=u) ((cA ..).trans hu) h4 λaw ho aj au hz hk=>(cU _ rfl ?_);cases t with
 |name j=>exact ft ok
 |tup ts=>
  refine tZ ht (P:=λm=>wpAny c.M A m (λag ae=>Q _ ae) E' _) λax k' p'=>wpAny_letOwnedTupleGo_enum ho λh' af aa=>?_;have kx:∀b o,s.heap.get? b=U o->¬b∈ [zE,B]->h'.get? b=U o:=λb o eb n=>(aa.2 b λq=>n (q▸.head _)).trans (hk b o (λq=>n (q▸.head _)) (λq=>n (q▸.tail _ (.head _))) eb);have ah:h'.IsListIter B a (k+1):=aj.at λo eb=>(aa.2 B (Ne.symm h4)).trans eb;refine f7 (R.chg (h':=h') ab kx (λb o eb=>by
   by_cases q:b=zE
   ·clear ab h2 h4 O ho hk aa kx;subst q;exact⟨_,af⟩
   ·by_cases q':b=B
    ·clear ab h2 h3 h4 O ho aj hk af kx;subst q';exact ah.elim λo' z=>⟨o',z.1⟩
    ·exact⟨o,kx b o eb λz=>(aX.mp z).elim q λz=>q' (dN.mp z)⟩)) λav ak=>?_
  have aq:s.heap.objs.size≠zE:=λq=>ns (ai.symm.trans (q▸h2));have ar:h'.get? s.heap.objs.size=U (pr [.int k s.toks,u] 0):=(aa.2 _ aq).trans au;exact O _ h' _ av ak (.tup _ [.int k s.toks,u] 0 _ ar (λhm=>(R.mutLive hm).elim λo eo=>ns (ai.symm.trans eo)) (.cons (.int _ _) (.cons (hv.mv (ak.mv ab)) .nil)) (by decide:2<=4000000)) (.enum i (k+1) zE B a u h1 af ah h4)
theorem Bq{i j k z TI ab i1 i2 a1 a2:Addr}(R:c.R r N s.heap)(af:∀b∈ [z,TI,ab,i1,i2],b∈r.pv)(p1:r.ob[i]? =U (a1,a1))(p2:r.ob[j]? =U (a2,a2))(aa:ZipApart z TI ab i1 i2 a1 a2)(hz:IsZip s.heap z TI ab .none)(ag:IsPair s.heap TI (.ref i1) (.ref i2))(al:∃a b,IsPair s.heap ab a b)
  (h1:s.heap.IsListIter i1 a1 k) (h2:s.heap.IsListIter i2 a2 k) (e:(gx.zip i j k).next N=U (U (v,J))) {tg:Expr} {t:T} (ht:wd c.t sc tg t) (ok:lM t (.zip i j k)=zG) {Q:Value->Shared->Prop}
  (O:∀u h' tk,c.R r N h'->eA (λam=>am∈ [z,TI,ab,i1,i2]) r s.heap r h'->c.V r h' v u->pp c A r h' J z [z,TI,ab,i1,i2]->[NeZero tk]->Q u {s with heap:=h',toks:=tk}):
  wpAny c.M A (pyNext (.ref z)) (λo ax=>∃u,o=U u/\wpAny c.M A (letOwnedTupleGo tg (.ref z) u) (λam aj=>Q u aj) E' ax) E' s:=by
 refine ga (we e) λI ys hx hy hv=>hv.elim (λhv=>?_) λhv=>sn hv.2;refine ga hv λv1 v2 g1 g2 q=>sp q λq1 q2=>?_;subst q1;clear e q;subst q2;refine R.lisE hx p1 λitems n hg ay=>R.lisE hy p2 λbb n' az a0=>cJ (ay.get g1) λu1 a3 a4=>cJ (a0.get g2) λu2 a5 a6=>Er al λta tb al=>?_;have ap:=ja s.heap;refine wpAny_pyNext_zip_item aa hz ag al h1 h2 (dG hg) (dG az) (x:=u1) (y:=u2) ((cA ..).trans a3) ((cA ..).trans a5) λbc ah ar au a7 a8 be hk=>(cU _ rfl ?_);cases t with
 |name j=>exact ft ok
 |tup ts=>
  refine tZ ht (P:=λm=>wpAny c.M A m (λam aj=>Q _ aj) E' _) λbf k' p'=>wpAny_letOwnedTupleGo_zip ah λh' ai ae=>?_;have kx:∀b o,s.heap.get? b=U o->¬b∈ [z,TI,ab,i1,i2]->h'.get? b=U o:=λb o eb n=>(ae.2 b λq=>n (q▸.head _)).trans (hk b o (λq=>n (q▸.head _)) (λq=>n (q▸.tail _ (.tail _ (.head _)))) (λq=>n (q▸.tail _ (.tail _ (.tail _ (.head _))))) (λq=>n (q▸.tail _ (.tail _ (.tail _ (.tail _ (.head _)))))) eb);have ak:IsPair h' TI (.ref i1) (.ref i2):=(ae.2 _ aa.TIz).trans (hk _ _ aa.TIz aa.TITO aa.TIi1 aa.TIi2 ag);have aq:IsPair h' ab u1 u2:=(ae.2 _ aa.TOz).trans ar;have av:h'.IsListIter i1 a1 (k+1):=au.at λo eb=>(ae.2 i1 aa.i1z).trans eb;have aw:h'.IsListIter i2 a2 (k+1):=a7.at λo eb=>(ae.2 i2 aa.i2z).trans eb;refine f7 (R.chg (h':=h') af kx (λb o eb=>by
   by_cases q:b∈ [z,TI,ab,i1,i2]
   ·rcases aX.mp q with q| q
    ·clear af aa hz O ah hk ae kx;subst q;exact⟨_,ai⟩
    rcases aX.mp q with q| q
    ·clear af aa hz ag O ah ai kx;subst q;exact⟨_,ak⟩
    rcases aX.mp q with q| q
    ·clear af aa hz O ah ar hk ai kx;subst q;exact⟨_,aq⟩
    rcases aX.mp q with q| q
    ·clear af aa ag h1 O au hk kx ak;subst q;exact av.elim λo' z=>⟨o',z.1⟩
    ·clear eb;cases dN.mp q;exact aw.elim λo' z=>⟨o',z.1⟩
   ·exact⟨o,kx b o eb q⟩)) λba ao=>?_
  have a9:s.heap.objs.size≠z:=λq=>ns (ap.symm.trans (q▸hz));have a':h'.get? s.heap.objs.size=U (pr [u1,u2] 0):=(ae.2 _ a9).trans a8;exact O _ h' _ ba ao (.tup _ [u1,u2] 0 _ a' (λhm=>(R.mutLive hm).elim λo eo=>ns (ap.symm.trans eo)) (.cons (a4.mv (ao.mv af)) (.cons (a6.mv (ao.mv af)) .nil)) (by decide:2<=4000000)) (.zip i j (k+1) z TI ab i1 i2 a1 a2 p1 p2 aa ai ak (Ho _ _ aq) av aw)
theorem BU:∀(ks:List Txt) (ts:List Tok) (us:List Value),ks.length=us.length->ts.length=us.length->
  Pairs (strKind prog w) (BV w.params ks ts us) ((ks.map dE).zip us)/\∀e∈BV w.params ks ts us,∃x,(strKind prog w).is x e.key=zG/\e.hash=(strKind prog w).hash x
 :=by
 intro ks;induction ks with
 |nil=>exact λaa aa aa aa=>⟨.nil,λaa he=>nomatch he⟩
 |cons k ks ih=>
 intro ts us h1 h2;cases us with
 |nil=>exact absurd h1 (eX _)
 |cons u us=>cases ts with
 |nil=>exact absurd h2 (eX _).symm
 |cons t ts=>
  have ih:=ih ts us (fP h1) (fP h2);refine⟨.cons (mI prog w _ _) rfl ih.1,λe he=>?_⟩;rcases aX.mp he with q| q
  ·exact(cU (dE k) (q▸mI prog w _ _) (q▸rfl))
  ·exact ih.2 e q
theorem yr(K:rl c.w.params h ks us d ep):h.DictAt (strKind c.prog c.w) d ((ks.map dE).zip us) ep:=by
 refine pc K λq6 hk nd=>?_;clear K;refine cJ q6 λts e hl=>?_;clear q6;have kp:=BU (prog:=c.prog) (w:=c.w) ks ts us hk hl;refine⟨_,(BV c.w.params ks ts us).toArray,e,⟨rfl,rfl,rfl⟩,rfl,λx hx=>kp.2 x (List.mem_toArray.mp hx),kp.1,?_⟩;rw[List.map_fst_zip (by rw[aD,hk];exact aJ _)];exact List.Pairwise.map dE (λa b (hn:a≠b) q=>hn (nE.mp q)) nd
theorem vC(e:(gx.its ks vs).next N=U (U (v,J))):∃k aa w ab,ks=k::aa/\vs=w::ab/\v= .tup [.str k,w]/\J= .its aa ab:=by
 cases ks with
 |nil=>cases vs with
  |nil=>exact ns (aC e)
  |cons w vs=>exact ns e
 |cons k ks=>cases vs with
  |nil=>exact ns e
  |cons w vs=>exact sp (aC e) λq1 q2=>(KJ k ks w vs rfl rfl q1.symm q2.symm)
theorem Br(R:c.R r N s.heap)(af:∀b∈ [zE],b∈r.pv)(h1:IsItemIter s.heap zE d i aa.length ep az ov)(K:rl c.w.params s.heap aa us d ep)(hm: ¬r.mut d)(hk:ks=aa.drop i)
  (hv:dZ c.w.params r s.heap vs (us.drop i)) (e:(gx.its ks vs).next N=U (U (v,J))) (ht:wd c.t sc tg t) (ok:lM t (.its ks vs)=zG) {Q:Value->Shared->Prop}
  (O:∀u h' tk,c.R r N h'->eA (λag=>ag∈ [zE]) r s.heap r h'->c.V r h' v u->pp c A r h' J zE [zE]->[NeZero tk]->Q u {s with heap:=h',toks:=tk}):
  wpAny c.M A (pyNext (.ref zE)) (λo am=>∃u,o=U u/\wpAny c.M A (letOwnedTupleGo tg (.ref zE) u) (λag ab=>Q u ab) E' am) E' s:=by
 refine JQ (vC e) λk aj w aq q1 q2 q3 q4=>?_;clear e;subst q2;refine ga hv.inv λu ar q5 hw au=>?_;have gk:aa[i]? =U k:=by rw[<-List.head?_drop,<-hk,q1];rfl
 have gu:us[i]? =U u:=by rw[<-List.head?_drop,q5];rfl
 have dk:aj=aa.drop (i+1):=by rw[<-List.tail_drop,<-hk,q1];rfl
 have du:ar=us.drop (i+1):=by rw[<-List.tail_drop,q5];rfl
 have ah:=ja s.heap;have hl:((aa.map dE).zip us).length=aa.length:=by rw[List.length_zip,aD,K.2.1,Nat.min_self]
 refine wpAny_pyNext_items_item (knd:=strKind c.prog c.w) (k:=dE k) (v:=u) (hl▸h1) (yr K) (List.getElem?_zip_eq_some.mpr ⟨by rw[bD,gk];rfl,gu⟩) λkey ao ap ho ax a0 ai=>(cU _ rfl ?_);cases t with
 |name j=>exact ft ok
 |tup ts=>
  refine tZ ht (P:=λm=>wpAny c.M A m (λag ab=>Q _ ab) E' _) λa3 k' p'=>wpAny_letOwnedTupleGo_items (s:= {s with heap:=ao}) ho λh' ak ae=>?_;have kx:∀b o,s.heap.get? b=U o->¬b∈ [zE]->h'.get? b=U o:=λb o eb n=>(ae.2 b λq=>n (q▸.head _)).trans (ai b o (λq=>n (q▸.head _)) eb);refine f7 (R.chg (h':=h') af kx (λb o eb=>by
   by_cases q:b=zE
   ·clear af h1 O ho ai ae kx;subst q;exact⟨_,ak⟩
   ·exact⟨o,kx b o eb λz=>q (dN.mp z)⟩)) λay al=>?_
  have av:s.heap.objs.size≠zE:=λq=>ns (ah.symm.trans (q▸h1));have aw:h'.get? s.heap.objs.size=U (pr [key,u] 0):=(ae.2 _ av).trans ax;have zB:=al.mv af;refine dS (Value.isStrOf_shape ap) λtk qk=>?_;have xk:c.V r h' (.str k) key:=qk▸.str k tk;refine O _ h' _ ay al (q3▸.tup _ [key,u] 0 _ aw (λhm=>(R.mutLive hm).elim λo eo=>ns (ah.symm.trans eo)) (.cons xk (.cons (hw.mv zB) .nil)) (by decide:2<=4000000)) ?_;rw[q4];exact .its aj aq zE d aa us (i+1) ep key u (hl▸ak) (K.mv zB hm).1 hm dk (du▸au.mv zB)
theorem mY(R:c.R r N s.heap)(ab:∀b∈L,b∈r.pv)(x:pp c A r s.heap B zE L)(e:B.next N=U (U (v,J))){tg:Expr}{t:T}(ht:wd c.t sc tg t)(ok:lM t B=zG){Q:Value->Shared->Prop}
  (O:∀u h' tk,c.R r N h'->eA (λaa=>aa∈L) r s.heap r h'->c.V r h' v u->pp c A r h' J zE L->[NeZero tk]->Q u {s with heap:=h',toks:=tk}):
  wpAny c.M A (pyNext (.ref zE)) (λo ae=>∃u,o=U u/\wpAny c.M A (letOwnedTupleGo tg (.ref zE) u) (λaa af=>Q u af) E' ae) E' s:=
 pp.rec
  (λaa aa aa aa h1 h2 ab e aa O=>D1 R ab h1 h2 e ht O) (λaa aa aa aa aa aa aa aa W h1 h2 h3 h4 h5 h6 ab e ok O=>DZ R ab W h1 h2 h3 h4 h5 h6 e ht ok O)
  (λaa aa aa aa aa aa h1 h2 h3 h4 ab e ok O=>zq R ab h1 h2 h3 h4 e ht ok O) (λaa aa aa aa aa aa aa aa aa aa p1 p2 ai hz ag ah h1 h2 ab e ok O=>Bq R ab p1 p2 ai hz ag ah h1 h2 e ht ok O)
  (λaa aa aa aa aa aa aa aa aa aa h1 h2 h3 h4 h5 ab e ok O=>Br R ab h1 h2 h3 h4 h5 e ht ok O) x ab e ok O
theorem qp(hh:A.handled=zF)(R:c.R r N s.heap)(x:pp c A r s.heap B zE L)(e:B.next N=U .none)
  (O:∀h' tk,(∀b o,b ∉ L->s.heap.get? b=U o->h'.get? b=U o)->[NeZero tk]->Q zF {s with heap:=h',toks:=tk}):wpAny c.M A (pyNext (.ref zE)) Q E' s:=by
 revert e O;refine pp.rec ?_ ?_ ?_ ?_ ?_ x
 ·intro i k zE a h1 h2 e O;exact cJ (G8 e) λI hx hn=>R.lisE hx h1 λitems n hg ab=>wpAny_pyNext_list_end hh h2 (dG hg) ((cA ..).trans (ab.none hn)) λh' aa=>O h' s.toks λb o nb eb=>aa b o (λq=>nb (dN.mpr q)) eb
 ·intro l zE fp wr n k P St W h1 h2 h3 h4 h5 h6 e O;cases l with
  |cons w l=>exact sn (aC e)
  |nil=>
   cases h4;exact eS (W.done s _ E' h3 λh' tk hk=>O h' tk λb o nb eb=>hk b o (λq=>nb (dN.mpr (h1 b q))) eb)
 ·intro i k zE B a al h1 h2 h3 h4 e O;exact cJ (oH e) λI hx hn=>R.lisE hx h1 λitems n hg ab=>wpAny_pyNext_enum_end hh h2 h3 (dG hg) ((cA ..).trans (ab.none (Option.map_eq_none_iff.mp hn.symm))) λh' aa=>O h' s.toks λb o nb eb=>aa b o (λq=>nb (q▸.tail _ (.head _))) eb
 ·intro i j k z TI ao i1 i2 a1 a2 p1 p2 aj hz ah af h1 h2 e O;exact ga (we e) λI ys hx hy hv=>hv.elim (λhv=>ga hv λag ag ag ag q=>ns q) λhv=>R.lisE hx p1 λitems n hg ab=>R.lisE hy p2 λak n' ai am=>Er af λta tb af=>wpAny_pyNext_zip_end hh aj hz ah af h1 h2 (dG hg) (dG ai) (.inl ((cA ..).trans (ab.none hv.1))) λh' aa=>O h' s.toks λb o n eb=>aa b o (λq=>n (q▸.head _)) (λq=>n (q▸.tail _ (.tail _ (.head _)))) (λq=>n (q▸.tail _ (.tail _ (.tail _ (.head _))))) (λq=>n (q▸.tail _ (.tail _ (.tail _ (.tail _ (.head _)))))) eb
 ·intro ks vs zE d ae us i ep ok ov h1 h2 h3 h4 h5 e O;have hl:((ae.map dE).zip us).length=ae.length:=by rw[List.length_zip,aD,h2.2.1,Nat.min_self]
  have hn:ks= []:=by
   cases ks with
   |nil=>rfl
   |cons k ks=>cases vs with
    |nil=>exact ns e
    |cons w vs=>exact sn (aC e)
  have hi:ae.length<=i:=List.drop_eq_nil_iff.mp (h4.symm.trans hn);exact wpAny_pyNext_items_end hh (hl▸h1) (yr h2) (cI (hl▸hi)) λh' aa=>O h' s.toks λb o nb eb=>aa b o (λq=>nb (dN.mpr q)) eb
end
theorem nJ{j:Nat}(e:(kK a n)[j]? =U w):w= .int (a+j):=by
 induction n generalizing a j with
 |zero=>exact ns e
 |succ n B=>cases j with
  |zero=>exact(aC e).symm.trans (congrArg V.int (Int.add_zero a).symm)
  |succ j=>exact(B (show(kK (a+1) n)[j]? =U w from e)).trans (congrArg V.int (by push_cast;exact(uH a 1 j).trans (congrArg (λJ=>a+J) (Int.add_comm 1 j))))
theorem qc(n:Nat)(a:Int):(kK a n).length=n:=by
 induction n generalizing a with
 |zero=>rfl
 |succ n B=>exact congrArg Nat.succ (B (a+1))
section
variable{c:Cx}{A:Around}{E':Value->Shared->Prop}{s:Shared}[NeZero s.toks]{sc:Scope}{D:Env}{r J:Rh}{h h':Heap}{N B:H}{zE:Addr}{L:List Addr}{v:V}{M:aW}{ev:Ev}
def ri(c:Cx)(A:Around)(r:Rh)(s:Shared)(B:H)(itr:gx)(Q:Addr->Shared->Prop):Prop:=
 ∀J Y h' tk zE L,c.R J B Y->dH r s.heap J Y->(∀b o,Y.get? b=U o->h'.get? b=U o)->(∀b∈L,Y.get? b=zF)->(∀b∈L,∃o,h'.get? b=U o)->pp c A {J with pv:=J.pv++L} h' itr zE L->[NeZero tk]->Q zE {s with heap:=h',toks:=tk}
theorem ri.cast(O:ri c A r s B itr Q)(e:U (z,σ₀)=U (itr,B)):ri c A r s σ₀ z Q:=by(refine sp e λY aa=>?_;subst Y;subst aa);exact O
theorem ri.after(O:ri c A r s B itr Q)(S:dH r s.heap J Y):ri c A J {s with heap:=Y,toks:=tk} B itr Q:=
 λab aa h' ae zE L af ag=>O ab aa h' ae zE L af (S.trans ag)
theorem eP(h:Heap)(Y:h.objs.size<=i):h.get? i= .none:=by
 cases q:h.get? i with
 |none=>rfl
 |some o=>exact absurd (dD q) (bP.mpr Y)
theorem lS(R:c.R r N s.heap)(O:ri c A r s N (.one z) Q)(hf:o.isFreed=zH)(hi:pp c A {r with pv:=r.pv++ [s.heap.objs.size]} (s.heap.push o) (.one z) s.heap.objs.size [s.heap.objs.size]):∃zE,Value.ref s.heap.objs.size= .ref zE/\Q zE {s with heap:=s.heap.push o}:=
 (cU _ rfl (O r s.heap _ s.toks _ [s.heap.objs.size] R (dH.refl _ _) (λb ob e=>aS _ e) (λb Y=>dN.mp Y▸ja s.heap) (λb Y=>dN.mp Y▸⟨_,bE _ hf⟩) hi))
theorem B0(hh:A.handled=zF)(R:c.R r N s.heap)(x:c.V r s.heap (.tup vs) u)(O:ri c A r s N (.one (.vs vs)) Q):
  wpAny c.M A (pyIter u) (λo s'=>∃zE,o= .ref zE/\Q zE s') E' s:=by
 have n0:=ja s.heap;refine Aq (x.tup_inv) λitems n a q2 hg hm aa hl=>?_;clear x;subst q2;have ab:a≠s.heap.objs.size:=λq=>ns (n0.symm.trans (q▸hg));have ag: ¬({r with pv:=r.pv++ [s.heap.objs.size]}:Rh).mut a:=λq=>q.elim (λq=>hm (.inl q)) λq=>(aO.mp q).elim (λq=>hm (.inr q)) λq=>ab (dN.mp q);have ae:(s.heap.push {cls:= .type "tuple_iterator",data:= .fields #[.ref a,.int 0 0]}).get? a=_:=aS _ hg;have ah:=(R.enter (h':=s.heap.push {cls:= .type "tuple_iterator",data:= .fields #[.ref a,.int 0 0]}) (λb ob e=>aS _ e) (λb Y=>dN.mp Y▸n0) (λb Y=>dN.mp Y▸⟨_,bE _ rfl⟩)).2;refine wpAny_pyIter_tuple (show s.heap.IsTuple a items.toArray from jo hg) (lS R O rfl (.vs vs _ [s.heap.objs.size,a] [s.heap.objs.size] items.toArray.size 0 _ _ (Walks.tuple hh _ a ab items.toArray) (λb Y=>dN.mp Y) (λb Y=>?_) ⟨⟨_,bE _ rfl,rfl,rfl⟩,⟨_,ae,rfl,n,rfl⟩⟩ ((eW _).trans (aa.length.symm.trans bI.symm)) (λi h st=>st.1.elim λo ho=>⟨o,ho.1⟩) λj w ew v pv=>?_))
 ·refine(aX.mp Y).imp id λq=>?_;clear Y;obtain rfl:=dN.mp q;exact⟨ag,_,ae⟩
 ·refine cJ (aa.get ew) λu hu hr=>?_;have af:items[0+j]? =U v:=(cA ..).symm.trans pv;rw[eW] at af;exact aC (hu.symm.trans af)▸hr.mv ah
theorem B1(hh:A.handled=zF)(R:c.R r N s.heap)(x:c.V r s.heap (.str Y) u)(O:ri c A r s N (.one (.vs (Y.map λc=>.str [c]))) Q):
  wpAny c.M A (pyIter u) (λo s'=>∃zE,o= .ref zE/\Q zE s') E' s:=by
 refine dS (x.str_inv) λt q3=>?_;clear x;subst q3;have aa:∀(o:Obj) (j:Nat) (w:V),(Y.map λc=>V.str [c])[j]? =U w->∀v,SignAt (dE Y) (0+j) v->VR c.w.params {r with pv:=r.pv++ [s.heap.objs.size]} (s.heap.push o) w v:=λo j w ew v pv=>by
  refine je pv λch u hu q4=>?_;clear pv;subst q4;refine mi ((bD ..).symm.trans ew) λc' af q5=>?_;clear ew;subst q5;have ae:Y[0+j]? =U ch:=(cA ..).symm.trans hu;rw[eW] at ae;exact aC (ae.symm.trans af)▸.str [ch] u
 have ab:0+(Y.map λc=>V.str [c]).length=(dE Y).cps.size:=(eW _).trans ((aD ..).trans bI.symm);cases hb:(dE Y).cps.all (λag=>ag < 128)
 ·exact wpAny_pyIter_wide hb (lS R O rfl (.vs _ _ [s.heap.objs.size] [s.heap.objs.size] (dE Y).cps.size 0 _ _ (Walks.strWide hh _ (dE Y) t) (λb hb=>dN.mp hb) (λb hb=>.inl (dN.mp hb)) ⟨_,bE _ rfl,rfl,rfl⟩ ab (λi h st=>st.elim λo ho=>⟨o,ho.1⟩) (aa _)))
 ·exact wpAny_pyIter_ascii hb (lS R O rfl (.vs _ _ [s.heap.objs.size] [s.heap.objs.size] (dE Y).cps.size 0 _ _ (Walks.strAscii hh _ (dE Y) t) (λb hb=>dN.mp hb) (λb hb=>.inl (dN.mp hb)) ⟨_,bE _ rfl,rfl,rfl⟩ ab (λi h st=>st.elim λo ho=>⟨o,ho.1⟩) (aa _)))
theorem on(Y: -4611686018427387904 < a/\a < 4611686018427387904)(f2: -4611686018427387904 < b/\b < 4611686018427387904):Builtin.Range.small a b 1=zG:=
 small_one (Int.le_trans (by decide) (Int.le_of_lt Y.1)) (Int.lt_of_lt_of_le Y.2 (by decide)) (Int.le_trans (by decide) (Int.le_of_lt f2.1)) (Int.lt_of_lt_of_le f2.2 (by decide))
theorem w6(hh:A.handled=zF)(R:c.R r N s.heap)(x:c.V r s.heap v u)(e:s7 v N=U z)(O:ri c A r s N (.one z) Q):
  wpAny c.M A (pyIter u) (λo s'=>∃zE,o= .ref zE/\Q zE s') E' s:=by
 cases v with
 |ref i=>
  refine tS e λI hx e=>?_;obtain rfl:=aC e;refine R.listE hx x λa items n q1 hp hg am hl=>?_;clear x;subst q1;exact ny (dG hg) (lS R O rfl (.ls i 0 _ a hp ⟨_,bE _ rfl,rfl,rfl⟩))
 |tup vs=>obtain rfl:=aC e;exact B0 hh R x O
 |str x'=>obtain rfl:=(tX e).2;exact B1 hh R x O
 |rng a b=>refine jB e λhc q=>?_;clear e;subst q;exact(by
   refine an (a1 hc) λaa ae=>?_;have aa:=of_decide_eq_true aa;refine I7 x.inv λai aj ak y q af al=>?_;clear x;subst q;refine wpAny_pyIter_range (a:=a) af ?_ (lS R O rfl (.vs (j9 a b) _ [s.heap.objs.size] [s.heap.objs.size] (b - a).toNat 0 _ _ (Walks.range hh _ a 1 (b - a).toNat) (λb Y=>dN.mp Y) (λb Y=>.inl (dN.mp Y)) ?_ ((eW _).trans (qc _ _)) (λi h st=>⟨_,st⟩) λab w ag v pv=>?_))
   ·have f1:=iF.mp ae;have f2:=iF.mp (a2 hc);exact on f1 f2
   ·skip;unfold IsRangeIter;rw[bE _ rfl,rangeSize_nat];simp
   ·refine dS pv λai ah=>?_;clear pv;subst ah;obtain rfl:=nJ ag;rw[show a+((0+ab:Nat):Int)*1=a+ab by rw[eW,Int.mul_one]];exact .int _ _)
 |_=>exact ns e
theorem mE:entryFor table "dict_itemiterator.__iter__"=U Builtin.«dict_keyiterator.__iter__» :=
 entryFor_alias (id':="dict_keyiterator.__iter__") (by kernel_rfl) (by first| rfl| decide+kernel| (unfold String.splitOn;simp+decide [String.splitOnAux])) (by decide+kernel) (by kernel_rfl)
theorem rN(hz:IsItemIter s.heap Y d i n ep ok ov)(h:Q (.ref Y) s):wpAny c.M A (pyIter (.ref Y)) Q E' s:=by
 have aa:s.TypeIs (.ref Y) "dict_itemiterator":=⟨_,hz,rfl⟩;refine wpAny_pyIter_slot aa uE (fL uE aa mE ?_ (PySem.F.args_dict_itemiterator_iter_1 _));skip;exact aG ⟨_,rfl,"dict_itemiterator",_,aa,PySem.F.slot_dict_itemiterator_next.lookup,h⟩
theorem oB(x:pp c A r s.heap itr zE L)(h:Q (.ref zE) s):wpAny c.M A (pyIter (.ref zE)) Q E' s:=
 pp.rec (λY Y Y Y Y h2 h=>wpAny_pyIter_listiter h2 h) (λY Y Y Y Y Y Y Y W Y Y h3 Y Y Y h=>W.self _ _ _ _ h3 h)
  (λY Y Y Y Y Y Y h2 Y Y h=>wpAny_pyIter_enum h2 h) (λY Y Y Y Y Y Y Y Y Y Y Y Y hz Y Y Y Y h=>wpAny_pyIter_zip hz h) (λY Y Y Y Y Y Y Y Y Y h1 Y Y Y Y h=>rN h1 h) x h
omit [NeZero s.toks] in
theorem vG{id:String}(aa:Slot "dict" name id)(ab:typeOf (.builtin id)=pure (.type "method_descriptor"))(Y:s.heap.get? a=U (hD es n))(h:Q (.builtin id,[.ref a]) s):wpAny c.M A (getMethod (.ref a) name pl) Q E' s:=
 xO ⟨_,Y,rfl⟩ PySem.F.plainAttrs_dict aa ab (λb e=>by cases e;exact(cU _ Y rfl)) h
theorem EE(h:b∈ [n+4,n+2,n+3,n,n+1]):n<=b:=by
 have:∀x∈ [4,2,3,0,1],n<=n+x:=λx Y=>bL n x;exact mm (show b∈ [4,2,3,0,1].map (λY=>n+Y) from h) λx hx e=>e▸this x hx
theorem tD(e:qb v=U i):v= .ref i:=by
 cases v with
 |ref j=>exact aC e▸rfl
 |_=>exact ns e
theorem p9(h:qb ov=U j)(e:x=U (ov,Y)):x=U (.ref j,Y):=tD h▸e
theorem iG(h:fS t sc z u=zG):iX sc z=U zH/\t.glob z=U (.cst u)/\(z==("__debug__":Str))=zH:=by
 unfold fS at h;exact⟨of_decide_eq_true (a1 (a1 h)),AB (a2 (a1 h)),fW (a2 h)⟩
theorem JE(h:ev e M N=U (v,Y)):dY ev [e] M N=U ([v],Y):=by
 show(match ev e M N with| some (v,B)=>(match dY ev [] M B with| some (vs,aa)=>U (v::vs,aa)| .none=>.none)| .none=>.none)=_;rw[h];rfl
theorem K0(h:ev e M N=U (v,aa))(h':ev Y M aa=U (v',ab)):dY ev [e,Y] M N=U ([v,v'],ab):=by
 show(match ev e M N with| some (v,B)=>(match dY ev [Y] M B with| some (vs,ae)=>U (v::vs,ae)| .none=>.none)| .none=>.none)=_;rw[h];dsimp only;rw[JE h']
theorem vV(h:wpAny c.M A (do callWith q (<-eval (.Name z Y) D) [] (backTo q (starEach es D)) (backToKw q (keywordEach [] D))) Q E' s)(hr:eval (.Call (.Name z Y) es [] q) D=(do callWith q (<-eval (.Name z Y) D) [] (backTo q (starEach es D)) (backToKw q (keywordEach [] D)))):wpAny c.M A (eval (.Call (.Name z Y) es [] q) D) Q E' s:=hr▸h
theorem m8(a3:c.Ok)(hh:A.handled=zF)(ih:eV c A ev){e:Expr}{u:It}(tr:Db c.t sc e u)(eo:bZ c sc D r.pv)(vo:bV c sc D r s.heap M)(R:c.R r N s.heap){itr:gx}(eq:gG ev u M N=U (itr,B)){Q:Addr->Shared->Prop}(O:ri c A r s B itr Q):
  wpAny c.M A (eval e D) (λu bc=>wpAny c.M A (pyIter u) (λo be=>∃zE,o= .ref zE/\Q zE be) E' bc) E' s:=by
 refine fZ tr λa q7 q8 h=>?_;clear tr;subst q7;subst q8;cases a with
 |plain a=>
  exact jH (o:=ev a.er M N) (f:=λv B=>(s7 v B).map λz=>(gx.one z,B)) eq λv ak e1 e=>mi e λz hz e=>ih (.mk h) eo vo R e1 λu aq ae ab ai aa bf=>w6 (s:= {s with heap:=ae,toks:=ab}) hh ai bf hz ((O.cast (congrArg U e)).after (tk:=ab) aa)
 |enum z zp a q=>
  refine J0 (o:=ev a.er M N) (f:=λi B=>match B[i]? with| some (.list _)=>U (gx.enum i 0,B)| _=>.none) eq λi ak e1 e=>tS (o:=ak[i]?) (f:=λbb=>U (gx.enum i 0,ak)) e λI hx e=>?_;replace O:=O.cast e;have av:=iG (a1 h);refine vV (es:= [a.un]) (aB (ji a3.glob av.2.2 av.1 av.2.1 eo R λuf aq ae ab ai aa xf=>?_)) rfl;obtain rfl:=xf.cst_inv;refine gU (s:= {s with heap:=ae,toks:=ab}) ih .type (rV.mk (as:= [a]) (by show(a.ok c.t sc&&zG)=zG;rw[(a2 h)];rfl)) (eo.step aa) (vo.step eo R aa) ai (vs:= [.ref i]) (JE e1) λitems af Y al ag ah aj _=>ga aj.inv λu bh q am ap=>?_;subst q;obtain rfl:=ap.inv;refine ag.listE hx am λa items n q9 hp bj bw hl=>?_;clear am aj;subst q9;refine call_enumerate_list (dG bj) λar he hi bx hk=>?_;have n0:=eP Y (aJ _);have n1:=eP Y (fR _);refine wpAny_pyIter_enum he (cU _ rfl (O af Y ar al _ [Y.objs.size+1,Y.objs.size] ag (aa.trans ah) hk (λb hb=>?_) (λb hb=>?_) (.enum i 0 _ _ a .none hp he hi (oS _))))
  ·rcases aX.mp hb with q| q
   ·rw[q];exact n1
   ·rw[aH.mp q];exact n0
  ·rcases aX.mp hb with q| q
   ·rw[q];exact⟨_,he⟩
   ·rw[aH.mp q];obtain⟨o,ho,_⟩:=hi;exact⟨o,ho⟩
 |zip z zp a b q=>
  refine an (a2 h) λha hb=>jH (o:=ev a.er M N) (f:=λv B=>match ev b.er M B with| some (w,au)=>xT v w au| .none=>.none) eq λv ak e1 e=>jH (o:=ev b.er M ak) (f:=λw au=>xT v w au) e λw br e2 e=>bi e λi hi e=>bi e λj hj e=>bi e λI hx e=>mi e λys hy e=>?_;replace O:=O.cast (congrArg U e);replace e1:=p9 hi e1;replace e2:=p9 hj e2;obtain rfl:=tD hi;obtain rfl:=tD hj;have hx:=ms hx;have hy:=ms hy;have aw:=iG (a1 h);refine vV (es:= [a.un,b.un]) (aB (ji a3.glob aw.2.2 aw.1 aw.2.1 eo R λuf aq ae ab ai aa xf=>?_)) rfl;obtain rfl:=xf.cst_inv;refine gU (s:= {s with heap:=ae,toks:=ab}) ih .type (rV.mk (as:= [a,b]) (by show(a.ok c.t sc&&(b.ok c.t sc&&zG))=zG;rw[ha,hb];rfl)) (eo.step aa) (vo.step eo R aa) ai (vs:= [.ref i,.ref j]) (K0 e1 e2) λitems af Y al ag ah aj _=>ga aj.inv λu bh q am ap=>?_;subst q;refine ga ap.inv λu' bt q az bg=>?_;subst q;obtain rfl:=bg.inv;refine ag.listE hx am λa1 bp n1 q9 bl a4 bu bz=>?_;clear am;subst q9;refine ag.listE hy az λa2 bq n2 q9 bm a5 bv b0=>?_;clear az ap aj;subst q9;refine call_zip_2 (dG a4) (dG a5) λar ax a6 a7 a8 a9 b1 hk=>wpAny_pyIter_zip ax (cU _ rfl (O af Y ar al _ [Y.objs.size+4,Y.objs.size+2,Y.objs.size+3,Y.objs.size,Y.objs.size+1] ag (aa.trans ah) hk (λb hb=>?_) (λb hb=>?_) (.zip i j 0 _ _ _ _ _ a1 a2 bl bm (zipApart_new (dD a4) (dD a5)) ax a6 (Ho _ _ a7) a8 a9)))
  ·exact eP Y (EE hb)
  ·rcases aX.mp hb with q| hb
   ·rw[q];exact⟨_,ax⟩
   rcases aX.mp hb with q| hb
   ·rw[q];exact⟨_,a6⟩
   rcases aX.mp hb with q| hb
   ·rw[q];exact⟨_,a7⟩
   rcases aX.mp hb with q| hb
   ·rw[q];exact a8.elim λo z=>⟨o,z.1⟩
   ·rw[dN.mp hb];exact a9.elim λo z=>⟨o,z.1⟩
 |items a x xp q=>
  refine an h λhx h=>jH (o:=ev a.er M N) (f:=λv B=>match v with| .kws ks vs=>U (gx.its ks vs,B)| _=>.none) eq λv ak e1 e=>?_;cases v with
  |kws ks vs=>
   replace O:=O.cast e;clear eq;obtain rfl:=eq_of_beq hx;refine jp (of_decide_eq_true (a1 h)) (fW (a1 (a2 h))) (by decide) (rV.mk (as:= []) rfl) (.nil (t:=c.t) (sc:=sc)) (ih (.mk (a2 (a2 h))) eo vo R e1 λu aq ae ab ai aa xu=>?_);intro _;refine ga xu.inv λus d q K I=>?_;clear xu;subst q;refine fZ K λn ay hm bn=>?_;clear K;refine cJ ay.1 λts hd hl=>vG (s:= {s with heap:=ae,toks:=ab}) PySem.F.slot_dict_items PySem.F.type_dict_items hd ?_;refine gU (s:= {s with heap:=ae,toks:=ab}) ih .builtin (rV.mk (as:= []) rfl) (eo.step aa) (vo.step eo R aa) ai rfl λitems af Y al ag ah aj _=>?_;obtain rfl:=aj.inv;have ao:=rl.mv ah.mv ⟨(cU ts hd hl),ay.2⟩ hm;have a':=(ah.mv.fz d _ hd hm).1;refine call_meetsIn PySem.F.slot_dict_items ⟨_,a',rfl⟩ PySem.F.entry_dict_items (PySem.F.args_dict_items_1 _) (meets_dict_items (strKind c.prog c.w) d bn) ⟨⟨_,(yr ao.1).dictOf⟩,?_⟩;have n0:=eP Y (aJ _);have n1:=eP Y (fR _);have z1:(Y.push {cls:= .type "dict_items",data:= .fields #[.ref d]}).objs.size=Y.objs.size+1:=ff ..;refine wpAny_pyIter_items ⟨_,bE _ rfl,rfl,rfl⟩ ((yr ao.1).push _) (cU _ rfl ?_);have k2:∀b o,Y.get? b=U o->((Y.push {cls:= .type "dict_items",data:= .fields #[.ref d]}).push {cls:= .type "dict_itemiterator",data:= .fields #[.none,.bool zH,.ref d,.int 0 0,.int ((ks.map dE).zip us).length 0,.int n 0,.none,.none]}).get? b=U o:=λb o e=>aS _ (aS _ e);have a0:((ks.map dE).zip us).length=ks.length:=by rw[List.length_zip,aD,ay.2.1,Nat.min_self]
   refine O af Y _ al _ [Y.objs.size+1] ag (aa.trans ah) k2 (λb hb=>dN.mp hb▸n1) (λb hb=>dN.mp hb▸z1▸⟨_,bE _ rfl⟩) ?_;rw[z1];have ba:=bE (Y.push {cls:= .type "dict_items",data:= .fields #[.ref d]}) (o:= {cls:= .type "dict_itemiterator",data:= .fields #[.none,.bool zH,.ref d,.int 0 0,.int ((ks.map dE).zip us).length 0,.int n 0,.none,.none]}) rfl;rw[z1,a0] at ba;refine .its ks vs _ d ks us 0 n .none .none ?_ (ao.1.keep k2) ?_ rfl ?_
   ·rw[a0];exact ba
   ·exact λq=>q.elim (λq=>ao.2 (.inl q)) λq=>(aO.mp q).elim (λq=>ao.2 (.inr q)) λq=>ns (n1.symm.trans (dN.mp q▸a'))
   ·have bo:Mv af Y {af with pv:=af.pv++ [Y.objs.size+1]} ((Y.push {cls:= .type "dict_items",data:= .fields #[.ref d]}).push {cls:= .type "dict_itemiterator",data:= .fields #[.none,.bool zH,.ref d,.int 0 0,.int ((ks.map dE).zip us).length 0,.int n 0,.none,.none]}):=
     ⟨λbb bb e=>e,λa o e f=>⟨k2 a o e,λq=>q.elim (λq=>f (.inl q)) λq=>(aO.mp q).elim (λq=>f (.inr q)) λq=>ns (n1.symm.trans (dN.mp q▸e))⟩⟩
    exact(I.mv ah.mv).mv bo
  |_=>exact ns e
end
noncomputable abbrev uS(ifs:List Expr)(D:Env)(b:Bool):Sem Bool:=forIn ifs b λc r=>if r=zG then do let ok<-isTrue c D (eval c D);pure (ForInStep.yield ok) else pure (ForInStep.yield r)
def xK(e:Expr)(d:Nat)(elt J iter:Expr)(ifs:List Expr):Prop:=∀(B acc:Value) (D:Env),compTurn e d B acc D=(do
   standAt iter.pos
   match<-pyNext B with
   |none=>pure (.done .next)
   |some v=>
    letOwnedTupleGo J B v
    assign J D v
    let mut ok:=zG
    for c in ifs do
     if ok then ok<-isTrue c D (eval c D)
    if ok then
     (do let _<-call (.builtin "list.append") [acc,<-eval elt D])
    again (.compLoop e d B acc D))
theorem uP(elt B iter:Expr)(ifs:List Expr)(J:Scope)(Y:Pos):xK (.ListComp elt [⟨B,iter,ifs,0⟩] J Y) 0 elt B iter ifs:=λit acc D=>by rfl
theorem lY[NeZero s.toks](he:xK e d elt af iter ifs)(hl:∃gs aa ae,e= .ListComp elt gs aa ae)(zE:Nat->Shared->Prop)
  (ak:∀n s E',zE n s->wpAny (model prog w) A (pyNext it) (λr J=>match r with
   |none=>R (.ok .next) J
   |some v=>wpAny (model prog w) A (letOwnedTupleGo af it v) (λB J=>wpAny (model prog w) A (assign af D v) (λB ag=>
     wpAny (model prog w) A (uS ifs D zG) (λok ab=>
      if ok=zG then wpAny (model prog w) A (eval elt D) (λx ah=>
       wpAny (model prog w) A (call (.builtin "list.append") [acc,x]) (λB ai=>∃m,m < n/\zE m ai) E' ah) E' ab
      else∃m,m < n/\zE m ab) E' ag) E' J) E' J) E' s)
  (n:Nat) (h:zE n s):
  codeAny (model prog w) A (.compLoop e d it acc D) R s:=by
 refine Ep hl λgs aa ae q1=>?_;clear hl;subst q1;refine codeAny_loop rfl zE (λn s ap=>?_) n h;show wpAny _ A ((compTurn (.ListComp elt gs aa ae) d it acc D).onRaise (λx=>do noteFrame x D;theTreesLotGoes x)) _ _ s;refine wpAny_noted ?_;rw[he];refine aB (fc (aB (bX (ak n s _ ap) (λr J Y=>?_) λB B h'=>h')));cases r with
 |none=>exact aG Y
 |some v=>
  refine aB (bX Y (λB J Y=>?_) λB B h'=>h');refine aB (bX Y (λB ag al=>aB (bX al (λok ab aj=>?_) λB B h'=>h')) λB B h'=>h');cases ok with
  |false=>exact aG ⟨rfl,aj⟩
  |true=>
   exact aB (aB (bX aj (λx ah am=>aB (bX am (λB ai ao=>aG (aG ⟨rfl,ao⟩)) λB B h'=>h')) λB B h'=>h'))
theorem gv:∀(names:List (Str×NameKind)) (n:Nat) (acc:List (Str×Addr)),cellsFrom n names acc=cellsFrom n names []++acc:=by
 intro names;induction names with
 |nil=>exact λJ J=>rfl
 |cons Y r B=>
  obtain⟨x,k⟩:=Y;intro n acc;unfold cellsFrom;split
  ·rw[B (n+1) ((x,n)::acc),B (n+1) [(x,n)],cN];rfl
  ·exact B n acc
set_option tactic.hygienic true in
theorem rR:∀(names:List (Str×NameKind)) (n:Nat) {x:Str} {a:Addr},(x,a)∈cellsFrom n names []->(x,NameKind.cell)∈names:=by
 intro names;induction names with
 |nil=>
  intro _ _ _ h;cases h
 |cons J r B=>
  obtain⟨y,k⟩:=J;intro n x a h;unfold cellsFrom at h;split at h
  ·rename_i Y
   rw[gv] at h;rcases aO.mp h with h| h
   ·exact .tail _ (B _ h)
   ·have:=aH.mp h;cases this;have:k= .cell:=by simpa using Y
    rw[this];exact .head _
  ·exact .tail _ (B _ h)
theorem j1{l:List (Str×B)}{a:B}(h:(x,a)∈l):(l.lookup x).isSome=zG:=by
 induction l with
 |nil=>exact nomatch h
 |cons p r J=>
  cases p with
  |mk y b=>
   rw[dQ];cases q:x==y with
   |true=>rfl
   |false=>exact J ((aX.mp h).resolve_left λz=>by clear h;cases z;exact tf ((beq_self_eq_true x).symm.trans q))
theorem cellsFrom_some:∀(names:List (Str×NameKind)) (n:Nat) {x:Str},(x,NameKind.cell)∈names->∃a,(x,a)∈cellsFrom n names []:=by
 intro names;induction names with
 |nil=>exact λJ J h=>nomatch h
 |cons q r B=>
  obtain⟨y,k⟩:=q;intro n x h;unfold cellsFrom;rcases aX.mp h with h| h
  ·cases h;rw[if_pos (by rfl),gv];exact⟨n,aL _ (.head _)⟩
  ·split
   ·refine dS (B (n+1) h) λa Y=>?_;rw[gv];exact⟨a,aP _ Y⟩
   ·exact B n h
theorem jn{l B:List (Str×Y)}:(l++B).lookup x=(match l.lookup x with| some a=>U a| none=>B.lookup x):=by
 induction l with
 |nil=>rfl
 |cons p r J=>
  cases p with
  |mk y b=>
   rw[List.cons_append,dQ,dQ];cases q:x==y with
   |true=>rfl
   |false=>exact J
noncomputable def lZ(D:Env):List (Str×NameKind)->List (Str×Addr)->List (Str×Addr)
 |[],acc=>acc
 |(x,k)::r,acc=>if k== .free then lZ D r ((x,(D.cells.lookup x).getD 0)::acc) else lZ D r acc
theorem Aa(D:Env)(x:Str)(k:NameKind)(r:List (Str×NameKind))(acc:List (Str×Addr)):lZ D ((x,k)::r) acc=if k== .free then lZ D r ((x,(D.cells.lookup x).getD 0)::acc) else lZ D r acc:=rfl
theorem rQ(h:∀x∈Y.names,x.2= .free->(D.cells.lookup x.1).isSome=zG):closureFor Y D=pure (lZ D Y.names []):=by
 unfold closureFor;have:∀(names:List (Str×NameKind)) (acc:List (Str×Addr)),(∀x∈names,x.2= .free->(D.cells.lookup x.1).isSome=zG)->
   (forIn names acc (λx r=>match x with| (name,kind)=>if (kind== .free)=zG then do let a<-cellOf D name;pure (ForInStep.yield ((name,a)::r)) else pure (ForInStep.yield r)):Sem (List (Str×Addr)))=pure (lZ D names acc):=by
  intro names;induction names with
  |nil=>intro acc _;rfl
  |cons y r ih=>
   obtain⟨y,k⟩:=y;intro acc hh;rw[fH];rw[Aa];dsimp only;by_cases B:(k==NameKind.free)=zG
   ·rw[if_pos B,if_pos B];have aa:k= .free:=by simpa using B
    refine dS (cR.mp (hh (y,k) (.head _) aa)) λa J=>?_;have J:D.cells.lookup y=U a:=J;have hc:cellOf D y=pure a:=by unfold cellOf;rw[J]
    rw[hc,J];exact ih _ λx hx=>hh x (.tail _ hx)
   ·rw[if_neg B,if_neg B];exact ih _ λx hx=>hh x (.tail _ hx)
 have:=this Y.names [] h;simp only[bind_pure];exact this
theorem vT(D:Env)(names:List (Str×NameKind)):∀(acc:List (Str×Addr)),(∀a,acc.lookup x=U a->D.cells.lookup x=U a)->(∀y∈names,y.2= .free->(D.cells.lookup y.1).isSome=zG)->
  (∀a,(lZ D names acc).lookup x=U a->D.cells.lookup x=U a)/\((acc.lookup x).isSome=zG\/(x,NameKind.free)∈names->(lZ D names acc).lookup x=D.cells.lookup x):=by
 induction names with
 |nil=>exact λacc B hn=>⟨B,λh=>h.elim (λh=>(cR.mp h).elim λa e=>e.trans (B a e).symm) λh=>nomatch h⟩
 |cons p r ih=>
  cases p with
  |mk y k=>
   intro acc B hn;show(∀a,(if (k== .free)=zG then lZ D r ((y,(D.cells.lookup y).getD 0)::acc) else lZ D r acc).lookup x=U a->_)/\(_->(if (k== .free)=zG then lZ D r ((y,(D.cells.lookup y).getD 0)::acc) else lZ D r acc).lookup x=_);have aa:∀z∈r,z.2= .free->(D.cells.lookup z.1).isSome=zG:=λz hz=>hn z (.tail _ hz);by_cases Y:(k== .free)=zG
   ·rw[if_pos Y];obtain rfl:=eq_of_beq Y;refine dS (cR.mp (hn (y,.free) (.head _) rfl)) λa e=>?_;have e:D.cells.lookup y=U a:=e;rw[e];have hl:((y,a)::acc).lookup x=if x=y then U a else acc.lookup x:=by
     rw[dQ];by_cases q:x=y
     ·rw[if_pos q,beq_iff_eq.mpr q]
     ·rw[if_neg q,beq_eq_false_iff_ne.mpr q]
    refine f7 (ih ((y,a)::acc) (λb J=>by
     rw[hl] at J;by_cases q:x=y
     ·rw[if_pos q] at J;rw[q];exact e.trans J
     ·rw[if_neg q] at J;exact B b J) aa) λh1 h2=>?_
    refine⟨h1,λh=>h2 ?_⟩;rw[hl];by_cases q:x=y
    ·rw[if_pos q];exact .inl rfl
    ·rw[if_neg q];exact h.imp id λh=>(aX.mp h).resolve_left λz=>q (congrArg Prod.fst z)
   ·rw[if_neg Y];exact f7 (ih acc B aa) λh1 h2=>⟨h1,λh=>h2 (h.imp id λh=>(aX.mp h).resolve_left λz=>Y (beq_iff_eq.mpr (congrArg Prod.snd z).symm))⟩
theorem qB{D:Env}:∀ {names:List (Str×NameKind)} {x:Str},(names.map λ(n,k)=>if (k==NameKind.free&&D.scope.kind== .function&&D.kindOf n==U .cell) then (n,NameKind.cell) else (n,k)).lookup x=
  (names.lookup x).map λk=>if (k==NameKind.free&&D.scope.kind== .function&&D.kindOf x==U .cell) then NameKind.cell else k:=by
 intro names;induction names with
 |nil=>exact rfl
 |cons q r Y=>
  obtain⟨n,k⟩:=q;intro x;have J:= @Y x;rw[uF];dsimp only;by_cases B:(k==NameKind.free&&D.scope.kind== .function&&D.kindOf n==U .cell)=zG
  ·rw[if_pos B,dQ,dQ,J];cases q:x==n with
   |true=>
    have:x=n:=by simpa using q
    clear q;subst this;simp only[lp,if_pos B]
   |false=>rfl
  ·rw[if_neg B,dQ,dQ,J];cases q:x==n with
   |true=>
    have:x=n:=by simpa using q
    clear q;subst this;simp only[lp,if_neg B]
   |false=>rfl
theorem vr{E:Value->Shared->Prop}
  (h:Q (newEnv B s.heap.objs.size globals (cellsFrom (s.heap.objs.size+1) B.names cl) J zF .none (U D) builtinsNs) {s with heap:=pushCells (s.heap.push {cls:= .type "dict",data:= .dict #[]}) B.names}):
  wpAny zB A (newFunctionEnv B globals cl [] J zF .none (U D)) Q E s:=by
 simp only[newFunctionEnv,Option.isSome_some,if_true];refine aB (wpAny_alloc ?_);refine aB (wpAny_layCells _ (λname kind aa=>by cases Y:kind==NameKind.cell<;>simp[Y]) _ _ _ _ ?_);refine Eq.symm (show({s with heap:=s.heap.push {cls:= .type "dict",data:= .dict #[]}}:Shared).heap.objs.size=s.heap.objs.size+1 from ff ..)▸?_;exact aB (aG (aG h))
noncomputable abbrev nf(B:Scope)(zD:Addr)(D:Env):Env:=compEnvC B (cellsFrom (zD+1) B.names (lZ D B.names [])) zD D
section
variable{c:Cx}{A:Around}{E':Value->Shared->Prop}{s:Shared}{sc B:Scope}{D:Env}{r Y:Rh}{h h':Heap}{N aa:H}{v:V}{M:aW}{ev:Ev}{pv J:List Addr}{zD:Addr}
theorem kS(hc:jt sc B=zG)(hm:(x,k)∈B.names):B.names.lookup x=U k/\(k= .free->sc.names.lookup x=U .cell\/sc.names.lookup x=U .free):=by
 refine an (aR.mp hc (x,k) hm) λh1 h2=>⟨eq_of_beq h1,λhk=>?_⟩;clear hm h1;subst hk;exact((fj _ _).mp (show(sc.names.lookup x==U NameKind.cell || sc.names.lookup x==U NameKind.free)=zG from h2)).imp eq_of_beq eq_of_beq
theorem j3(eo:bZ c sc D pv)(hc:jt sc B=zG):∀x∈B.names,x.2= .free->(D.cells.lookup x.1).isSome=zG:=λx hm hk=>by
 obtain⟨x,k⟩:=x;rcases(kS hc hm).2 hk with q| q
 ·exact(eo.cel x q).2
 ·exact(eo.fre x q).2
theorem fY(eo:bZ c sc D pv)(hc:jt sc B=zG)(x:Str):
  (B.names.lookup x=U .free->(nf B zD D).cells.lookup x=D.cells.lookup x)/\
  (∀a,(nf B zD D).cells.lookup x=U a->((x,a)∈cellsFrom (zD+1) B.names []/\B.names.lookup x=U .cell)\/D.cells.lookup x=U a):=by
 have ab:=vT D (x:=x) B.names [] (λa e=>by exact ns e) (j3 eo hc);have e:(nf B zD D).cells=cellsFrom (zD+1) B.names []++lZ D B.names []:=gv _ _ _;have ae:∀a,(cellsFrom (zD+1) B.names []).lookup x=U a->B.names.lookup x=U .cell:=λa ha=>(kS hc (rR _ _ (mem_of_lookup ha))).1
 (refine e.symm▸?_;refine jn.symm▸?_)
 cases q:(cellsFrom (zD+1) B.names []).lookup x with
 |none=>exact⟨λhf=>ab.2 (.inr (mem_of_lookup hf)),λa ha=>.inr (ab.1 a ha)⟩
 |some b=>
  have hb:=ae b q;exact⟨λhf=>(nomatch hf.symm.trans hb),λa ha=>.inl ⟨mem_of_lookup (q.trans ha),hb⟩⟩
theorem kr(x:Str):(nf B zD D).kindOf x=(B.names.lookup x).map λk=>if (k==NameKind.free&&(D.scope.kind== .function&&D.kindOf x==U .cell))=zG then NameKind.cell else k:=by
 simp only[<-Bool.and_assoc];exact qB
theorem sK:(U NameKind.free).map (λk=>if (k==NameKind.free&&b)=zG then NameKind.cell else k)=U .cell\/(U NameKind.free).map (λk=>if (k==NameKind.free&&b)=zG then NameKind.cell else k)=U .free:=by
 cases b with
 |true=>exact .inl rfl
 |false=>exact .inr rfl
theorem xq(eo:bZ c sc D pv)(hk:B.kind= .function)(hc:jt sc B=zG)(live:∀b∈pv,b < zD)(af:∀b∈pv,b∈J)(ae:zD∈J)(ab:∀x a,(x,a)∈cellsFrom (zD+1) B.names []->a∈J)(ok:CellsOk h (zD+1) (cellsFrom (zD+1) B.names [])):
  bZ c B (nf B zD D) J where
 kind:=hk
 glob:=eo.glob
 bi:=eo.bi
 lpv:=ae
 cpv:=λn a e=>by
  rcases(fY eo hc n).2 a e with q| q
  ·exact ab n a q.1
  ·exact af a (eo.cpv n a q)
 loc:=λx hx=>by(rw[kr];refine hx.symm▸?_);rfl
 cel:=λx hx=>by
  refine⟨by(rw[kr];refine hx.symm▸?_);rfl,?_⟩;refine dS (cellsFrom_some B.names (zD+1) (mem_of_lookup hx)) λa ha=>?_;have e:(nf B zD D).cells=cellsFrom (zD+1) B.names []++lZ D B.names []:=gv _ _ _;refine e.symm▸?_;exact j1 (aP _ ha)
 fre:=λx hx=>by
  refine⟨?_,?_⟩
  ·(rw[kr];refine hx.symm▸?_);exact sK
  ·refine Eq.symm ((fY eo hc x).1 hx)▸?_;exact j3 eo hc _ (mem_of_lookup hx) rfl
 glb:=λx hx=>by
  (rw[kr];refine Eq.symm (pd hx)▸?_);rfl
 inj:=λx y a hx hy=>by
  rcases(fY eo hc x).2 a hx with⟨q,_⟩| q<;>rcases(fY eo hc y).2 a hy with⟨q',_⟩| q'
  ·exact name_of_addr ok.apart q q'
  ·have h1:=(ok.empty _ _ q).2;have h2:=live a (eo.cpv _ _ q');exact(cD _ (cO h2 h1)).elim
  ·have h1:=(ok.empty _ _ q').2;have h2:=live a (eo.cpv _ _ q);exact(cD _ (cO h2 h1)).elim
  ·exact eo.inj x y a q q'
 apl:=λx a hx=>by
  rcases(fY eo hc x).2 a hx with⟨q,_⟩| q
  ·have h1:=(ok.empty _ _ q).2;intro e;have:a=zD:=e;clear live ae ab ok hx q e;subst this;exact cD _ h1
  ·have h2:=live a (eo.cpv _ _ q);intro e;have:a=zD:=e;clear live ae ab ok hx e;subst this;exact cD _ h2
theorem DK{own:List Nat}:aW.get i (own.map (λab=>(ab,Option.none))++M)=(if i∈own then Option.none else aW.get i M):=by
 induction own with
 |nil=>exact(if_neg gX).symm
 |cons y own ih=>
  show(if (y==i)=zG then Option.none else aW.get i (own.map (λab=>(ab,Option.none))++M))=_;by_cases q:y=i
  ·clear ih;subst q;(refine Eq.symm (if_pos (beq_self_eq_true y))▸?_;exact Eq.symm (if_pos (List.mem_cons_self ..))▸rfl)
  ·(refine Eq.symm (if_neg (mt eq_of_beq q))▸?_;refine ih.symm▸?_)
   by_cases m:i∈own
   ·(refine Eq.symm (if_pos m)▸?_;exact Eq.symm (if_pos (List.mem_cons_of_mem _ m))▸rfl)
   ·(refine Eq.symm (if_neg m)▸?_;exact Eq.symm (if_neg λz=>(aX.mp z).elim (λz=>q z.symm) m)▸rfl)
theorem nM(e:fV t names=U own)(hm:(x,k)∈names)(hk:(k== .local || k== .cell)=zG)(h0:x≠(".0":Str))(hi:t.id x=U i):i∈own:=by
 induction names generalizing own with
 |nil=>exact nomatch hm
 |cons y r ih=>
  replace e:(if ((y.2== .local || y.2== .cell)&& !(y.1==(".0":Str)))=zG then (t.id y.1).bind λi=>(fV t r).map (λab=>i::ab) else fV t r)=U own:=e;by_cases q:((y.2== .local || y.2== .cell)&& !(y.1==(".0":Str)))=zG
  ·replace e:=(if_pos q)▸e;refine bi e λj hj e=>mi e λae he q1=>?_;subst q1;rcases aX.mp hm with z| z
   ·clear hm q;subst z;exact aC (hi.symm.trans hj)▸.head _
   ·exact .tail _ (ih he z)
  ·replace e:=(if_neg q)▸e;rcases aX.mp hm with z| z
   ·clear hm;subst z;exact absurd (gL.mpr ⟨hk,(Bool.not_eq_true' _).mpr (beq_eq_false_iff_ne.mpr h0)⟩) q
   ·exact ih e z
theorem vP(eo:bZ c sc D r.pv)(vo:bV c sc D r h M)(hc:jt sc B=zG)(ho:fV c.t B.names=U own)(h0:c.t.id (".0":Str)= .none)(ok:CellsOk h' (zD+1) (cellsFrom (zD+1) B.names []))(af:∃m,h'.Ns zD m)
  (k:∀b o,h.get? b=U o->h'.get? b=U o) (zB:Mv r h Y h'):bV c B (nf B zD D) Y h' (own.map (λai=>(ai,Option.none))++M):=by
 refine⟨af,λx a e=>?_,λx i v e1 e2 e3=>?_⟩
 ·rcases(fY eo hc x).2 a e with⟨q,_⟩| q
  ·exact⟨_,(ok.empty _ _ q).1⟩
  ·exact je (vo.cells x a q) λv o ho hd=>⟨v,o,k _ _ ho,hd⟩
 ·replace e3:=DK▸e3;by_cases hn:i∈own
  ·replace e3:=(if_pos hn)▸e3;exact ns e3
  ·replace e3:=(if_neg hn)▸e3;have ab:x≠(".0":Str):=λq=>by(replace e1:=q▸e1;replace e1:=h0▸e1);exact ns e1
   rcases qF e2 with q| q| q
   ·exact(hn (nM ho (mem_of_lookup q) rfl ab e1)).elim
   ·exact(hn (nM ho (mem_of_lookup q) rfl ab e1)).elim
   ·have hv:=(kS hc (mem_of_lookup q)).2 rfl;have ag:iX sc x=U zG:=by
     unfold iX;rcases hv with hv| hv<;>exact hv.symm▸rfl
    refine cJ (vo.held x i v e1 ag e3) λu hu hr=>(cU u ?_ (hr.mv zB));have ae:D.kindOf x=U .cell\/D.kindOf x=U .free:=by
     rcases hv with hv| hv
     ·exact .inl (eo.cel x hv).1
     ·exact(eo.fre x hv).1
    rcases hu with⟨hk,_⟩| ⟨hk,a,ha,o,ah,hd⟩
    ·rcases ae with q'| q'<;>(replace q':=hk▸q';cases q')
    ·refine .inr ⟨?_,a,by(refine Eq.symm ((fY eo hc x).1 q)▸?_;exact ha.symm▸rfl),o,k _ _ ah,hd⟩
     (rw[kr];refine q.symm▸?_);exact sK
end
section
variable{c:Cx}{A:Around}{E':Value->Shared->Prop}{s:Shared}[NeZero s.toks]{sc aa:Scope}{D:Env}{r Y:Rh}{h h':Heap}{N J:H}{v:V}{M:aW}{ev:Ev}{pv ab:List Addr}{zD B zE:Addr}{n:Nat}{C:Cf}
theorem jj.finish{L:List Addr}(R:c.R r N h)(ah:∀b∈L,b∈r.pv)(af:∀b∈pv,b∈r.pv)(aj:∀b∈pv,b ∉ L)(ae:B∈r.pv)(ai:B ∉ pv)(k:∀b o,h.get? b=U o->b ∉ L->h'.get? b=U o)(hl:h'.get? B=U (fG items m))(x:dZ c.w.params r h acc items)(hz:items.length<=4000000):
  c.R {ob:=r.ob++ [(B,B)],pv:=pv} (N++ [.list acc]) h'/\Mv r h {ob:=r.ob++ [(B,B)],pv:=pv} h':=by
 have sub:∀b,({ob:=r.ob++ [(B,B)],pv:=pv}:Rh).mut b->r.mut b:=λb hb=>by
  rcases hb with⟨p,hp,hb⟩| hb
  ·rcases aO.mp hp with hp| hp
   ·exact .inl ⟨p,hp,hb⟩
   ·rw[aH.mp hp] at hb;clear ai hl;rcases hb with rfl| rfl<;>exact .inr ae
  ·exact .inr (af b hb)
 have ow:∀b,r.own b->b ∉ L:=λb hb hn=>R.pvo b (ah b hn) hb;have zB:Mv r h {ob:=r.ob++ [(B,B)],pv:=pv} h':=⟨λi p ep=>by
   have hl:=aZ ep;rw[bM hl];exact ep,
  λa o ea f=>⟨k a o ea λq=>f (.inr (ah a q)),λq=>f (sub a q)⟩⟩
 have ob:∀(i:Nat) o p,N[i]? =U o->r.ob[i]? =U p->OR c.w.params c.t.ids {ob:=r.ob++ [(B,B)],pv:=pv} h' o p:=λi o p e1 e2=>by
  have hp:p∈r.ob:=bF e2;exact(R.obj i o p e1 e2).mv zB (λq eq=>k _ _ eq (ow _ ⟨p,hp,.inl rfl⟩)) λq eq=>k _ _ eq (ow _ ⟨p,hp,.inr rfl⟩)
 refine⟨⟨λb o eb=>k b o (R.base b o eb) λq=>?_,by simp[R.len],λi o p e1 e2=>?_,λb hb=>R.fresh b (sub b hb),?_,λb hb ho=>?_,λb hb=>?_⟩,zB⟩
 ·have:=R.fresh b (.inr (ah b q));rw[eb] at this;exact sn this
 ·by_cases hi:i < N.length
  ·rw[bM hi] at e1;rw[bM (R.len▸hi)] at e2;exact ob i o p e1 e2
  ·have ak:i=N.length:=by
    have hl:=aZ e1;simp at hl;exact gD (cG hl) (bK hi)
   clear hi;subst ak;rw[bG (aJ _),fh] at e1;rw[<-R.len,bG (aJ _),fh] at e2
   (refine si e1 λq3=>?_;subst q3;clear e1);(refine si e2 λal=>?_;subst al)
   exact .list acc items m B hl (x.mv zB) hz
 ·refine r0.mpr ⟨R.apart,jl _ _,λq hq q' am=>?_⟩;rw[aH.mp am];have h1:q.1≠B:=λz=>R.pvo q.1 (z▸ae) ⟨q,hq,.inl rfl⟩;have h2:q.2≠B:=λz=>R.pvo q.2 (z▸ae) ⟨q,hq,.inr rfl⟩;exact⟨h1,h1,h2,h2⟩
 ·refine cJ ho λp hp ag=>?_;clear ho;rcases aO.mp hp with hp| hp
  ·exact R.pvo b (af b hb) ⟨p,hp,ag⟩
  ·rw[aH.mp hp] at ag;clear ae hl sub zB ob;rcases ag with rfl| rfl<;>exact ai hb
 ·exact dS (R.pvl b (af b hb)) λo eo=>⟨o,k b o eo (aj b hb)⟩
theorem jj.leave(R:c.R r N h)(e:r.pv=pv++L)(af:∀b∈pv,b ∉ L)(k:∀b o,h.get? b=U o->b ∉ L->h'.get? b=U o):c.R {r with pv:=pv} N h'/\Mv r h {r with pv:=pv} h':=by
 have ae:∀b∈L,b∈r.pv:=λb hb=>by rw[e];exact aL _ hb
 have sub:∀b,({r with pv:=pv}:Rh).mut b->r.mut b:=λb hb=>hb.elim .inl λq=>.inr (by rw[e];exact aP _ q);have ow:∀b,r.own b->b ∉ L:=λb hb hn=>R.pvo b (ae b hn) hb;have zB:Mv r h {r with pv:=pv} h':=⟨λag ag e=>e,λa o ea f=>⟨k a o ea λq=>f (.inr (ae a q)),λq=>f (sub a q)⟩⟩;refine⟨⟨λb o eb=>k b o (R.base b o eb) λq=>?_,R.len,λi o p e1 e2=>?_,λb hb=>R.fresh b (sub b hb),R.apart,λb hb=>R.pvo b (by rw[e];exact aP _ hb),λb hb=>?_⟩,zB⟩
 ·have:=R.fresh b (.inr (ae b q));rw[eb] at this;exact sn this
 ·have hp:p∈r.ob:=bF e2;exact(R.obj i o p e1 e2).mv zB (λq eq=>k _ _ eq (ow _ ⟨p,hp,.inl rfl⟩)) λq eq=>k _ _ eq (ow _ ⟨p,hp,.inr rfl⟩)
 ·exact dS (R.pvl b (by rw[e];exact aP _ hb)) λo eo=>⟨o,k b o eo (af b hb)⟩
theorem wu:∀(ae:List Expr) {s:Shared} [NeZero s.toks] {Q:Bool->Shared->Prop},Q zH s->wpAny c.M A (uS ae D zH) Q E' s:=by
 intro ae;induction ae with
 |nil=>
  intro s _ Q h;exact aG h
 |cons x r af=>
  intro s _ Q h;show wpAny _ _ (forIn (x::r) zH _) _ _ _;rw[fH,if_neg aU];exact aB (aG (af h))
theorem AM(ag:c.Ok)(hu:A.units+100 < cLine)(ah:∀k,k < m->eV c A (Lake.ev c.Γ C k))(ih:eV c A (Lake.ev c.Γ C m)):∀(as:List AE),rJ c.t sc as=zG->∀ {r:Rh} {N J:H} {s:Shared} [NeZero s.toks] {b:Bool} {Q:Bool->Shared->Prop},bZ c sc D r.pv->bV c sc D r s.heap M->c.R r N s.heap->
  k7 (Lake.ev c.Γ C m) (oi as) M N=U (b,J)->xN c r s J b Q->wpAny c.M A (uS (np as) D zG) Q E' s:=by
 intro as;induction as with
 |nil=>
  intro _ r N J s _ b Q eo vo R eq O
  (refine sp eq λq7 q8=>?_;subst q7;subst q8;clear eq)
  exact aG (O r s.heap s.toks R (dH.refl _ _))
 |cons a as ai=>
  intro h r N J s _ b Q eo vo R eq O;refine Fa eq λx ak e1 e=>?_;show wpAny _ _ (forIn (a.un::np as) zG _) _ _ _;rw[fH,if_pos rfl];refine aB (aB (my ag.tab hu ah ih _ (.mk (a1 h)) eo vo R e1 λY h' tk af ae=>aG ?_));cases x with
  |true=>exact ai (a2 h) (eo.step ae) (vo.step eo R ae) af e (O.after ae)
  |false=>
   (refine sp e λq9 aj=>?_;subst q9;clear eq;subst aj;clear e)
   exact wu (np as) (O Y h' tk af ae)
theorem uR(ae:c.Ok)(hu:A.units+100 < cLine)(af:∀k,k < m->eV c A (Lake.ev c.Γ C k))(ih:eV c A (Lake.ev c.Γ C m))(tr:rV c.t sc ifs us)[NeZero s.toks](eo:bZ c sc D r.pv)(vo:bV c sc D r s.heap M)(R:c.R r N s.heap)
  (eq:k7 (Lake.ev c.Γ C m) us M N=U (b,J)) (O:xN c r s J b Q):wpAny c.M A (uS ifs D zG) Q E' s:=by
 refine fZ tr λas q1 q2 h=>?_;clear tr;subst q1;subst q2;exact AM ae hu af ih as h eo vo R eq O
end
section
variable{c:Cx}{A:Around}{E':Value->Shared->Prop}{s:Shared}[NeZero s.toks]{sc J:Scope}{D:Env}{r aa:Rh}{h h':Heap}{N Y:H}{v:V}{M:aW}{ev:Ev}{pv ab:List Addr}{zD B zE:Addr}{n:Nat}{C:Cf}
def hF(D:Env)(b:Addr):Prop:=b=D.locals\/∃x,D.cells.lookup x=U b
theorem mS.toEnv{b:Addr}(h:mS sc D b):hF D b:=h.imp id λ⟨x,_,e⟩=>⟨x,e⟩
theorem bV.keepE(vo:bV c sc D r h M)(k:∀b,hF D b->∀o,h.get? b=U o->h'.get? b=U o)(zB:Mv r h aa h'):bV c sc D aa h' M:=by
 refine⟨?_,λx a e=>?_,λx i v e1 e2 e3=>?_⟩
 ·exact dS (vo.ns) λm hn=>⟨m,hn.at' λo e=>k _ (.inl rfl) o e⟩
 ·exact je (vo.cells x a e) λv o ho hd=>⟨v,o,k a (.inr ⟨x,e⟩) o ho,hd⟩
 ·refine cJ (vo.held x i v e1 e2 e3) λu hu hr=>(cU u ?_ (hr.mv zB));rcases hu with⟨hk,m,hn,hm⟩| ⟨hk,a,ha,o,ho,hd⟩
  ·exact .inl ⟨hk,m,hn.at' λo e=>k _ (.inl rfl) o e,hm⟩
  ·exact .inr ⟨hk,a,ha,o,k a (.inr ⟨x,ha⟩) o ho,hd⟩
theorem yo{next:H->gx->Option (Option (V×gx))}{it:gx}{M:aW}{acc:List V}{af:aW×List V×H}(e:gr next body (n+1) it M acc N=U af):
  (next N it=U .none/\(M,acc,N)=af)\/∃v ae ag ah Y,next N it=U (U (v,ae))/\body v M acc N=U (ag,ah,Y)/\gr next body n ae ag ah Y=U af:=by
 rw[jm] at e;cases hn:next N it with
 |none=>rw[hn] at e;exact ns e
 |some o=>
  rw[hn] at e;cases o with
  |none=>exact .inl ⟨rfl,aC e⟩
  |some q=>
   clear hn;obtain⟨v,ae⟩:=q;dsimp only at e;cases hb:body v M acc N with
   |none=>rw[hb] at e;exact ns e
   |some q=>rw[hb] at e;exact .inr (JS v ae q.1 q.2.1 q.2.2 rfl hb e)
theorem nN{t:T}{it af:gx}(e:it.next N=U (U (v,af)))(ok:lM t it=zG):lM t af=zG:=by
 cases it with
 |one z=>cases z with
  |ls i k=>obtain⟨I,_,_,rfl⟩:=yn e;clear ok;cases t<;>rfl
  |vs l=>cases l with
   |nil=>cases e
   |cons w l=>cases e;cases t with
    |name=>rfl
    |tup=>exact ft ok
 |enum i k=>
  refine cJ (oH e) λI ae q=>mi q.symm λw ae q=>?_;clear e;cases q;cases t with
  |name=>exact ft ok
  |tup=>rfl
 |zip i j k=>
  refine ga (we e) λI ys ae ae hv=>hv.elim (λhv=>?_) λhv=>sn hv.2;refine ga hv λv1 v2 ae ae q=>?_;clear e;(refine sp q λag ah=>?_;subst ag;subst ah);cases t with
  |name=>exact ft ok
  |tup=>rfl
 |its ks vs=>
  refine JQ (vC e) λk ai w aj ae ae ae q4=>?_;rw[q4];cases t with
  |name=>exact ft ok
  |tup=>rfl
structure CZ(c:Cx)(A:Around)(sc':Scope)(cenv:Env)(zA L:List Addr)(zC zE:Addr)(r₀:Rh)(h₀:Heap)(t:T)(r:Rh)(itr:gx)(M:aW)(acc:List V)(N:H)(h:Heap):Prop where
 R:c.R r N h
 S:eA (λω=>ω∈zA) r₀ h₀ r h
 vo:bV c sc' cenv r h M
 it:pp c A r h itr zE L
 ok:lM t itr=zG
 acc:∃items m,h.get? zC=U (fG items m)/\dZ c.w.params r h acc items/\items.length<=1000001
def ju(ev:Ev)(elt:E)(t:T)(ifs:List E):V->aW->List V->H->Option (aW×List V×H):=λv M acc N=>
 match gc t v N M with
 |some M=>match k7 ev ifs M N with
  |some (x,N)=>match x with
   |false=>U (M,acc,N)
   |true=>match ev elt M N with
    |some (v,N)=>if iM acc.length then U (M,acc++ [v],N) else .none
    |.none=>.none
  |.none=>.none
 |.none=>.none
theorem Ip{a a':ae}{b b':af}{d d':ag}(e:U (a,b,d)=U (a',b',d')):a'=a/\b'=b/\d'=d:=by cases e;exact⟨rfl,rfl,rfl⟩
theorem xs(e:ju ev elt t ifs v M acc N=U (ag,ah,Y)):∃ae x af,gc t v N M=U ae/\k7 ev ifs ae N=U (x,af)/\
  ((x=zH/\ag=ae/\ah=acc/\Y=af)\/(x=zG/\∃w,ev elt ae af=U (w,Y)/\iM acc.length=zG/\ag=ae/\ah=acc++ [w])):=by
 unfold ju at e;refine cJ (oj e) λae e1 e=>Fa e λx af e2 e=>(JT ae x af e1 e2 ?_);cases x with
 |false=>exact pc (Ip e) λq1 q2 q3=>.inl ⟨rfl,q1,q2,q3⟩
 |true=>
  exact jH e λw ai e3 e=>jB e λhz e=>pc (Ip (congrArg U e.symm)) λq1 q2 q3=>.inr ⟨rfl,w,q3▸e3,hz,q1,q2⟩
def v6(c:Cx)(A:Around)(J:Scope)(ae:Env)(ag L:List Addr)(B zE:Addr)(r₀:Rh)(s₀:Shared)(t:T)(body:V->aW->List V->H->Option (aW×List V×H))(af:aW×List V×H)(n:Nat)(s:Shared):Prop:=
 ∃r itr M acc N h tk,NeZero tk/\s= {s₀ with heap:=h,toks:=tk}/\CZ c A J ae ag L B zE r₀ s₀.heap t r itr M acc N h/\gr (λN it=>it.next N) body n itr M acc N=U af
def jv(c:Cx)(A:Around)(J:Scope)(e:Expr)(d:Nat)(t:T)(body:V->aW->List V->H->Option (aW×List V×H)):Prop:=
 ∀ {ae:Env} {r₀:Rh} {s₀:Shared} {B zE:Addr},bZ c J ae r₀.pv->∀ {af L:List Addr},(∀b∈af,b∈r₀.pv)->(∀b∈L,b∈af)->(∀b,mS J ae b->b∈af)->B∈af->(∀b∈L,¬hF ae b)->¬hF ae B->B ∉ L->
  ∀ {ag:aW×List V×H} {ah:Result->Shared->Prop},
  (∀r M acc N h h' tk itr,CZ c A J ae af L B zE r₀ s₀.heap t r itr M acc N h->ag=(M,acc,N)->(∀b o,b ∉ L->h.get? b=U o->h'.get? b=U o)->[NeZero tk]->ah (.ok .next) {s₀ with heap:=h',toks:=tk})->
  ∀(ai:Nat) {r:Rh} {itr:gx} {M:aW} {acc:List V} {N:H} {h:Heap} {tk:Nat},CZ c A J ae af L B zE r₀ s₀.heap t r itr M acc N h->
  gr (λN it=>it.next N) body ai itr M acc N=U ag->[NeZero tk]->codeAny c.M A (.compLoop e d (.ref zE) (.ref B) ae) ah {s₀ with heap:=h,toks:=tk}
theorem oK(co:c.Ok)(hh:A.handled=zF)(hu:A.units+100 < cLine)(cp:∀k,k < m->eV c A (Lake.ev c.Γ C k))(ih:eV c A (Lake.ev c.Γ C m))
  (he:xK e d elt bh iter ifs) (hl:∃gs cb cq,e= .ListComp elt gs cb cq) (te:Tr c.t J elt aw) (tt:wd c.t J bh t) (ti:rV c.t J ifs ax):jv c A J e d t (ju (Lake.ev c.Γ C m) aw t ax):=by
 intro ag r₀ s₀ B zE eo aj L cy b9 b' au b3 bc be bf db O ch r itr M acc N h tk ae eq _;refine lY he hl (v6 c A J ag aj L B zE r₀ s₀ t (ju (Lake.ev c.Γ C m) aw t ax) bf) ?_ ch ⟨r,itr,M,acc,N,h,tk,inferInstance,rfl,ae,eq⟩;clear ae eq;intro n s E' q5;refine Ll q5 λr itr M acc N h tk zt q6 ae eq=>?_;clear q5;subst q6;cases n with
 |zero=>exact ns eq
 |succ n=>
  have ai:∀b∈aj,b∈r.pv:=λb hb=>ae.S.pv▸cy b hb;have ar:∀b∈L,b∈r.pv:=λb hb=>ai b (b9 b hb);refine(yo eq).elim (λq=>?_) λq=>?_
  ·exact qp hh ae.R ae.it q.1 λh' cr k=>O r M acc N h h' cr itr ae q.2.symm k
  ·refine JO q λv b4 c1 c' Y hn hb b5=>?_
   ·refine bX (mY ae.R ar ae.it hn tt ae.ok (Q:=λu a5=>wpAny c.M A (assign bh ag u) (λah a5=>wpAny c.M A (uS ifs ag zG) (λok bw=>
      if ok=zG then wpAny c.M A (eval elt ag) (λx ci=>
       wpAny c.M A (call (.builtin "list.append") [.ref B,x]) (λah cj=>∃m',m' < n+1/\v6 c A J ag aj L B zE r₀ s₀ t (ju (Lake.ev c.Γ C m) aw t ax) bf m' cj) E' ci) E' bw
      else∃m',m' < n+1/\v6 c A J ag aj L B zE r₀ s₀ t (ju (Lake.ev c.Γ C m) aw t ax) bf m' bw) E' a5) E' a5) λu ao c8 bx ay ck cc=>?_) (λo da ao=>?_) λah ah x=>x
    rotate_left
    ·obtain⟨u,rfl,ao⟩:=ao;exact ao
    ·refine ga (ae.acc) λitems mm hd hx hz=>?_;have a6:=ay.mv ar;have cd:bV c J ag r ao M:=ae.vo.keepE (λb hb o e=>ay.keep b o e (λq=>ae.R.pvo b (ae.S.pv▸(by
      rcases hb with rfl| ⟨x,hx⟩
      ·exact eo.lpv
      ·exact eo.cpv _ _ hx)) q) λq=>b3 b q hb) a6
     have ca:∀ {r:Rh} {h h':Heap} {X:Addr->Prop} {o:Obj},¬r.own B->¬X B->eA X r h r h'->h.get? B=U o->h'.get? B=U o:=λho cz S e=>S.keep B _ e ho cz;have bg: ¬r.own B:=ae.R.pvo B (ai B au);have bm:=ca bg be ay hd;have bn:bZ c J ag r.pv:=ae.S.pv▸eo;refine I8 (xs hb) λc0 xb c9 bo b6 ce=>jb (N:=N) hh t tt bn cd bx ck bo λa7 az cf ap aq av _=>?_;have cs:∀b,mS J ag b->b∈r.pv:=λb hb=>ai b (b' b hb);have a8:=aq.mv cs;have a4:=aq.keep B _ bm bg λq=>bc q.toEnv;have bp:=cc.keep a8 λb hb o e=>aq.keep b o e (bx.pvo b (ar b hb)) λq=>b3 b hb q.toEnv;have a3:a7.pv=r.pv:=aq.pv;have ak:bZ c J ag a7.pv:=a3▸bn;have b7:eA (λah=>ah∈aj) r₀ s₀.heap a7 az:=(ae.S.trans (ay.mono λb hb=>b9 b hb)).trans (aq.mono b');refine uR (s:= {s₀ with heap:=az,toks:=cf}) co hu cp ih ti ak av ap b6 λbz a9 bq a0 af _=>?_;have kp:∀b,b∈r.pv->∀o,az.get? b=U o->a9.get? b=U o:=λb hb o e=>af.keep b o e (ap.pvo b (a3▸hb));clear hb bo b6;rcases ce with⟨rfl,rfl,rfl,rfl⟩| ⟨rfl,w,ct,cu,rfl,rfl⟩
     ·refine(if_neg aU).mpr ⟨n,bQ n,bz,b4,_,_,_,a9,bq,inferInstance,rfl,⟨a0,b7.trans af.x,av.step ak ap af,bp.keep af.mv λb hb o e=>kp b (ar b hb) o e,nN hn ae.ok,?_⟩,b5⟩;exact(iS items mm (kp B (ai B au) _ a4) (((hx.mv a6).mv a8).step af) hz)
     ·refine(if_pos rfl).mpr ?_;refine ih (s:= {s₀ with heap:=a9,toks:=bq}) te (ak.step af) (av.step ak ap af) a0 ct λuw a' ba br cm al xw _=>?_;have bj:bz.pv=r.pv:=af.pv.trans a3;have bl:a'.pv=r.pv:=al.pv.trans bj;have b8:∀b,b∈r.pv->∀o,az.get? b=U o->ba.get? b=U o:=λb hb o e=>al.keep b o (kp b hb o e) (a0.pvo b (bj▸hb));have bt:=b8 B (ai B au) _ a4;have cg:=(((hx.mv a6).mv a8).step af).step al;have b0:items.length<=1000000:=by rw[hx.length];exact iC cu
      refine wpAny_list_append_plain (s:= {s₀ with heap:=ba,toks:=br}) (items:=items.toArray) ⟨mm,bt⟩ (λb1 bu am=>?_) (by rw[bI];exact aA b0 kH);refine dS bu λcv bv=>?_;clear bu;obtain⟨cn,b2⟩:=cm.chg (X:=(λah=>ah∈aj)) (h':=b1) (λb hb=>bl▸ai b hb) (λb o e nb=>(am.2 b λq=>nb (q▸au)).trans e) (λb o e=>by
       by_cases q:b=B
       ·clear au bc be O ae hd ca bg bm a4 bt am;subst q;exact⟨_,bv⟩
       ·exact⟨o,(am.2 b q).trans e⟩)
      have bb:=b2.mv λb hb=>bl▸ai b hb;have cw:eA (λah=>ah∈aj) r₀ s₀.heap a' ba:=(b7.trans af.x).trans al.x;refine⟨n,bQ n,a',b4,_,_,_,b1,br,inferInstance,rfl,⟨cn,cw.trans b2,?_,?_,nN hn ae.ok,items++ [uw],cv,?_,(cg.append (.cons xw .nil)).mv bb,by rw[aF];exact cH b0⟩,b5⟩
      ·exact((av.step ak ap af).step (ak.step af) a0 al).keepE (λb hb o e=>(am.2 b λq=>bc (q▸hb)).trans e) bb
      ·exact(bp.keep (af.trans al).mv λb hb o e=>b8 b (ar b hb) o e).keep bb λb hb o e=>(am.2 b λq=>be (q▸hb)).trans e
      ·rw[bv];simp[fG]
end
theorem zS(a:AE)(D:Env)(x:Value):foldedSetIterable a.un D x=pure x:=by cases a<;>rfl
theorem oD(h:Db t sc e u)(x:Value):foldedSetIterable e D x=pure x:=by
 refine fZ h λa B J J=>?_;clear h;subst B;cases a with
 |plain a=>exact zS a D x
 |enum _ _ _ _=>rfl
 |zip _ _ _ _ _=>rfl
 |items _ _ _ _=>rfl
section
variable{c:Cx}{A:Around}{E':Value->Shared->Prop}{s:Shared}[NeZero s.toks]{sc B:Scope}{D:Env}{r:Rh}{N J:H}{v:V}{M:aW}{C:Cf}
theorem bZ.wider(Y:bZ c sc D pv)(h:∀b∈pv,b∈aa):bZ c sc D aa:=
 ⟨Y.kind,Y.glob,Y.bi,h _ Y.lpv,λn a e=>h a (Y.cpv n a e),Y.loc,Y.cel,Y.fre,Y.glb,Y.inj,Y.apl⟩
theorem sR(bj:c.Ok)(hh:A.handled=zF)(hu:A.units+100 < cLine)(cv:∀k,k < m->eV c A (Lake.ev c.Γ C k))(ih:eV c A (Lake.ev c.Γ C m))(eo:bZ c sc D r.pv)(vo:bV c sc D r s.heap M)(R:c.R r N s.heap)
  (hk:B.kind= .function) (hc:jt sc B=zG) (cf:jv c A B (.ListComp elt (⟨ap,iter,ifs,0⟩::gs) B p) 0 t body) (bl:Db c.t sc iter b5) (ho:fV c.t B.names=U own) (e1:gG (Lake.ev c.Γ C m) b5 M N=U (itr,ba)) (ok:lM t itr=zG) (e2:gr (λN it=>it.next N) body dW itr (own.map (λaf=>(af,Option.none))++M) [] ba=U (cr,acc,bz)) (e3:iP acc bz=U (v,J))
  (O:∀(ab:Rh) (ag:Heap) (rm:Rh) (hm:Heap) (tk:Nat) (zD aa:Addr) (zB:List Addr),dH r s.heap ab ag->c.R {rm with pv:=ab.pv++zB} J hm->(∀b∈zB,ag.get? b= .none)->(∀b∈ab.pv,b ∉ zB)->dH ab ag {rm with pv:=ab.pv} hm->bZ c sc D (ab.pv++zB)->bV c sc D {rm with pv:=ab.pv++zB} hm M->zD∈zB->c.V {rm with pv:=ab.pv++zB} hm v (.ref aa)->(∃m,hm.Ns zD m)->[NeZero tk]->
   compPost c.M A E' use Q (.ref aa) zD (.ok .next) {s with heap:=hm,toks:=tk}):
  wpAny c.M A (comprehension (.ListComp elt (⟨ap,iter,ifs,0⟩::gs) B p) B D (firstIterPos (⟨ap,iter,ifs,0⟩::gs) p) (newList []) (firstAsync (⟨ap,iter,ifs,0⟩::gs)) (firstIter (⟨ap,iter,ifs,0⟩::gs) D) use) Q E' s:=by
 refine wpAny_comprehension_free rfl (oD bl) (rQ (j3 eo hc)) hk (λx hx hl=>by
  obtain⟨x,k⟩:=x;have hl:k= .local:=hl;subst hl;exact(kS hc hx).1) ?_
 refine bX (m8 bj hh ih bl eo vo R e1 ?_) (λx ct ag=>bX ag (λo cu ae=>by obtain⟨zE,rfl,ae⟩:=ae;exact ae) λaf af x=>x) λaf af x=>x;intro ab ag ae tk zE L aq a4 k n l b0 _;refine uD ?_ (cK _);refine vr ?_;dsimp only;have au:(ae.push {cls:= .type "list",data:= .seq ([]:List Value).toArray}).objs.size=ae.objs.size+1:=ff ..;generalize br:(ae.push {cls:= .type "list",data:= .seq ([]:List Value).toArray}).objs.size=zD at au⊢;generalize a3:ae.objs.size=aa at au⊢;have bm:((ae.push {cls:= .type "list",data:= .seq ([]:List Value).toArray}).push {cls:= .type "dict",data:= .dict #[]}).objs.size=zD+1:=by(rw[ff];exact br.symm▸rfl)
 have ai:=cellsFrom_ok B.names ((ae.push {cls:= .type "list",data:= .seq ([]:List Value).toArray}).push {cls:= .type "dict",data:= .dict #[]}) (zD+1) [] ⟨λaf af hm=>(nomatch hm),List.Pairwise.nil⟩ (by refine bm.symm▸?_;exact aJ _);replace ai:=bm▸ai;have av:∀b o,ae.get? b=U o->(pushCells ((ae.push {cls:= .type "list",data:= .seq ([]:List Value).toArray}).push {cls:= .type "dict",data:= .dict #[]}) B.names).get? b=U o:=λb o e=>pushCells_keeps _ _ b o (aS _ (aS _ e));have a7:(pushCells ((ae.push {cls:= .type "list",data:= .seq ([]:List Value).toArray}).push {cls:= .type "dict",data:= .dict #[]}) B.names).get? aa=U (fG [] 0):=pushCells_keeps _ _ _ _ (aS _ (a3▸bE _ rfl));have a0:(pushCells ((ae.push {cls:= .type "list",data:= .seq ([]:List Value).toArray}).push {cls:= .type "dict",data:= .dict #[]}) B.names).Ns zD (λaf=>zF):=by
  have:=Heap.Ns.new (ae.push {cls:= .type "list",data:= .seq ([]:List Value).toArray}) (.type "dict");replace this:=br▸this;exact this.keeps (pushCells_keeps _ _)
 generalize pushCells ((ae.push {cls:= .type "list",data:= .seq ([]:List Value).toArray}).push {cls:= .type "dict",data:= .dict #[]}) B.names=al at av a7 a0 ai⊢;have b1:∀b:Nat,ae.objs.size<=b->ae.get? b= .none:=λb Y=>eP ae Y;have bn:=aq.enter k n l;let ah:List Addr:=aa::zD::(cellsFrom (zD+1) B.names []).map (λaf=>af.2);have bb:∀b∈ah,b=aa\/b=zD\/∃x,(x,b)∈cellsFrom (zD+1) B.names []:=λb Y=>by
  rcases aX.mp Y with q| q
  ·exact .inl q
  ·rcases aX.mp q with q| q
   ·exact .inr (.inl q)
   ·clear Y;obtain⟨⟨x,a⟩,hx,rfl⟩:=cC.mp q;exact .inr (.inr ⟨x,hx⟩)
 have b3:∀b∈ah,aa<=b:=λb Y=>by
  rcases bb b Y with rfl| rfl| ⟨x,hx⟩
  ·exact aJ _
  ·refine au.symm▸?_;exact fR _
  ·have:=(ai.empty x b hx).2;have h1:aa<=zD+1:=by refine au.symm▸?_;exact dT (fR _)
   exact aA h1 this
 have ay:∀b∈ah,ae.get? b= .none:=λb Y=>b1 b (by refine a3.symm▸?_;exact b3 b Y);have bx:∀b∈ah,∃o,al.get? b=U o:=λb Y=>by
  rcases bb b Y with rfl| rfl| ⟨x,hx⟩
  ·exact⟨_,a7⟩
  ·refine BX a0 λo es ep e af=>?_;clear a0;exact⟨o,e⟩
  ·exact cJ ((ai.empty x b hx).1) λo e af=>⟨o,e⟩
 refine f7 (bn.1.enter av ay bx) λbt a8=>?_;dsimp only at bt a8;have cg:(ab.pv++L)++ah=ab.pv++(L++ah):=cN _ _ _;have aj:bZ c sc D ab.pv:=eo.step a4;have bc:=vo.step eo R a4;have b6:∀b,(∃o,ae.get? b=U o)->b < aa:=λb ⟨o,e⟩=>a3▸dD e;have be:∀b∈ab.pv,b < aa:=λb Y=>by obtain⟨o,e⟩:=aq.pvl b Y;exact b6 b ⟨o,k b o e⟩
 have ao:aa < zD:=by refine au.symm▸?_;exact bQ _
 have b7:bZ c B (nf B zD D) ((ab.pv++L)++ah):=xq aj hk hc (λb Y=>cO (be b Y) ao) (λb Y=>aP _ (aP _ Y)) (aL _ (.tail _ (.head _))) (λx a hx=>aL _ (.tail _ (.tail _ (cC.mpr (cU (x,a) hx rfl))))) ai;have b8:bV c B (nf B zD D) {ab with pv:=(ab.pv++L)++ah} al (own.map (λaf=>(af,Option.none))++M):=vP aj bc hc ho bj.dot ai ⟨_,a0⟩ (λb o e=>av b o (k b o e)) ⟨λaf af e=>e,λa o e f=>by
  have bo:=bn.2.fz a o e f;exact a8.fz a o bo.1 bo.2⟩
 have bg:∀b∈L,ag.get? b= .none:=n;have ar:∀b∈L++ah,ag.get? b= .none:=λb Y=>by
  rcases aO.mp Y with q| q
  ·exact n b q
  ·cases e:ag.get? b with
   |none=>rfl
   |some o=>exact ns ((ay b q).symm.trans (k b o e))
 have bf:∀b,hF (nf B zD D) b->b∈ah/\b≠aa\/b∈ab.pv:=λb Y=>by
  rcases Y with Y| ⟨x,hx⟩
  ·refine Eq.symm (show b=zD from Y)▸?_;exact .inl ⟨.tail _ (.head _),λq=>by
    have q:zD=aa:=q;replace ao:=q▸ao;exact cD _ ao⟩
  ·rcases(fY aj hc x).2 b hx with⟨q,_⟩| q
   ·refine .inl ⟨.tail _ (.tail _ (cC.mpr (cU (x,b) q rfl))),λz=>?_⟩;have h1:=(ai.empty x b q).2;replace h1:=z▸h1;exact cD _ (cO ao h1)
   ·exact .inr (aj.cpv _ _ q)
 have bu:aa ∉ L:=λq=>by
  refine dS (l aa q) λo e=>?_;have:=dD e;replace this:=a3▸this;exact cD _ this
 have bv: ¬hF (nf B zD D) aa:=λq=>by
  rcases bf aa q with⟨_,q⟩| q
  ·exact q rfl
  ·exact cD _ (be aa q)
 have a':∀b∈L,¬hF (nf B zD D) b:=λb Y q=>by
  refine dS (l b Y) λo e=>?_;rcases bf b q with⟨q,_⟩| q
  ·exact ns ((ay b q).symm.trans e)
  ·exact dS (aq.pvl b q) λo' e'=>ns ((n b Y).symm.trans e')
 have b9:∀b,mS B (nf B zD D) b->b∈L++ah:=λb Y=>by
  rcases Y with Y| ⟨x,hx,Y⟩
  ·refine Eq.symm (show b=zD from Y)▸?_;exact aL _ (.tail _ (.head _))
  ·rcases(fY aj hc x).2 b Y with⟨q,_⟩| q
   ·exact aL _ (.tail _ (.tail _ (cC.mpr (cU (x,b) q rfl))))
   ·obtain⟨a,ha⟩:=cellsFrom_some B.names (zD+1) (mem_of_lookup hx);have e:(nf B zD D).cells=cellsFrom (zD+1) B.names []++lZ D B.names []:=gv _ _ _
    (replace Y:=e▸Y;replace Y:=jn▸Y)
    obtain⟨cy,bp⟩:=cR.mp (j1 ha);replace Y:=bp▸Y;cases Y;exact aL _ (.tail _ (.tail _ (cC.mpr (cU (x,b) (mem_of_lookup bp) rfl))))
 have bq:pp c A {ab with pv:=(ab.pv++L)++ah} al itr zE L:=b0.keep a8 λb Y o e=>av b o e;have bh:codeAny c.M A (.compLoop (.ListComp elt (⟨ap,iter,ifs,0⟩::gs) B p) 0 (.ref zE) (.ref aa) (nf B zD D)) (compPost c.M A E' use Q (.ref aa) zD) {s with heap:=al,toks:=tk}:=by
  refine cf (s₀:= {s with heap:=al,toks:=tk}) (r₀:= {ab with pv:=(ab.pv++L)++ah}) b7 (λb Y=>by refine cg.symm▸?_;exact aL _ Y) (λb Y=>aP _ Y) b9 (aL _ (.head _)) a' bv bu ?_ dW (N:=ba)
   ⟨bt,eA.refl,b8,bq,ok,(iS [] 0 a7 .nil (cK _))⟩ e2
  rintro az co cp cs b4 am b2 cq ak b' kk;cases b';obtain⟨cw,rfl,rfl⟩:=wT e3;have CL:zD ∉ L:=λq=>a' zD q (.inl rfl);obtain⟨ch,ca⟩:=ak.vo.ns;obtain⟨items,mm,hd,hx,hz⟩:=ak.acc;have a5:az.pv=(ab.pv++L)++ah:=ak.S.pv;let zB:List Addr:=zD::(cellsFrom (zD+1) B.names []).map (λaf=>af.2);have aw:∀b∈zB,b∈ah:=λb Y=>.tail _ Y;have cb:∀b∈zB,zD<=b:=λb Y=>by
   rcases aX.mp Y with rfl| q
   ·exact aJ _
   ·clear Y;obtain⟨⟨x,a⟩,hx,rfl⟩:=cC.mp q;exact bW (ai.empty x a hx).2
  have ci:∀b∈zB,b ∉ L:=λb Y q=>by
   obtain⟨o,e⟩:=l b q;have:=ay b (aw b Y);exact ns (this.symm.trans e)
  have cj:aa ∉ zB:=λq=>cD _ (aT ao (cb aa q));have a9:∀b∈ab.pv,b ∉ L++ah:=λb Y q=>by
   obtain⟨o,e⟩:=aq.pvl b Y;exact ns ((ar b q).symm.trans e)
  have cc:aa ∉ ab.pv:=λq=>a9 aa q (aL _ (.head _));have k4:∀b o,b4.get? b=U o->b ∉ L->am.get? b=U o:=λb o e nb=>kk b o nb e;have cd:am.get? aa=U (fG items mm):=kk aa _ bu hd;obtain⟨ck,cz⟩:=jj.finish ak.R (λb Y=>by refine a5.symm▸?_;exact aP _ (aL _ Y)) (λb Y=>by
   refine a5.symm▸?_;rcases aO.mp Y with q| q
   ·exact aP _ (aP _ q)
   ·exact aL _ (aw b q)) (λb Y=>by
   rcases aO.mp Y with q| q
   ·exact λz=>a9 b q (aP _ z)
   ·exact ci b q) (by refine a5.symm▸?_;exact aL _ (.head _)) (λq=>by
   rcases aO.mp q with q| q
   ·exact cc q
   ·exact cj q) k4 cd hx (aA hz (by decide))
  have a6:∀b o,ag.get? b=U o->al.get? b=U o:=λb o e=>av b o (k b o e);have no:∀a,al.get? a=zF->ag.get? a=zF:=λa ha=>by
   cases q:ag.get? a with
   |none=>rfl
   |some o=>exact ns (ha.symm.trans (a6 a o q))
  obtain⟨cm,ce,hf⟩:=ak.S.ext;have ax:dH ab ag {ob:=az.ob++ [(aa,aa)],pv:=ab.pv} am:=by
   refine⟨(cU (cm++ [(aa,aa)]) (by rw[<-cN];exact congrArg (·++ [(aa,aa)]) ce) (λq hq=>?_)),rfl,λb o e Y=>k4 b o (ak.S.keep b o (a6 b o e) Y λq=>?_) λq=>?_,λb o e=>?_⟩
   ·rcases aO.mp hq with hq| hq
    ·exact⟨no _ (hf q hq).1,no _ (hf q hq).2⟩
    ·refine Eq.symm (aH.mp hq)▸?_;have:=ar aa (aL _ (.head _));exact⟨this,this⟩
   ·exact ns ((ar b q).symm.trans e)
   ·exact ns ((bg b q).symm.trans e)
   ·obtain⟨o',e'⟩:=ak.S.live b o (a6 b o e);exact⟨o',k4 b o' e' λq=>ns ((bg b q).symm.trans e)⟩
  have cn:Mv ab ag {ob:=az.ob++ [(aa,aa)],pv:=ab.pv++zB} am:=⟨λi p e=>ax.at_ob e,λa o e f=>⟨(ax.mv.fz a o e f).1,λq=>by
   rcases q with q| q
   ·exact(ax.mv.fz a o e f).2 (.inl q)
   ·rcases aO.mp q with q| q
    ·exact f (.inr q)
    ·exact ns ((ar a (aL _ (aw a q))).symm.trans e)⟩⟩
  have bw:∀b,hF D b->∀o,ag.get? b=U o->am.get? b=U o:=λb Y o e=>ax.keep b o e (aq.pvo b (by
   rcases Y with rfl| ⟨x,hx⟩
   ·exact aj.lpv
   ·exact aj.cpv _ _ hx))
  intro _;refine O ab ag {ob:=az.ob++ [(aa,aa)],pv:=ab.pv} am b2 zD aa zB a4 ck (λb Y=>ar b (aL _ (aw b Y))) (λb Y q=>a9 b Y (aL _ (aw b q))) ax (aj.wider λb Y=>aP _ Y) (bc.keepE bw cn) (.head _) (.ref _ (aa,aa) ?_) ⟨ch,ca.at' λo e=>kk _ o CL e⟩
  (refine(ak.R.len)▸?_;refine Eq.symm (bG (aJ _))▸?_;rw[fh]);rfl
 exact codeAny_compStart_list bh (oB bq bh)
theorem qT(ak:c.Ok)(hh:A.handled=zF)(hu:A.units+100 < cLine)(al:∀k,k < m->eV c A (Lake.ev c.Γ C k))(ih:eV c A (Lake.ev c.Γ C m))(eo:bZ c sc D r.pv)(vo:bV c sc D r s.heap M)(R:c.R r N s.heap)
  (hk:B.kind= .function) (hc:jt sc B=zG) (aq:jv c A B (.ListComp elt (⟨af,iter,ifs,0⟩::gs) B p) 0 t body) (am:Db c.t sc iter ao) (ho:fV c.t B.names=U own) (e1:gG (Lake.ev c.Γ C m) ao M N=U (itr,ag)) (ok:lM t itr=zG) (e2:gr (λN it=>it.next N) body dW itr (own.map (λar=>(ar,Option.none))++M) [] ag=U (ay,acc,ah)) (e3:iP acc ah=U (v,J)) (O:gp c r s J v Q):
  wpAny c.M A (eval (.ListComp elt (⟨af,iter,ifs,0⟩::gs) B p) D) Q E' s:=by
 rw[eval_ListComp];refine sR ak hh hu al ih eo vo R hk hc aq am ho e1 ok e2 e3 λai az rm hm tk zD au zB aj av ae aw Y a0 JJ ax xv aa _=>dS aa λm hn=>?_;clear aa;refine⟨m,hn,λh' ap=>?_⟩;have k:∀b o,hm.get? b=U o->b ∉ zB->h'.get? b=U o:=λb o e nb=>(ap.2 b λq=>nb (q▸ax)).trans e;have ab:=jj.leave av rfl aw k;refine O (.ref au) {rm with pv:=ai.pv} h' tk ab.1 (aj.trans ⟨Y.ext,rfl,λb o e hb=>k b o (Y.keep b o e hb) λq=>?_,λb o e=>?_⟩) (xv.mv ab.2)
 ·replace e:=(ae b q)▸e;exact ns e
 ·exact dS (Y.live b o e) λo' e'=>⟨o',k b o' e' λq=>ns ((ae b q).symm.trans e)⟩
theorem CE(a6:c.Ok)(hh:A.handled=zF)(hu:A.units+100 < cLine)(a7:∀k,k < m->eV c A (Lake.ev c.Γ C k))(ih:eV c A (Lake.ev c.Γ C m))(eo:bZ c sc D r.pv)(vo:bV c sc D r s.heap M)(R:c.R r N s.heap)
  (hk:B.kind= .function) (hc:jt sc B=zG) (bf:jv c A B (.ListComp elt (⟨ae,iter,ifs,0⟩::gs) B p) 0 t body) (a8:Db c.t sc iter a9) (ho:fV c.t B.names=U own) (e1:gG (Lake.ev c.Γ C m) a9 M N=U (itr,av)) (ok:lM t itr=zG) (e2:gr (λN it=>it.next N) body dW itr (own.map (λai=>(ai,Option.none))++M) [] av=U (bo,acc,aw)) (e3:iP acc aw=U (v,J))
  (a':∀ {r:Rh} {s:Shared} [NeZero s.toks] {x:Value} {Q:Unit->Shared->Prop},bZ c sc D r.pv->bV c sc D r s.heap M->c.R r J s.heap->c.V r s.heap v x->n8 c sc D r s J ax (Q ())->wpAny c.M A (u x) Q E' s) (O:n8 c sc D r s J ax (Q .none)):
  wpAny c.M A (comprehension (.ListComp elt (⟨ae,iter,ifs,0⟩::gs) B p) B D (firstIterPos (⟨ae,iter,ifs,0⟩::gs) p) (newList []) (firstAsync (⟨ae,iter,ifs,0⟩::gs)) (firstIter (⟨ae,iter,ifs,0⟩::gs) D) (U u)) Q E' s:=by
 refine sR a6 hh hu a7 ih eo vo R hk hc bf a8 ho e1 ok e2 e3 λY ag rm hm tk zD bp zB ah ar au aj ab ba JJ ak xv am _=>dS am λbg hn=>?_;clear am;have af:bZ c sc D Y.pv:=eo.step ah;have bh: ¬mS sc D zD:=λq=>aj zD (mS.pv af zD q) ak;refine a' ba JJ ar xv λal a0 ay a3 aa az _=>?_;have a4: ¬({rm with pv:=Y.pv++zB}:Rh).own zD:=ar.pvo zD (aL _ ak);refine(cU bg (hn.at' λo e=>aa.keep zD o e a4 bh) (λh' bb=>?_));have k:∀b o,a0.get? b=U o->b ∉ zB->h'.get? b=U o:=λb o e nb=>(bb.2 b λq=>nb (q▸ak)).trans e;refine f7 (jj.leave a3 aa.pv aj k) λbj bl=>cJ (ab.ext) λbm bc hf=>cJ (aa.ext) λao a5 ap=>?_;have no:∀a,hm.get? a=zF->ag.get? a=zF:=λa ha=>by
  cases q:ag.get? a with
  |none=>rfl
  |some o=>obtain⟨o',e'⟩:=ab.live a o q;replace e':=ha▸e';exact ns e'
 have bn:eA (mS sc D) Y ag {al with pv:=Y.pv} h':=by
  refine⟨(cU (bm++ao) (by rw[<-cN];exact a5.trans (congrArg (λai=>ai++ao) bc)) (λq hq=>?_)),rfl,λb o e hb hx=>?_,λb o e=>?_⟩
  ·rcases aO.mp hq with hq| hq
   ·exact hf q hq
   ·exact⟨no _ (ap q hq).1,no _ (ap q hq).2⟩
  ·refine k b o (aa.keep b o (ab.keep b o e hb) (λq=>hb (ab.own_old e q)) hx) λq=>?_;replace e:=(au b q)▸e;exact ns e
  ·exact dS (ab.live b o e) λo' e'=>dS (aa.live b o' e') λaq be=>⟨aq,k b aq be λq=>ns ((au b q).symm.trans e)⟩
 refine O {al with pv:=Y.pv} h' ay (ah.pv▸bj) (ah.x.trans bn) (az.keepE (λb hb o e=>k b o e λq=>aj b (by
  rcases hb with rfl| ⟨x,hx⟩
  ·exact af.lpv
  ·exact af.cpv _ _ hx) q) bl)
end
section
variable{prog:Program}{w:World}{A:Around}{R:Result->Shared->Prop}{s:Shared}[NeZero s.toks]{elt Y aa B iter:Expr}{ifs:List Expr}{J:Scope}{ab:Pos}{ae acc:Value}{D:Env}
noncomputable abbrev ru(elt Y aa B iter:Expr)(ifs:List Expr)(J:Scope)(ab:Pos):Expr:= .ListComp elt [⟨Y,aa,[],0⟩,⟨B,iter,ifs,0⟩] J ab
theorem AF(ae acc:Value)(D:Env):compTurn (ru elt Y aa B iter ifs J ab) 0 ae acc D=(do
   standAt aa.pos
   match<-pyNext ae with
   |none=>pure (.done .next)
   |some v=>
    letOwnedTupleGo Y ae v
    assign Y D v
    let x<-eval iter D
    standAt iter.pos
    let x<-foldedSetIterable iter D x;let it2<-holding [x] (pyIter x);let _<-runOwn (.compStart (ru elt Y aa B iter ifs J ab) 1 it2 acc D) D
    again (.compLoop (ru elt Y aa B iter ifs J ab) 0 ae acc D)):=by rfl
theorem lX(hf:∀x,foldedSetIterable iter D x=pure x)(zE:Nat->Shared->Prop)
  (ap:∀n s E',zE n s->wpAny (model prog w) A (pyNext ae) (λr ag=>match r with
   |none=>R (.ok .next) ag
   |some v=>wpAny (model prog w) A (letOwnedTupleGo Y ae v) (λaf ag=>wpAny (model prog w) A (assign Y D v) (λaf aj=>
     wpAny (model prog w) A (eval iter D) (λx ak=>wpAny (model prog w) A (pyIter x) (λit2 al=>
      ∀ao:Result->Shared->Prop,(∀ah m,m < n->zE m ah->ao (.ok .next) ah)->codeAny (model prog w) A (.compStart (ru elt Y aa B iter ifs J ab) 1 it2 acc D) ao al) E' ak) E' aj) E' ag) E' ag) E' s)
  (n:Nat) (h:zE n s):
  codeAny (model prog w) A (.compLoop (ru elt Y aa B iter ifs J ab) 0 ae acc D) R s:=by
 refine codeAny_loop rfl zE (λn s ai=>?_) n h;show wpAny _ A ((compTurn (ru elt Y aa B iter ifs J ab) 0 ae acc D).onRaise (λx=>do noteFrame x D;theTreesLotGoes x)) _ _ s;refine wpAny_noted ?_;rw[AF];refine aB (fc (aB (bX (ap n s _ ai) (λr ag am=>?_) λaf af h'=>h')));cases r with
 |none=>exact aG am
 |some v=>
  refine aB (bX am (λaf aj aq=>?_) λaf af h'=>h');refine aB (bX aq (λaf ak ar=>?_) λaf af h'=>h');refine aB (bX ar (λx al au=>?_) λaf af h'=>h');refine aB (fc ?_);rw[hf];refine aB (aG ?_);refine aB (cZ (bX au (λit2 ah av=>?_) λaf af h'=>h'));refine aB (wpAny_runOwn ?_ nofun);rw[Around.mark_none];exact av _ λaw m hm ai=>aG ⟨rfl,m,hm,ai⟩
end
def kq(ev:Ev)(elt:E)(t:T)(it2:It)(J:T)(Y:List E):V->aW->List V->H->Option (aW×List V×H):=λv M acc N=>match gc t v N M with
 |some M=>match gG ev it2 M N with
  |some (B,N)=>if lM J B then j4 ev elt J Y B M acc N else .none
  |.none=>.none
 |.none=>.none
section
variable{c:Cx}{A:Around}{B:Scope}{C:Cf}{N:H}
theorem Jb{f:gx->H->Option J}{y:J} (e:(match o with
  |some (itr,N)=>f itr N
  |.none=>.none)=U y):∃itr N,o=U (itr,N)/\f itr N=U y:=by
 cases o with
 |none=>exact ns e
 |some p=>exact(rO p.1 p.2 rfl e)
theorem qU(b2:c.Ok)(hh:A.handled=zF)(hu:A.units+100 < cLine)(db:∀k,k < m->eV c A (Lake.ev c.Γ C k))(ih:eV c A (Lake.ev c.Γ C m))
  (te:Tr c.t B elt a3) (b3:wd c.t B av t) (b4:Db c.t B iter ba) (tt:wd c.t B az t2) (ti:rV c.t B ifs a4):jv c A B (ru elt av bh az iter ifs a' bj) 0 t (kq (Lake.ev c.Γ C m) a3 t ba t2 a4):=by
 intro ae r₀ s₀ Y zE eo ag L dw b' bn ay bl b5 b6 b7 bo O cw r itr M acc N h tk aa eq _;have dx:jv c A B (ru elt av bh az iter ifs a' bj) 1 t2 (ju (Lake.ev c.Γ C m) a3 t2 a4):=oK b2 hh hu db ih ((λei ed ee=>by rfl)) (Jh _ _ _ rfl) te tt ti;refine lX (λx=>oD b4 x) (v6 c A B ae ag L Y zE r₀ s₀ t (kq (Lake.ev c.Γ C m) a3 t ba t2 a4) b7) ?_ cw ⟨r,itr,M,acc,N,h,tk,inferInstance,rfl,aa,eq⟩;clear aa eq;intro n s E' q1;refine Ll q1 λr itr M acc N h tk zt q2 aa eq=>?_;clear q1;subst q2;cases n with
 |zero=>exact ns eq
 |succ n=>
  have af:∀b∈ag,b∈r.pv:=λb J=>aa.S.pv▸dw b J;have aw:∀b∈L,b∈r.pv:=λb J=>af b (b' b J);refine(yo eq).elim (λq=>?_) λq=>?_
  ·exact qp hh aa.R aa.it q.1 λh' dc k=>O r M acc N h h' dc itr aa q.2.symm k
  ·refine JO q λv dd ci cy de hn J df=>?_;refine bX (mY aa.R aw aa.it hn b3 aa.ok (Q:=λu cz=>wpAny c.M A (assign av ae u) (λab c0=>wpAny c.M A (eval iter ae) (λx bu=>wpAny c.M A (pyIter x) (λit2 bv=>
      ∀bo:Result->Shared->Prop,(∀bw m',m' < n+1->v6 c A B ae ag L Y zE r₀ s₀ t (kq (Lake.ev c.Γ C m) a3 t ba t2 a4) b7 m' bw->bo (.ok .next) bw)->codeAny c.M A (.compStart (ru elt av bh az iter ifs a' bj) 1 it2 (.ref Y) ae) bo bv) E' bu) E' c0) E' cz) λu ao ef bx a5 c1 cj=>?_) (λo ej ao=>?_) λab ab x=>x
   rotate_left
   ·obtain⟨u,rfl,ao⟩:=ao;exact ao
   ·refine ga (aa.acc) λitems mm hd hx hz=>?_;have bz:=a5.mv aw;have ck:bV c B ae r ao M:=aa.vo.keepE (λb J o e=>a5.keep b o e (λq=>aa.R.pvo b (aa.S.pv▸(by
     rcases J with rfl| ⟨x,hx⟩
     ·exact eo.lpv
     ·exact eo.cpv _ _ hx)) q) λq=>bl b q J) bz
    have b8: ¬r.own Y:=aa.R.pvo Y (af Y ay);have cm:=a5.keep Y _ hd b8 b6;have am:bZ c B ae r.pv:=aa.S.pv▸eo;refine Ar ((by
      exact cJ (oj J) λce c8 J=>je (Jb J) λcg cf c9 J=>qH J λh J=>(Hn ce cg cf c8 c9 h J))) λd' ek cn co e2 dg e3=>?_
    refine jb (N:=N) hh t b3 am ck bx c1 co λbb c' eg a6 ap bq _=>?_;have dh:∀b,mS B ae b->b∈r.pv:=λb J=>af b (bn b J);have b0:=ap.mv dh;have cp:=ap.keep Y _ cm b8 λq=>b5 q.toEnv;have cq:=cj.keep b0 λb J o e=>ap.keep b o e (bx.pvo b (aw b J)) λq=>bl b J q.toEnv;have a0:bb.pv=r.pv:=ap.pv;have br:bZ c B ae bb.pv:=a0▸am;have di:eA (λab=>ab∈ag) r₀ s₀.heap bb c':=(aa.S.trans (a5.mono λb J=>b' b J)).trans (ap.mono bn);refine bX (m8
     b2 hh ih b4 br bq a6 e2 ?_) (λx bu aq=>bX aq (λo bv a7=>by obtain⟨ca,rfl,a7⟩:=a7;exact a7) λab ab x=>x) λab ab x=>x
    intro ar a8 aq bt ca al bc aj ak bm dj be _ dk dm;have ai:ar.pv=r.pv:=aj.pv.trans a0;have ax:∀b∈r.pv,b ∉ al:=λb J q=>dS (bc.pvl b (ai.symm▸J)) λo e=>ns ((bm b q).symm.trans e);have bp:∀b,hF ae b->b∈r.pv:=λb J=>by
     rcases J with rfl| ⟨x,hx⟩
     ·exact am.lpv
     ·exact am.cpv _ _ hx
    refine f7 (bc.enter ak bm dj) λdy cb=>?_;have dn:=(bq.step br a6 aj).keepE (λb ab o e=>ak b o e) cb;have cr:=aj.keep Y _ cp (a6.pvo Y (a0.symm▸af Y ay));have cs:=(((hx.mv bz).mv b0).step aj).mv cb;let cc:List Addr:=ag.filter (λb=>decide (b ∉ L))++al;have b9:∀b,b∈ag->b ∉ L->b∈cc:=λb h1 h2=>aP _ (dO.mpr ⟨h1,decide_eq_true h2⟩);have rp:∀b,b∈cc->(b∈ag/\b ∉ L)\/b∈al:=λb J=>(aO.mp J).imp (λq=>⟨(dO.mp q).1,of_decide_eq_true (dO.mp q).2⟩) id;have a9:codeAny c.M A (.compLoop (ru elt av bh az iter ifs a' bj) 1 (.ref ca) (.ref Y) ae) dk {s₀ with heap:=aq,toks:=bt}:=by
     refine dx (s₀:= {s₀ with heap:=aq,toks:=bt}) (r₀:= {ar with pv:=ar.pv++al}) ((ai.symm▸am:bZ c B ae ar.pv).wider λb J=>aP _ J) (λb J=>?_) (λb J=>aL _ J) (λb J=>b9 b (bn b J) λq=>bl b q J.toEnv) (b9 Y ay b6) (λb J q=>ax b (bp b q) J) b5 (λq=>ax Y (af Y ay) q) ?_ dW (N:=cn)
      ⟨dy,.refl,dn,be,dg,(iS items mm (ak Y _ cr) cs hz)⟩ e3
     ·exact(rp b J).elim (λq=>aP _ (ai.symm▸af b q.1)) λq=>aL _ q
     ·intro bf ea eb eh a7 b1 ct ec ah dp kk _;cases dp;have cu:bf.pv=r.pv++al:=ah.S.pv.trans (congrArg (λab=>ab++al) ai);refine f7 (jj.leave ah.R cu ax λb o e nb=>kk b o nb e) λdz cd=>?_;have no:∀a,aq.get? a=zF->a8.get? a=zF:=λa ha=>by
       cases q:a8.get? a with
       |none=>rfl
       |some o=>exact ns (ha.symm.trans (ak a o q))
      have au:∀b o,a8.get? b=U o->b ∉ al:=λb o e q=>ns ((bm b q).symm.trans e);have SI:eA (λab=>ab∈ag) ar a8 {bf with pv:=r.pv} b1:=by
       refine cJ (ah.S.ext) λd8 dq hf=>⟨(cU d8 dq (λp hp=>⟨no _ (hf p hp).1,no _ (hf p hp).2⟩)),ai.symm,λb o e ho d9=>?_,λb o e=>?_⟩
       ·exact kk b o (au b o e) (ah.S.keep b o (ak b o e) ho λq=>(rp b q).elim (λq=>d9 q.1) (au b o e))
       ·exact dS (ah.S.live b o (ak b o e)) λo' e'=>⟨o',kk b o' (au b o e) e'⟩
      refine dm _ n (bQ n) ⟨{bf with pv:=r.pv},dd,ci,cy,de,b1,ct,inferInstance,rfl,⟨dz,(di.trans aj.x).trans SI,ah.vo.keepE (λb J o e=>kk b o (ax b (bp b J)) e) cd,?_,nN hn aa.ok,?_⟩,df⟩
      ·exact(cq.keep aj.mv λb J o e=>aj.keep b o e (a6.pvo b (a0.symm▸aw b J))).keep (SI.mv λb J=>ai.symm▸af b J) λb J o e=>kk b o (au b o e) (ah.S.keep b o (ak b o e) (bc.pvo b (ai.symm▸aw b J)) λq=>(rp b q).elim (λq=>q.2 J) (au b o e))
      ·exact ga (ah.acc) λch dr dt du dv=>(iS ch dr (kk Y _ (ax Y (af Y ay)) dt) (du.mv cd) dv)
    refine codeAny_of_tree ?_;skip;refine wpAny_notedAt ?_;unfold compStart;skip;refine aB (wpAny_askSetting (wpAny_ite ?_));split
    ·first
      |exact aB (aG (aG (And.intro rfl a9)))
      |exact aG (And.intro rfl a9)
    ·first
      |exact aB (ii (aB (fc (aB (bX (oB be a9) (λcv da bg=>aG (And.intro rfl bg)) λab ab x=>x)))))
      |(refine aB (ii ?_);show wpAny _ _ (standAt iter.pos>>=_) _ _ s;exact aB (fc (aB (bX (oB be a9) (λcv da bg=>aG (And.intro rfl bg)) λab ab x=>x))))
end
def L4(t:Tx)(sc:Scope)(s:Stmt)(u:S):Prop:=∃a:AS,s=a.un/\u=a.er/\a.ok t sc=zG
def xL(t:Tx)(sc:Scope)(B:List Stmt)(us:List S):Prop:=∃as,B=pT as/\us=nU as/\qj t sc as=zG
theorem xL.mk{t:Tx}{sc:Scope}{as:List AS}(h:qj t sc as=zG):xL t sc (pT as) (nU as):=⟨as,rfl,rfl,h⟩
theorem pX{a:AE}(h:oC a.un=zH)(t:Option Expr)(B:Nat)(D:Env):swapsWith a.un t B D=pure zH:=by
 cases a<;>first| rfl| exact tf h
theorem om(a:AE)(x y:Expr)(q:Pos)(B:Nat)(D:Env):swapsWith a.un (U (.Subscript x y q)) B D=pure zH:=by cases a<;>rfl
theorem y5(a:AE)(es:List Expr)(k:Nat)(q:Pos)(B:Nat)(D:Env):swapsWith a.un (U (.Tuple es k q)) B D=pure zH:=by cases a<;>rfl
def Lw(c:Cx)(r:Rh)(h:Heap):Fl->Flow->Prop
 |.next,f=>f= .next
 |.brk,f=>f= .brk
 |.ret v,f=>∃u,f= .ret u/\c.V r h v u
def ky(c:Cx)(sc:Scope)(D:Env)(r:Rh)(s:Shared)(Y:H)(fl:Fl)(J:aW)(Q:Flow->Shared->Prop):Prop:=
 ∀f B h' tk,c.R B Y h'->eA (mS sc D) r s.heap B h'->bV c sc D B h' J->Lw c B h' fl f->[NeZero tk]->Q f {s with heap:=h',toks:=tk}
section
variable{c:Cx}{A:Around}{E':Value->Shared->Prop}{s:Shared}[NeZero s.toks]{sc Y:Scope}{D:Env}{r ab:Rh}{N B J:H}{v:V}{M aa:aW}{ev:Ev}{C:Cf}{h':Heap}{tk:Nat}{fl:Fl}
theorem ky.cast(O:ky c sc D r s B fl aa Q)(e:U (af,ae,σ₀)=U (fl,aa,B)):ky c sc D r s σ₀ af ae Q:=by cases e;exact O
theorem ky.after(O:ky c sc D r s B fl aa Q)(S:eA (mS sc D) r s.heap ab h'):ky c sc D ab {s with heap:=h',toks:=tk} B fl aa Q:=
 λf ae af ag ah ai vo=>O f ae af ag ah (S.trans ai) vo
theorem nZ:∀(as:List AN),as.all (AN.ok c.t sc)=zG->∀ {r:Rh} {s:Shared} [NeZero s.toks] {v:V} {u:Value} {M:aW} {Q:Unit->Shared->Prop},bZ c sc D r.pv->bV c sc D r s.heap M->c.R r N s.heap->c.V r s.heap v u->
  n8 c sc D r s N ((as.map AN.er).foldl (λvs x=>vs.set x v) M) (Q ())->wpAny c.M A (assignAll u ((assignEach (as.map AN.un) D).map (λap=>ap.2))) Q E' s:=by
 intro as;induction as with
 |nil=>intro _ r s _ v u M Q eo vo R xv O;exact aG (O r s.heap s.toks R .refl vo)
 |cons a af ih=>
  intro h r s _ v u M Q eo vo R xv O;obtain⟨x,i,p⟩:=a;have st:∀ {Q:Unit->Shared->Prop},n8 c sc D r s N (M.set i v) (Q ())->wpAny c.M A (assign (.Name x p) D u) Q E' s:=λO=>wpAny_assign_Name (lD (a1 (a1 h)) (of_decide_eq_true (a2 (a1 h))) eo vo R xv O);cases af with
  |nil=>
   exact st O
  |cons b af=>
   obtain⟨y,j,p'⟩:=b;refine aB (cZ (st λar au aq aj ae ag=>?_));intro _;exact ih (a2 h) (eo.stepX ae) ag aj (xv.mv (ae.mv (mS.pv eo))) (λak al ah am ao ai=>O ak al ah am (ae.trans ao) ai)
theorem BZ{f:gx->H->Option ae}{y:ae} (e:(match o with
  |some (v,B)=>f v B
  |.none=>.none)=U y):∃v B,o=U (v,B)/\f v B=U y:=by
 cases o with
 |none=>exact ns e
 |some x=>exact(rO x.1 x.2 rfl e)
theorem Ji{f:List V->H->Option ae}{o:Option (aW×List V×H)}{y:ae} (e:(match o with
  |some (_,acc,B)=>f acc B
  |.none=>.none)=U y):∃M acc B,o=U (M,acc,B)/\f acc B=U y:=by
 cases o with
 |none=>exact ns e
 |some x=>exact(Ey x.1 x.2.1 x.2.2 rfl e)
theorem Cs(Γ:G)(C:Cf)(n:Nat)(elt:E)(t:T)(iter:It)(ifs:List E)(own:List Nat)(M:aW)(N:H):Lake.ev Γ C (n+1) (.comp elt [.mk t iter ifs] own) M N=(match gG (Lake.ev Γ C n) iter M N with
    |some (itr,N)=>if lM t itr then match j4 (Lake.ev Γ C n) elt t ifs itr (own.map (λae=>(ae,.none))++M) [] N with
     |some (_,acc,N)=>iP acc N
     |.none=>.none else .none
    |.none=>.none):=rfl
theorem pi{ifs:List E}{own:List Nat}(e:Lake.ev c.Γ C (n+1) (.comp elt [.mk t it ifs] own) M N=U (v,B)):∃itr J af acc ae,gG (Lake.ev c.Γ C n) it M N=U (itr,J)/\lM t itr=zG/\
  j4 (Lake.ev c.Γ C n) elt t ifs itr (own.map (λag=>(ag,Option.none))++M) [] J=U (af,acc,ae)/\iP acc ae=U (v,B):=by
 exact je (BZ ((Cs ..).symm.trans e)) λitr J e1 e=>qH e λok e=>BX (Ji e) λaf acc ae e2 e=>(Lp itr J af acc ae e1 ok e2 e)
theorem nT{ifs:List E}{own:List Nat}(e:Lake.ev c.Γ C (n+1) (.comp elt [.mk t it [],.mk t2 it2 ifs] own) M N=U (v,B)):∃itr J af acc ae,gG (Lake.ev c.Γ C n) it M N=U (itr,J)/\lM t itr=zG/\
  gr (λN it=>it.next N) (kq (Lake.ev c.Γ C n) elt t it2 t2 ifs) dW itr (own.map (λag=>(ag,Option.none))++M) [] J=U (af,acc,ae)/\iP acc ae=U (v,B):=by
 have e0:(match gG (Lake.ev c.Γ C n) it M N with
  |some (itr,N)=>if lM t itr then (match gr (λN it=>it.next N) (kq (Lake.ev c.Γ C n) elt t it2 t2 ifs) dW itr (own.map (λag=>(ag,Option.none))++M) [] N with
   |some (_,acc,N)=>iP acc N
   |.none=>.none) else .none
  |.none=>.none)=U (v,B):=e
 exact je (BZ e0) λitr J e1 e=>qH e λok e=>BX (Ji e) λaf acc ae e2 e=>(Lp itr J af acc ae e1 ok e2 e)
theorem oF:evalThenUse (.ListComp elt ae s' q) D use=(comprehension (.ListComp elt ae s' q) s' D (firstIterPos ae q) (newList []) (firstAsync ae) (firstIter ae D) (U use)>>=λaf=>pure ()):=rfl
theorem qt(ai:c.Ok)(hh:A.handled=zF)(hu:A.units+100 < cLine)(ih:∀m,eV c A (Lake.ev c.Γ C m))(tn: [AN.mk x i px].all (AN.ok c.t sc)=zG)
  (hb:swapsWith (.ListComp elt (⟨af,iter,ifs,0⟩::gs) Y q) (U (.Name x px)) p.line D=pure zG) (eo:bZ c sc D r.pv) (vo:bV c sc D r s.heap M) (R:c.R r N s.heap)
  (hk:Y.kind= .function) (hc:jt sc Y=zG) (ao:jv c A Y (.ListComp elt (⟨af,iter,ifs,0⟩::gs) Y q) 0 t body) (aj:Db c.t sc iter it) (ah:fV c.t Y.names=U own) (e1:gG (Lake.ev c.Γ C n) it M N=U (itr,J)) (ok:lM t itr=zG) (e2:gr (λN it=>it.next N) body dW itr (own.map (λae=>(ae,Option.none))++M) [] J=U (au,acc,ag)) (e3:iP acc ag=U (v,B)) (O:ky c sc D r s B .next (M.set i v) Q):wpAny c.M A (exec (.Assign [.Name x px] (.ListComp elt (⟨af,iter,ifs,0⟩::gs) Y q) p) D) Q E' s:=by
 rw[arm_exec_Assign];refine aB (fc ?_);rw[show swapsWithSole [Expr.Name x px] (.ListComp elt (⟨af,iter,ifs,0⟩::gs) Y q) p.line D=pure zG from hb];refine aB (aG ?_);refine mL rfl ?_;rw[oF];refine aB (aB ?_);have ap:n8 c sc D r s B (M.set i v) (λs'=>wpAny c.M A (pure ()) (λa s'=>wpAny c.M A (pure Flow.next) Q E' s') E' s'):=λab h' ak aq ar al=>aG (aG (O .next ab h' ak aq ar al rfl));have am:∀ {r:Rh} {s:Shared} [NeZero s.toks] {x':Value} {Q:Unit->Shared->Prop},bZ c sc D r.pv->bV c sc D r s.heap M->c.R r B s.heap->c.V r s.heap v x'->n8 c sc D r s B (M.set i v) (Q ())->wpAny c.M A (assignAll x' ((assignEach [.Name x px] D).map (λae=>ae.2))) Q E' s:=λeo vo R xv O=>nZ [.mk x i px] tn eo vo R xv O;have key:=CE (Q:=λae s'=>wpAny c.M A (pure ()) (λa s'=>wpAny c.M A (pure Flow.next) Q E' s') E' s') ai hh hu (λk ae=>@ih k) (@ih n) eo vo R hk hc ao aj ah e1 ok e2 e3 am ap;exact key
theorem B3{a:AE}(h:oC a.un=zG):(∃elt tg it ifs Y own p,a= .comp elt tg it ifs Y own p)\/∃elt tg it ae it2 ifs Y own p,a= .comp2 elt tg it ae it2 ifs Y own p:=by
 cases a with
 |comp elt tg it ifs Y own p=>exact .inl (Lo elt tg it ifs Y own p rfl)
 |comp2 elt tg it ae it2 ifs Y own p=>exact .inr ((⟨elt,tg,it,ae,it2,ifs,Y,own,p,rfl⟩))
 |_=>exact nomatch h
theorem vu(af:c.Ok)(hh:A.handled=zF)(hu:A.units+100 < cLine)(ih:∀m,eV c A (Lake.ev c.Γ C m)){I:List AN}{a:AE}(ah:I.isEmpty=zH)(tn:I.all (AN.ok c.t sc)=zG)(tv:a.ok c.t sc=zG)(eo:bZ c sc D r.pv)(vo:bV c sc D r s.heap M)(R:c.R r N s.heap)
  (e:Lake.ev c.Γ C n a.er M N=U (v,B)) (O:ky c sc D r s B .next ((I.map AN.er).foldl (λvs x=>vs.set x v) M) Q):wpAny c.M A (exec (.Assign (I.map AN.un) a.un p) D) Q E' s:=by
 have ae:swapsWithSole (I.map AN.un) a.un p.line D=pure zH->swappedStores (I.map AN.un) a.un D=pure zF->wpAny c.M A (exec (.Assign (I.map AN.un) a.un p) D) Q E' s:=λhs hw=>by
  refine wpAny_Assign_stores ?_ hs hw;exact ih n (.mk tv) eo vo R e λu a0 a3 ay am ag ao _=>nZ I tn (eo.step ag) (vo.step eo R ag) am ao λap aq ai ar au aj=>O .next ap aq ai ar (ag.x.trans au) aj rfl
 cases I with
 |nil=>exact tf ah
 |cons b av=>
  obtain⟨x,i,px⟩:=b;cases av with
  |cons b' az=>clear ah tn O;obtain⟨_,_,_⟩:=b';exact ae rfl rfl
  |nil=>
   by_cases hc:oC a.un=zH
   ·exact ae (show swapsWithSole [Expr.Name x px] a.un p.line D=pure zH from pX hc (U (.Name x px)) p.line D) rfl
   ·rcases B3 ((Bool.not_eq_false _).mp hc) with⟨elt,tg,it,ifs,Y,own,q,rfl⟩| ⟨elt,tg,it,aw,it2,ifs,Y,own,q,rfl⟩
    ·have hb:∃b,swapsWith (AE.comp elt tg it ifs Y own q).un (U (.Name x px)) p.line D=pure b:=⟨_,rfl⟩;refine dS hb λb hb=>?_;cases b with
     |false=>exact ae hb rfl
     |true=>
      refine an tv λhk h=>an h λhc h=>an h λh1 h=>an h λh2 h=>an h λh3 h=>an h λh4 h5=>?_;cases n with
      |zero=>exact ns e
      |succ n=>
       exact JN (pi e) λitr J ak acc al e1 ok e2 e3=>qt af hh hu ih tn hb eo vo R (of_decide_eq_true hk) hc (oK af hh hu (λk ax=>@ih k) (@ih n) (uP _ _ _ _ _ _) (Jh _ _ _ rfl) (.mk h1) (.mk h2) (.mk h4)) (.mk h3) (of_decide_eq_true h5) e1 ok e2 e3 O
    ·have hb:∃b,swapsWith (AE.comp2 elt tg it aw it2 ifs Y own q).un (U (.Name x px)) p.line D=pure b:=⟨_,rfl⟩;refine dS hb λb hb=>?_;cases b with
     |false=>exact ae hb rfl
     |true=>
      refine an tv λhk h=>an h λhc h=>an h λh1 h=>an h λh2 h=>an h λh3 h=>an h λh4 h=>an h λh6 h=>an h λh7 h5=>?_;cases n with
      |zero=>exact ns e
      |succ n=>
       exact JN (nT e) λitr J ak acc al e1 ok e2 e3=>qt af hh hu ih tn hb eo vo R (of_decide_eq_true hk) hc (qU af hh hu (λk ax=>@ih k) (@ih n) (.mk h1) (.mk h2) (.mk h6) (.mk h4) (.mk h7)) (.mk h3) (of_decide_eq_true h5) e1 ok e2 e3 O
end
def setAll(M:aW)(l:List (Nat×V)):aW:=l.foldl (λvs p=>vs.set p.1 p.2) M
theorem kI(l:List (Nat×V)):∀M:aW,(i ∉ l.map (λB=>B.1)->aW.get i (setAll M l)=aW.get i M)/\((l.map (λB=>B.1)).Nodup->∀v,(i,v)∈l->aW.get i (setAll M l)=U v):=by
 induction l with
 |nil=>exact λM=>⟨λB=>rfl,λB v h=>nomatch h⟩
 |cons p r ih=>
  intro M;cases p with
  |mk j w=>
   refine f7 (ih (M.set j w)) λh1 h2=>⟨λh=>?_,λhn v hv=>?_⟩
   ·exact f7 (not_or.mp (mt aX.mpr h)) λJ Y=>(h1 Y).trans ((aW.get_set ..).trans (if_neg J))
   ·refine f7 (lu.mp hn) λJ Y=>?_;rcases aX.mp hv with q| q
    ·clear h2 hn hv;cases q;exact(h1 J).trans ((aW.get_set ..).trans (if_pos rfl))
    ·exact h2 Y v q
theorem wC(l:List (Nat×V))(M:aW)(J:(l.map (λB=>B.1)).Nodup):aW.get i (setAll M l.reverse)=aW.get i (setAll M l):=by
 have aa:(l.reverse.map (λB=>B.1)).Nodup:=by rw[List.map_reverse];exact List.pairwise_reverse.mpr (J.imp λh=>Ne.symm h)
 by_cases h:i∈l.map (λB=>B.1)
 ·obtain⟨⟨j,v⟩,Y,rfl⟩:=cC.mp h;rw[(kI l M).2 J v Y,(kI l.reverse M).2 aa v (List.mem_reverse.mpr Y)]
 ·rw[(kI l M).1 h,(kI l.reverse M).1 (by rw[List.map_reverse];simpa using h)]
theorem Ex(is:List Nat):(is.map T.name).filterMap T.id? =is:=by
 induction is with
 |nil=>rfl
 |cons i r B=>exact congrArg (λJ=>i::J) B
abbrev kA(t:Tx)(sc:Scope)(a:List Str)(b:List Nat):Prop:=eZ (λx i=>zm sc x=zG/\t.id x=U i) a b
theorem kA.append(x:kA t sc a b)(y:kA t sc B J):kA t sc (a++B) (b++J):=by
 induction x with
 |nil=>exact y
 |cons Y _ ih=>exact .cons Y ih
theorem kA.reverse(x:kA t sc a b):kA t sc a.reverse b.reverse:=by
 induction x with
 |nil=>exact .nil
 |cons B _ J=>rw[gH,gH];exact kA.append J (.cons B .nil)
theorem kA.length(x:kA t sc a b):a.length=b.length:=by
 induction x with
 |nil=>rfl
 |cons J _ B=>exact congrArg Nat.succ B
theorem zP(Y:∀e x,f e=U x->∃p,e= .Name x p)(as:List AT)(h:zn t sc as=zG)(B:((jT as).filterMap f).length=(jT as).length):
  ∃is,oG as=is.map T.name/\kA t sc ((jT as).filterMap f) is:=by
 induction as with
 |nil=>exact(cU [] rfl .nil)
 |cons a as ih=>
  replace B:((a.un::jT as).filterMap f).length=(jT as).length+1:=B;show∃is,a.er::oG as=is.map T.name/\kA t sc ((a.un::jT as).filterMap f) is;cases q:f a.un with
  |none=>rw[List.filterMap_cons_none q] at B;exact absurd (B▸List.length_filterMap_le f (jT as)) (Nat.not_succ_le_self _)
  |some x=>
   rw[List.filterMap_cons_some q] at B⊢;refine dS (Y a.un x q) λp J=>cJ (ih (a2 h) (fP B)) λis h3 h4=>?_;cases a with
   |tup _ _ _=>exact nomatch J
   |name y i p'=>
    injection J with e1 e2
    clear B q;subst e1;exact(cU (i::is) (congrArg (λaa=>T.name i::aa) h3) (.cons ⟨a1 (a1 h),of_decide_eq_true (a2 (a1 h))⟩ h4))
theorem uh{is:List Nat}(e:j5 (is.map T.name) vs N M=U B):B=setAll M (is.zip vs)/\is.length=vs.length:=by
 induction is generalizing vs M with
 |nil=>cases vs with
  |nil=>exact⟨(aC e).symm,rfl⟩
  |cons=>exact ns e
 |cons i is J=>cases vs with
  |nil=>exact ns e
  |cons v vs=>exact(J (show j5 (is.map T.name) vs N (M.set i v)=U B from e)).imp id (congrArg Nat.succ)
section
variable{c:Cx}{A:Around}{E':Value->Shared->Prop}{s:Shared}[NeZero s.toks]{sc aa:Scope}{D:Env}{r ab:Rh}{h h':Heap}{N J Y:H}{v:V}{M B:aW}{ev:Ev}{C:Cf}{fl:Fl}
theorem bV.congr(vo:bV c sc D r h M)(e:∀i,aW.get i B=aW.get i M):bV c sc D r h B:=
 ⟨vo.ns,vo.cells,λx i v e1 e2 e3=>vo.held x i v e1 e2 ((e i)▸e3)⟩
theorem tj(H:kA c.t sc names is):∀ {r:Rh} {s:Shared} [NeZero s.toks] {vs:List V} {us:List Value} {M:aW} {Q:Unit->Shared->Prop},vs.length=is.length->bZ c sc D r.pv->bV c sc D r s.heap M->c.R r N s.heap->dZ c.w.params r s.heap vs us->
  n8 c sc D r s N (setAll M (is.zip vs)) (Q ())->wpAny c.M A (assignInOrder (names.map λn=>bindName D n) us) Q E' s:=by
 induction H with
 |nil=>
  intro r s _ vs us M Q hl eo vo R xv O;obtain rfl:=fw.mp hl;obtain rfl:=xv.inv;exact aG (O r s.heap s.toks R .refl vo)
 |@cons x i names is ho hr ih=>
  intro r s _ vs us M Q hl eo vo R xv O;cases vs with
  |nil=>exact absurd hl (eX _).symm
  |cons v vs=>
   refine ga xv.inv λu ar q x1 xr=>?_;clear xv;subst q;skip;refine aB (cZ (wpAny_bindName (lD ho.1 ho.2 eo vo R x1 λap aq ao ai ae af=>?_)));intro _;exact ih (fP hl) (eo.stepX ae) af ai (xr.mv (ae.mv (mS.pv eo))) λaj ak ag al am ah=>O aj ak ag al (ae.trans am) ah
def CT(es:List Expr)(D:Env)(m:Sem (Option (List Str))):Prop:=m=pure zF\/∃f:Expr->Option Str,m=pure (U (es.filterMap f))/\(es.filterMap f).length=es.length/\∀e x,f e=U x->∃p,e= .Name x p
theorem CT.ite{es:List Expr}{D:Env}{m:Sem (Option (List Str))}{b:Prop}[Decidable b](h: ¬b->CT es D m):CT es D (if b then pure zF else m):=by
 by_cases q:b
 ·rw[if_pos q];exact .inl rfl
 ·rw[if_neg q];exact h q
theorem uT(es:List Expr)(k:Nat)(q:Pos)(vs:List Expr)(k':Nat)(p':Pos)(D:Env)(hs:th (.Tuple vs k' p')=zG):CT es D (swappedStores [.Tuple es k q] (.Tuple vs k' p') D):=by
 have ae:(vs.all (constantsAlone 8))=zG->(vs.all (foldedForSure 8))=zG:=λh=>by
  have hs:(!vs.all (constantsAlone 8) || vs.all (foldedForSure 8))=zG:=hs;rw[h] at hs;exact hs
 skip;refine .ite λah=>.ite λah=>.ite λhn=>.ite λhf=>?_;have af: ¬(vs.all (constantsAlone 8))=zG:=λh=>hf (ae h);have hl:=(not_or.mp (mt (fj _ _).mpr hn)).1;refine .inr (g8 _ (if_neg af) (Decidable.not_not.mp (mt bne_iff_ne.mpr hl)) λe x h=>?_);cases e with
 |Name id ag=>exact(tX h).2▸⟨ag,rfl⟩
 |_=>exact ns h
theorem rx(es:List Expr)(k:Nat)(q:Pos)(a:AE)(D:Env)(hs:th a.un=zG):CT es D (swappedStores [.Tuple es k q] a.un D):=by
 cases a<;>first| exact .inl rfl| exact uT es k q _ _ _ D hs
theorem Ac(e:gc (.tup ts) v N M=U B):∃vs,v= .tup vs/\j5 ts vs N M=U B:=by
 cases v with
 |tup vs=>exact(cU vs rfl e)
 |_=>exact ns e
theorem s9(hh:A.handled=zF)(ih:eV c A (Lake.ev c.Γ C n)){a:AE}(hs:th a.un=zG)(ak:((oG ts).filterMap T.id?).Nodup)(ht:zn c.t sc ts=zG)(tv:a.ok c.t sc=zG)
  (eo:bZ c sc D r.pv) (vo:bV c sc D r s.heap M) (R:c.R r N s.heap) (e:Lake.ev c.Γ C n a.er M N=U (v,J)) (eb:gc (.tup (oG ts)) v J M=U B) (O:ky c sc D r s J .next B Q):wpAny c.M A (exec (.Assign [.Tuple (jT ts) k q] a.un p) D) Q E' s:=by
 have aq:swapsWithSole [.Tuple (jT ts) k q] a.un p.line D=pure zH:=y5 a (jT ts) k q p.line D;rcases rx (jT ts) k q a D hs with hw| ⟨f,hw,a0,hf⟩
 ·refine wpAny_Assign_stores ?_ aq hw;refine ih (.mk tv) eo vo R e λu am ao ar ai ae af _=>?_;skip;exact jb hh (.tup (oG ts)) (wd.mk (a:= .tup ts k q) ht) (eo.step ae) (vo.step eo R ae) ai af eb λa3 aj au a4 ag av=>O .next a3 aj au a4 (ae.x.trans ag) av rfl
 ·rw[arm_exec_Assign];refine aB (fc ?_);rw[aq];refine aB (aG ?_);refine j7 (by decide) ?_;refine aB (ih (.mk tv) eo vo R e λu am ao ar ai ae af=>?_);intro _;rw[hw];refine aB (aG ?_);unfold assignStores;skip;refine aB (ii ?_);refine cJ (Ac eb) λvs q1 eb=>?_;clear e;subst q1;refine cJ (zP hf ts ht a0) λis a' ap=>?_;rw[a'] at eb ak;refine f7 (uh eb) λq2 ah=>?_;subst q2;refine Aq (af.tup_inv) λitems m a q3 ha hm hx hz=>?_;clear af;subst q3;have ba:((jT ts).filterMap f).length=items.toArray.size:=by rw[ap.length,ah,bI,hx.length]
  rw[ba];refine aB (unpackItems_tuple hh (jo ha) λaj he=>?_);have kp:∀b o,ao.get? b=U o->aj.get? b=U o:=λb o e=>he b o (bT (dD e)) e;have ag:=dH.grow (r:=am) kp;have al:=ae.trans ag;have aw:=ap.reverse;have a5:=Ex is;rw[a5] at ak;have ax:((is.zip vs).map (λbb=>bb.1))=is:=by rw[List.map_fst_zip];exact bJ ah
  refine aB (tj aw (vs:=vs.reverse) (by simp[ah]) (eo.step al) (vo.step eo R al) (ai.grow kp) (by simpa using (hx.step ag).reverse) λa6 a7 ay a8 a9 az=>aG (O .next a6 a7 ay a8 (al.x.trans a9) (az.congr λi=>?_) rfl));have:is.reverse.zip vs.reverse=(is.zip vs).reverse:=((List.reverse_zipWith ah).symm);rw[this,wC _ _ (by rw[ax];exact ak)]
end
theorem ou(its:List Value)(n j:Nat)(x:Value):∃m,Obj.mapSeq (λB=>B.setIfInBounds j x) (fG its n)=fG (its.set j x) m:=by
 simp[Obj.mapSeq,fG]
section
variable{prog:Program}{w:World}{A:Around}{E:Value->Shared->Prop}{s:Shared}[NeZero s.toks]
theorem rF{k:Int}(B:s.heap.get? l=U (fG items n))
  (J:0<=k) (aa:k < 2^63) (hn:k < items.length)
  (ab:Q () {s with heap:=s.heap.update l (Obj.mapSeq (λaf=>af.setIfInBounds k.toNat v))}):
  wpAny (model prog w) A (setItem (.ref l) (.int k t) v) Q E s:=by
 have Y:s.TypeIs (.ref l) "list":=⟨_,B,rfl⟩;unfold setItem
 try with_reducible refine cZ ?_
 first| refine aB (aG ?_)| skip
 refine aB (wpAny_sequenceKey Y (by decide) ?_);refine aB (wpAny_callSpecial?_slot Y nA
  (fL nA Y entry_list_setitem ?_ (args_list_setitem _ _ _)))
 show wpAny _ _ (Builtin.List.listSubscript? (.int k t)>>=_) _ _ s;refine aB (wpAny_listSubscript_int (fitsIndex_of J aa) ?_);clear aa;refine dS (oZ J) λj q1=>?_;clear J;subst q1;have hj:j < items.toArray.size:=by simp;exact Int.ofNat_lt.mp hn
 have ae:items.toArray[j]? =U items.toArray[j]:=Array.getElem?_eq_getElem hj;skip;refine aB (aB (wpAny_seqItemAt B rfl (aG ?_)));refine ae.symm▸?_;skip;refine aB (wpAny_setSeqItemAt B rfl ?_)
 first
  |exact aB (aG (aG (cU .none rfl (aG ab))))
  |exact aG ⟨.none,rfl,aG ab⟩
theorem u8(hl:s.heap.get? l=U (fG I n))(hs:s.heap.IsSliceOf sl .none .none .none)(hy:s.heap.get? af=U (fG ys m))
  (hx:I.length<=4000000) (hz:ys.length<=4000000) (ak:∀f:Array Value->Array Value,f I.toArray=ys.toArray->Q () {s with heap:=s.heap.update l (Obj.mapSeq f)}):wpAny (model prog w) A (setItem (.ref l) (.ref sl) (.ref af)) Q E s:=by
 have ab:s.TypeIs (.ref l) "list":=⟨_,hl,rfl⟩;refine fZ hs λos Y ai aa=>?_;have ag:s.TypeIs (.ref sl) "slice":=⟨os,Y,ai⟩;have aj:=dM;unfold setItem
 try with_reducible refine cZ ?_
 first| refine aB (aG ?_)| skip
 refine aB (wpAny_sequenceKey ab (by decide) ?_);refine aB (wpAny_callSpecial?_slot ab nA
  (fL nA ab entry_list_setitem ?_ (args_list_setitem _ _ _)))
 show wpAny _ _ (Builtin.List.listSubscript? (.ref sl)>>=_) _ _ s;refine aB ?_;unfold Builtin.List.listSubscript?;refine aB (pP ag slice_no_index ?_);refine mL rfl ?_;refine aG ?_;skip;refine aB (wpAny_typeOf ag ?_);rw[if_neg (by decide),listSliceParts_eq];refine aB (aB (jk Y aa rfl (aB (wpAny_listPart .none ?_))));refine j7 (show¬((rawPart .none==rawInt 0)=zG) from aU) ?_;refine aB (jk Y aa rfl (aB (wpAny_listPart .none ?_)));refine aB (jk Y aa rfl (aB (wpAny_listPart .none (aG ?_))));have items:∀ {a:Addr} {B:List Value} {k:Nat} {Q:Array Value->Shared->Prop},s.heap.get? a=U (fG B k)->Q B.toArray s->wpAny (model prog w) A.in1 (Builtin.List.listItems (.ref a)) Q E s:=λho h=>by
  unfold Builtin.List.listItems;exact aB (rZ ho rfl (aG h))
 have fin:∀ {f:Array Value->Array Value} {g:List Value} {R:Fin->Shared->Prop} {ah:Value->Shared->Prop},f I.toArray=ys.toArray->(Q () {s with heap:=s.heap.update l (Obj.mapSeq f)}->R (.done (.ret .none)) {s with heap:=s.heap.update l (Obj.mapSeq f)})->
   wpAny (model prog w) A.in1 (Builtin.List.listUpdate (.ref l) f>>=λal=>letGo g>>=λal=>ret .none) R ah s:=λ{f g R ah} J h=>by
  refine aB (hH hl rfl ?_ (by refine Eq.symm (bI)▸?_;exact aA (by assumption) (by assumption)) (by(refine J.symm▸?_;refine Eq.symm (bI)▸?_);exact dT (aA hz aj)));exact aB (wpAny_letGo (aG (h (ak f J))))
 have ae: ¬Builtin.List.listTooLong (I.toArray.size+ys.toArray.size)=zG:=by
  unfold Builtin.List.listTooLong
  (rw[decide_eq_true_eq];refine Eq.symm (bI)▸?_;refine Eq.symm (bI)▸?_;refine sizeLine_eq.symm▸?_);exact bP.mpr (aA (bY hx hz) (by decide))
 have J:(λB:Array Value=>B.extract 0 (0:Int).toNat++ys.toArray++B.extract (max 0 (I.toArray.size:Int)).toNat) I.toArray=ys.toArray:=by
  simp
 cases Builtin.List.listSameRef (.ref l) (.ref af)
 ·refine j7 (aU) ?_;refine aB (aB (wpAny_typeOf ⟨_,hy,rfl⟩ ?_));refine mL (by rfl) ?_;refine items hy ?_;refine aB (items hl ?_);refine aB (ij (sliceIndices_raw .none .none .none _ (by intro h;exact ns h)) ?_);refine mL (by rfl) ?_;refine aB (ii ?_);refine j7 ae ?_;exact fin J λh=>(cU _ rfl (aG h))
 ·refine mL rfl ?_;refine aB (items hy ?_);refine aB (items hl ?_);refine aB (ij (sliceIndices_raw .none .none .none _ (by intro h;exact ns h)) ?_);refine mL (by rfl) ?_;refine aB (ii ?_);refine j7 ae ?_;exact fin J λh=>(cU _ rfl (aG h))
theorem tz{K:Frag}(X:K.In s.heap)(zE:InstAt s.heap x ox zD od)(hq:noSeq K zD=zG)(J:findIn K (.ref zD) "__setitem__"=U (U (.ref f)))(Y:typeIn K (.ref f)=U (.type "function"))
  (h:wpAny (model prog w) A (call (.ref f) [.ref x,i,v]) (λB s'=>Q () s') E s):wpAny (model prog w) A (setItem (.ref x) i v) Q E s:=by
 unfold setItem sequenceKey;refine cZ (aB (aB (zE.type.here ?_)));refine aB ((anyM_none X hq).here ?_);refine mL (show(!zH)=zG from rfl) ?_;exact aG (aB (special_fn X zE J Y (bX h (λB B z=>aG z) λB B z=>z)))
theorem t9{K:Frag}(X:K.In s.heap)(zE:InstAt s.heap x ox zD od)(hq:noSeq K zD=zG)(J:findIn K (.ref zD) "__delitem__"=U (U (.ref f)))(Y:typeIn K (.ref f)=U (.type "function"))
  (h:wpAny (model prog w) A (call (.ref f) [.ref x,i]) (λB s'=>Q () s') E s):wpAny (model prog w) A (delItem (.ref x) i) Q E s:=by
 unfold delItem sequenceKey;refine cZ (aB (aB (zE.type.here ?_)));refine aB ((anyM_none X hq).here ?_);refine mL (show(!zH)=zG from rfl) ?_;exact aG (aB (special_fn X zE J Y (bX h (λB B z=>aG z) λB B z=>z)))
end
section
variable{c:Cx}{A:Around}{E':Value->Shared->Prop}{s:Shared}[NeZero s.toks]{sc ab:Scope}{D:Env}{r J:Rh}{h h':Heap}{N Y B:H}{v:V}{M aa:aW}{ev:Ev}{C:Cf}{fl:Fl}{n:Nat}
theorem sT(e:gO Γ zD x=U f):∃k,Γ.clss.lookup zD=U k/\k.meths.lookup x=U f:=by
 unfold gO at e;cases hk:Γ.clss.lookup zD with
 |none=>rw[hk] at e;exact ns e
 |some k=>rw[hk] at e;exact(cU k rfl e)
theorem sH(e:hE N j=U zD):∃fs,N[j]? =U (.inst zD fs):=by
 unfold hE at e;cases h:N[j]? with
 |none=>rw[h] at e;exact ns e
 |some o=>
  rw[h] at e;cases o with
  |list I=>exact ns e
  |inst ae fs=>exact⟨fs,by clear h;obtain rfl:=aC e;rfl⟩
theorem ky.next(O:ky c sc D r s Y .next aa Q)[NeZero tk](R:c.R J Y h')(S:eA (mS sc D) r s.heap J h')(vo:bV c sc D J h' aa):Q .next {s with heap:=h',toks:=tk}:=O .next J h' tk R S vo rfl
theorem x9(ih:eV c A ev)(ta:Tr c.t sc a a')(tb:Tr c.t sc b b')(eo:bZ c sc D r.pv)(vo:bV c sc D r s.heap M)(R:c.R r N s.heap)
  (e1:ev a' M N=U (x,B)) (e2:ev b' M B=U (y,ag)) {P:Value->Value->Shared->Prop} (f:∀ua ub J h' tk,c.R J ag h'->dH r s.heap J h'->c.V J h' x ua->c.V J h' y ub->[NeZero tk]->P ua ub {s with heap:=h',toks:=tk}):
  wpAny c.M A (eval a D) (λua ai=>wpAny c.M A (eval b D) (λub aj=>P ua ub aj) E' ai) E' s:=by
 exact ih ta eo vo R e1 λua aq ar ap ak ae xa _=>ih tb (eo.step ae) (vo.step eo R ae) ak e2 λub al am ah ao af xb _=>f ua ub al am ah ao (ae.trans af) (xa.step af) xb
theorem lH(e:jV N i vs v=U (w,Y)):vs.length<=1000000/\w=v/\Y=N.set i (.list vs):=by
 refine jB e λh e=>?_;cases e;exact⟨iC h,rfl,rfl⟩
theorem lQ(R:c.R r N s.heap)(hp:r.ob[i]? =U (a,a))(g:h'.get? a=U (fG items n))(sb:Heap.SameBut a s.heap h')(x:dZ c.w.params r s.heap vs items)(hz:items.length<=4000000):
  c.R r (N.set i (.list vs)) h'/\dH r s.heap r h':=
 R.upd hp (λb ob eb n1 ae=>(sb.2 b n1).trans eb) (λb ob eb=>by
  by_cases z:b=a
  ·clear hp sb;subst z;exact⟨_,g⟩
  ·exact⟨ob,(sb.2 b z).trans eb⟩) λzB=>.list _ _ n a g (x.mv zB) hz
theorem tB(ag:c.Ok)(ih:eV c A (Lake.ev c.Γ C n)){o val:AE}(hc:oC val.un=zH)(to:o.ok c.t sc=zG)(hi:c.t.id x=U i)(tv:val.ok c.t sc=zG)(eo:bZ c sc D r.pv)(vo:bV c sc D r s.heap M)(R:c.R r N s.heap)(e1:Lake.ev c.Γ C n val.er M N=U (v,B))(e2:Lake.ev c.Γ C n o.er M B=U (.ref j,af))(hj:af[j]? =U (.inst zD fs))(hf:m6 c.Γ zD i=zG)(hl:fs.length<=100)
  (O:ky c sc D r s (af.set j (.inst zD (put i v fs))) .next M Q):wpAny c.M A (exec (.Assign [.Attribute o.un x q] val.un p) D) Q E' s:=by
 refine plainObj_wpAny_Assign_Attribute (x9 ih (.mk tv) (.mk to) eo vo R e1 e2 λuv uo J h' tk ai ae xv xo=>?_) (pX hc _ p.line D);exact rG (s:= {s with heap:=h',toks:=tk}) ag.cls ai hj xo xv (Tx.id_get hi) (λi' aj=>ag.uniq i' i x aj (Tx.id_get hi)) hf hl λal am ak ah _=>O.next ak (ae.trans ah).x ((vo.step eo R ae).step (eo.step ae) ai ah)
theorem u7(ih:eV c A (Lake.ev c.Γ C n)){o i val:AE}(to:o.ok c.t sc=zG)(ti:i.ok c.t sc=zG)(tv:val.ok c.t sc=zG)(eo:bZ c sc D r.pv)(vo:bV c sc D r s.heap M)(R:c.R r N s.heap)(e1:Lake.ev c.Γ C n val.er M N=U (v,B))(e2:Lake.ev c.Γ C n o.er M B=U (.ref j,ap))(e3:Lake.ev c.Γ C n i.er M ap=U (.int k,aj))(hj:aj[j]? =U (.list I))(h0: ¬k < 0)(hk:yz I.length k=U qn)(hs:jV aj j (I.set qn v) .none=U (w,aq))
  (O:ky c sc D r s aq .next M Q):wpAny c.M A (exec (.Assign [.Subscript o.un i.un q] val.un p) D) Q E' s:=by
 refine pD (x9 ih (.mk tv) (.mk to) eo vo R e1 e2 λuv uo J h' tk av ai xv xo=>?_) (om val o.un i.un q p.line D);refine ih (.mk ti) (eo.step ai) (vo.step eo R ai) av e3 λui aw ae ak af ag xi _=>dS (xi.int_inv) λt q1=>?_;clear xi;subst q1;have ah:=ai.trans ag;refine af.listE hj (xo.step ag) λa items m q2 hp hg am hz=>?_;clear xo;subst q2;refine f7 (pO hk) λhf hq=>?_;have hb:=iw hf;rcases nG hq with⟨h1,h2,rfl⟩| ⟨h1,_⟩
 ·refine dS (ou items m k.toNat uv) λm' em=>rF (s:= {s with heap:=ae,toks:=ak}) hg h1 hb.2 (by rw[am.length];exact h2) ?_;refine pc (lH hs) λao q3 q4=>?_;subst q3;clear hs;subst q4;have au:(ae.update a (Obj.mapSeq (λao=>ao.setIfInBounds k.toNat uv))).get? a=U (fG (items.set k.toNat uv) m'):=by rw[cP _ hg (by rw[em];rfl),em]
  exact f7 (lQ (s:= {s with heap:=ae,toks:=ak}) af hp au (eK ..) (am.set (xv.step ag)) (by simpa using hz)) λar al=>O.next ar (ah.trans al).x ((vo.step eo R ah).step (eo.step ah) af al)
 ·exact(h0 h1).elim
theorem wX(h:f I.toArray=ys.toArray):∃m,Obj.mapSeq f (fG I n)=fG ys m:=by
 simp[Obj.mapSeq,fG,h]
theorem u9(ih:eV c A (Lake.ev c.Γ C n)){o val:AE}(to:o.ok c.t sc=zG)(tv:val.ok c.t sc=zG)(eo:bZ c sc D r.pv)(vo:bV c sc D r s.heap M)(R:c.R r N s.heap)(e1:Lake.ev c.Γ C n val.er M N=U (.ref j,B))(e2:Lake.ev c.Γ C n o.er M B=U (.ref i,af))(hi:af[i]? =U (.list I))(hj:af[j]? =U (.list ys))(hs:jV af i ys .none=U (w,ak))
  (O:ky c sc D r s ak .next M Q):wpAny c.M A (exec (.Assign [.Subscript o.un (.Slice zF zF zF qs) q] val.un p) D) Q E' s:=by
 refine pD (x9 ih (.mk tv) (.mk to) eo vo R e1 e2 λuv uo J h' tk ap aq xv xo=>?_) (om val o.un (.Slice zF zF zF qs) q p.line D);refine wpAny_Slice (aG (aG (aG ?_)));have k:∀b ob,h'.get? b=U ob->(h'.push {cls:= .type "slice",data:= .fields #[.none,.none,.none]}).get? b=U ob:=λb ob e=>aS _ e;have ah:=dH.grow (r:=J) k;have ae:=ap.grow k;have ag:=aq.trans ah;refine ae.listE hi (xo.step ah) λa items m q2 hp hg au hz=>?_;clear xo;subst q2;refine ae.listE hj (xv.step ah) λa2 ar m2 q2 av ao al aj=>?_;clear xv;subst q2;refine u8 hg (Heap.IsSliceOf.new ..) ao hz aj λf hf=>pc (lH hs) λaw q3 q4=>?_;subst q3;clear hs;subst q4;exact dS (wX (n:=m) hf) λm' em=>f7 (lQ (s:= {s with heap:=h'.push {cls:= .type "slice",data:= .fields #[.none,.none,.none]},toks:=tk}) ae hp (h':=(h'.push {cls:= .type "slice",data:= .fields #[.none,.none,.none]}).update a (Obj.mapSeq f)) (n:=m') (by rw[cP _ hg (by rw[em];rfl),em]) (eK ..) al aj) λam ai=>O.next am (ag.trans ai).x ((vo.step eo R ag).step (eo.step ag) ae ai)
theorem tT(ak:c.Ok)(au:iL A nc)(av:ll c nc C)(ih:eV c A (Lake.ev c.Γ C n)){o i val:AE}(to:o.ok c.t sc=zG)(ti:i.ok c.t sc=zG)(tv:val.ok c.t sc=zG)(eo:bZ c sc D r.pv)(vo:bV c sc D r s.heap M)(R:c.R r N s.heap)(e1:Lake.ev c.Γ C n val.er M N=U (v,B))(e2:Lake.ev c.Γ C n o.er M B=U (.ref j,al))(e3:Lake.ev c.Γ C n i.er M al=U (iv,ai))(hj:ai[j]? =U (.inst zD fs))(hm:gO c.Γ zD c.Γ.setId=U f)(e4:C f [.ref j,iv,v] [] ai=U (w,am))
  (O:ky c sc D r s am .next M Q):wpAny c.M A (exec (.Assign [.Subscript o.un i.un q] val.un p) D) Q E' s:=by
 refine pD (x9 ih (.mk tv) (.mk to) eo vo R e1 e2 λuv uo J h' tk aw ah xv xo=>?_) (om val o.un i.un q p.line D);refine ih (.mk ti) (eo.step ah) (vo.step eo R ah) aw e3 λui az ap ao ae af xi _=>?_;have ag:=ah.trans af;refine cJ (sT hm) λk hk hf=>?_;have F:=ak.cls _ _ hk;refine Hh (F.me _ _ hf) λy hy g1 g2 g3=>?_
 (refine si (ak.setN.symm.trans hy) λar=>?_;subst ar)
 refine Kx (ae.instAt hj (xo.step af)) λa d a4 n' q5 hp a5 h1 h2 ax=>?_;subst q5;refine tz (c.X.keeps ae.base) (jf h1 h2) F.nq g1 g2 ?_;refine pC (av.run (s:= {s with heap:=ap,toks:=ao}) au.n (as:= [.ref j,iv,v]) e4 ae (.cons (xo.step af) (.cons xi (.cons (xv.step af) .nil))) .nil λu a0 a3 ay aq aj ax=>?_);intro _;exact O.next aq (ag.trans aj).x ((vo.step eo R ag).step (eo.step ag) ae aj)
theorem tU(ak:c.Ok)(ap:iL A nc)(aq:ll c nc C)(ih:eV c A (Lake.ev c.Γ C n)){o i:AE}(to:o.ok c.t sc=zG)(ti:i.ok c.t sc=zG)(eo:bZ c sc D r.pv)(vo:bV c sc D r s.heap M)(R:c.R r N s.heap)(e2:Lake.ev c.Γ C n o.er M N=U (.ref j,B))(e3:Lake.ev c.Γ C n i.er M B=U (iv,ai))(hj:ai[j]? =U (.inst zD fs))(hm:gO c.Γ zD c.Γ.delId=U f)(e4:C f [.ref j,iv] [] ai=U (w,al))
  (O:ky c sc D r s al .next M Q):wpAny c.M A (exec (.Delete [.Subscript o.un i.un q] p) D) Q E' s:=by
 refine wpAny_Delete (wpAny_deleteEach_cons ?_);rw[arm_delete_Subscript];refine aB (ih (.mk to) eo vo R e2 λuo J h' tk ar ah xo=>aB (cZ (ih (.mk ti) (eo.step ah) (vo.step eo R ah) ar e3 λui ax ay av ae af xi=>?_)));intro _;have ag:=ah.trans af;refine cJ (sT hm) λk hk hf=>?_;have F:=ak.cls _ _ hk;refine Hh (F.me _ _ hf) λy hy g1 g2 g3=>?_
 (refine si (ak.delN.symm.trans hy) λao=>?_;subst ao)
 refine Kx (ae.instAt hj (xo.step af)) λa d a3 n' q6 hp a4 h1 h2 au=>?_;subst q6;refine aB (fc (aB (cZ ?_)));refine t9 (c.X.keeps ae.base) (jf h1 h2) F.nq g1 g2 ?_;refine pC (aq.run ap.n e4 ae (.cons (xo.step af) (.cons xi .nil)) .nil λu az a0 aw am aj au=>?_);intro _;exact wpAny_release' (wpAny_deleteEach_nil (O.next am (ag.trans aj).x ((vo.step eo R ag).step (eo.step ag) ae aj)))
end
def rn(c:Cx)(A:Around)(f:List S->aW->H->Option (Fl×aW×H)):Prop:=
 ∀ {sc:Scope} {Y:List Stmt} {us:List S} {D:Env} {r:Rh} {N J:H} {s:Shared} [NeZero s.toks] {M B:aW} {fl:Fl},xL c.t sc Y us->bZ c sc D r.pv->bV c sc D r s.heap M->c.R r N s.heap->f us M N=U (fl,B,J)->
  ∀ {Q:Flow->Shared->Prop} {E':Value->Shared->Prop},ky c sc D r s J fl B Q->wpAny c.M A (execs Y D) Q E' s
section
variable{c:Cx}{A:Around}{E':Value->Shared->Prop}{s:Shared}[NeZero s.toks]{sc aa:Scope}{D:Env}{r ab:Rh}{h h':Heap}{N J Y:H}{v:V}{M B:aW}{ev:Ev}{C:Cf}{fl:Fl}{n:Nat}
theorem Hu{f:Fl->aW->H->Option ae}{y:ae} (e:(match o with
  |some (fl,M,J)=>f fl M J
  |.none=>.none)=U y):∃fl M J,o=U (fl,M,J)/\f fl M J=U y:=by
 cases o with
 |none=>exact ns e
 |some x=>exact(Ey x.1 x.2.1 x.2.2 rfl e)
def H6(c:Cx)(sc:Scope)(D:Env)(r:Rh)(s:Shared)(q:aW->H->Option (Bool×H))(b:aW->H->Option (Fl×aW×H))(ai:Fl×aW×H)(n:Nat)(s':Shared):Prop:=∃af ag Y ae ah,NeZero ah/\s'= {s with heap:=ae,toks:=ah}/\c.R af Y ae/\eA (mS sc D) r s.heap af ae/\bV c sc D af ae ag/\kl q b n ag Y=U ai
theorem uN(a9:c.Ok)(hu:A.units+100 < cLine)(ih:∀m,eV c A (Lake.ev c.Γ C m)){run:List S->aW->H->Option (Fl×aW×H)}(a':rn c A run)(tq:Tr c.t sc a5 au)(tb:xL c.t sc body ag)
  (eo:bZ c sc D r.pv) (vo:bV c sc D r s.heap M) (R:c.R r N s.heap) (e:kl (λM N=>hJ (Lake.ev c.Γ C fe) au M N) (λM N=>run ag M N) a6 M N=U (fl,B,J)) (O:ky c sc D r s J fl B Q):
  wpAny c.M A (exec (.While a5 body [] p) D) Q E' s:=by
 refine wpAny_While ?_;refine codeAny_whileLoop (H6 c sc D r s (λM N=>hJ (Lake.ev c.Γ C fe) au M N) (λM N=>run ag M N) (fl,B,J)) ?_ a6 ⟨r,M,N,s.heap,s.toks,inferInstance,rfl,R,.refl,vo,e⟩;intro n s' q2;refine LR q2 λbb aw Y bc ba zt q3 ak al ah e=>?_;clear q2;subst q3;cases n with
 |zero=>exact ns e
 |succ n=>
  have af:=eo.stepX al;refine Fa e λx ay e1 e=>my a9.tab hu (λk be=>@ih k) (@ih fe) _ tq af ah ak e1 λa7 a8 az av ae _=>?_;cases x with
  |false=>
   refine(if_neg aU).mpr (wpAny_execs_nil ?_);exact(O.cast e) .next a7 a8 az av (al.trans ae.x) (ah.step af ak ae) rfl
  |true=>
   refine BX (Hu (o:=run ag aw ay) e) λa0 ax a3 e2 e=>(if_pos rfl).mpr ?_;have ar:=al.trans ae.x;have a4:=af.step ae;refine a' tb a4 (ah.step af ak ae) av e2 λf am ao ai ap aq aj hf _=>?_;cases a0 with
   |next=>
    subst hf;exact⟨n,bQ n,am,ax,a3,ao,ai,inferInstance,rfl,ap,ar.trans aq,aj,e⟩
   |brk=>
    subst hf;exact(O.cast e) .next am ao ai ap (ar.trans aq) aj rfl
   |ret w=>
    refine cJ hf λu q hu=>q.symm▸?_;exact(O.cast e) (.ret u) am ao ai ap (ar.trans aq) aj ⟨u,rfl,hu⟩
structure Fk(c:Cx)(A:Around)(sc:Scope)(D:Env)(L:List Addr)(zE:Addr)(t:T)(r₀:Rh)(h₀:Heap)(r:Rh)(itr:gx)(M:aW)(N:H)(h:Heap):Prop where
 R:c.R r N h
 S:eA (λb=>b∈L\/mS sc D b) r₀ h₀ r h
 vo:bV c sc D r h M
 it:pp c A r h itr zE L
 ok:lM t itr=zG
theorem Fk.exit(eo:bZ c sc D ae.pv)(al:c.R ae Y ag)(ah:∀b o,ag.get? b=U o->aj.get? b=U o)(nL:∀b∈L,ag.get? b= .none)(af:Fk c A sc D L zE t {ae with pv:=ae.pv++L} aj r itr M N h)(k:∀b o,b ∉ L->h.get? b=U o->h'.get? b=U o):
  c.R {r with pv:=ae.pv} N h'/\eA (mS sc D) ae ag {r with pv:=ae.pv} h'/\bV c sc D {r with pv:=ae.pv} h' M/\Mv r h {r with pv:=ae.pv} h':=by
 have ak:∀b∈ae.pv,b ∉ L:=λb hb q=>by
  refine dS (al.pvl b hb) λo e=>?_;replace e:=(nL b q)▸e;exact ns e
 have ai:=jj.leave af.R af.S.pv ak λb o e nb=>k b o nb e;have no:∀a,aj.get? a=zF->ag.get? a=zF:=λa ha=>by
  cases q:ag.get? a with
  |none=>rfl
  |some o=>have:=ah a o q;replace this:=ha▸this;exact ns this
 refine⟨ai.1,⟨?_,rfl,λb o e hb hx=>?_,λb o e=>?_⟩,af.vo.keepE (λb hb o e=>k b o (ak b (by
  rcases hb with rfl| ⟨x,hx⟩
  ·exact eo.lpv
  ·exact eo.cpv _ _ hx)) e) ai.2,ai.2⟩
 ·exact cJ (af.S.ext) λao am hf=>(cU ao am (λq hq=>⟨no _ (hf q hq).1,no _ (hf q hq).2⟩))
 ·have nb:b ∉ L:=λq=>by replace e:=(nL b q)▸e;exact ns e
  exact k b o nb (af.S.keep b o (ah b o e) hb λq=>q.elim nb hx)
 ·have nb:b ∉ L:=λq=>by replace e:=(nL b q)▸e;exact ns e
  exact dS (af.S.live b o (ah b o e)) λo' e'=>⟨o',k b o' nb e'⟩
def t5(t:T)(run:aW->H->Option (Fl×aW×H)):V->aW->H->Option (Fl×aW×H):=λv M N=>match gc t v N M with
 |some M=>run M N
 |.none=>.none
def K5(c:Cx)(A:Around)(sc:Scope)(D:Env)(L:List Addr)(zE:Addr)(t:T)(r₀:Rh)(aj:Heap)(s:Shared)(body:V->aW->H->Option (Fl×aW×H))(al:Fl×aW×H)(n:Nat)(s':Shared):Prop:=
 ∃ak af ae ag ai ah,NeZero ah/\s'= {s with heap:=ai,toks:=ah}/\Fk c A sc D L zE t r₀ aj ak af ae ag ai/\jM (λN it=>it.next N) body n af ae ag=U al
def JX(Q:Flow->Shared->Prop)(P:Nat->Shared->Prop)(n:Nat)(f:Flow)(ae:Shared):Prop:=match f with
 |.next| .cont=>∃m,m < n/\P m ae
 |.brk=>Q .next ae
 |.ret v=>Q (.ret v) ae
theorem Eh{next:H->gx->Option (Option (V×gx))}(e:jM next body (n+1) it M N=U af):
  (next N it=U .none/\U (.next,M,N)=U af)\/∃v ae fl B J,next N it=U (U (v,ae))/\body v M N=U (fl,B,J)/\(match fl with
    |.next=>jM next body n ae B J
    |.brk=>U (.next,B,J)
    |.ret v=>U (.ret v,B,J))=U af:=by
 rw[qy] at e;cases hn:next N it with
 |none=>replace e:=hn▸e;exact ns e
 |some o=>
  replace e:=hn▸e;cases o with
  |none=>exact .inl ⟨rfl,e⟩
  |some q=>
   clear hn;obtain⟨v,ae⟩:=q;dsimp only at e;cases hb:body v M N with
   |none=>replace e:=hb▸e;exact ns e
   |some q=>replace e:=hb▸e;exact .inr (JS v ae q.1 q.2.1 q.2.2 rfl hb e)
theorem zR(b1:c.Ok)(hh:A.handled=zF)(ih:∀m,eV c A (Lake.ev c.Γ C m)){run:List S->aW->H->Option (Fl×aW×H)}(b2:rn c A run)(tt:wd c.t sc tg t)(bf:Db c.t sc iter b3)(tb:xL c.t sc body a7)
  (eo:bZ c sc D r.pv) (vo:bV c sc D r s.heap M) (R:c.R r N s.heap) (e1:gG (Lake.ev c.Γ C fe) b3 M N=U (itr,Y)) (ok:lM t itr=zG)
  (e:jM (λN it=>it.next N) (t5 t λM N=>run a7 M N) bv itr M Y=U (fl,B,J)) (O:ky c sc D r s J fl B Q):
  wpAny c.M A (exec (.For tg iter body [] p) D) Q E' s:=by
 refine wpAny_For ?_ (oD bf);refine bX (m8 b1 hh (@ih fe) bf eo vo R e1 ?_) (λx bw aj=>bX aj (λo ce ah=>by obtain⟨zE,rfl,ah⟩:=ah;exact ah) λai ai x=>x) λai ai x=>x;intro ae aj ah tk zE L ak al am nL b7 bj _;have bg:=ak.enter am nL b7;have ag:bZ c sc D ae.pv:=eo.step al;have bl:=vo.step eo R al;have av:∀b∈L,¬hF D b:=λb hb q=>by
  have hp:b∈ae.pv:=by
   rcases q with rfl| ⟨x,hx⟩
   ·exact ag.lpv
   ·exact ag.cpv _ _ hx
  refine dS (ak.pvl b hp) λo e=>?_;replace e:=(nL b hb)▸e;exact ns e
 have b4:bZ c sc D (ae.pv++L):=ag.wider λb hb=>aP _ hb;refine codeAny_forLoop_any (K5 c A sc D L zE t {ae with pv:=ae.pv++L} ah s (t5 t λM N=>run a7 M N) (fl,B,J)) ?_ bv
  ⟨{ae with pv:=ae.pv++L},itr,M,Y,ah,tk,inferInstance,rfl,⟨bg.1,.refl,bl.keepE (λb ai o e=>am b o e) bg.2,bj,ok⟩,e⟩
 intro n s' q4;refine Lm q4 λap b' bh ca cf cb zt q5 af e=>?_;clear q4;subst q5;cases n with
 |zero=>exact ns e
 |succ n=>
  have a4:ap.pv=ae.pv++L:=af.S.pv;have au:∀b∈L,b∈ap.pv:=λb hb=>by refine a4.symm▸?_;exact aL _ hb
  refine(Eh e).elim (λq=>?_) λq=>?_
  ·have e:=q.2;refine qp hh af.R af.it q.1 λay a8 k=>wpAny_execs_nil ?_;have a5:=af.exit ag ak am nL k;exact(O.cast e) .next _ ay a8 a5.1 (al.x.trans a5.2.1) a5.2.2.1 rfl
  ·refine JO q λv a' bm b8 cc hn hb e=>bX (mY af.R au af.it hn tt af.ok ?_) (λo bw aj=>by obtain⟨u,rfl,aj⟩:=aj;exact aj) λai ai x=>x;intro u ay a8 ba az bx bn _;unfold t5 at hb;refine cJ (oj hb) λb9 bo hb=>?_;have bp:bV c sc D ap ay bh:=af.vo.keepE (λb hb o e=>az.keep b o e (λq=>af.R.pvo b (by
    refine a4.symm▸?_;refine aP _ ?_;rcases hb with rfl| ⟨x,hx⟩
    ·exact ag.lpv
    ·exact ag.cpv _ _ hx) q) λq=>av b q hb) (az.mv au)
   have aw:bZ c sc D ap.pv:=a4▸b4;refine jb hh t tt aw bp ba bx bo λbb bz cd bc ao bq _=>?_;have br:=bn.keep (ao.mv (mS.pv aw)) λb hb o e=>ao.keep b o e (ba.pvo b (au b hb)) λq=>av b hb q.toEnv;have b5:eA (λb=>b∈L\/mS sc D b) {ae with pv:=ae.pv++L} ah bb bz:=(af.S.trans (az.mono λb hb=>.inl hb)).trans (ao.mono λb hb=>.inr hb);have a9:bZ c sc D bb.pv:=aw.stepX ao;refine b2 tb a9 bq bc hb λf be aq ax b0 a0 bt hf _=>?_;have bu:=br.keep (a0.mv (mS.pv a9)) λb hb o e=>a0.keep b o e (bc.pvo b (ao.pv▸au b hb)) λq=>av b hb q.toEnv;have a3:Fk c A sc D L zE t {ae with pv:=ae.pv++L} ah be a' _ _ aq:=⟨b0,b5.trans (a0.mono λb hb=>.inr hb),bt,bu,nN hn af.ok⟩;cases bm with
   |next=>subst hf;exact⟨n,bQ n,be,a',_,_,aq,ax,inferInstance,rfl,a3,e⟩
   |brk=>
    subst hf;have a6:=a3.exit ag ak am nL λb o ai e=>e;exact(O.cast e) .next _ aq ax a6.1 (al.x.trans a6.2.1) a6.2.2.1 rfl
   |ret w=>
    have ar:=a3.exit ag ak am nL λb o ai e=>e;refine cJ hf λu' q1 b6=>q1.symm▸?_;exact(O.cast e) (.ret u') _ aq ax ar.1 (al.x.trans ar.2.1) ar.2.2.1 ⟨u',rfl,b6.mv ar.2.2.2⟩
end
def JI(c:Cx)(A:Around)(f:S->aW->H->Option (Fl×aW×H)):Prop:=
 ∀ {sc:Scope} {st:Stmt} {u:S} {D:Env} {r:Rh} {N J:H} {s:Shared} [NeZero s.toks] {M B:aW} {fl:Fl},L4 c.t sc st u->bZ c sc D r.pv->bV c sc D r s.heap M->c.R r N s.heap->f u M N=U (fl,B,J)->
  ∀ {Q:Flow->Shared->Prop} {E':Value->Shared->Prop},ky c sc D r s J fl B Q->wpAny c.M A (exec st D) Q E' s
section
variable{c:Cx}{A:Around}{C:Cf}{fe n:Nat}
theorem vD{x y:B}(e:(if isNone w then U x else .none)=U y):w= .none/\x=y:=by
 cases w with
 |none=>exact⟨rfl,aC e⟩
 |_=>exact ns e
theorem EF(ae:c.Ok)(ap:iL A nc)(aq:ll c nc C)(hh:A.handled=zF)(hu:A.units+100 < cLine)(ih:∀m,eV c A (Lake.ev c.Γ C m))(ah:rn c A (ic c.Γ C fe n)):JI c A (ex c.Γ C fe (n+1)):=by
 intro sc st u D r N a4 s _ M a3 fl tr J Y R e Q E' O;refine fZ tr λa q3 q4 h=>?_;clear tr;subst q3;subst q4;cases a with
 |setAttr o x i q v p=>
  exact an h λh1 h=>jH ((qO c.Γ C fe n M N o.er i v.er).symm.trans e) λw ab B e=>J0 e λj al e2 e=>je (B6 e) λzD fs hj e=>jB e λhf e=>tB ae (@ih fe) (fW h1) (a1 h) (of_decide_eq_true (a1 (a2 h))) (a2 (a2 h)) J Y R B e2 hj (a1 hf) (aY (a2 hf)) (O.cast (congrArg U e.symm))
 |setSub o i q v p=>
  refine jH (((rfl)).symm.trans e) λw ab B ea=>jH ea λov al e2 eb=>jH eb λiv am e3 ec=>bi ec λj hj ed=>?_;replace e2:=p9 hj e2;cases ag:hE am j with
  |some zD=>
   rw[ag] at ed;refine bi ed λf hf ee=>bi ee λp' hp ef=>?_;have av:=vD ef;exact dS (sH ag) λfs hi=>tT ae ap aq (@ih fe) (a1 (a2 h)) (a1 (a2 (a2 h))) (a2 (a2 (a2 h))) J Y R B e2 e3 hi hf hp (O.cast (congrArg U av.2))
  |none=>
   rw[ag] at ed;cases iv with
   |int k=>
    refine qH ed λh0 ee=>bi ee λI hx ef=>bi ef λqn hk eg=>mi eg λp' hs eh=>?_;have aw:=ms hx;exact u7 (@ih fe) (a1 (a2 h)) (a1 (a2 (a2 h))) (a2 (a2 (a2 h))) J Y R B e2 e3 aw (jc.mpr (of_decide_eq_true h0)) hk hs (O.cast (congrArg U eh))
   |_=>exact ns ed
 |setAll o qs q v p=>
  refine jH (((rfl)).symm.trans e) λw ab B ea=>jH ea λov al e2 eb=>bi eb λi hi ec=>bi ec λI hx ed=>bi ed λys hy ee=>mi ee λp' hs ef=>?_;have ax:=ms hx;exact cJ ((ym hy λay q ar=>(cU ay (q▸B) ar))) λj' B az=>u9 (@ih fe) (a1 h) (a2 h) J Y R B (p9 hi e2) ax az hs (O.cast (congrArg U ef))
 |del o i q p=>
  refine jH (((rfl)).symm.trans e) λov ab B ea=>jH ea λiv am e3 eb=>bi eb λj hj ec=>bi ec λzD ag ed=>bi ed λf hf ee=>bi ee λp' hp ef=>?_;have au:=vD ef;exact dS (sH ag) λfs hi=>tU ae ap aq (@ih fe) (a1 (a2 h)) (a2 (a2 h)) J Y R (p9 hj B) e3 hi hf hp (O.cast (congrArg U au.2))
 |unpack ts k q v p=>
  exact an h λh1 h=>jH ((z0 c.Γ C fe n M N (oG ts) v.er).symm.trans e) λw ab B e=>cJ (oj e) λa0 eb e=>s9 hh (@ih fe) h1 (of_decide_eq_true (a1 h)) (a1 (a2 h)) (a2 (a2 h)) J Y R B eb (O.cast e)
 |names I v p=>
  exact jH ((Co c.Γ C fe n M N (I.map AN.er) v.er).symm.trans e) λw ab B e=>vu ae hh hu ih (fW (a1 h)) (a1 (a2 h)) (a2 (a2 h)) J Y R B (O.cast e)
 |expr v p=>
  refine jH ((EG c.Γ C fe n M N v.er).symm.trans e) λw ab B e=>wpAny_Expr_any (@ih fe _ _ _ _ _ _ _ _ (by infer_instance) _ _ (.mk (a2 h)) J Y R B _ _ λu aj ak ai af aa ao=>(O.cast e).next af aa.x (Y.step J R aa)) ?_ (pX (fW (a1 h)) _ _ D);unfold interactive;rw[J.kind];rfl
 |ite q a b p=>
  refine Fa ((Hz c.Γ C fe n M N q.er (nU a) (nU b)).symm.trans e) λx ab B e=>wpAny_If ?_;refine my ae.tab hu (λk a5=>@ih k) (@ih fe) _ (.mk (a1 h)) J Y R B λaj ak ai af aa _=>?_;cases x with
  |true=>exact ah (.mk (a1 (a2 h))) (J.step aa) (Y.step J R aa) af e (O.after aa.x)
  |false=>exact ah (.mk (a2 (a2 h))) (J.step aa) (Y.step J R aa) af e (O.after aa.x)
 |whil q b p=>
  exact uN ae hu ih ah (.mk (a1 h)) (.mk (a2 h)) J Y R (((rfl)).symm.trans e) O
 |for_ tg it b p=>
  exact je (BZ (((rfl)).symm.trans e)) λitr ab B e=>qH e λok e=>zR ae hh ih ah (.mk (a1 h)) (.mk (a1 (a2 h))) (.mk (a2 (a2 h))) J Y R B ok e O
 |ret v p=>
  cases v with
  |none=>exact wpAny_Return_none ((O.cast e) (.ret .none) r s.heap s.toks R .refl Y ⟨_,rfl,.none⟩)
  |some v=>
   exact jH ((Hy c.Γ C fe n M N v.er).symm.trans e) λw ab B e=>wpAny_Return_some (@ih fe _ _ _ _ _ _ _ _ (by infer_instance) _ _ (.mk h) J Y R B _ _ λu aj ak ai af aa ao=>(O.cast e) (.ret u) aj ak ai af aa.x (Y.step J R aa) ⟨u,rfl,ao⟩)
 |brk p=>exact wpAny_Break ((O.cast e) .brk r s.heap s.toks R .refl Y rfl)
 |pass p=>exact wpAny_Pass ((O.cast e) .next r s.heap s.toks R .refl Y rfl)
 |bad st=>exact ns e
theorem zZ(aq:c.Ok)(av:iL A nc)(aw:ll c nc C)(hh:A.handled=zF)(hu:A.units+100 < cLine)(ih:∀m,eV c A (Lake.ev c.Γ C m)):∀n,JI c A (ex c.Γ C fe n)/\rn c A (ic c.Γ C fe n):=by
 intro n;induction n with
 |zero=>exact⟨λB B B B e=>(by exact ns e),λB B B B e=>(by exact ns e)⟩
 |succ n ar=>
  refine f7 (ar) λh1 h2=>?_;exact⟨EF aq av aw hh hu ih h2,(by
    intro sc a4 a5 a0 au ak a3 s _ M ay a6 tr ah ai R e Q a7 O;refine fZ tr λas al am h=>?_;clear tr;subst al;subst am;cases as with
    |nil=>exact wpAny_execs_nil ((O.cast e) .next au s.heap s.toks R .refl ai rfl)
    |cons a as=>
     refine BX (Hu ((qN c.Γ C fe n M ak a.er (nU as)).symm.trans e)) λaj ax az ao e=>wpAny_execs_cons ?_;refine h1 ⟨a,rfl,rfl,(a1 h)⟩ ah ai R ao λf af ag ae aa J Y ab _=>?_;cases aj with
     |next=>subst ab;exact h2 (.mk (a2 h)) (ah.stepX J) Y aa e (O.after J)
     |brk=>subst ab;exact(O.cast e) .brk af ag ae aa J Y rfl
     |ret v=>exact cJ ab λu q ap=>q▸(O.cast e) (.ret u) af ag ae aa J Y ⟨u,rfl,ap⟩)⟩
end
noncomputable def J2:E->Bool
 |.comp _ B _=>Nat.beq B.length 2
 |_=>zH
def Hx(e:E):Bool:=Jm e || J2 e
section
variable{c:Cx}{A:Around}{n:Nat}{C:Cf}
theorem Hw{a:AE}(h:t6 a.er=zG):Hx a.er=zG\/∃elt J Y ifs B own p,a= .comp elt J Y ifs B own p:=by
 cases a with
 |dsub ks vs q i p=>exact .inl rfl
 |dsubS ks vs q i p=>exact .inl rfl
 |listZip f fp z zp zs q p=>exact .inl rfl
 |repl a q x n1 p1 y n2 p2 p=>exact .inl rfl
 |fv a p=>exact .inl rfl
 |fmt es p=>exact .inl rfl
 |comp2 elt J Y aa it2 ifs B own p=>exact .inl rfl
 |comp elt J Y ifs B own p=>exact .inr (Lo elt J Y ifs B own p rfl)
 |_=>exact nomatch h
theorem Cq(aa:c.Ok)(ae:iL A n)(aj:ll c n C)(ak:Fm c A)(al:Fi c A C)(ag:∀m,(∀k,k<=m->eV c A (ev c.Γ C k))->uq c A (m+1) C Hx):∀m,∀k,k<=m->eV c A (ev c.Γ C k):=by
 intro m;induction m with
 |zero=>
  intro k B;have:k=0:=Nat.le_zero.mp B;clear B;subst this;intro sc e u D r N ah s _ M v tr eo vo R eq;exact ns eq
 |succ m ai=>
  intro k B;have J:=ai;rcases Nat.le_or_eq_of_le_succ B with ab| ab
  ·exact @J k ab
  ·clear B;subst ab;have hh:=ae.hd;have hu:A.units+100 < cLine:=by have:=ae.un;exact aK (bY (Nat.le_add_right_of_le (bL _ 4)) (by decide)) this
   have af:uq c A (m+1) C t6:=by
    intro sc e u D r N ah s _ M v Y tr eo vo R eq Q E' O;refine fZ tr λa q1 q2 h=>?_;clear tr;subst q1;subst q2;refine(Hw Y).elim (λY=>ag m J Y (.mk h) eo vo R eq O) λhq=>hq.elim λelt h'=>h'.elim λtg h'=>h'.elim λit h'=>h'.elim λifs h'=>h'.elim λaq h'=>h'.elim λown h'=>h'.elim λp qa=>?_;clear Y hq;subst qa;exact an h λB h=>an h λhc h=>an h λh1 h=>an h λh2 h=>JN (pi eq) λitr am ao acc ap e1 ok e2 e3=>qT aa hh hu (λk B=>@J k (bA B)) (@J m (aJ _)) eo vo R (of_decide_eq_true B) hc (oK aa hh hu (λk B=>@J k (bA B)) (@J m (aJ _)) (uP _ _ _ _ _ _) (Jh _ _ _ rfl) (.mk h1) (.mk h2) (.mk (a1 (a2 h)))) (.mk (a1 h)) (of_decide_eq_true (a2 (a2 h))) e1 ok e2 e3 O
   exact @EI c A n C aa ae aj ak al m J af
end
def BO(c:Cx)(J:Scope)(M:aW)(r:Rh)(s:Shared)(Q:List (Str×Value)->Shared->Prop):Prop:=
 ∀B h' tk,(∀b o,s.heap.get? b=U o->h'.get? b=U o)->(∀x u,(x,u)∈B->J.names.lookup x=U .local\/J.names.lookup x=U .cell)->(∀x i v,c.t.id x=U i->aW.get i M=U v->∃u,B.reverse.lookup x=U u/\c.V r h' v u)->Q B {s with heap:=h',toks:=tk}
def H7(c:Cx)(F:Fn)(J:FuncData):Prop:=∀(as:List V) (Y:List (Nat×V)) (M:aW),hX c.Γ F as Y=U M->∀ ⦃A:Around⦄ ⦃r:Rh⦄ ⦃N:H⦄ ⦃s:Shared⦄ ⦃us:List Value⦄ ⦃B:List (Str×Value)⦄ ⦃Q:List (Str×Value)->Shared->Prop⦄ ⦃E':Value->Shared->Prop⦄,c.R r N s.heap->dZ c.w.params r s.heap as us->rj c r s.heap Y B->
 BO c J.scope M r s Q->wpAny c.M A (bindArgs J ⟨us,B⟩) Q E' s
inductive iT(c:Cx)(f:Addr)(F:Fn):Prop
 |mk {oc:Value} {od:Option Addr} {sl:Array (Option Value)} {name qual:Str} {params:Arguments} {body:List Stmt} {scope:Scope} {dV kV doc pm:Value} {an:Option Addr} {cdv ct:Value} (hl:c.K.lookup f=U ⟨oc,od,.func (fnOf name qual params body scope dV kV doc pm an cdv ct),sl⟩) (hcd:codeIn c.K cdv qual=zG)
  (hco:scope.isCoroutine=zH) (hge:scope.isGenerator=zH) (hk:scope.kind= .function) (hn:(scope.names.all λx=>scope.names.lookup x.1==U x.2)=zG) (hfr:(scope.names.all λx=>x.2 != .free)=zG) (tb:xL c.t scope body F.body) (bind:H7 c F (fnOf name qual params body scope dV kV doc pm an cdv ct)):iT c f F
def Cx.FnOk(c:Cx):Prop:=∀f F,c.Γ.fns.lookup f=U F->iT c f F
set_option backward.match.sparseCases true in
theorem ED(H:iT c f F):keepIn c.K (.ref f)=zG:=by
 obtain⟨B⟩:=H;have:keepIn c.K (.ref f)=(match c.K.lookup f with
   |some ⟨_,_,.func _,_⟩=>zG
   |some ⟨_,_,.cls _,_⟩=>specialIn c.K (.ref f) "__call__"==U (U (.builtin "type.__call__"))
   |_=>zH):=rfl
 rw[this,B]
section
variable{zB:Model}{Γ:PySem.Ctx}{E:Value->Pos->Shared->Prop}{p:Pos}{s:Shared}
theorem Fq{Q Q':J->Pos->Shared->Prop}(h:Sem.wp zB Γ t Q E p s)(f:∀x B s',Q x B s'->Q' x B s')(g:∀x B s',E x B s'->E' x B s'):Sem.wp zB Γ t Q' E' p s:=Sem.wp_mono zB Γ t f g p s h
theorem wP(ns:Addr)(name:Str)(v:Value):∃k:Setting->Tok->Sem Unit,nsSet ns name v= .ask λw=>.fresh (k w):=⟨_,rfl⟩
theorem rt{ns:Addr}(h:Sem.wp zB Γ (nsSet ns name v) Q E p s):Sem.wp zB Γ (nsSet ns name v) (λa J s'=>s.toks+1<=s'.toks/\Q a J s') E p s:=by
 refine dS (wP ns name v) λk e=>?_;rw[e,Sem.wp_ask,Sem.wp_fresh] at h⊢;exact Fq (pI zB Γ (s.toks+1) _ _ _ (aJ _) h) (λB B B q=>q) (λB B B q=>q.2)
theorem s8{D:Env}(hf:∀n v u,f (n,v) u=(do storeName D n v;pure (.yield ⟨⟩))):∀(J:List (Str×Value)) {p:Pos} {s:Shared} {Q:PUnit->Pos->Shared->Prop},(∃b∈J,storeName D b.1 b.2=nsSet D.locals b.1 b.2)->
  Sem.wp zB Γ (forIn J ⟨⟩ f) Q E p s->Sem.wp zB Γ (forIn J ⟨⟩ f) (λa p' s'=>s.toks+1<=s'.toks/\Q a p' s') E p s:=by
 intro J;induction J with
 |nil=>exact λhx h=>by obtain⟨b,hb,_⟩:=hx;cases hb
 |cons qz r aa=>
  obtain⟨n,v⟩:=qz;exact λhx h=>by
   rw[fH,hf,Sem.wp_bind',Sem.wp_bind'] at h⊢;by_cases hc:storeName D n v=nsSet D.locals n v
   ·rw[hc] at h⊢;refine Fq (rt h) (λa p' s' q=>?_) (λB B B q=>q);refine f7 q λq1 Y=>?_;clear q;rw[Sem.wp_pure'] at Y⊢;exact Fq (pI zB Γ _ _ _ _ q1 Y) (λB B B q=>q) (λB B B q=>q.2)
   ·refine Fq (pI zB Γ _ _ _ _ (aJ _) h) (λa p' s' q=>?_) (λB B B q=>q.2);refine f7 q λq1 Y=>?_;clear q;rw[Sem.wp_pure'] at Y⊢;refine cJ hx λb hb e=>?_;clear hx;have ab:b∈r:=(aX.mp hb).elim (λq=>by clear hb;subst q;exact absurd e hc) id;exact Fq (aa (cU b ab e) Y) (λB B B q=>⟨aA (cH q1) q.1,q.2⟩) (λB B B q=>q)
theorem vq{code:Value}{E:Value->Shared->Prop}(hk:J.kind= .function)(hm:(x,u)∈Y)(hl:J.names.lookup x=U .local)
  (h:wpAny zB A (newFunctionEnv J globals [] Y ab func code zF aa) (λa s'=>[NeZero s'.toks]->Q a s') E s):wpAny zB A (newFunctionEnv J globals [] Y ab func code zF aa) Q E s:=by
 intro Γ p af;have h:=h Γ p af;simp only[newFunctionEnv,Option.isSome_none,wa,if_false] at h⊢;rw[Sem.wp_bind'] at h⊢;refine Fq h (λL ag ah h=>?_) (λB B B q=>q);rw[Sem.wp_bind'] at h⊢;refine Fq h (λae ai aj h=>?_) (λB B B q=>q);rw[Sem.wp_bind'] at h⊢;refine Fq (s8 (λB B B=>rfl) Y (cU (x,u) hm ?_) h) (λB ak al q=>?_) (λB B B q=>q)
 ·refine storeName_local (env:=newEnv J L globals ae ab func code zF aa) hl ?_ u;show(J.kind==_ || J.kind==_&&_)=zH;rw[hk];rfl
 ·refine f7 q λq1 q2=>?_;clear q;rw[Sem.wp_pure'] at q2⊢;exact @q2 ⟨eB (aT (jD _) q1)⟩
end
theorem Ad{K:Str->Option NameKind}:∀(B:List (Str×Value)) (m:Str->Option Value),K x=U .local->bindL K B m x=(match B.reverse.lookup x with| some u=>U u| none=>m x):=by
 intro B;induction B with
 |nil=>exact λm aa=>rfl
 |cons q r Y=>
  obtain⟨n,v⟩:=q;intro m hx;replace Y:=λm=>Y m hx;show bindL K r (if K n=U .local then λy=>if y=n then U v else m y else m) x=_;rw[Y,gH,jn];cases q:r.reverse.lookup x with
  |some u=>rfl
  |none=>
   dsimp only;rw[dQ];by_cases J:x=n
   ·subst J;simp[hx]
   ·have:(x==n)=zH:=by simpa using J
    rw[this];by_cases hn:K n=U .local
    ·simp[hn,J]
    ·simp[hn]
theorem Af{K:Str->Option NameKind}:∀(B:List (Str×Value)) (m:Str->Option Value),K x≠U .local->bindC K B m x=(match B.reverse.lookup x with| some u=>U u| none=>m x):=by
 intro B;induction B with
 |nil=>exact λm aa=>rfl
 |cons q r Y=>
  obtain⟨n,v⟩:=q;intro m hx;replace Y:=λm=>Y m hx;show bindC K r (if K n=U .local then m else λy=>if y=n then U v else m y) x=_;rw[Y,gH,jn];cases q:r.reverse.lookup x with
  |some u=>rfl
  |none=>
   dsimp only;rw[dQ];by_cases J:x=n
   ·subst J;simp[hx]
   ·have:(x==n)=zH:=by simpa using J
    rw[this];by_cases hn:K n=U .local
    ·simp[hn]
    ·simp[hn,J]
structure Cx.HasRoom(c:Cx)(A:Around):Prop where
 hd:A.handled= .none
 un:A.units+400 < cLine
 dp:A.depth+5 < recursionLimit
noncomputable def o9(K:Frag)(f:Addr):Obj:=(K.lookup f).getD default
def dU(K:Frag)(f:Addr):FuncData:=match (o9 K f).data with
 |.func B=>B
 |_=>default
section
variable{c:Cx}{A:Around}{n:Nat}{C:Cf}{r:Rh}{N B:H}{s:Shared}{v:V}
set_option backward.match.sparseCases true in
theorem sW(b2:c.Ok)(bu:kB A (n+1))(hx:∀D,rn c (A.deeper D) (ic c.Γ C fe fs))(H:iT c f F)(R:c.R r N s.heap)(x:dZ c.w.params r s.heap as us)(y:rj c r s.heap ks bo){G:Nat->Prop}
  (g1:∀ {ag:Around} {bb:Type} {t:Sem bb} {Q:bb->Shared->Prop} {E:Value->Shared->Prop},wpAny c.M ag t (λa s'=>G s'.toks->Q a s') E s->wpAny c.M ag t Q E s)
  (g2:∀ {ag:Around} {J:Scope} {ah:List (Str×Value)} {aa:Heap} {ai:Nat} {ap:Str} {cd:Value} {Q:Env->Shared->Prop} {E:Value->Shared->Prop},G ai->J.kind= .function->(dU c.K f).scope=J->(∀x i v,c.t.id x=U i->aW.get i ((hX c.Γ F as ks).getD [])=U v->∃u,(x,u)∈ah)->
   wpAny c.M ag (newFunctionEnv J mainGlobals [] ah ap (U f) cd zF builtinsNs) (λa s'=>[NeZero s'.toks]->Q a s') E {s with heap:=aa,toks:=ai}->wpAny c.M ag (newFunctionEnv J mainGlobals [] ah ap (U f) cd zF builtinsNs) Q E {s with heap:=aa,toks:=ai})
  (e:f6 c.Γ C fe fs F as ks N=U (v,B)) (O:gp c r s B v (λu s'=>am (.ok (.ret u)) s')):codeAny c.M A (.call (.ref f) ⟨us,bo⟩) am s:=by
 cases H with
 |@mk oc od sl name ap bx body J b6 b7 b3 pm an b4 ct hl bp bq bj hk bc be tb bind=>
 have X:=c.X.keeps R.base;unfold f6 at e;refine cJ (oj e) λM Y e=>?_
 ·refine codeAny_call_function (by have:=bu.dp;exact aK (Nat.le_add_right_of_le (bL ..)) this) (X _ _ hl) rfl bq bj rfl (codeRec_of X bp) ?_;refine g1 (bind as ks M Y R x y λah aa ai aj br a7=>?_);intro gt;have a3:=R.grow aj;have b5:∀ {x:Str} {k:NameKind},(x,k)∈J.names->J.names.lookup x=U k:=λhm=>by simpa using aR.mp bc _ hm
  have ao:∀(L:Nat) (x:Str),J.names.lookup x=U .cell->((cellsFrom (L+1) J.names []).lookup x).isSome=zG:=λL x hx=>by
   exact dS (cellsFrom_some J.names (L+1) (mem_of_lookup hx)) λa ha=>j1 ha
  refine g2 gt hk (congrArg FuncData.scope ((by unfold dU o9;rw[hl];rfl))) (λx i v e1 e2=>?_) (wpAny_newFunctionEnv_cells hk (λz hz=>?_) λD he b1 ae=>?_)
  ·rw[Y] at e2;exact(a7 x i v e1 e2).elim λu q=>⟨u,List.mem_reverse.mp (mem_of_lookup q.1)⟩
  ·rcases br z.1 z.2 hz with q| q
   ·exact .inl q
   ·exact .inr ⟨q,ao _ _ q⟩
  have af:∀x,D.kindOf x=J.names.lookup x:=λx=>by rw[he];rfl
  have a4:D.locals=aa.objs.size:=by rw[he];rfl
  have ay:D.cells=cellsFrom (aa.objs.size+1) J.names []:=by rw[he];rfl
  obtain⟨ak,bf,q2,aq⟩:=ae.done;subst q2;intro _;have al:=ae.toInCall.ns;have L1:aa.get? aa.objs.size= .none:=eP aa (aJ _);have cm:=λ{x:Str} {a:Addr} (h:D.cells.lookup x=U a)=>mem_of_lookup h;let ab:List Addr:=D.locals::D.cells.filterMap λp=>D.cells.lookup p.1;have a5:∀b∈ab,b=D.locals\/∃x,D.cells.lookup x=U b:=λb Y=>by
   rcases aX.mp Y with q| q
   ·exact .inl q
   ·obtain⟨⟨x,a⟩,hx,e⟩:=v9.mp q;exact .inr ⟨x,e⟩
  have a8:∀ {x:Str} {a:Addr},D.cells.lookup x=U a->a∈ab:=λ{x a} h=>.tail _ (v9.mpr (cU (x,a) (cm h) h));have bt:∀b∈ab,aa.objs.size<=b:=λb Y=>by
   rcases a5 b Y with rfl| ⟨x,hx⟩
   ·rw[a4];exact aJ _
   ·have:=ae.above x b (cm hx);rw[a4] at this;exact bA this
  have ar:∀b∈ab,aa.get? b= .none:=λb Y=>eP aa (bt b Y);have bg:∀b∈ab,∃o,ak.get? b=U o:=λb Y=>by
   rcases a5 b Y with rfl| ⟨x,hx⟩
   ·refine BX al λo es ep e ax=>?_;clear al;exact⟨o,e⟩
   ·exact cJ (ae.cell x b hx) λo e ax=>⟨o,e⟩
  have a9:=a3.enter aq ar bg;have az:∀x,J.names.lookup x≠U .free:=λx hx=>by
   have:=aR.mp be _ (mem_of_lookup hx);simp at this
  have eo:bZ c J D (r.pv++ab):=
   {kind:=by rw[he];exact hk
    glob:=by rw[he];rfl
    bi:=by rw[he];rfl
    lpv:=aL _ (.head _)
    cpv:=λx a h=>aL _ (a8 h)
    loc:=λx h=>by rw[af,h]
    cel:=λx h=>⟨by rw[af,h],by rw[ay];exact ao _ _ h⟩
    fre:=λx h=>(az x h).elim
    glb:=λx h=>by
     rw[af];exact pd h
    inj:=λx y a h1 h2=>name_of_addr ae.apart (cm h1) (cm h2)
    apl:=λx a h=>Ne.symm (bT (ae.above x a (cm h)))}
  have vo:bV c J D {r with pv:=r.pv++ab} ak M:=by
   refine⟨⟨_,al⟩,λx a h=>⟨_,ae.cell x a h⟩,λx i v e1 e2 e3=>?_⟩;refine cJ (a7 x i v e1 e3) λu hu hr=>(cU u ?_ (hr.mv a9.2));rcases qF e2 with q| q| q
   ·refine .inl ⟨by rw[af,q],_,al,?_⟩;rw[Ad _ _ (by rw[af,q]),hu]
   ·refine dS (cR.mp (ao aa.objs.size x q)) λa ha=>?_;rw[<-ay] at ha;refine .inr ⟨.inl (by rw[af,q]),a,ha,?_⟩;have:=ae.cell x a ha;rw[Af _ _ (by rw[af,q];decide),hu] at this;exact this
   ·exact(az x q).elim
  refine⟨(Cx.T c).nolimit.keeps λb o e=>aq b o (aj b o (R.base b o e)),codeAny_func ?_⟩;have fin:∀ {fl:Fl} {a0:aW},ic c.Γ C fe fs F.body M N=U (fl,a0,B)->(∀(f:Flow) (r':Rh) (h':Heap),Lw c r' h' fl f->c.V r' h' v (match f with| .ret v=>v| _=>.none))->
    wpAny c.M (A.deeper D) (execs body D) (λf s'=>am (.ok (.ret (match f with| .ret v=>v| _=>.none))) s') (λe s'=>wpAny c.M (A.deeper D) (leaving D e) (λax aw=>am (.error e) aw) (λe' aw=>am (.error e') aw) s') {s with heap:=ak,toks:=bf}:=λhe hv=>by
   refine hx D tb eo vo a9.1 he λf au av bh bl a6 bz hf _=>?_;have bv:∀b∈r.pv,b ∉ ab:=λb Y q=>by
    exact dS (a3.pvl b Y) λo e=>ns ((ar b q).symm.trans e)
   have a':=jj.leave bl a6.pv bv λb o e ax=>e;have kk:∀b o,s.heap.get? b=U o->ak.get? b=U o:=λb o e=>aq b o (aj b o e);have bm:∀b∈ab,s.heap.get? b= .none:=λb Y=>by
    cases q:s.heap.get? b with
    |none=>rfl
    |some o=>exact ns ((ar b Y).symm.trans (aj b o q))
   have bw:∀b,mS J D b->b∈ab:=λb Y=>by
    rcases Y with rfl| ⟨x,_,hx⟩
    ·exact .head _
    ·exact a8 hx
   have bn:dH r s.heap {au with pv:=r.pv} av:=eA.exit kk bm a6 bw;exact O _ {au with pv:=r.pv} av bh a'.1 bn ((hv f au av hf).mv a'.2)
  refine BX (Hu e) λfl a0 b0 ba e=>?_;cases fl with
  |ret w=>
   cases e;refine fin ba λf r' h' hf=>cJ hf λu q1 hu=>?_;clear hf;subst q1;exact hu
  |next=>
   clear O;cases e;refine fin ba λf r' h' hf=>?_;cases hf;exact .none
  |brk=>cases e
theorem xy[h0:NeZero s.toks](J:c.Ok)(aa:kB A (n+1))(hx:∀D,rn c (A.deeper D) (ic c.Γ C fe fs))(H:iT c f F)(R:c.R r N s.heap)(x:dZ c.w.params r s.heap as us)(y:rj c r s.heap ks Y)
  (e:f6 c.Γ C fe fs F as ks N=U (v,B)) (O:gp c r s B v (λu s'=>ab (.ok (.ret u)) s')):codeAny c.M A (.call (.ref f) ⟨us,Y⟩) ab s:=
 sW J aa hx H R x y (λh=>eS h) (λ{aj ae af ah ag ai cd Q E} g _ _ _ h=>@eS _ _ _ _ _ _ _ g h) e O
end
section
variable{c:Cx}{A:Around}{E':Value->Shared->Prop}{s:Shared}[NeZero s.toks]{r:Rh}{N B:H}{v:V}{Q:Value->Shared->Prop}{u:Value}
theorem m7(R:c.R r N s.heap)(o:Obj)(Y:o.isFreed=zH):c.R r N (s.heap.push o)/\dH r s.heap r (s.heap.push o)/\(s.heap.push o).get? s.heap.objs.size=U o/\ ¬r.mut s.heap.objs.size:=by
 have k:∀b ob,s.heap.get? b=U ob->(s.heap.push o).get? b=U ob:=λb ob e=>aS _ e;refine⟨R.grow k,dH.grow k,bE _ Y,λhm=>?_⟩;refine dS (R.mutLive hm) λob J=>?_;rw[eP s.heap (aJ _)] at J;exact ns J
theorem Ah(R:c.R r N s.heap)(x:c.V r s.heap (.int b) u)(O:gp c r s N (.rng 0 b) Q):wpAny c.M A (call (.type "range") [u]) Q E' s:=by
 refine dS (x.int_inv) λt J=>?_;clear x;subst J;refine call_range_1 ?_;exact Ie (m7 R (DC 0 b s.toks t (s.toks+1)) rfl) λY aa g m=>O _ r _ _ Y aa (.rng 0 b _ _ _ _ g m)
theorem Ag(R:c.R r N s.heap)(x:c.V r s.heap (.int a) u)(y:c.V r s.heap (.int b) Y)(O:gp c r s N (.rng a b) Q):wpAny c.M A (call (.type "range") [u,Y]) Q E' s:=by
 refine dS (x.int_inv) λt q5=>?_;clear x;subst q5;refine dS (y.int_inv) λt' q6=>?_;clear y;subst q6;refine call_range_2 ?_;have J:=m7 R (DC a b t t' s.toks) rfl;exact O _ r _ _ J.1 J.2.1 (.rng a b _ _ _ _ J.2.2.1 J.2.2.2)
theorem CN(R:c.R r N s.heap)(hi:N[i]? =U (.list I))(x:c.V r s.heap (.ref i) u)(O:gp c r s N (.tup I) Q):wpAny c.M A (call (.type "tuple") [u]) Q E' s:=by
 refine R.listE hi x λa items n q7 hp hg ab hl=>?_;clear x;subst q7;refine call_tuple_list (dG hg) (λh' k=>?_) (by simp only[bI];have:=dM;exact aA (by assumption) (by assumption));have aa:=R.grow k;have Y:=dH.grow (r:=r) k;have J:=m7 (s:= {s with heap:=h'}) aa (pr items 0) rfl;exact O _ r _ s.toks J.1 (Y.trans J.2.1) (.tup I items 0 _ J.2.2.1 J.2.2.2 ((ab.step Y).step J.2.1) hl)
theorem gp.adopt(O:gp c r s B v Q)(e:iP vs N=U (v,B))[NeZero tk](aa:c.R J N Y)(ab:dH r s.heap J Y)(k:∀b o,Y.get? b=U o->h'.get? b=U o)(na:Y.get? a= .none)(g:h'.get? a=U (fG items n))(x:dZ c.w.params J Y vs items):Q (.ref a) {s with heap:=h',toks:=tk}:=by
 refine zu e λhl ae af=>?_;subst ae;clear e;subst af;have mv:Mv J Y {J with ob:=J.ob++ [(a,a)]} h':=⟨λi p ep=>by
   have hl:=aZ ep;rw[bM hl];exact ep,λb o eb f=>⟨k b o eb,λq=>by
   rcases q with⟨p,hp,hb⟩| q
   ·rcases aO.mp hp with hp| hp
    ·exact f (.inl ⟨p,hp,hb⟩)
    ·rw[aH.mp hp] at hb;clear g;rcases hb with rfl| rfl<;>(rw[na] at eb;exact ns eb)
   ·exact f (.inr q)⟩⟩
 refine f7 (aa.push k na na (.list vs items n a g (x.mv mv) (by rw[x.length];exact aA hl (by decide)))) λag ah=>O _ _ h' tk ag (ab.trans ah) (.ref _ (a,a) ?_);skip;rw[<-aa.len,bG (aJ _),fh];rfl
theorem dZ.ofPlaces(J:us.length=vs.length)(H:∀(j:Nat) (v:V) (u:Value),vs[j]? =U v->us[j]? =U u->VR P r h v u):dZ P r h vs us:=by
 induction vs generalizing us with
 |nil=>clear H;obtain rfl:=fw.mp J;exact .nil
 |cons v vs Y=>cases us with
  |nil=>exact absurd J (eX _).symm
  |cons u us=>exact .cons (H 0 v u rfl rfl) (Y (fP J) λj v u e1 e2=>H (j+1) v u e1 e2)
end
theorem tw(x:Str):dE (rv x)=x:=by
 cases x;simp[dE,rv]
theorem dZ.strs(x:dZ P r h I us)(e:hO I=U l):StrsAre us (l.map dE):=
 x.ind (zB:=λI us=>∀l:List Txt,hO I=U l->StrsAre us (l.map dE)) (λl e=>aC e▸.nil) (λ{v u vs us} a _ B l e=>by
  cases v with
  |str w=>
   refine mi (show(hO vs).map (λJ=>w::J)=U l from e) λY e' q1=>?_;subst q1;refine dS (a.str_inv) λt q2=>?_;clear a;subst q2;exact .cons _ _ (B Y e')
  |_=>exact ns e) l e
section
variable{c:Cx}{A:Around}{E':Value->Shared->Prop}{s:Shared}[NeZero s.toks]{r:Rh}{N B:H}{v:V}{Q:Value->Shared->Prop}{u J:Value}
theorem G3(R:c.R r N s.heap)(hi:N[i]? =U (.list I))(hs:hO I=U l)(ok:j2 Y l=zG)(y:c.V r s.heap (.ref i) u)(O:gp c r s N (.str (rv (PySem.Txt.join (gM Y) (l.map gM)))) Q):
  wpAny c.M A (call (.builtin "str.join") [.str (dE Y) t,u]) Q E' s:=by
 refine R.listE hi y λa items n q5 hp hg aa hl=>?_;clear y;subst q5;have ab:=aY ok;refine eS (join_list (dG hg) (by simpa using aa.strs hs) ?_ λt' k=>?_)
 ·rw[eC,aD];have:(l.map ((λx=>x.length)∘dE)).sum+l.length*(dE Y).length<=1000000:=ab;exact aA this (by decide)
 ·intro _;have:=O.same R (u:= .str (dE (rv (PySem.Txt.join (gM Y) (l.map gM)))) t') (.str _ _) k;rw[tw] at this;exact this
theorem D9(R:c.R r N s.heap)(hs:hO I=U l)(ok:j2 Y l=zG)(y:c.V r s.heap (.tup I) u)(O:gp c r s N (.str (rv (PySem.Txt.join (gM Y) (l.map gM)))) Q):
  wpAny c.M A (call (.builtin "str.join") [.str (dE Y) t,u]) Q E' s:=by
 refine Aq (y.tup_inv) λitems n a q5 hg hm aa hl=>?_;clear y;subst q5;have ab:=aY ok;refine eS (join_tuple (jo hg) (by simpa using aa.strs hs) ?_ λt' k=>?_)
 ·rw[eC,aD];have:(l.map ((λx=>x.length)∘dE)).sum+l.length*(dE Y).length<=1000000:=ab;exact aA this (by decide)
 ·intro _;have:=O.same R (u:= .str (dE (rv (PySem.Txt.join (gM Y) (l.map gM)))) t') (.str _ _) k;rw[tw] at this;exact this
theorem Ef(n:Nat):zz n=lo1 n:=by
 unfold zz lo1;by_cases h:65<=n/\n<=90
 ·rw[if_pos h,if_pos (by rw[dR];exact⟨dJ h.1,dJ h.2⟩)]
 ·rw[if_neg h,if_neg (λq=>h (by rw[dR] at q;exact⟨aY q.1,aY q.2⟩))]
theorem m_lower(R:c.R r N s.heap)(ha:n5 x=zG)(hz:iM x.length=zG)(O:gp c r s N (.str (x.map zz)) Q):wpAny c.M A (call (.builtin "str.lower") [.str (dE x) t]) Q E' s:=by
 have e:PySem.Txt.lower (dE x)=dE (x.map zz):=by
  rw[lower_ascii ((λY aa=>by
    have:=aR.mp ha Y (by simpa[dE] using aa);have ab:Nat.ble (Y+1) 128=zG:=this;exact aY ab))]
  simp[dE,Ef,fF]
 have hl:=iC hz;refine SC.lower ?_ ?_
 ·rw[e,eM,aD];unfold Builtin.Str.tooLong;rw[decide_eq_false];have:=dM;exact bP.mpr (aA hl (aA (by decide) this))
 ·rw[e];exact O.same R (.str _ _) _
end
section
variable{c:Cx}{A:Around}{E':Value->Shared->Prop}{s:Shared}[NeZero s.toks]{r:Rh}{N J:H}{v w:V}{Q:Value->Shared->Prop}{u B:Value}
theorem BG(R:c.R r N s.heap)(hi:N[i]? =U (.list I))(x:c.V r s.heap (.ref i) u)(y:c.V r s.heap v B)(e:jV N i (I++ [v]) .none=U (w,J))(O:gp c r s J w Q):wpAny c.M A (call (.builtin "list.append") [u,B]) Q E' s:=by
 refine R.listE hi x λa items n q1 hp hg aa hl=>?_;clear x;subst q1;refine pc (lH e) λhz q2 q3=>?_;subst q2;clear e;subst q3;have Y:items.length<=1000000:=by rw[aa.length];simp at hz;exact aA hz (by decide)
 refine wpAny_list_append_plain ⟨n,hg⟩ (λh' ab ae=>?_) (by simp only[bI];have:=dM;exact aA Y (aA (by decide) this));refine dS ab λm g=>?_;clear ab;have g':h'.get? a=U (fG (items++ [B]) m):=by rw[g];simp[fG]
 exact f7 (lQ R hp g' ae (aa.append (.cons y .nil)) (by simp;exact aA Y (by decide))) λaf ag=>O .none r h' s.toks af ag .none
theorem sM(l:List Value):l.eraseIdx (l.length - 1)=l.dropLast:=by
 exact List.eraseIdx_length_sub_one
theorem dZ.dropLast(x:dZ P r h vs us):dZ P r h vs.dropLast us.dropLast:=by
 rw[List.dropLast_eq_take,List.dropLast_eq_take,x.length];exact x.take _
theorem I2(R:c.R r N s.heap)(hi:N[i]? =U (.list I))(x:c.V r s.heap (.ref i) u)(hv:I.getLast? =U v)(e:jV N i I.dropLast v=U (w,J))(O:gp c r s J w Q):wpAny c.M A (call (.builtin "list.pop") [u]) Q E' s:=by
 refine R.listE hi x λa items n q4 hp hg Y hl=>?_;clear x;subst q4;refine pc (lH e) λhz q5 q6=>?_;subst q5;subst q6;have aa:0 < items.length:=by
  refine Eq.symm (Y.length)▸?_;cases I with
  |nil=>exact ns hv
  |cons=>simp
 refine fL PySem.F.slot_list_pop ⟨_,hg,rfl⟩ PySem.F.entry_list_pop ?_ (PySem.F.args_list_pop_1 _);unfold Builtin.«list.pop»;refine aB (ij (show selfAndSome "list.pop" "pop" 0 1 ⟨[.ref a],[]⟩=pure (.ref a,[]) from rfl) ?_);skip;refine aB (aG ?_);refine j7 (by decide) ?_;skip;unfold Builtin.List.listItems;refine aB (aB (rZ hg rfl (aG ?_)));refine j7 (by simp;exact λq=>by rw[q] at aa;exact cD _ aa) ?_;have ai:items[items.length - 1]? =items.getLast? :=nn.symm;refine cJ (Y.get (by rw[<-nn];exact hv)) λB ae hr=>?_;have af:(seqIndex? (-1) items.toArray.size).bind (λk=>items.toArray[k]?.map (λag=>(k,ag)))=U (items.length - 1,B):=by
  rw[bI,seqIndex?_neg_one aa,bO,<-Y.length] at*;simp[ae]
 refine af.symm▸?_;skip;skip;refine aB ?_;refine dS ((by simp[Obj.mapSeq,fG]:∃m,Obj.mapSeq (·.eraseIdxIfInBounds (items.length - 1)) (fG items n)=fG (items.eraseIdx (items.length - 1)) m)) λm em=>?_;have g':(s.heap.update a (Obj.mapSeq (·.eraseIdxIfInBounds (items.length - 1)))).get? a=U (fG items.dropLast m):=by
  rw[cP _ hg (by rw[em];rfl),em,sM]
 refine f7 (lQ R hp g' (eK ..) Y.dropLast (List.length_dropLast▸aA (Nat.sub_le _ _) hl)) λah ab=>?_;refine hH (_hz':=by
  have h2:=dM;have h1:(items.toArray.eraseIdxIfInBounds (items.length - 1)).toList=items.eraseIdx (items.length - 1):=by simp
  have h3:(items.toArray.eraseIdxIfInBounds (items.length - 1)).size=(items.eraseIdx (items.length - 1)).length:=(Array.length_toList).symm.trans (congrArg List.length h1);rw[h3,sM,List.length_dropLast];exact aA (Nat.sub_le _ _) (aA hl (dT h2))) hg rfl (aG ⟨B,rfl,?_⟩)
 exact O B r _ s.toks ah ab (hr.step ab)
theorem BF(R:c.R r N s.heap)(hi:N[i]? =U (.list I))(x:c.V r s.heap (.ref i) u)(hj:N[j]? =U (.list ys))(y:c.V r s.heap (.ref j) B)(e:jV N i (I++ys) .none=U (w,J))(O:gp c r s J w Q):wpAny c.M A (call (.builtin "list.extend") [u,B]) Q E' s:=by
 refine R.listE hi x λa items n q1 hp hg ab hl=>?_;clear x;subst q1;refine R.listE hj y λa2 aa n2 q1 ai af ae aj=>?_;clear y;subst q1;refine pc (lH e) λY q2 q3=>?_;subst q2;clear e;subst q3
 (replace Y:=(aF)▸Y;replace Y:=(ab.length).symm▸Y;replace Y:=(ae.length).symm▸Y)
 have hs:=dM;refine mJ PySem.F.slot_list_extend ⟨_,hg,rfl⟩ PySem.F.entry_list_extend (PySem.F.args_list_extend_2 _ _) (PySem.AutoSeq1.list_extend_list_list_0 a items.toArray n a2 aa.toArray n2 (λq=>?_) (by simp only[bI];exact aA (by assumption) (by assumption)) (by simp only[bI];exact dT (aA Y (aA (by decide) hs)))) ⟨hg,af,?_⟩
 ·have h2:=(gL.mp q).2;unfold Builtin.List.listTooLong at h2;simp only[bI] at h2;have:=of_decide_eq_true h2;exact absurd (of_decide_eq_true h2) (bP.mpr (aA Y (aA (by decide) hs)))
 ·have em:∃m,Obj.mapSeq (λx=>x++aa.toArray) (fG items n)=fG (items++aa) m:=by simp[Obj.mapSeq,fG]
  refine dS em λm em=>?_;have g':(s.heap.update a (Obj.mapSeq (λx=>x++aa.toArray))).get? a=U (fG (items++aa) m):=by
   rw[cP _ hg (by rw[em];rfl),em]
  refine f7 (lQ R hp g' (eK ..) (ab.append ae) (by refine Eq.symm (aF)▸?_;exact aA Y (by decide))) λag ah=>?_;exact O .none r _ s.toks ag ah .none
theorem G4(HT:c.TabOk)(R:c.R r N s.heap)(hk:c.Γ.dicts.lookup a=U Y)(x:c.V r s.heap d u)(O:gp c r s N ((lC k Y).getD d) Q):wpAny c.M A (call (.builtin "dict.get") [.ref a,.str (dE k) t,u]) Q E' s:=by
 obtain⟨hs,es,n,ae,T⟩:=HT _ _ hk;have ho:s.heap.get? a=U (hD es n):=R.base _ _ (c.X _ _ ae);have aa:=T.base R;have L:=aa.look k;have hm:=aa.mapOf (prog:=c.prog) ho;refine call_meetsIn PySem.F.slot_dict_get ⟨_,ho,rfl⟩ PySem.F.entry_dict_get (PySem.F.args_dict_get_3 _ _ _) (meets_dict_get_default (PySem.strKind c.prog c.w) a (mI c.prog c.w (dE k) t) hs u) ⟨_,hm,?_⟩;cases q:lC k Y with
 |none=>
  rw[q] at L O;refine Eq.symm (show findBy Value.isStrOf es.toArray (dE k)= .none from L)▸?_;exact O.same R x _
 |some v=>
  rw[q] at L O;refine cJ L λB ab hr=>?_;clear L;refine ab.symm▸?_;exact O.same R hr _
end
theorem dZ.ints(x:dZ P r h I us)(e:ir I=U l):us.length=l.length/\∀(j:Nat) (u:Value),us[j]? =U u->∃t,u= .int (l.getD j 0) t:=
 x.ind (zB:=λI us=>∀l:List Int,ir I=U l->us.length=l.length/\∀(j:Nat) (u:Value),us[j]? =U u->∃t,u= .int (l.getD j 0) t) (λl e=>aC e▸⟨rfl,λj u h=>ns h⟩) (λ{v u vs us} a _ Y l e=>by
  cases v with
  |int i=>
   refine mi (show(ir vs).map (λaa=>i::aa)=U l from e) λl' e' q1=>?_;subst q1;refine dS (a.int_inv) λt q2=>?_;clear a;subst q2;have B:=Y l' e';refine⟨congrArg Nat.succ B.1,λj u J=>?_⟩;cases j with
   |zero=>exact⟨t,(aC J).symm⟩
   |succ j=>exact B.2 j u J
  |_=>exact ns e) l e
theorem AQ:∀(l:List Int) (a b:Int),uU a l=U b->(∀x∈l,jh x=zG)/\b=a+l.sum/\∀j,j < l.length->jh (a+(l.take (j+1)).sum)=zG:=by
 intro l;induction l with
 |nil=>
  intro a b e
  (refine si e λJ=>?_;subst J;clear e);exact⟨by simp,by simp,by simp⟩
 |cons x r B=>
  intro a b e;refine qH (show(if (jh x&&jh (a+x))=zG then uU (a+x) r else .none)=U b from e) λh e=>?_
  ·
   rw[dR] at h;refine pc (B (a+x) b e) λY h2 h3=>⟨λy hy=>?_,by rw[h2];simp;exact uH a x _,λj hj=>?_⟩
   ·rcases aX.mp hy with q| q
    ·rw[q];exact h.1
    ·exact Y y q
   ·cases j with
    |zero=>simpa using h.2
    |succ j=>
     have:=h3 j (by simpa using hj);rw[List.take_succ_cons,List.sum_cons,<-uH];exact this
theorem o7(l:List Int):∀j,j<=l.length->preSum (λi=>l.getD i 0) j=(l.take j).sum:=by
 intro j;induction j with
 |zero=>exact λY=>rfl
 |succ j J=>
  intro h;show preSum (λi=>l.getD i 0) j+l.getD j 0=_;have B:j < l.length:=by assumption
  rw[J (bA (by assumption)),fT,aM B,List.sum_append,aI,aM B];simp only[Option.getD_some,v8,List.sum_cons,List.sum_nil,Int.add_zero]
section
variable{c:Cx}{A:Around}{E':Value->Shared->Prop}{s:Shared}[NeZero s.toks]{r:Rh}{N B:H}{v w:V}{Q:Value->Shared->Prop}{u J:Value}
theorem qD(hh:A'.handled=zF)(R:c.R r N s.heap)(hi:N[i]? =U (.list I))(x:c.V r s.heap (.ref i) u)
  (h:∀a items n,u= .ref a->s.heap.get? a=U (fG items n)->dZ c.w.params r s.heap I items->items.length<=4000000->∀o,a≠s.heap.objs.size->(s.heap.push o).IsListIter s.heap.objs.size a 0->(s.heap.push o).IsList a items.toArray->Walks c.prog c.w A' s.heap.objs.size [s.heap.objs.size,a] [s.heap.objs.size] items.toArray.size (λi v=>items.toArray[i]? =U v) (λi h=>h.IsListIter s.heap.objs.size a i/\h.IsList a items.toArray)->
   Q (.ref s.heap.objs.size) {s with heap:=s.heap.push o}):wpAny c.M A' (pyIter u) Q E' s:=by
 refine R.listE hi x λa items n q3 hp Y ab hl=>?_;clear x;subst q3;have aa:a≠s.heap.objs.size:=λq=>by rw[q,eP s.heap (aJ _)] at Y;exact ns Y
 exact ny (dG Y) (h a items n rfl Y ab hl _ aa ⟨_,bE _ rfl,rfl,rfl⟩ (dG (aS _ Y)) (Walks.list hh _ a aa _))
theorem HU(hh:A.handled=zF)(R:c.R r N s.heap)(hi:N[i]? =U (.list I))(hl:ir I=U l)(hb:uU 0 l=U b)(x:c.V r s.heap (.ref i) u)(O:gp c r s N (.int b) Q):wpAny c.M A (call (.builtin "sum") [u]) Q E' s:=by
 have aa:=AQ l 0 b hb;refine eS (call_sum_walk (qD hh R hi x λa items n hu hg ae hz o ah af ag W=>?_));have Y:=ae.ints hl;refine(JR _ _ _ _ _ _ (λj=>l.getD j 0) rfl W ⟨af,ag⟩ (λb hb=>?_) (λj v hv=>Y.2 j v (by simpa using hv)) (λj hj=>⟨?_,?_⟩) (λh' tk t' hk=>?_))
 ·rw[ff];rcases aX.mp hb with q| q
  ·rw[q];exact bQ _
  ·rw[aH.mp q];exact cX (dD hg)
 ·have ab:j < l.length:=by simp at hj;exact Nat.lt_of_lt_of_eq hj Y.1
  have:=iw (aa.1 (l.getD j 0) (by simp[aI,aM ab]));exact this
 ·have ab:j < l.length:=by simp at hj;exact Nat.lt_of_lt_of_eq hj Y.1
  rw[o7 l (j+1) (by assumption)];have:=iw (aa.2.2 j ab);rw[xS] at this;exact this
 ·rw[show items.toArray.size=l.length by simp[Y.1],o7 l _ (aJ _),gd];have e:l.sum=b:=by rw[aa.2.1];exact(xS _).symm
  rw[e];have k:∀b ob,s.heap.get? b=U ob->h'.get? b=U ob:=λb ob e=>hk b ob (λq=>by
   rw[aH.mp q,eP s.heap (aJ _)] at e;exact ns e) (aS _ e)
  intro _;exact O _ r h' tk (R.grow k) (dH.grow k) (.int _ _)
end
theorem FP(c:Prop)[Decidable c](a b:B):(if decide c=zG then a else b)=if c then a else b:=by
 by_cases h:c
 ·rw[if_pos (decide_eq_true h),if_pos h]
 ·rw[if_neg (by rw[decide_eq_false h];exact aU),if_neg h]
theorem BD:∀(l:List Int) (m y:Int),ot m (l++ [y])=if ot m l < y then y else ot m l:=by
 intro l;induction l with
 |nil=>exact λm y=>FP (m < y) y m
 |cons x r B=>
  intro m y;exact B _ y
theorem Bz:∀(l:List Int) (m y:Int),pA m (l++ [y])=if y < pA m l then y else pA m l:=by
 intro l;induction l with
 |nil=>exact λm y=>FP (y < m) y m
 |cons x r B=>
  intro m y;exact B _ y
theorem kT(B:Nat->Nat->Bool)(k:Nat):argBest B (k+1)=if B (k+1) (argBest B k) then k+1 else argBest B k:=rfl
theorem v3(x:Int)(r:List Int):∀k,k<=r.length->(x::r).getD (argBest (λi j=>decide ((x::r).getD i 0>(x::r).getD j 0)) k) 0=ot x (r.take k)
 | 0=>λaa=>rfl
 |k+1=>by
  intro h;have Y:=v3 x r k (bW h);have B:k < r.length:=h;have J:(x::r).getD (k+1) 0=r[k]:=by simp[aI,aM B]
  rw[fT,aM B,v8,BD,<-Y];rw[kT];simp only[decide_eq_true_eq,J,gt_iff_lt];by_cases q:(x::r).getD (argBest (λi j=>decide ((x::r).getD i 0>(x::r).getD j 0)) k) 0 < r[k]
  ·simp only[gt_iff_lt] at q⊢;rw[if_pos q,if_pos q,J]
  ·simp only[gt_iff_lt] at q⊢;rw[if_neg q,if_neg q]
theorem vZ(x:Int)(r:List Int):∀k,k<=r.length->(x::r).getD (argBest (λi j=>decide ((x::r).getD i 0 < (x::r).getD j 0)) k) 0=pA x (r.take k)
 | 0=>λaa=>rfl
 |k+1=>by
  intro h;have Y:=vZ x r k (bW h);have B:k < r.length:=h;have J:(x::r).getD (k+1) 0=r[k]:=by simp[aI,aM B]
  rw[fT,aM B,v8,Bz,<-Y];rw[kT];simp only[decide_eq_true_eq,J,gt_iff_lt];by_cases q:r[k] < (x::r).getD (argBest (λi j=>decide ((x::r).getD i 0 < (x::r).getD j 0)) k) 0
  ·rw[if_pos q,if_pos q,J]
  ·rw[if_neg q,if_neg q]
section
variable{c:Cx}{A:Around}{E':Value->Shared->Prop}{s:Shared}[NeZero s.toks]{r:Rh}{N J:H}{v w:V}{Q:Value->Shared->Prop}{u B:Value}
theorem HW(hh:A.handled=zF)(R:c.R r N s.heap)(hi:N[i]? =U (.list I))(hl:ir I=U (x0::l))(x:c.V r s.heap (.ref i) u)(O:gp c r s N (.int (ot x0 l)) Q):wpAny c.M A (call (.builtin "max") [u]) Q E' s:=by
 refine eS (call_max_walk (qD (A':=A.in1) hh R hi x λa items n hu hg ab hz o ag ae af W=>?_));have Y:=ab.ints hl;refine(JR _ _ _ _ _ _ _ rfl W ⟨ae,af⟩ (λb hb=>?_) (by simp[Y.1]) (CmpOf.ints_gt (λj=>(x0::l).getD j 0) (λj v hv=>Y.2 j v (by simpa using hv))) (λv h' tk aa hk=>?_))
 ·rw[ff];rcases aX.mp hb with q| q
  ·rw[q];exact bQ _
  ·rw[aH.mp q];exact cX (dD hg)
 ·refine dS (Y.2 _ v (cA.symm.trans aa)) λt q1=>?_;clear aa;subst q1;have e:items.toArray.size - 1=l.length:=by simp[Y.1]
  rw[e,v3 x0 l _ (aJ _),gd];have k:∀b ob,s.heap.get? b=U ob->h'.get? b=U ob:=λb ob e=>hk b ob (λq=>by
   rw[aH.mp q,eP s.heap (aJ _)] at e;exact ns e) (aS _ e)
  exact O _ r h' tk (R.grow k) (dH.grow k) (.int _ _)
theorem HV(hh:A.handled=zF)(R:c.R r N s.heap)(hi:N[i]? =U (.list I))(hl:ir I=U (x0::l))(x:c.V r s.heap (.ref i) u)(O:gp c r s N (.int (pA x0 l)) Q):wpAny c.M A (call (.builtin "min") [u]) Q E' s:=by
 refine eS (call_min_walk (qD (A':=A.in1) hh R hi x λa items n hu hg ab hz o ag ae af W=>?_));have Y:=ab.ints hl;refine(JR _ _ _ _ _ _ _ rfl W ⟨ae,af⟩ (λb hb=>?_) (by simp[Y.1]) (CmpOf.ints_lt (λj=>(x0::l).getD j 0) (λj v hv=>Y.2 j v (by simpa using hv))) (λv h' tk aa hk=>?_))
 ·rw[ff];rcases aX.mp hb with q| q
  ·rw[q];exact bQ _
  ·rw[aH.mp q];exact cX (dD hg)
 ·refine dS (Y.2 _ v (cA.symm.trans aa)) λt q2=>?_;clear aa;subst q2;have e:items.toArray.size - 1=l.length:=by simp[Y.1]
  rw[e,vZ x0 l _ (aJ _),gd];have k:∀b ob,s.heap.get? b=U ob->h'.get? b=U ob:=λb ob e=>hk b ob (λq=>by
   rw[aH.mp q,eP s.heap (aJ _)] at e;exact ns e) (aS _ e)
  exact O _ r h' tk (R.grow k) (dH.grow k) (.int _ _)
theorem E8(hh:A.handled=zF)(R:c.R r N s.heap)(x:c.V r s.heap (.int a) u)(y:c.V r s.heap (.int b) B)(O:gp c r s N (.int (if decide (a < b) then b else a)) Q):wpAny c.M A (call (.builtin "max") [u,B]) Q E' s:=by
 refine dS (x.int_inv) λt q3=>?_;clear x;subst q3;refine dS (y.int_inv) λt' q4=>?_;clear y;subst q4;refine eS (call_max_two ?_);have ae:(s.heap.push {cls:= .type "tuple",data:= .seq #[.int a t,.int b t']}).IsTuple s.heap.objs.size #[.int a t,.int b t']:=⟨_,bE _ rfl,rfl,0,rfl⟩;have hz:(s.heap.push {cls:= .type "tuple",data:= .seq #[.int a t,.int b t']}).objs.size=s.heap.objs.size+1:=ff ..;refine wpAny_pyIter_tuple ae ?_;have val:∀(i:Nat) (v:Value),(#[Value.int a t,Value.int b t']:Array Value)[i]? =U v->∃t,v= .int (if i=0 then a else b) t:=λi v Y=>by
  match i,Y with
  | 0,Y=>simp at Y;exact⟨t,by simp[Y]⟩
  | 1,Y=>simp at Y;exact⟨t',by simp[Y]⟩
  |i+2,Y=>simp at Y
 have ab:s.heap.objs.size≠(s.heap.push {cls:= .type "tuple",data:= .seq #[.int a t,.int b t']}).objs.size:=by rw[hz];exact(oS _).symm
 refine(JR _ _ _ _ _ _ _ rfl (Walks.tuple (A:=A.in1) hh _ s.heap.objs.size ab _) ⟨⟨_,bE _ rfl,rfl,rfl⟩,⟨_,aS _ (bE _ rfl),rfl,0,rfl⟩⟩ (λb hb=>?_) (Nat.zero_lt_succ _) (CmpOf.ints_gt _ val) (λv h' tk aa hk=>?_))
 ·rw[ff];rcases aX.mp hb with q| q
  ·rw[q];exact bQ _
  ·rw[aH.mp q,hz];exact cX (bQ _)
 ·have k:∀b ob,s.heap.get? b=U ob->h'.get? b=U ob:=λb ob e=>hk b ob (λq=>by
   rw[aH.mp q,eP s.heap (by rw[hz];exact fR _)] at e;exact ns e) (aS _ (aS _ e))
  intro _;refine dS (val _ v aa) λt2 q5=>?_;clear aa;subst q5;have e:(if argBest (λi j=>decide ((if i=0 then a else b)>(if j=0 then a else b))) ((#[Value.int a t,Value.int b t']:Array Value).size - 1)=0 then a else b)=(if decide (a < b) then b else a):=by
   show(if argBest (λi j=>decide ((if i=0 then a else b)>(if j=0 then a else b))) 1=0 then a else b)=_;rw[kT];show(if (if decide ((if (0+1)=0 then a else b)>(if 0=0 then a else b))=zG then 0+1 else 0)=0 then a else b)=_;by_cases q:a < b<;>simp[q]
  rw[e];exact O _ r h' tk (R.grow k) (dH.grow k) (.int _ _)
end
def CU(c:Cx)(A:Around):Prop:=∀ {i:Nat} {I:List V} {N B:H} {v:V} {r:Rh} {s:Shared} [NeZero s.toks] {u:Value},N[i]? =U (.list I)->mV I=zG->o5 I N=U (v,B)->c.R r N s.heap->c.V r s.heap (.ref i) u->∀ {Q E'},gp c r s B v Q->wpAny c.M A (call (.builtin "sorted") [u] []) Q E' s
theorem dZ.one{P:Params}{r:Rh}{h:Heap}{v:V}{us:List Value}(x:dZ P r h [v] us):∃u,us= [u]/\VR P r h v u:=by
 cases x with| cons a b=>cases b;exact(cU _ rfl a)
theorem dZ.two{P:Params}{r:Rh}{h:Heap}{v w:V}{us:List Value}(x:dZ P r h [v,w] us):∃u B,us= [u,B]/\VR P r h v u/\VR P r h w B:=by
 cases x with| cons a b=>obtain⟨B,rfl,y⟩:=b.one;exact(iS _ B rfl a y)
theorem FO{p:Prop}[Decidable p]{B:Type}{x z:Option B}{y:B}(e:(if p then x else z)=U y):(p/\x=U y)\/(¬p/\z=U y):=by
 by_cases h:p
 ·rw[if_pos h] at e;exact .inl ⟨h,e⟩
 ·rw[if_neg h] at e;exact .inr ⟨h,e⟩
theorem FS{l:List Int}{N B:H}{v:V}{f:Int->List Int->Int} (e:(match l with
 |[]=>Option.none
 |x::r=>U (V.int (f x r),N))=U (v,B)):∃x r,l=x::r/\v= .int (f x r)/\B=N:=by
 cases l with
 |nil=>exact ns e
 |cons x r=>(refine sp e λJ Y=>?_;subst J;subst Y;clear e);exact(iS x r rfl rfl rfl)
def ro(c:Cx)(A:Around)(f:Value)(b:V->H->Option (V×H)):Prop:=∀ {a v:V} {N B:H} {r:Rh} {s:Shared} [NeZero s.toks] {u:Value},b a N=U (v,B)->c.R r N s.heap->c.V r s.heap a u->∀ {Q E'},gp c r s B v Q->wpAny c.M A (call f [u] []) Q E' s
section
variable{c:Cx}{A:Around}
theorem uk{f:Value}{b:List V->H->Option (V×H)}(h:∀ {i:Nat} {I:List V} {v:V} {N B:H} {r:Rh} {s:Shared} [NeZero s.toks] {u:Value},N[i]? =U (.list I)->b I N=U (v,B)->c.R r N s.heap->c.V r s.heap (.ref i) u->∀ {Q E'},gp c r s B v Q->wpAny c.M A (call f [u] []) Q E' s):
  ro c A f (λv N=>(dX N v).bind λI=>b I N):=by
 intro a v N B r s _ u e R x Q E' O;refine bi e λI J Y=>ym J λi q1 hi=>?_;clear e J;subst q1;exact h hi Y R x O
theorem DO:ro c A (.type "str") Iy:=by
 intro a v N aa r s _ u e R x Q E' O;cases a with
 |int i=>exact jB (b:=jh i) (x:=(V.str (p7 i),N)) e λhf e=>(by
   refine dS (x.int_inv) λab Y=>?_;clear x;subst Y;have B:=iF.mp hf;refine PySem.P.str_of_int ?_ ?_
   ·refine aK (m:=62) ?_ (by exact eH ..);by_cases J:i.natAbs=0
    ·rw[J];decide
    ·exact cG ((Nat.log2_lt J).mpr (by
     cases i with
     |ofNat n=>exact cO (Int.ofNat_lt.mp B.2) (by decide)
     |negSucc n=>exact cO (Int.ofNat_lt.mp (Int.neg_lt_neg_iff.mp B.1)) (by decide)))
   ·have:=(O.cast (congrArg U e.symm)).same R (u:= .str (dE (p7 i)) s.toks) (.str (p7 i) _) (s.toks+1);unfold p7 at this;rw[tw] at this;exact this)
 |_=>exact ns e
theorem Bh:ro c A (.type "type") Fw:=by
 intro a v N af r s _ u e R x Q E' O;cases a with
 |str t=>
  refine dS (x.str_inv) λag B=>?_;clear x;subst B;exact call_type_of (Tx:="str") (pE s _ _) (by decide) ((O.cast (v₀:= .cst (.type "str")) (σ₀:=N) e).here R (.cst _))
 |ref i=>exact tS (o:=N[i]?) (f:=λah=>U (V.cst (.type "list"),N)) e λI hi e=>(by
   refine R.listE hi x λa items n J ab Y aa ae=>?_;clear x;subst J;exact call_type_of (Tx:="list") (dG Y).typeIs (by decide) ((O.cast e).here R (.cst _)))
 |_=>exact ns e
def BP(c:Cx)(A:Around)(f:Value)(as:List V)(v:V)(N B:H):Prop:=jw c f/\∀(r:Rh) (s:Shared) us,c.R r N s.heap->dZ c.w.params r s.heap as us->∀Q E',gp c r s B v Q->[NeZero s.toks]->wpAny c.M A (call f us []) Q E' s
theorem iR{p:Prop}[Decidable p]{B:Type}{x z:Option B}{y:B}{G:Prop}(e:(if p then x else z)=U y)(J:p->x=U y->G)(Y:z=U y->G):G:=(FO e).elim (λq=>J q.1 q.2) λq=>Y q.2
theorem kb{f g:String}{N B:H}{v:V}{b:V->H->Option (V×H)}{a:V}(H:ro c A (.builtin g) b)(q:f=g)(e:b a N=U (v,B)):BP c A (.builtin f) [a] v N B:=
 q▸⟨.builtin,λr s us R x Q E' O=>by obtain⟨u,rfl,J⟩:=x.one;exact H e R J O⟩
theorem kt{f g:String}{N B:H}{v:V}{b:V->H->Option (V×H)}{a:V}(H:ro c A (.type g) b)(q:f=g)(e:b a N=U (v,B)):BP c A (.type f) [a] v N B:=
 q▸⟨.type,λr s us R x Q E' O=>by obtain⟨u,rfl,J⟩:=x.one;exact H e R J O⟩
theorem JA(hh:A.handled=zF){f:String}{a d v:V}{N B:H}(e:JB f a d N=U (v,B)):BP c A (.builtin f) [a,d] v N B:=by
 cases a with
 |int a=>cases d with
  |int d=>exact iR (p:=f="max") e (λq e=>q▸(⟨.builtin,λag s ab R x Q ae O=>by
    refine ga (x.two) λu af J Y aa=>?_;clear x;subst J;exact E8 hh R Y aa (O.cast e)⟩)) λe=>ns e
  |_=>exact ns e
 |_=>exact ns e
theorem Ix{f:String}{a d v:V}{N B:H}(e:Ds f a d N=U (v,B)):BP c A (.type f) [a,d] v N B:=by
 cases a with
 |int a=>cases d with
  |int d=>exact iR (p:=f="range") e (λq e=>q▸(⟨.type,λah s ab R x Q ae O=>by
    refine ga (x.two) λu af J Y aa=>?_;clear x;subst J;exact jB e λag e=>Ag R Y aa (O.cast (congrArg U e.symm))⟩)) λe=>ns e
  |_=>exact ns e
 |_=>exact ns e
theorem Jz(hh:A.handled=zF)(hs:CU c A):Fm c A:=by
 intro f as N v be e;show BP c A f as v N be;cases f with
 |builtin f=>match as with
  |[]=>exact ns e
  |[a]=>exact(iR e (kb (by
    intro a v B ab ag s _ u e R x Q ae O;cases a with
    |str aj=>exact jB (b:=iM aj.length) (x:=(V.int (aj.length:Int),B)) e λa3 e=>(by
      refine dS (x.str_inv) λaj al=>?_;clear x;subst al;have:=iC a3;refine len_str (by rw[eM];exact Int.not_le.mpr (Int.lt_of_le_of_lt (Int.ofNat_le.mpr this) (by decide))) ?_;rw[eM];exact(O.cast (congrArg U e.symm)).same R (.int _ _) _)
    |tup Y=>
     refine Aq (x.tup_inv) λitems n a am af a4 ah aa=>?_;clear x;subst am;refine call_function_entry kind_len plain_len entry_len (args_len1 _) ?_;refine bX (len_entry_tuple (Q:=Q) (jo af) (by simp only[bI];exact Int.lt_of_le_of_lt (Int.ofNat_le.mpr aa) (by decide)) ?_) (λfin bh h=>h) λbg bg x=>x;simp only[bI,ah.length];exact(O.cast (v₀:= .int (Y.length:Int)) (σ₀:=B) e).same R (.int _ _) _
    |ref i=>exact tS (o:=B[i]?) (f:=λY=>U (V.int (Y.length:Int),B)) e λY J e=>(by
      refine R.listE J x λa items n a5 a6 af ah aa=>?_;clear x;subst a5;refine call_len_list (dG af) (by simp only[bI];exact Int.lt_of_le_of_lt (Int.ofNat_le.mpr aa) (by decide)) ?_;simp only[bI,ah.length];exact(O.cast e).same R (.int _ _) _)
    |_=>exact ns e)) λe=>iR e (kb ((uk λ{i Y v B ab ag s} [_] {u} J e R x {Q ae} O=>by
    refine bi e λay aa e=>ga (FS (f:=ot) e) λy a7 al am a8=>?_;subst al;exact HW hh R J aa x (O.to am a8)))) λe=>iR e (kb ((uk λ{i Y v B ab ag s} [_] {u} J e R x {Q ae} O=>by
    refine bi e λay aa e=>ga (FS (f:=pA) e) λy a7 a9 a' ao=>?_;subst a9;exact HV hh R J aa x (O.to a' ao)))) λe=>iR e (kb ((uk λ{i Y v B ab ag s} [_] {u} J e R x {Q ae} O=>by
    exact bi e λay aa e=>mi e λb ap e=>HU hh R J aa ap x (O.cast (congrArg U e))))) λe=>iR e (kb ((uk λ{i Y v B ab ag s} [_] {u} J e R x {Q ae} O=>by
    exact qH (b:=mV Y) (x:=o5 Y B) e λba e=>hs J ba e R x O))) λe=>ns e)
  |[a,d]=>exact JA hh e
  |_::_::_::_=>exact ns e
 |type f=>match as with
  |[]=>exact ns e
  |[a]=>exact(iR e (kt (by
    intro a v B ab ag s _ u e R x Q ae O;cases a with
    |int b=>exact jB (b:=jh b) (x:=(V.rng 0 b,B)) e λbj e=>Ah R x (O.cast (congrArg U e.symm))
    |_=>exact ns e:ro c A (.type "range") (λv B=>match v with| .int b=>AP b B| _=>.none))) λe=>iR e (kt ((by
    intro a v B ab ag s _ u e R x Q ae O;cases a with
    |rng a b=>
     refine qH (b:=decide (b - a < 1000)&&jh a&&jh b) (x:=iP (j9 a b) B) e λaq e=>?_;have ap:=(of_decide_eq_true (a1 (a1 aq)));refine I7 x.inv λaj bl bm y q af a4=>?_;clear x;subst q;have f1:=iF.mp (a2 (a1 aq));have f2:=iF.mp (a2 aq);refine eS (call_list_range (n:=(b - a).toNat) hh af (on f1 f2) (rangeSize_nat a b) (by exact Int.toNat_le.mpr (Int.le_trans (Int.le_of_lt ap) (by decide))) λbb bn aw ar k av J=>?_);intro _;have az:aw.toList.length=(b - a).toNat:=by simpa using J.1
     refine O.adopt (items:=aw.toList) (n:=ar) e R (dH.refl _ _) k (eP s.heap (aJ _)) (by rw[av];simp[fG]) (dZ.ofPlaces (by rw[az];unfold j9;rw[qc]) λbf w bc ai ax=>?_);obtain rfl:=nJ ai;refine dS (J.2 bf bc (by simpa using ax)) λaj a0=>?_;clear ax;subst a0;rw[Int.mul_one];exact .int _ _
    |ref i=>
     refine bi e λY ak ai=>ym ak λi au J=>?_;cases au;refine R.listE J x λa items n ao a6 af ah aa=>?_;clear x;subst ao;refine call_list_seq a (.inl rfl) af rfl rfl (λbb ar k av=>?_) (by simp only[bI];have:=dM;exact aA (by assumption) (by assumption));exact O.adopt (items:=items) (n:=ar) ai R (dH.refl _ _) k (eP s.heap (aJ _)) av ah
    |_=>exact ns e))) λe=>iR e (kt (by
    intro a v B ab ag s _ u e R x Q ae O;refine mi e λY ak ai=>ym ak λi au J=>?_;clear e ak;subst au;exact CN R J x (O.cast (congrArg U ai)):ro c A (.type "tuple") (λv B=>(dX B v).map λY=>(.tup Y,B)))) λe=>iR e (kt DO) λe=>iR e (kt Bh) λe=>ns e)
  |[a,d]=>exact Ix e
  |_::_::_::_=>exact ns e
 |_=>exact ns e
end
section
variable{c:Cx}{A:Around}{E':Value->Shared->Prop}{s:Shared}{r:Rh}{N B:H}{v w:V}{u J:Value}
theorem qJ{id:String}(aa:Slot "list" name id)(ab:typeOf (.builtin id)=pure (.type "method_descriptor"))(Y:s.heap.get? a=U (fG items n))(h:Q (.builtin id,[.ref a]) s):wpAny c.M A (getMethod (.ref a) name pl) Q E' s:=
 xO ⟨_,Y,rfl⟩ PySem.F.plainAttrs_list aa ab (λb e=>by cases e;exact(cU _ Y rfl)) h
end
theorem gq(h:cW a b=zG):a=b:=dA.mp h
theorem tP{c:Cx}(Y:c.Ok){x:Nat}(J:c.t.ids[x]? =U name)(B:c.Γ.ids[x]? =U m):name=dE m:=by
 rw[Y.ids,bD,J] at B
 (refine si B λq5=>?_;subst q5;clear B)
 clear J;cases name;simp[dE]
theorem Bx:dE [97,112,112,101,110,100]=("append":Str):=by decide+kernel
theorem IX:dE [112,111,112]=("pop":Str):=by decide+kernel
theorem IY:dE [103,101,116]=("get":Str):=by decide+kernel
theorem Bv:dE [115,101,97,114,99,104]=("search":Str):=by decide+kernel
theorem GU:dE [106,111,105,110]=("join":Str):=by decide+kernel
theorem D4:dE [108,111,119,101,114]=("lower":Str):=by decide+kernel
theorem GV:dE [102,105,110,100]=("find":Str):=by decide+kernel
theorem D2:dE [115,112,108,105,116]=("split":Str):=by decide+kernel
theorem Bw:dE [101,120,116,101,110,100]=("extend":Str):=by decide+kernel
structure CV(c:Cx)(A:Around):Prop where
 get:∀ {a:Addr} {s:Shared},c.Γ.pats.contains a=zG->(∀b o,c.h₀.get? b=U o->s.heap.get? b=U o)->∀ {Q E' pl},(∀tk,Q (.builtin "re.Pattern.search",[.ref a]) {s with toks:=tk})->wpAny c.M A (getMethod (.ref a) ("search":Str) pl) Q E' s
 run:∀ {a:Addr} {x:Txt} {t:Tok} {s:Shared},c.Γ.pats.contains a=zG->(∀b o,c.h₀.get? b=U o->s.heap.get? b=U o)->kh x=zG->∀ {Q E'},(∀tk,Q .none {s with toks:=tk})->wpAny c.M A (call (.builtin "re.Pattern.search") [.ref a,.str (dE x) t]) Q E' s
section
variable{c:Cx}{A:Around}{C:Cf}
theorem rj.none_inv{r:Rh}{h:Heap}{B:List (Str×Value)}(x:rj c r h [] B):B= []:=by cases x;rfl
noncomputable abbrev Am(c:Cx)(A:Around)(C:Cf)(m:oN)(u:Value)(name:Str)(r:Rh)(s:Shared):Prop:=∃f first,jw c f/\(∀Q E' pl,(∀tk,Q (f,first) {s with toks:=tk})->wpAny c.M A (getMethod u name pl) Q E' s)/\
  ∀as ks B J Y s' v items aa,hK c.Γ C m as ks J=U (v,Y)->dH r s.heap B s'.heap->c.R B J s'.heap->dZ c.w.params B s'.heap as items->rj c B s'.heap ks aa->∀Q E',gp c B s' Y v Q->[NeZero s'.toks]->wpAny c.M A (call f (first++items) aa) Q E' s'
theorem mq{P:Params}{r:Rh}{h:Heap}{as:List V}{items:List Value}{f:V->Option (V×H)}{v:V}{B:H} (e:(match as with
 |[v]=>f v
 |_=>Option.none)=U (v,B)) (x:dZ P r h as items):∃a u,as= [a]/\items= [u]/\VR P r h a u/\f a=U (v,B):=by
 cases as with
 |nil=>exact ns e
 |cons a as=>cases as with
  |nil=>obtain⟨u,rfl,J⟩:=x.one;exact(tY a u rfl rfl J e)
  |cons _ _=>exact ns e
theorem Bp{P:Params}{r:Rh}{h:Heap}{as:List V}{items:List Value}{f:Option (V×H)}{v:V}{B:H} (e:(match as with
 |[]=>f
 |_=>Option.none)=U (v,B)) (x:dZ P r h as items):items= []/\f=U (v,B):=by
 cases as with
 |nil=>cases x;exact⟨rfl,e⟩
 |cons a as=>exact ns e
theorem ml{P:Params}{r:Rh}{h:Heap}{v:V}{u:Value}{p:Txt}(x:VR P r h v u)(e:jI v=U p):v= .str p/\∃t,u= .str (dE p) t:=by
 cases v with
 |str q=>(refine si e λB=>?_;subst B;clear e);exact⟨rfl,x.str_inv⟩
 |_=>exact ns e
theorem so{B:List (Nat×V)}{Y:Type}{x:Option Y}{y:Y}{r:Rh}{h:Heap}{J:List (Str×Value)}(k:rj c r h B J)(e:(if B.isEmpty=zG then x else .none)=U y):J= []/\x=U y:=by
 cases B with
 |nil=>exact⟨k.none_inv,e⟩
 |cons _ _=>exact ns e
end
section
variable{c:Cx}{A:Around}{C:Cf}
theorem Ez(h:∀tk,Q (.builtin "str.join",[.str x t]) {s with toks:=tk}):wpAny c.M A (getMethod (.str x t) ("join":Str) pl) Q E' s:=by
 have B:=h s.toks
 with_reducible exact PySem.GM.join B
theorem Cb(h:∀tk,Q (.builtin "str.lower",[.str x t]) {s with toks:=tk}):wpAny c.M A (getMethod (.str x t) ("lower":Str) pl) Q E' s:=by
 have B:=h s.toks
 with_reducible exact PySem.GM.lower B
theorem EA(h:∀tk,Q (.builtin "str.find",[.str x t]) {s with toks:=tk}):wpAny c.M A (getMethod (.str x t) ("find":Str) pl) Q E' s:=by
 have B:=h s.toks
 with_reducible exact PySem.GM.find B
theorem Ca(h:∀tk,Q (.builtin "str.split",[.str x t]) {s with toks:=tk}):wpAny c.M A (getMethod (.str x t) ("split":Str) pl) Q E' s:=by
 have B:=h s.toks
 with_reducible exact PySem.GM.split B
def yU(c:Cx)(A:Around):Prop:=∀ {x:Txt} {J:Nat} {N B:H} {v:V} {r:Rh} {s:Shared} [NeZero s.toks] {t Y:Tok},iM x.length=zG->iP ((PySem.Txt.split (gM x) (gM [J])).map λy=>V.str (rv y)) N=U (v,B)->c.R r N s.heap->∀ {Q E'},gp c r s B v Q->wpAny c.M A (call (.builtin "str.split") [.str (dE x) t,.str (dE [J]) Y]) Q E' s
theorem tR(kf:jw c f)(g:∀Q E' pl,(∀tk,Q (f,[.str (dE w) t]) {s with toks:=tk})->wpAny c.M A (getMethod (.str (dE w) t) name pl) Q E' s)
  (h:∀as B J Y s' v items,xX w m as J=U (v,Y)->c.R B J s'.heap->dZ c.w.params B s'.heap as items->∀Q E',gp c B s' Y v Q->[NeZero s'.toks]->wpAny c.M A (call f (.str (dE w) t::items) []) Q E' s'):Am c A C (.str w m) (.str (dE w) t) name r s:=by
 refine(iS f [.str (dE w) t] kf g (λas ks B J Y s' v items ab e S aa x' k' Q E' O=>?_));refine f7 (so k' e) λq1 e=>?_;clear k';subst q1;exact h as B J Y s' v items e aa x' Q E' O
theorem DA(e:Fz N v=U I):v= .tup I\/dX N v=U I:=by
 cases v with
 |tup ys=>exact .inl (congrArg V.tup (aC e))
 |_=>exact .inr e
theorem D5:Am c A C (.str w [106,111,105,110]) (.str (dE w) t) ("join":Str) r s:=tR .builtin (λQ E' pl h=>Ez h) λas r' aa ab s' v items e Y J Q E' O=>by
 refine pb (mq e J) λa u1 q2 q3 x1 e=>?_;subst q2;subst q3;refine bi e λI B e2=>bi e2 λl hl e3=>jB e3 λok e4=>?_;clear e2 e3;cases e4;refine(DA B).elim (λq=>?_) λB=>?_
 ·clear J B;subst q;exact D9 Y hl ok x1 O
 ·refine ym B λi q4 hi=>?_;clear J;subst q4;exact G3 Y hi hl ok x1 O
theorem BB:Am c A C (.str w [108,111,119,101,114]) (.str (dE w) t) ("lower":Str) r s:=tR .builtin (λQ E' pl h=>Cb h) λas r' aa ab s' v items e Y B Q E' O=>by
 refine f7 (Bp e B) λq5 e=>?_;clear B;subst q5;refine jB e λJ e=>?_;cases e;exact m_lower Y (a1 J) (a2 J) O
theorem D6:Am c A C (.str w [102,105,110,100]) (.str (dE w) t) ("find":Str) r s:=tR .builtin (λQ E' pl h=>EA h) λas r' aa ab s' v items e J B Q E' O=>by
 refine pb (mq e B) λa u1 Y q8 x1 e=>?_;subst Y;subst q8;refine mi e λp hp e2=>?_;clear B;obtain⟨rfl,t1,rfl⟩:=ml x1 hp;cases e2;exact(SC.find (O.same J (.int _ _) _))
theorem BA(hs:yU c A):Am c A C (.str w [115,112,108,105,116]) (.str (dE w) t) ("split":Str) r s:=tR .builtin (λQ E' pl h=>Ca h) λas r' ae af s' v items e ab J Q E' O=>by
 obtain⟨a,u1,rfl,rfl,Y,e⟩:=mq e J;obtain⟨p,hp,e2⟩:=oR.mp e;obtain⟨ch,B,e3⟩:=oR.mp e2;obtain⟨hz,e4⟩:=Hm e3;obtain⟨rfl,t1,rfl⟩:=ml Y hp;have:p= [ch]:=by
  cases p with
  |nil=>exact ns B
  |cons x q=>cases q with
   |nil=>clear e2 hp J Y;(refine si B λaa=>?_;subst aa);rfl
   |cons _ _=>exact ns B
 clear e2 B hp J Y;subst this;intro _;exact hs hz e4 ab O
end
end MI.Lake
end T5
section T6
open PySem PySem.Spec PySem.Calls PyProof.Rows PySem.W
open PySem.Builtin PySem.Builtin.Re
namespace MI.Lake
structure nl(code:Array Nat):Prop where
 i0:Sre.ops[code.getD 0 0]? =U .INFO
 i2:code.getD 2 0=4
 i3:code.getD 3 0=1
 miss:∀c seen,32<=c->c < 127->∃s',Sre.inSet code c code.size 5 zG seen= .ok (zH,s')
def Fh(m:Sre.M):Prop:=m.answer=U zH/\m.frames= []/\m.outcome=zF
theorem rU(Y:nl m.code)(ht:∀s,s < m.lim->32<=m.text.getD s 0/\m.text.getD s 0 < 127)(B:Nat):∀(s:Nat) (seen:Sre.Seen),∃s',Sre.M.admitted m B s seen= .ok (zF,s'):=by
 induction B with
 |zero=>exact λs seen=>⟨seen,rfl⟩
 |succ B ih=>
  intro s seen;by_cases h:s≥m.lim
  ·exact⟨seen,if_pos h⟩
  ·have J:=ht s (kD h);refine dS (Y.miss _ seen J.1 J.2) λs' e=>dS (ih (s+1) s') λz q=>⟨z,Eq.trans (if_neg h) ?_⟩;rw[e];exact q
theorem FN{P:B->Prop}{c:Prop}[Decidable c]{a b:B}(J:P a)(Y:P b):P (if c then a else b):=by
 by_cases h:c
 ·exact(if_pos h).symm▸J
 ·exact(if_neg h).symm▸Y
theorem A3{m:Sre.M}(B:nl m.code)(J:∀s,s < m.lim->32<=m.text.getD s 0/\m.text.getD s 0 < 127)(Y:m.frames= [])(h2:m.outcome=zF)(s:Nat)(first:Bool):Fh (m.attemptFrom s first):=by
 refine dS (rU B J (m.lim+1 - s) s m.seen) λz q=>?_;have hf:m.hasFirstSet=zG:=by
  unfold Sre.M.hasFirstSet;rw[B.i0,B.i2];rfl
 have e:m.attemptFrom s first= {m with seen:=z}.say zH:=by
  refine Eq.trans (if_neg (by rw[hf];exact aU)) ?_;rw[q]
 exact e▸⟨rfl,Y,h2⟩
theorem vb{code B:Array Nat}{Y J:Nat}(hc:nl code)(hl:J<=B.size)(ht:∀s,s < B.size->32<=B.getD s 0/\B.getD s 0 < 127):Fh (Sre.forSearch code B Y 0 J zH):=
 FN (P:=Fh) ⟨rfl,rfl,rfl⟩ (A3 hc (λs hs=>ht s (aT hs hl)) rfl rfl 0 zG)
section
variable{zB:Model}{A:Around}{E:Value->Shared->Prop}{s:Shared}
theorem Ax(J:∀i (Q':ForInStep PUnit->Shared->Prop),Q' (.yield ⟨⟩) s->wpAny zB A (b i ⟨⟩) Q' E s):∀(l:List Nat) {Q:PUnit->Shared->Prop},Q ⟨⟩ s->wpAny zB A (forIn l PUnit.unit b) Q E s:=by
 intro l;induction l with
 |nil=>
  intro Q h;rw[List.forIn_nil];exact aG h
 |cons i l B=>
  intro Q h;rw[fH];exact aB (J _ _ (B h))
theorem rH(B:Fh m)(h:Q zF s):wpAny zB A (reRunToEnd m) Q E s:=by
 refine pc B λh1 h2 J=>?_;clear B;have aa:m.step= {m with outcome:=U .failed}:=by
  unfold Sre.M.step
  (refine J.symm▸?_;refine h1.symm▸?_;refine h2.symm▸?_)
  rfl
 have Y:m.runFor 4= {m with outcome:=U .failed}:=by
  show(if m.outcome.isSome=zG then m else Sre.M.runFor 3 m.step)=_
  (refine J.symm▸?_;refine aa.symm▸?_)
  rfl
 have ab:reDrive (2^64) m=pure {m with outcome:=U .failed}:=by
  have one:∀n,reDrive (n+1) m=pure {m with outcome:=U .failed}:=λn=>by
   show(if (m.runFor 4).outcome.isSome=zG then pure (m.runFor 4) else _)=_;refine Y.symm▸?_;rfl
  exact one 18446744073709551615
 unfold reRunToEnd;refine ab.symm▸?_;refine aB (aG ?_);refine aB (Ax (λi Q' hq=>?_) _ (aG h));exact FN (P:=λx=>wpAny zB A x _ E s) (aB (ii (aG hq))) (aG hq)
end
theorem qf:PlainAttrs "re.Pattern":=
 ⟨(cU ("object.__getattribute__") (by rw[ln,hL];kernel_rfl) (by decide+kernel)),by rw[ln,hL];kernel_rfl⟩
theorem k5:Slot "re.Pattern" "search" "re.Pattern.search":=
 .of (owner:="re.Pattern") (n:="search") (by rw[ln,hL];kernel_rfl) (by decide+kernel) (by decide+kernel) (by decide+kernel)
  (by first| exact .inl (by decide+kernel)| exact .inr (by decide+kernel)) (by rw[isSubtype_type];kernel_rfl)
theorem pq:typeOf (.builtin "re.Pattern.search")=pure (.type "method_descriptor"):=by show builtinType _=_;rw[builtinType_eq_fast];kernel_rfl
theorem oI:entryFor table "re.Pattern.search"=U Builtin.«re.Pattern.search» :=entryFor_of_tree (by kernel_rfl)
theorem n6(a b:Value):argsOk "re.Pattern.search" ⟨[a,b],[]⟩:=by
 unfold argsOk;kernel_rfl
structure pn(h:Heap)(a:Addr):Prop where
 pa:∃p f g x y cd ct kd sl,reRawNat g=0/\reRawNat kd=0/\h.get? a=U {cls:= .type "re.Pattern",dict:=zF,data:= .fields #[p,f,g,x,y,.ref cd,kd],slots:=sl}/\
  ∃o items n,h.get? cd=U o/\o.data= .seq items n/\items.map reRawOf=ct/\nl (ct.map (λω=>ω.toNat))
theorem zo(h:kh x=zG):∀k,k < (dE x).cps.size->32<=(dE x).cps.getD k 0/\(dE x).cps.getD k 0 < 127:=λk J=>by
 have B:k < x.length:=by simpa[dE] using J
 have e:(dE x).cps.getD k 0=x[k]:=by simp[dE,Array.getD,B]
 rw[e];have:=aR.mp h x[k] (gY B);rw[dR] at this;exact⟨aY this.1,aY this.2⟩
section
variable{prog:Program}{w:World}{A:Around}{E':Value->Shared->Prop}{s:Shared}
theorem va{E:Value->Shared->Prop}(B:s.heap.get? a=U o)(hd:o.data= .seq I n)(h:Q (U I) s):wpAny zB A (seqItems? (.ref a)) Q E s:=by
 unfold seqItems?;refine aB (wpAny_load B ?_);rw[hd];exact aG h
theorem wJ
  (J:s.heap.get? a=U {cls:= .type "re.Pattern",dict:=zF,data:= .fields fs,slots:=sl}) (Y:reRawNat (fs.getD 2 .none)=0) (h5:fs.getD 5 .none= .ref cd) (h6:reRawNat (fs.getD 6 .none)=0) (hc:s.heap.get? cd=U o) (hd:o.data= .seq items n) (hi:items.map reRawOf=ct) (h:∀B:ReTarget,B.code=ct.map (λaa=>aa.toNat)->B.text=x.cps->B.groups=0->B.pos=0->B.lim<=x.cps.size->Q B s):wpAny zB A (reTarget "re.Pattern.search" "search" ⟨[.ref a,.str x t],[]⟩) Q E' s:=by
 unfold reTarget;skip;refine aB (ij (show reNamed "re.Pattern.search" "search" ["string","pos","endpos"] 1 [.str x t] []=pure [U (.str x t),zF,zF] from rfl) ?_);skip;refine aB (aG ?_);refine aB (aG ?_);unfold fieldsOf;refine aB (aB (wpAny_load J (aG ?_)));refine aB (ij (show reTextOf (.str x t)=pure (x.cps,0) from rfl) ?_);dsimp only;rw[h6];rw[if_neg (by decide),if_neg (by decide)];refine aB (ij (show reNoCollectionInside (.str x t) 0=pure () from rfl) ?_);unfold reRawItems;rw[h5];refine aB (aB (va hc hd (aG ?_)));refine aG (h _ ?_ rfl Y ?_ ?_)
 ·rw[<-hi];rfl
 ·skip;simp
 ·exact gW _ _
end
theorem z9:nl #[14,10,4,1,1,22,0,31,16,127,0,13,7,22,0,31,16,127,0,1] where
 i0:=rfl
 i2:=rfl
 i3:=rfl
 miss:=λc seen J B=>by
  show∃s',(if (decide (0<=c)&&decide (c<=31))=zG then _ else _)=_;rw[if_neg (by simp;assumption)];show∃s',(if (c==127)=zG then _ else _)=_;rw[if_neg (by simp;exact bT B)];exact⟨_,rfl⟩
theorem xt:nl #[14,14,4,1,1,9,4294966783,0,0,2147483648,0,0,0,0,0,13,11,9,4294966783,0,0,2147483648,0,0,0,0,0,1] where
 i0:=rfl
 i2:=rfl
 i3:=rfl
 miss:=λc seen J Y=>by
  have hb:∀c < 127,32<=c->((#[14,14,4,1,1,9,4294966783,0,0,2147483648,0,0,0,0,0,13,11,9,4294966783,0,0,2147483648,0,0,0,0,0,1]:Array Nat).getD (5+(1+c / 32)) 0).testBit (c % 32)=zH:=by decide+kernel
  have B:=hb c Y J;show∃s',(if (decide (c < 256)&&_)=zG then _ else _)=_;rw[B,Bool.and_false,if_neg (by simp)];exact⟨_,rfl⟩
def Cx.PatsOk(c:Cx):Prop:=∀a,c.Γ.pats.contains a=zG->pn c.h₀ a
theorem pn.mono(k:∀b o,h.get? b=U o->h'.get? b=U o)(H:pn h a):pn h' a:=by
 obtain⟨p,f,g,B,y,J,Y,kd,sl,h2,h6,ho,o,items,n,hc,hd,hi,ok⟩:=H.pa;exact⟨p,f,g,B,y,J,Y,kd,sl,h2,h6,k _ _ ho,o,items,n,k _ _ hc,hd,hi,ok⟩
theorem r8(H:c.PatsOk):CV c A where
 get:=λ{a s} J k {Q E' pl} h=>(by
   have ap:=(h s.toks);exact LP (((H a J).mono k).pa) λaq f ar x y ab ae af ag aa aa B aa=>xO ⟨_,B,rfl⟩ qf k5 pq (λb e=>by cases e;exact(cU _ B rfl)) ap)
 run:=λ{a x t s} J k hx {Q E'} h=>(by
   have au:=((H a J).mono k);obtain⟨aq,f,ar,av,y,ab,ae,af,ag,ah,ai,B,ay,items,n,aj,hd,ak,ok⟩:=au.pa;refine fL k5 ⟨_,B,rfl⟩ oI ?_ (n6 _ _);unfold Builtin.«re.Pattern.search»;refine aB (wJ B ah rfl ai aj hd ak λaw al Y ax am ao=>?_);unfold reAnswer;refine aB (rH ?_ ?_)
   ·rw[al,Y,am];exact vb ok (by rw[Y] at*;exact ao) (zo hx)
   ·exact aG (cU _ rfl (h s.toks)))
theorem Dt:∀(l:List (Str×Tok)),dZ P r h (l.map λy=>V.str (rv y.1)) (strValues l):=by
 intro l;induction l with
 |nil=>exact .nil
 |cons J l B=>
  obtain⟨x,t⟩:=J;have:=VR.str (P:=P) (r:=r) (h:=h) (rv x) t;rw[tw] at this;exact .cons this (B)
theorem AY:yU c A:=by
 intro x B N af v r s _ t t' hz e R Q E' O;have ab:=iC hz;have aa:=eM x;have key:∀(l:List (Str×Tok)),l.map (λae=>ae.1)=PySem.Txt.split (dE x) (dE [B])->∀k,[NeZero k]->Q (.ref s.heap.objs.size) {s with heap:=s.heap.push {cls:= .type "list",data:= .seq (strValues l).toArray},toks:=k}:=λl hl k=>by
  intro _;refine O.list ?_ R (Dt l) k;rw[<-e];show iP _ _=iP ((PySem.Txt.split (dE x) (dE [B])).map _) _;rw[<-hl,eC];rfl
 have hy:((dE [B]).length==0)=zH:=rfl;have hn:(Builtin.Str.partsBetween (dE x) (Builtin.Str.occurrences (dE x) (dE [B]) 0 (dE x).length ((dE x).length+1)) (dE [B]).length).length<=sizeLine:=by
  have e1:=StrLaws.occ_length_le (dE x) (dE [B]) 0 (dE x).length ((dE x).length+1);have:=dM;rw[length_partsBetween];exact aA (cH (aA e1 (cH (aA (bJ aa) ab)))) (aA (by decide) this)
 cases J:(decide ((dE x).length < (dE [B]).length) || decide (Builtin.Str.strKind (dE x) < Builtin.Str.strKind (dE [B])))
 ·cases Y:(Builtin.Str.occurrences (dE x) (dE [B]) 0 (dE x).length ((dE x).length+1)).isEmpty
  ·refine eS (mJ PySem.F.slot_str_split (pE _ _ _) PySem.F.entry_str_split (PySem.F.args_str_split_2 _ _) (meets_str_split_sep (dE x) (dE [B]) t t' J hy Y (by have:=dM;exact aA (bJ aa) (aA ab (aA (by decide) this))) hn) ?_);intro _;rw[strsFrom_eq];exact key (numbered s.toks _) ((numbered_texts _ _).trans ((if_neg (ne_true_of_eq_false J)).trans (if_neg (ne_true_of_eq_false Y))).symm) _
  ·refine eS (mJ PySem.F.slot_str_split (pE _ _ _) PySem.F.entry_str_split (PySem.F.args_str_split_2 _ _) (meets_str_split_not_found (dE x) (dE [B]) t t' J hy Y) ?_);intro _;exact key [(dE x,t)] ((if_neg (ne_true_of_eq_false J)).trans (if_pos Y)).symm _
 ·refine eS (mJ PySem.F.slot_str_split (pE _ _ _) PySem.F.entry_str_split (PySem.F.args_str_split_2 _ _) (meets_str_split_cannot_occur (dE x) (dE [B]) t t' J) ?_);intro _;exact key [(dE x,t)] (if_pos J).symm _
end MI.Lake
end T6
section T7
open PySem PySem.Spec PySem.Calls PyProof.Rows PySem.W
namespace MI.Lake.rh
open KasT
theorem FU(B:∀i j (zD:Bool->Shared->Prop),i < n->j < n->zD (lt i j) s->cmp i j zD s):∀ {t:KasT Y},jN n lt t=U a->t.kasWp cmp (λb s'=>s'=s/\b=a) s
 |.ret b=>λh=>⟨rfl,aC h⟩
 |.ask i j k=>by
  intro h;exact qH h λJ h=>B i j _ (aY (a1 J)) (aY (a2 J)) (FU B h)
section
variable{prog:Program}{w:World}{A:Around}{E:Value->Shared->Prop}{s:Shared}
def v7(prog:Program)(w:World)(A:Around)(vs:List Value)(lt:Nat->Nat->Bool)(s:Shared):Prop:=
 wpAny (model prog w) A (keyKind' vs.toArray) (λB s'=>s'=s/\∀i j (zD:Bool->Shared->Prop),i < vs.length->j < vs.length->zD (lt i j) s->kas_ask prog w A B vs i j zD s) (λJ J=>False) s
noncomputable def outOf(vs:List Value)(p:Array Nat):List Value:=p.toList.map λi=>vs.getD i Value.none
theorem range_getD(vs:List Value):outOf vs (List.range vs.length).toArray=vs:=by
 unfold outOf;refine List.ext_getElem (by simp) λi J B=>?_;simp[B]
def Told2(vs:List Value)(lt:Nat->Nat->Bool)(p:Array Nat):Prop:=(vs.length < 2/\p=(List.range vs.length).toArray)\/(2<=vs.length/\jN vs.length lt (kas_sort vs.length)=U p/\p.size<=64)
theorem y9(ho:s.heap.get? a=U (seqObj "list" vs.toArray n))(al:vs.length < 64)(J:Told2 vs lt p)
  (ag:2<=vs.length->∀h',(∀b o,b≠a->s.heap.get? b=U o->h'.get? b=U o)->v7 prog w A vs lt {s with heap:=h'})
  (h:P (.done (.ret .none)) {s with heap:=sortedHeap s.heap a vs (outOf vs p).toArray}):
  wpAny (model prog w) A (Builtin.«list.sort» ⟨[.ref a],[]⟩) P E s:=by
 rw[list_sort_plain];have ha:a < s.heap.objs.size:=dD ho;have aq:=dM;refine aB (listItems_at ho rfl ?_);refine aB (listUpdate_at ho rfl ?_ (by rw[bI];exact aA (bA (by assumption)) (by decide)) (cK _));obtain⟨e1,ae⟩:∃e1,(s.heap.update a (Obj.mapSeq λB=>#[])).get? a=U (seqObj "list" #[] e1):=⟨_,get?_update_seq ho (λB=>#[])⟩;refine aB (seqEpoch_at ae rfl ?_);refine aB (jC ?_ (by show vs.length<=_;exact aA (bA (by assumption)) (by decide)));refine aB (uD ?_ (cK _));refine cZ ?_;have keep:∀b o,b≠a->s.heap.get? b=U o->(((s.heap.update a (Obj.mapSeq λB=>#[])).push (seqObj "tuple" vs.toArray 0)).push (seqObj "list" #[] 0)).get? b=U o:=λb o hb e=>
  aS _ (aS _ ((eK s.heap a (Obj.mapSeq λB=>(#[]:Array Value))).2 b hb▸e))
 have aa:(((s.heap.update a (Obj.mapSeq λB=>#[])).push (seqObj "tuple" vs.toArray 0)).push (seqObj "list" #[] 0)).get? a=U (seqObj "list" #[] e1):=aS _ (aS _ ae);dsimp only;have am:vs.toArray.size=vs.length:=by simp
 by_cases h2:vs.toArray.size < 2
 ·rw[if_pos h2,if_pos h2];refine aB (aG ?_);rw[StateT.run_pure];refine aB (aG ?_);dsimp only;have ab:p=(List.range vs.length).toArray:=by
   rcases J with J| J
   ·exact J.2
   ·exact absurd J.1 (kC.mpr (by assumption))
  have af:=h;rw[ab,range_getD] at af;have ah:(arrOf (SortSt.mk' general' (vs.toArray.zip vs.toArray) #[] 7 zF)).map (λB=>B.2)=vs.toArray:=by
   show(vs.toArray.zip vs.toArray).map (λB=>B.2)=vs.toArray;apply Array.ext
   ·simp
   ·intro i h1 h2;simp
  rw[ah];refine aB (seqEpoch_at aa rfl ?_);refine aB (listUpdate_at aa rfl ?_ (cK _) (by rw[am];exact aA (bA (by assumption)) (by decide)));simp only[bne_self_eq_false,wa,if_false];exact aG af
 ·rw[if_neg h2,if_neg h2];refine aB (bX (ag (bK (by assumption)) _ keep) (λar s' hk=>?_) λB B x=>x.elim);refine f7 hk λq1 ai=>?_;clear hk;subst q1;have ab:jN vs.length lt (kas_sort vs.length)=U p/\p.size<=64:=by
   rcases J with J| J
   ·exact absurd J.1 (by assumption)
   ·exact J.2
  have aj:=FU ai ab.1;refine aB (bX (kat_run (E:=λB B=>False) (Q:=λY s'=>arrOf Y=p.map (kas_item (vs.toArray.zip vs.toArray))/\failedOf Y=zF/\s'=_) rfl (bK (by assumption)) al (λp' Y s' a1 a2 a3 a4=>by obtain⟨q1,q2⟩:=a4;subst q2;exact⟨a2,a3,q1⟩) aj) ?_ λB B x=>x.elim);rintro ⟨⟨⟩,Y⟩ s' ⟨ao,hf,rfl⟩;dsimp only;have ak:(arrOf Y).map (λB=>B.2)=(outOf vs p).toArray:=kat_snds rfl ao;have ap:(outOf vs p).toArray.size=p.size:=by
   unfold outOf;rw[bI,aD,Array.length_toList]
  rw[ak];refine aB (seqEpoch_at aa rfl ?_);refine aB (listUpdate_at aa rfl ?_ (cK _) (by rw[ap];have:=ab.2;exact aA (by assumption) (by decide)));rw[hf];simp only[bne_self_eq_false,wa,if_false];exact aG h
theorem sorted_gen(hl:s.heap.IsList l vs.toArray)(ae:vs.length < 64)(hp:Told2 vs lt p)
  (ab:2<=vs.length->∀h',(∀b o,s.heap.get? b=U o->h'.get? b=U o)->v7 prog w A.in1.in1 vs lt {s with heap:=h'})
  (h:Q (.ref (s.heap.objs.size+1)) {s with heap:=sortedAll s.heap vs (outOf vs p).toArray}):
  wpAny (model prog w) A (call (.builtin "sorted") [.ref l]) Q E s:=by
 have af:=dM;refine Calls.call_function_entry kind_sorted plain_sorted entry_sorted (args_sorted1 _) ?_;unfold Builtin.«sorted»;refine aB (aG ?_);refine aB (collect_list hl ?_ (aA (bA (by assumption)) (by decide)));refine aB (uD ?_ (aA (bA (by assumption)) (by decide)));have J:((s.heap.push (seqObj "list" #[] 0)).update s.heap.objs.size (Obj.mapSeq (λB=>B++vs.toArray))).objs.size=s.heap.objs.size+1:=by
  rw[Heap.size_update,size_push']
 have aa:(((s.heap.push (seqObj "list" #[] 0)).update s.heap.objs.size (Obj.mapSeq (λB=>B++vs.toArray))).push (seqObj "list" vs.toArray 0)).get? (s.heap.objs.size+1)=U (seqObj "list" vs.toArray 0):=by
  rw[<-J];exact bE _ rfl
 have keep:∀b o,s.heap.get? b=U o->(((s.heap.push (seqObj "list" #[] 0)).update s.heap.objs.size (Obj.mapSeq (λB=>B++vs.toArray))).push (seqObj "list" vs.toArray 0)).get? b=U o:=λb o q=>by
  have Y:b < s.heap.objs.size:=dD q;rw[Heap.get?_push_ne _ _ _ (by rw[J];exact bT (cX Y)),Heap.get?_update_ne _ _ _ _ (bT Y),Heap.get?_push_ne _ _ _ (bT Y)];exact q
 skip;rw[J];refine aB (cZ (fL slot_list_sort ⟨_,aa,rfl⟩ entry_list_sort ?body (args_list_sort _)))
 case body=>
  refine y9 aa ae hp (λh2 h' k=>ab h2 h' λb o e=>k b o (bT (cX (dD e))) (keep b o e)) ?_;exact(cU _ rfl (aG (cU _ rfl h)))
end
end MI.Lake.rh
namespace MI.Lake.rh
section
variable{prog:Program}{w:World}{A:Around}{E:Value->Shared->Prop}{s:Shared}
theorem zI(h1:∀Q:Bool->Shared->Prop,Q Y s->wpAny (model prog w) A (eqBool p q) Q (λB B=>False) s)(l1:∀Q:Bool->Shared->Prop,Q la s->wpAny (model prog w) A (oneLt' zG p q) Q (λB B=>False) s)
  (h2:∀Q:Bool->Shared->Prop,Q eb s->wpAny (model prog w) A (eqBool p' q') Q (λB B=>False) s) (l2:∀Q:Bool->Shared->Prop,Q lb s->wpAny (model prog w) A (oneLt' zH p' q') Q (λB B=>False) s)
  (J:zD (if Y then (if eb then zH else lb) else la) s):KatLex prog w A zG zH zD [(p,q),(p',q')] 0 s:=by
 refine kat_cons (h1 _ ?_);cases Y with
 |false=>exact kat_no (l1 _ J)
 |true=>
  refine kat_yes (kat_cons (h2 _ ?_));cases eb with
  |false=>exact kat_no (l2 _ J)
  |true=>exact kat_yes (kat_nil J)
theorem wZ(a:Txt):∀b:Txt,decide (a < b)=C6 a b:=by
 induction a with
 |nil=>
  intro b;cases b with
  |nil=>rfl
  |cons b q=>simp;rfl
 |cons a r Y=>
 intro b;cases b with
 |nil=>simp;rfl
 |cons b q=>
  show _=(Nat.blt a b || (Nat.beq a b&&C6 r q));rw[<-Y q];by_cases h:a < b
  ·simp[h,List.cons_lt_cons_iff,Nat.blt_eq]
  ·have J:Nat.blt a b=zH:=gK.mpr λq=>h (Nat.blt_eq.mp q);rw[J,iW];by_cases B:a=b
   ·clear h J;subst B;simp[List.cons_lt_cons_iff]
   ·have h3:Nat.beq a b=zH:=gK.mpr λq=>B (eL q);rw[h3,Bool.false_and];simp[List.cons_lt_cons_iff,h,B]
theorem nF(a:Txt):(dE a).cps.toList=a:=by simp[dE]
theorem AV(a b:Txt):decide (dE a=dE b)=cW a b:=by
 cases h:cW a b with
 |true=>rw[gq h];simp
 |false=>
  refine decide_eq_false λq=>?_;have:=congrArg (λx=>x.cps.toList) q;simp only[nF] at this;rw[this,dA.mpr rfl] at h;exact Bool.noConfusion h
theorem BM(J:zD (G6 (a,b) (c,d)) s):KatLex prog w A zG zH zD [(.str (dE a) t1,.str (dE c) t2),(.str (dE b) t3,.str (dE d) t4)] 0 s:=by
 refine zI (λQ h=>wpAny_eqBool_str (by rw[AV];exact h)) (λQ h=>oneLt_str (by rw[nF,nF,wZ];exact h)) (λQ h=>wpAny_eqBool_str (by rw[AV];exact h)) (λQ h=>kat_one _ _ (PySem.P.lt_str (by rw[nF,nF,wZ];exact h))) ?_;have B:∀x:Txt,C6 x x=zH:=λx=>by rw[<-wZ];simp
 have e:G6 (a,b) (c,d)=(if cW a c then (if cW b d then zH else C6 b d) else C6 a c):=by
  show(C6 a c || (cW a c&&C6 b d))=_;cases Y:cW a c with
  |false=>simp
  |true=>
   rw[gq Y,B];cases h2:cW b d with
   |false=>simp
   |true=>rw[gq h2,B];simp
 rw[<-e];exact J
end
end MI.Lake.rh
namespace MI.Lake.rh
section
variable{prog:Program}{w:World}{A:Around}{s:Shared}[NeZero s.toks]{P:Params}{r:Rh}
theorem getD_some{l:List B}{d v:B}(h:l[i]? =U v):l.getD i d=v:=by
 rw[aI,h];rfl
theorem dZ.at(x:dZ P r h I vs)(J:i < vs.length):∃v u,I[i]? =U v/\vs[i]? =U u/\v∈I/\VR P r h v u:=by
 have B:i < I.length:=by rw[<-x.length];exact J
 exact cJ (x.get (aM B)) λu Y hr=>(tY _ u (aM B) Y (gY B) hr)
theorem strOf_i2(h:jI v=U i):v= .str i:=by
 cases v with
 |str a=>exact aC h▸rfl
 |_=>exact ns h
theorem qi(h:iO v=U p):v= .tup [.str p.1,.str p.2]:=by
 cases v with
 |tup vs=>cases vs with
  |nil=>exact ns h
  |cons x r=>cases r with
   |nil=>exact ns h
   |cons y r=>cases r with
    |cons z r=>exact ns h
    |nil=>
     refine bi h λa B h=>mi h λb J h=>?_;subst h;obtain rfl:=strOf_i2 B;obtain rfl:=strOf_i2 J;rfl
 |_=>exact ns h
theorem VR.II_inv(x:VR P r h (.tup [.str a,.str b]) u):∃ad n t t',u= .ref ad/\h.get? ad=U (pr [.str (dE a) t,.str (dE b) t'] n):=by
 refine Aq (x.tup_inv) λitems n ad q4 hg hm B hz=>?_;clear x;subst q4;refine ga B.inv λu us q p J=>?_;subst q;refine ga J.inv λu' us q Y p3=>?_;subst q;obtain rfl:=p3.inv;refine dS (p.str_inv) λt0 q5=>?_;clear p;subst q5;refine dS (Y.str_inv) λt1 q6=>?_;clear Y J B hz;subst q6;exact((⟨ad,n,t0,t1,rfl,hg⟩))
theorem Dm(x:dZ P r h I vs):(∀v∈I,(iO v).isSome=zG)->∃fs,KatTups h vs fs/\fs.length=vs.length/\∀v∈fs,∃i t,v= .str i t:=
 x.ind (zB:=λI vs=>(∀v∈I,(iO v).isSome=zG)->∃fs,KatTups h vs fs/\fs.length=vs.length/\∀v∈fs,∃i t,v= .str i t) (λY=>(g8 [] .nil rfl (λY h=>nomatch h))) λa Y ih B=>by
  refine fZ (ih λv J=>B v (.tail _ J)) λfs t hl hf=>dS (cR.mp (B _ (.head _))) λp hp=>?_;clear B;obtain rfl:=qi hp;refine Kz (VR.II_inv a) λad n t0 t1 q hg=>?_;clear a;subst q;exact(g8 (.str (dE p.1) t0::fs) (.cons hg rfl rfl rfl t) (congrArg Nat.succ hl) (λv J=>(aX.mp J).elim (λq=>(Ho _ _ q)) (hf v)))
theorem BI(a b c d:Txt):JM (.tup [.str a,.str b]) (.tup [.str c,.str d])=G6 (a,b) (c,d):=rfl
theorem H0{vs:List Value}(x:dZ P r s.heap I vs)(J:∀v∈I,(iO v).isSome=zG)(h2:2<=vs.length):v7 prog w A vs (zy I) s:=by
 refine fZ (Dm x J) λfs tp hl hf=>?_;unfold v7;refine kat_kind (T:= .type "str") tp (by exact Nat.lt_of_lt_of_eq (aT (by decide) h2) hl.symm) (λv Y=>?_) (by decide) ⟨rfl,λi j zD hi hj B=>?_⟩
 ·refine Er (hf v Y) λi t q7=>?_;clear Y;subst q7;exact Looks.of_pure rfl
 ·refine pb (dZ.at x hi) λa u ea eu ma ra=>pb (dZ.at x hj) λb u' eb aa mb rb=>?_;replace B:zD (JM (I.getD i .none) (I.getD j .none)) s:=B;rw[getD_some ea,getD_some eb] at B;refine dS (cR.mp (J _ ma)) λp hp=>dS (cR.mp (J _ mb)) λp' ab=>?_;clear ea ma;obtain rfl:=qi hp;clear eb mb;obtain rfl:=qi ab;refine Kz (VR.II_inv ra) λad n t t' ae hg=>?_;clear ra;subst ae;refine Kz (VR.II_inv rb) λbd m k k' af ag=>?_;clear rb;subst af;rw[BI] at B;unfold kas_ask;rw[getD_some eu,getD_some aa];exact kat_lt hg rfl ag rfl (BM B)
theorem ask_all(x:dZ P r s.heap I vs)(B:(I.all λv=>(iO v).isSome)=zG)(J:2<=vs.length):v7 prog w A vs (zy I) s:=H0 x (aR.mp B) J
end
theorem out_rel{h:Heap}(x:dZ P r h I vs):∀(l:List Nat),dZ P r h (l.map λi=>I.getD i .none) (l.map λi=>vs.getD i Value.none):=by
 intro l;induction l with
 |nil=>exact .nil
 |cons i l J=>
  refine .cons ?_ (J);by_cases B:i < vs.length
  ·refine pb (dZ.at x B) λa u Y eu ma ra=>?_;dsimp only;rw[getD_some Y,getD_some eu];exact ra
  ·have h1:I.length<=i:=by rw[<-x.length];exact bK B
   dsimp only;rw[aI,aI,cI h1,cI (bK B)];exact .none
end MI.Lake.rh
namespace MI.Lake
theorem gp.listAt(O:gp c r s Y v Q)(e:iP vs N=U (v,Y))(R:c.R r N s.heap)
  (x:dZ c.w.params r s.heap vs items) (k:∀b o,s.heap.get? b=U o->h'.get? b=U o) (J:s.heap.get? B= .none) (hg:h'.get? B=U (fG items n)) (tk:Nat) [NeZero tk]:Q (.ref B) {s with heap:=h',toks:=tk}:=by
 refine zu e λhl q1 q2=>?_;subst q1;clear e;subst q2;have mv:Mv r s.heap {r with ob:=r.ob++ [(B,B)]} h':=dH.mv ⟨(cU _ rfl (λq hq=>by rw[aH.mp hq];exact⟨J,J⟩)),rfl,λb ob e ae=>k b ob e,λb ob e=>⟨ob,k b ob e⟩⟩;refine f7 (R.push k J J (.list vs items n _ hg (x.mv mv) (by rw[x.length];exact aA hl (by decide)))) λaa ab=>O _ _ _ tk aa ab ?_;refine .ref _ (B,B) ?_;rw[<-R.len,bG (aJ _),fh];rfl
theorem wz:CU c A:=by
 intro i I N ae v r s _ u hi hk e R x Q E' O;refine R.listE hi x λa items n q3 hp Y aa hl=>?_;clear x;subst q3;refine an hk λab af=>?_;have ab:I.length < 64:=aY ab;have J:=aa.length;have go:∀p:Array Nat,rh.Told2 items (zy I) p->iP (p.toList.map λi=>I.getD i .none) N=U (v,ae)->wpAny c.M A (call (.builtin "sorted") [.ref a] []) Q E' s:=λp hp e=>by
  refine rh.sorted_gen (dG Y) (aK (bJ J) ab) hp (λB h' k=>rh.ask_all (aa.step (dH.grow k)) af B) ?_;exact dS (sortedAll_at s.heap items (rh.outOf items p).toArray) λm hm=>O.listAt e R (rh.out_rel aa p.toList) (λb o e=>sortedAll_old e) (eP s.heap (fR _)) hm s.toks
 unfold o5 at e;by_cases B:Nat.blt I.length 2=zG
 ·rw[if_pos B] at e;refine go (List.range items.length).toArray (.inl ⟨by rw[J];exact aY B,rfl⟩) ?_;rw[J];have:((List.range I.length).toArray.toList.map λi=>I.getD i .none)=I:=by
   refine List.ext_getElem (by simp) λi h1 B=>?_;simp[B]
  rw[this];exact e
 ·rw[if_neg B] at e;cases Y:jN I.length (zy I) (PySem.W.kas_sort I.length) with
  |none=>rw[Y] at e;exact ns e
  |some p=>
   rw[Y] at e;refine qH e λh3 e=>go p (.inr ⟨?_,by rw[J];exact Y,aY h3⟩) e;rw[J];exact bK λh=>B (dJ h)
theorem GW{f:Txt->Option oN}{o:Option Txt}{y:oN} (e:(match o with
  |some m=>f m
  |.none=>.none)=U y):∃m,o=U m/\f m=U y:=by
 cases o with
 |none=>exact ns e
 |some x=>exact(cU x rfl e)
theorem Dl{as:List V}{f:V->V->Option (V×H)}{v:V}{B:H} (e:(match as with
 |[x,y]=>f x y
 |_=>Option.none)=U (v,B)):∃a b,as= [a,b]/\f a b=U (v,B):=by
 cases as with
 |nil=>exact ns e
 |cons a as=>cases as with
  |nil=>exact ns e
  |cons b as=>cases as with
   |nil=>exact(rO a b rfl e)
   |cons _ _=>exact ns e
theorem I0{c:Cx}{A:Around}{C:Cf}(az:c.Ok)(bg:c.PatsOk):Fi c A C:=by
 intro ov x name m u r N s B hf hx R y;show Am c A C m u name r s;cases ov with
 |ref i=>
  unfold fJ at B;dsimp only at B;cases hi:N[i]? with
  |none=>rw[hi] at B;exact ns B
  |some o=>
   rw[hi] at B;cases o with
   |inst zD fs=>
    dsimp only at B;cases hl:look x fs with
    |some w=>rw[hl] at B;exact ns B
    |none=>
     rw[hl] at B;exact mi B λf b9 q=>absurd q.symm (hf f _)
   |list I=>
    refine cJ (GW (o:=c.Γ.ids[x]?) (f:=λm=>if sC.any (cW m) then U (.lst i m) else .none) B) λm' aa B=>jB B λhl B=>?_;clear hf;subst B;refine R.listE hi y λa its n ar a7 a8 b3 b4=>?_;clear y;subst ar;have aj:=tP az hx aa;rcases dL.mp hl with ae| ae
    ·have:=gq ae;clear aa hl ae;subst this;rw[aj,Bx];refine(iS (.builtin "list.append") [.ref a] .builtin (λQ ag pl h=>qJ PySem.F.slot_list_append PySem.F.type_list_append a8 (h s.toks)) (λas a4 au ab a0 a5 v items a3 e S af J Y Q ag O=>?_));refine f7 (so Y e) λam e=>?_;clear Y;subst am;refine bi e λal ap e=>ym ap λbc aq ao=>?_;cases aq;refine pb (mq (f:=λv=>jV ab i (al++ [v]) .none) e J) λw a9 ak av ah e=>?_;subst ak;clear J;subst av;exact BG af ao (.ref i (a,a) (S.at_ob a7)) ah e O
    rcases dL.mp ae with ae| ae
    ·have:=gq ae;clear aa hl;subst this;rw[aj,IX];refine(iS (.builtin "list.pop") [.ref a] .builtin (λQ ag pl h=>qJ PySem.F.slot_list_pop PySem.F.type_list_pop a8 (h s.toks)) (λas a4 au ab a0 a5 v items a3 e S af J Y Q ag O=>?_));refine f7 (so Y e) λai e=>?_;clear Y;subst ai;refine bi e λal ap e=>ym ap λbc aq ao=>?_;cases aq;refine f7 (Bp (f:=al.getLast?.bind λv=>jV ab i al.dropLast v) e J) λbl e=>?_;clear J;subst bl;exact bi e λw bm e=>I2 af ao (.ref i (a,a) (S.at_ob a7)) bm e O
    ·have ae:=(og _).symm.trans ae;have:=gq ae;clear aa hl;subst this;rw[aj,Bw];refine(iS (.builtin "list.extend") [.ref a] .builtin (λQ ag pl h=>qJ PySem.F.slot_list_extend PySem.F.type_list_extend a8 (h s.toks)) (λas a4 au ab a0 a5 v items a3 e S af J Y Q ag O=>?_));refine f7 (so Y e) λam e=>?_;clear Y;subst am;refine bi e λal ap e=>ym ap λbc aq ao=>?_;cases aq;refine pb (mq (f:=λv=>(dX ab v).bind λbe=>jV ab i (al++be) .none) e J) λw a9 ak av ah e=>?_;subst ak;subst av;refine bi e λbe bf bn=>ym bf λb6 bo bp=>?_;clear J bf;subst bo;exact BF af ao (.ref i (a,a) (S.at_ob a7)) bp ah bn O
 |str w=>
  refine cJ (GW (o:=c.Γ.ids[x]?) (f:=λm=>if uW.any (cW m) then U (.str w m) else .none) B) λm' aa B=>jB B λhl B=>?_;clear hf;subst B;refine dS (y.str_inv) λb7 bq=>?_;clear y;subst bq;have aj:=tP az hx aa;rcases dL.mp hl with h| h
  ·have:=gq h;clear aa hl h;subst this;rw[aj,GU];exact D5
  rcases dL.mp h with h| h
  ·have:=gq h;clear aa hl;subst this;rw[aj,D4];exact BB
  rcases dL.mp h with h| h
  ·have:=gq h;clear aa hl;subst this;rw[aj,GV];exact D6
  rcases dL.mp h with h| h
  ·have:=gq h;clear aa hl;subst this;rw[aj,D2];exact BA AY
  ·exact ft h
 |cst w=>
  cases w with
  |ref a=>
   obtain rfl:=y.cst_inv;refine cJ (GW (o:=c.Γ.ids[x]?) (f:=λm=>if cW m [103,101,116]&&(c.Γ.dicts.lookup a).isSome then U (.dget a)
   else if cW m [115,101,97,114,99,104]&&c.Γ.pats.contains a then U (.search a) else .none) B) λm' aa B=>?_
   have ba:=tP az hx aa;rcases FO B with⟨hc,B⟩| ⟨_,B⟩
   ·clear hf;(refine si B λb1=>?_;subst b1);clear aa;obtain rfl:=gq (a1 hc);rw[ba,IY];refine dS (cR.mp (a2 hc)) λbb br=>?_;have bh:=az.tab _ _ br;refine je bh.2 λbt n bu T=>?_;have bv:s.heap.get? a=U (hD bt n):=R.base _ _ (c.X _ _ bu);refine(iS (.builtin "dict.get") [.ref a] .builtin (λQ ag pl h=>vG PySem.F.slot_dict_get PySem.F.type_dict_get bv (h s.toks)) (λas a4 au ab a0 a5 v items a3 e S af J Y Q ag O=>?_));refine f7 (so Y e) λar aw=>?_;clear Y;subst ar;refine je (Dl (f:=λv d=>(jI v).bind λk=>(c.Γ.dicts.lookup a).map λbb=>((lC k bb).getD d,ab)) aw) λb8 d am ax=>?_;subst am;refine ga J.two λa9 b5 ak ah bw=>?_;subst ak;refine bi ax λk a6 ay=>mi ay λb2 bj a'=>f7 (ml ah a6) λav ai=>dS ai λbx ai=>?_;clear ah J;subst ai;clear ax e aw ay;cases a';exact G4 az.tab af bj bw O
   ·refine jB B λhc B=>?_;clear hf;subst B;clear aa;obtain rfl:=gq (a1 hc);rw[ba,Bv];refine(iS (.builtin "re.Pattern.search") [.ref a] .builtin (λQ ag pl h=>(r8 (A:=A) bg).get (a2 hc) R.base h) (λas a4 au ab a0 a5 v items a3 e S af J Y Q ag O=>?_));refine f7 (so Y e) λar aw=>?_;clear Y;subst ar;refine pb (mq (f:=λv=>(jI v).bind λs=>if kh s then U (.none,ab) else .none) aw J) λw a9 am ak ah ax=>?_;subst ak;refine bi ax λk a6 ay=>jB ay λbz a'=>f7 (ml ah a6) λav ai=>dS ai λbx ai=>?_;clear ah J;subst ai;clear e aw ax ay;cases a';exact eS ((r8 (A:=A) bg).run (a2 hc) af.base bz λb0=>O _ au _ b0 af (dH.refl _ _) .none)
  |_=>exact ns B
 |_=>exact ns B
end MI.Lake
namespace MI.Lake.Zp
open PySem.Builtin PySem.Builtin.SmallTypes
def zO(n:Nat)(B J:Value):Obj:= {cls:= .type "zip",dict:=zF,data:= .fields #[B,J,.bool zH,.ref (n+3),.ref (n+4)],slots:= #[]}
noncomputable def t3(I:Array Value):Obj:= {cls:= .type "tuple",data:= .seq I}
structure ZS(n l1 l2:Nat)(H:Heap)(S:Obj)(f0:Value)(x left:Int)(k j:Nat)(TO:Array Value)(h:Heap):Prop where
 r:IsRangeIter h (n+0) (cond (Nat.ble 1 j) (x+1) x) (cond (Nat.ble 1 j) (left - 1) left) 1
 a:h.IsListIter (n+1) l1 (cond (Nat.ble 2 j) (k+1) k)
 b:h.IsListIter (n+2) l2 (cond (Nat.ble 3 j) (k+1) k)
 t:h.get? (n+3)=U (t3 #[.ref (n+0),.ref (n+1),.ref (n+2)])
 o:∃c,h.get? (n+4)=U {cls:= .type "tuple",data:= .seq TO c}
 z:∃f1,h.get? (n+5)=U (zO n f0 f1)
 s:h.get? (n+6)=U S
 kp:∀b o,(b < n\/n+7<=b)->H.get? b=U o->h.get? b=U o
theorem st(B:Heap.SameBut (n+i) h h')(J:Nat.beq j i=zH)(e:h.get? (n+j)=U o):h'.get? (n+j)=U o:=B.extBut _ _ (λq=>Nat.ne_of_beq_eq_false J (lz q)) e
theorem He{H h h':Heap}(J:Heap.SameBut (n+i) h h')(Y:i < 7)(kp:∀b o,(b < n\/n+7<=b)->H.get? b=U o->h.get? b=U o):∀b o,(b < n\/n+7<=b)->H.get? b=U o->h'.get? b=U o:=
 λb o B e=>J.extBut _ _ (λq=>B.elim (λh=>bP.mpr (bL n i) (q▸h)) λh=>kC.mpr (Nat.add_lt_add_left Y n) (q▸h)) (kp b o B e)
structure In(n l1 l2:Nat)(H:Heap)(left:Int)(k:Nat)(u v:Value):Prop where
 p:0 < left
 a:l1 < n/\∃I,H.IsList l1 I/\I[k]? =U u
 b:l2 < n/\∃ys,H.IsList l2 ys/\ys[k]? =U v
noncomputable def val(w u v:Value)(j:Nat):Value:=match j with| 0=>w| 1=>u| _=>v
section
variable{prog:Program}{w:World}{A:Around}{E:Value->Shared->Prop}{s:Shared}{n B l2:Nat}{H h':Heap}{S:Obj}{Y:Value}{x left:Int}{k j:Nat}{u v:Value}{J:Array Value}
theorem tL(aa:IsRangeIter s.heap it x left 1)(ae:0 < left)
  (af:∀h',IsRangeIter h' it (x+1) (left - 1) 1->Heap.SameBut it s.heap h'->Q (.int x s.toks) {s with heap:=h',toks:=s.toks+1}):
  wpAny (model prog w) A (nextOf (.ref it)) Q E s:=
 have ab:s.TypeIs (.ref it) "range_iterator":=⟨_,aa,rfl⟩
 aB (wpAny_callSpecial?_slot ab F.slot_range_iterator_next
  (mJ F.slot_range_iterator_next ab F.entry_range_iterator_next (F.args_range_iterator_next_1 _) (AutoRange.range_iterator___next___range_iterator_1 it x left 1 (Int.not_le.mpr ae)) ⟨aa,
 aG (af _ (cP _ (cP _ aa rfl) rfl) ((eK ..).trans (eK ..)))⟩))
theorem nx:∀j,j < 3->ZS n B l2 H S Y x left k j J s.heap->In n B l2 H left k u v->(j=0->s.toks=t)->
  (∀h' tk,ZS n B l2 H S Y x left k (j+1) J h'->Q (val (.int x t) u v j) {s with heap:=h',toks:=tk})->wpAny (model prog w) A (nextOf (.ref (n+j))) Q E s:=
 j0 (j0 (j0 Ec λZ zE e K=>tL Z.r zE.p λh' r hs=>e rfl▸K h' _ ⟨r,Z.a.at λaa=>st hs rfl,Z.b.at λaa=>st hs rfl,st hs rfl Z.t,Z.o.imp λaa=>st hs rfl,Z.z.imp λaa=>st hs rfl,st hs rfl Z.s,He hs (by decide) Z.kp⟩)
  λZ zE aa K=>zE.a.2.elim λI q=>wpAny_nextOf_list_item Z.a (q.1.at λo=>Z.kp _ o (.inl zE.a.1)) q.2 λh' a hs=>K h' _ ⟨st hs rfl Z.r,a,Z.b.at λaa=>st hs rfl,st hs rfl Z.t,Z.o.imp λaa=>st hs rfl,Z.z.imp λaa=>st hs rfl,st hs rfl Z.s,He hs (by decide) Z.kp⟩)
  λZ zE aa K=>zE.b.2.elim λI q=>wpAny_nextOf_list_item Z.b (q.1.at λo=>Z.kp _ o (.inl zE.b.1)) q.2 λh' a hs=>K h' _ ⟨st hs rfl Z.r,Z.a.at λaa=>st hs rfl,a,st hs rfl Z.t,Z.o.imp λaa=>st hs rfl,Z.z.imp λaa=>st hs rfl,st hs rfl Z.s,He hs (by decide) Z.kp⟩
theorem ZS.all(Z:ZS n B l2 H S Y x left k j J h)(up:∀b o,h.get? b=U o->h'.get? b=U o):ZS n B l2 H S Y x left k j J h':=
 ⟨up _ _ Z.r,Z.a.at (up _),Z.b.at (up _),up _ _ Z.t,Z.o.imp λaa=>up _ _,Z.z.imp λaa=>up _ _,up _ _ Z.s,λb o hb e=>up _ _ (Z.kp b o hb e)⟩
theorem ZS.base(Z:ZS n B l2 H S Y x left k j J h):ZS n B l2 h S Y x left k j J h:= {Z with kp:=λaa aa aa e=>e}
theorem ZS.of(Z:ZS n B l2 h S Y x left k j J h')(kp:∀b o,(b < n\/n+7<=b)->H.get? b=U o->h.get? b=U o):ZS n B l2 H S Y x left k j J h':= {Z with kp:=λb o hb e=>Z.kp b o hb (kp b o hb e)}
theorem ZS.five(Z:ZS n B l2 H S Y x left k j J h)(hs:Heap.SameBut (n+5) h h')(e:∃f1,h'.get? (n+5)=U (zO n f f1)):ZS n B l2 H S f x left k j J h':=
 ⟨st hs rfl Z.r,Z.a.at λaa=>st hs rfl,Z.b.at λaa=>st hs rfl,st hs rfl Z.t,Z.o.imp λaa=>st hs rfl,e,st hs rfl Z.s,He hs (by decide) Z.kp⟩
theorem ZS.set0(Z:ZS n B l2 H S Y x left k j J s.heap)(K:∀h',ZS n B l2 H S f x left k j J h'->Q () {s with heap:=h'}):wpAny (model prog w) A (setField (.ref (n+5)) 0 f) Q E s:=
 Z.z.elim λf1 hz=>wpAny_setField_rec hz (by simp) λh' e hs=>K h' (Z.five hs ⟨f1,e⟩)
theorem ZS.set1(Z:ZS n B l2 H S Y x left k j J s.heap)(K:∀h',ZS n B l2 H S Y x left k j J h'->Q () {s with heap:=h'}):wpAny (model prog w) A (setField (.ref (n+5)) 1 f) Q E s:=
 Z.z.elim λf1 hz=>wpAny_setField_rec hz (by simp) λh' e hs=>K h' (Z.five hs ⟨f,e⟩)
theorem ZS.fld{Q:aa->Shared->Prop}(Z:ZS n B l2 H S Y x left k j J s.heap)(i:Nat)(hi:∀f1,(#[Y,f1,.bool zH,.ref (n+3),.ref (n+4)]:Array Value)[i]? =U y)(K:wpAny (model prog w) A (f y) Q E s):wpAny (model prog w) A (field (.ref (n+5)) i>>=f) Q E s:=
 Z.z.elim λf1 hz=>aB (jk hz rfl (hi f1) K)
theorem ZS.sq{Q:aa->Shared->Prop}(e:s.heap.get? (n+i)=U {cls:= .type "tuple",data:= .seq I c})(K:wpAny (model prog w) A (f (U I)) Q E s):wpAny (model prog w) A (seqItems? (.ref (n+i))>>=f) Q E s:=aB (rZ e rfl K)
theorem Jk(e:Nat->ag)(aa:Nat->ah)(T:Nat->Heap->Nat->Prop)(h0:T 0 h tk)(step:∀j,j < 3->∀h tk,T j h tk->wpAny (model prog w) A (g (e j) (aa j)) (λr ae=>r= .yield (aa (j+1))/\∃h' ab,ae= {s with heap:=h',toks:=ab}/\T (j+1) h' ab) E {s with heap:=h,toks:=tk})(K:∀h tk,T 3 h tk->Q (aa 3) {s with heap:=h,toks:=tk}):
  wpAny (model prog w) A (forIn [e 0,e 1,e 2] (aa 0) g) Q E {s with heap:=h,toks:=tk}:=by
 have go:∀m j,j+m=3->∀h tk,T j h tk->wpAny (model prog w) A (forIn ((List.range' j m).map e) (aa j) g) Q E {s with heap:=h,toks:=tk}:=by
  intro m;induction m with
  |zero=>intro j hj h tk q;obtain rfl:j=3:=hj;exact aG (K h tk q)
  |succ m ih=>
   intro j hj h tk q;refine(fH .. :forIn (e j::(List.range' (j+1) m).map e) (aa j) g=_).symm▸aB (bX (step j (jL hj) h tk q) (λr ae q=>?_) λaf af q=>q);exact je q.2 λh' ab e2 h2=>q.1▸e2▸ih (j+1) (jS hj) h' ab h2
 exact go 3 0 rfl h tk h0
end
end MI.Lake.Zp
namespace MI.Lake.Zp
open PySem.Builtin PySem.Builtin.SmallTypes
section
variable{prog:Program}{w:World}{A:Around}{E:Value->Shared->Prop}{s:Shared}{n B l2:Nat}{H h':Heap}{S:Obj}{J:Value}{x left:Int}{k j:Nat}{u v:Value}{Y:Array Value}
def Lv(n:Nat)(h:Heap)(J:Value):Prop:=∃T o,J=rawInt (T:Nat)/\n+7<=T/\h.get? T=U o
theorem Jx(Z:ZS n B l2 H S J x left k j Y s.heap)(L:Lv n s.heap J)(K:∀h',ZS n B l2 H S J x left k j Y h'->Q zH {s with heap:=h'}):wpAny (model prog w) A (ownedTupleIsFree (.ref (n+5))) Q E s:=by
 refine ga L λT o e aa ab=>?_;subst e;refine Z.fld 0 (λaa=>rfl) (aB ((λΓ af aa=>(Sem.wp_loadIfAlive ..).symm▸?_)));refine Eq.symm (Int.toNat_natCast T▸ab)▸?_;refine dS Z.z λf1 hz=>aB (jk hz rfl (x:=f1) rfl ?_);cases f1 != .bool zG with
 |true=>exact aB (Z.set1 λh' ae=>aG (K h' ae))
 |false=>exact aB (aG (aG (K s.heap Z)))
theorem ZS.lt{h:Heap}(Z:ZS n B l2 H S J x left k j Y h):n+7<=h.objs.size:=dD Z.s
theorem ZS.next{h:Heap}(Z:ZS n B l2 H S J x left k 3 Y h):ZS n B l2 H S J (x+1) (left - 1) (k+1) 0 Y h:=⟨Z.r,Z.a,Z.b,Z.t,Z.o,Z.z,Z.s,Z.kp⟩
def C1(n B l2:Nat)(S:Obj)(x left:Int)(k:Nat)(u v:Value)(Q:Value->Shared->Prop)(s:Shared):Prop:=
 ∀h' T tk t f Y,ZS n B l2 s.heap S f (x+1) (left - 1) (k+1) 0 Y h'->Lv n h' f->n+7<=T->h'.get? T=U (t3 #[.int x t,u,v])->Q (.ref T) {s with heap:=h',toks:=tk}
theorem I9(Z:ZS n B l2 s.heap S J x left k 0 Y s.heap)(L:Lv n s.heap J)(zE:In n B l2 s.heap left k u v)(K:C1 n B l2 S x left k u v Q s):
  wpAny (model prog w) A (Builtin.«zip.__next__» ⟨[.ref (n+5)],[]⟩) (λfin s'=>∃v,fin= .done (.ret v)/\Q v s') E s:=by
 refine Z.fld 2 (λaa=>rfl) (Z.fld 3 (λaa=>rfl) (ZS.sq Z.t (aB (Jx Z L λaf ab=>j7 aU (aB ?_)))));rw[Array.forIn_toList.symm];refine Jk (λj=>Value.ref (n+j)) (λj=>(zF,(List.take j [.int x s.toks,u,v]).toArray)) (λj h tk=>(j=0->tk=s.toks)/\ZS n B l2 s.heap S J x left k j Y h) ⟨λaa=>rfl,ab⟩ (λj hj h' tk q=>?_) λh' tk q=>?_
 ·refine aB (cZ (aB (nx j hj q.2 zE q.1 λag ah ae=>aG (aG ⟨congrArg (λz=>ForInStep.yield (zF,z)) ?_,_,_,rfl,nofun,ae⟩))));exact j0 (P:=λj=>(List.take j [.int x s.toks,u,v]).toArray.push (val (.int x s.toks) u v j)=(List.take (j+1) [.int x s.toks,u,v]).toArray) (j0 (j0 Ec rfl) rfl) rfl j hj
 ·refine aB (jC (aG ⟨_,rfl,?_⟩) (show 3<=sizeLine by decide));refine K _ h'.objs.size tk s.toks J Y (q.2.next.all λaa aa e=>aS _ e) ?_ q.2.lt (bE _ rfl);exact ga L λT o e1 e2 e3=>⟨T,o,e1,e2,aS _ (q.2.kp _ _ (.inr e2) e3)⟩
noncomputable def tA(w u v a b c:Value)(j:Nat):Array Value:= #[cond (Nat.ble 1 j) w a,cond (Nat.ble 2 j) u b,cond (Nat.ble 3 j) v c]
theorem ZS.upd{a b c y:Value}(Z:ZS n B l2 H S J x left k j #[a,b,c] s.heap)(K:∀h',ZS n B l2 H S J x left k j ((#[a,b,c]:Array Value).setIfInBounds i y) h'->Q () {s with heap:=h'}):wpAny (model prog w) A (updateSeq (n+4) (λaa=>aa.setIfInBounds i y)) Q E s:=
 have hs:Heap.SameBut (n+4) s.heap (s.heap.update (n+4) (Obj.mapSeq (λaa=>aa.setIfInBounds i y))):=eK ..
 Z.o.elim λd e=>hH e rfl (K _ ⟨st hs rfl Z.r,Z.a.at λaa=>st hs rfl,Z.b.at λaa=>st hs rfl,st hs rfl Z.t,⟨_,cP _ e rfl⟩,Z.z.imp λaa=>st hs rfl,st hs rfl Z.s,He hs (by decide) Z.kp⟩) (show 3<=sizeLine by decide) (Array.size_setIfInBounds.symm▸(show 3<=sizeLine+1 by decide))
theorem Ja(Z:ZS n B l2 s.heap S .none x left k 0 #[a,b,c] s.heap)(zE:In n B l2 s.heap left k u v)(K:C1 n B l2 S x left k u v Q s):
  wpAny (model prog w) A (Builtin.«zip.__next__» ⟨[.ref (n+5)],[]⟩) (λfin s'=>∃v,fin= .done (.ret v)/\Q v s') E s:=by
 refine Z.fld 2 (λaa=>rfl) (Z.fld 3 (λaa=>rfl) (ZS.sq Z.t (aB (Z.fld 0 (λaa=>rfl) (aG (mL rfl (aB (ii (Z.fld 4 (λaa=>rfl) (aB (Z.set0 λai ah=>aB ?_)))))))))));refine Jk (s:=s) (λj=>(Value.ref (n+j),j)) (λaa=>(zF,())) (λj h tk=>(j=0->tk=s.toks)/\ZS n B l2 s.heap S .ellipsis x left k j (tA (.int x s.toks) u v a b c j) h) ⟨λaa=>rfl,ah⟩ (λj hj h' tk q=>?_) λh' tk q=>?_
 ·refine aB (wpAny_onRaise (aB (nx (s:= {s with heap:=h',toks:=tk}) j hj q.2 zE q.1 λaj ak af=>aG ?_)));refine dS af.o λd e=>ZS.sq e (aB (af.upd λg ae=>aB (wpAny_letGo (aG ⟨rfl,_,_,rfl,nofun,?_⟩))));exact(j0 (P:=λj=>(tA (.int x s.toks) u v a b c j).setIfInBounds j (val (.int x s.toks) u v j)=tA (.int x s.toks) u v a b c (j+1)) (j0 (j0 Ec rfl) rfl) rfl j hj)▸ae
 ·have up:∀b o,h'.get? b=U o->(h'.push (t3 #[.int x s.toks,u,v])).get? b=U o:=λaa aa e=>aS _ e;have ag:(h'.push (t3 #[.int x s.toks,u,v])).get? h'.objs.size=U _:=bE _ rfl;refine dS q.2.o λd e=>ZS.sq e (aB (jC (aB (aB (ZS.set0 ((q.2.next.all up).base) λg ae=>ae.set1 λg' ab=>aG ⟨_,rfl,K g' h'.objs.size tk s.toks _ _ (ab.of (q.2.all up).kp) ?_ q.2.lt (ab.kp _ _ (.inr q.2.lt) ag)⟩))) (show 3<=sizeLine by decide)));exact⟨_,_,rfl,q.2.lt,ab.kp _ _ (.inr q.2.lt) ag⟩
end
end MI.Lake.Zp
namespace MI.Lake.Zp
open PySem.Builtin PySem.Builtin.SmallTypes
section
variable{prog:Program}{w:World}{A:Around}{E:Value->Shared->Prop}{s:Shared}{n J l2:Nat}{H h':Heap}{S:Obj}{B:Value}{x left:Int}{k j:Nat}{u v:Value}{Y:Array Value}
theorem zi{it:Addr}{Q:Value->Shared->Prop}(hh:A.handled=zF)(aa:IsRangeIter s.heap it x left 1)(ae:left<=0)
  (af:∀h' e,Heap.ExtBut it s.heap h'->(∃o,h'.get? e=U o/\o.cls= .type "StopIteration")->E (.ref e) {s with heap:=h'}):
  wpAny (model prog w) A (nextOf (.ref it)) Q E s:=by
 have ab:s.TypeIs (.ref it) "range_iterator":=⟨_,aa,rfl⟩;refine aB (wpAny_callSpecial?_slot (name:=Str.ofString "__next__") ab F.slot_range_iterator_next
  (fL F.slot_range_iterator_next ab F.entry_range_iterator_next ?_ (F.args_range_iterator_next_1 _)))
 refine aB (m:=field (.ref it) 0) (jk aa rfl (x:=rawInt x) rfl (aB (jk aa rfl (x:=rawInt left) rfl (aB (jk aa rfl (x:=rawInt 1) rfl (mL ae (aB (ii (aB (aB ?_))))))))));simp only[newExc,newTuple];refine aB (wpAny_newObj_type ?_ (by size_fits));refine aB (m:=firstArgMember _ _) (ij (a:=Value.none) (by first| rfl| (simp only[firstArgMember];rfl)) ?_);refine wpAny_newObj_type ?_ (by size_fits);exact wpAny_raiseNew_none hh (af _ _ (((Heap.ExtBut.refl it s.heap).push _).push _) (cU _ (bE _ rfl) rfl))
theorem KL{ae ab:Type}{g:ae->ab->Sem (ForInStep ab)}{e:ae}{l:List ae}{b:ab}{Q:ab->Shared->Prop}(h:wpAny (model prog w) A (g e b) (λaa aa=>False) E s):wpAny (model prog w) A (forIn (e::l) b g) Q E s:=
 by rw[fH];exact aB (bX h (λaa aa q=>q.elim) λaa aa q=>q)
theorem Il{Q:Fin->Shared->Prop}(hh:A.handled=zF)(Z:ZS n J l2 s.heap S B x left k 0 Y s.heap)(L:Lv n s.heap B)(hl:left<=0)
  (ab:∀h' e,(∀b o,(b < n\/n+7<=b)->s.heap.get? b=U o->h'.get? b=U o)->h'.get? (n+6)=U S->(∃o,h'.get? e=U o/\o.cls= .type "StopIteration")->E (.ref e) {s with heap:=h'}):
  wpAny (model prog w) A (Builtin.«zip.__next__» ⟨[.ref (n+5)],[]⟩) Q E s:=by
 refine Z.fld 2 (λae=>rfl) (Z.fld 3 (λae=>rfl) (ZS.sq Z.t (aB (Jx Z L λaf aa=>j7 aU (aB ?_)))));rw[Array.forIn_toList.symm];refine KL (e:=Value.ref (n+0)) (aB (cZ (aB (zi hh aa.r hl λh' e hs he=>ab h' e (λb o hb q=>hs _ _ (λq=>hb.elim (λh=>bP.mpr (bL n 0) (q▸h)) λh=>kC.mpr (Nat.add_lt_add_left (by decide:0 < 7) n) (q▸h)) (aa.kp b o hb q)) (hs _ _ (λq=>nomatch lz (m:=6) (k:=0) q) aa.s) he))))
theorem item{Q:Value->Shared->Prop}(Z:ZS n J l2 s.heap S B x left k 0 Y s.heap)(L:(B= .none/\Y= #[.none,.none,.none])\/Lv n s.heap B)(zE:In n J l2 s.heap left k u v)(K:C1 n J l2 S x left k u v Q s):
  wpAny (model prog w) A (Builtin.«zip.__next__» ⟨[.ref (n+5)],[]⟩) (λfin s'=>∃v,fin= .done (.ret v)/\Q v s') E s:=
 L.elim (λq=>Ja (q.2▸q.1▸Z) zE K) λL=>I9 Z L zE K
end
end MI.Lake.Zp
namespace MI.Lake.Zp
open PySem.Builtin PySem.Builtin.SmallTypes
theorem AC{us:List Value}(x:dZ P r h I (us.drop k))(B:0 < I.length):∃y ys u,I=y::ys/\us[k]? =U u/\VR P r h y u/\dZ P r h ys (us.drop (k+1)):=by
 cases I with
 |nil=>exact absurd B (cD 0)
 |cons y ys=>
  refine ga x.inv λu r' e J Y=>?_;have h0:us[k]? =U u:=by rw[<-Nat.add_zero k,<-List.getElem?_drop,e];rfl
  refine(Hn y ys u rfl h0 J ?_);rw[<-List.drop_drop,e];exact Y
section
variable{prog:Program}{w:World}{A:Around}{E:Value->Shared->Prop}{n B l2:Nat}{us vs:List Value}{Y c2:Nat}{J:Value}{r:Rh}{P:Params}
theorem Lb{S:Obj}(Z:ZS n B l2 s.heap S f0 x left k 0 ae s.heap)
  (h:wpAny (model prog w) A.in1 (Builtin.«zip.__next__» ⟨[.ref (n+5)],[]⟩) (λfin s'=>∃v,fin= .done (.ret v)/\Q (U v) s') (λe s'=>∃a,e= .ref a/\(∃o,s'.heap.get? a=U o/\o.cls= .type "StopIteration")/\Q zF s') s):
  wpAny (model prog w) A (pyNext (.ref (n+5))) Q E s:=by
 refine dS Z.z λf1 hz=>?_;have aa:s.TypeIs (.ref (n+5)) "zip":=⟨_,hz,rfl⟩;refine aB (wpAny_attempt (wpAny_callSpecial?_slot aa F.slot_zip_next (fL F.slot_zip_next aa F.entry_zip_next (bX h (λab ab q=>q.imp λv q=>⟨q.1,aG q.2⟩) λe s' q=>?_) (F.args_zip_next_1 _))));refine fZ q λa e1 e2 e3=>?_;subst e1;exact aB (wpAny_isInstance e2 isSubtype_stop (aG e3))
theorem Lg(hm:∀b,n<=b->b < n+7->r.mut b)(kp:∀b o,(b < n\/n+7<=b)->h.get? b=U o->h'.get? b=U o):Mv r h r h':=
 ⟨λaa aa e=>e,λa o e f=>⟨kp a o ((Nat.lt_or_ge a n).imp id λh1=>(Nat.lt_or_ge a (n+7)).elim (λh2=>absurd (hm a h1 h2) f) id) e,f⟩⟩
theorem Av(hh:A.handled=zF)(hm:∀b,n<=b->b < n+7->r.mut b)(aj:∀b,r.mut b->b < n+7)(i1:B < n)(i2:l2 < n):∀(m k:Nat) (a:Int) (s:Shared) (f0:Value) (ah:Array Value) (ae I ys:List V) (acc:List Value) (c:Nat) {R:Result->Shared->Prop},
  ZS n B l2 s.heap (fG acc c) f0 a m k 0 ah s.heap->(((f0= .none/\ah= #[.none,.none,.none])/\0 < m)\/Lv n s.heap f0)->s.heap.get? B=U (fG us Y)->s.heap.get? l2=U (fG vs c2)->dZ P r s.heap I (us.drop k)->dZ P r s.heap ys (vs.drop k)->m<=I.length->m<=ys.length->acc.length+m<=2000->dZ P r s.heap ae acc->
  (∀h' tk ag c',(∀b o,b < n->s.heap.get? b=U o->h'.get? b=U o)->h'.get? (n+6)=U (fG ag c')->dZ P r h' (ae++pS a m I ys) ag->R (.ok (.ret J)) {s with heap:=h',toks:=tk})->
  codeAny (model prog w) A (.builtin "list.extend.loop" ⟨[.ref (n+6),.ref (n+5),J],[]⟩) R s:=by
 intro m;induction m with
 |zero=>
  intro k a s f0 ah ae I ys acc c R Z hf g1 g2 hx hy b1 b2 b3 hr K;refine codeAny_builtin F.entry_extend_loop ((Around.under_plainId F.plain_extend_loop _).symm▸aB (Lb Z (Il hh Z (hf.resolve_left λq=>cD 0 q.2) (Int.le_refl 0) λh' e kp af he=>⟨e,rfl,he,aG ?_⟩)));exact K h' s.toks acc c (λb o hb=>kp b o (.inl hb)) af ((cF ae).symm▸hr.mv (Lg hm kp))
 |succ m ih=>
  intro k a s f0 ah ae I ys acc c R Z hf g1 g2 hx hy b1 b2 b3 hr K;refine Ar (AC hx (aT (jD m) b1)) λx ak u e1 hu al am=>Ar (AC hy (aT (jD m) b2)) λy ao v e2 hv ap aq=>?_;subst e1;subst e2;refine codeAny_builtin F.entry_extend_loop ((Around.under_plainId F.plain_extend_loop _).symm▸aB (Lb Z (item Z (hf.imp And.left id) ⟨Int.natCast_pos.mpr (jD m),⟨i1,_,dG g1,(by simpa using hu)⟩,⟨i2,_,dG g2,(by simpa using hv)⟩⟩ λh' T tk t f ar aa aw ai ax=>?_)));have hs:Heap.SameBut (n+6) h' (h'.update (n+6) (Obj.mapSeq (·.push (.ref T)))):=eK ..;have kp:=He hs (by decide) aa.kp;have hl:∀ {b o},n+7<=b->h'.get? b=U o->(h'.update (n+6) (Obj.mapSeq (·.push (.ref T)))).get? b=U o:=λhb=>He hs (by decide) (λab ab ab e=>e) _ _ (.inr hb);have zB:=Lg hm kp;have aa:=(show((m+1:Nat):Int) - 1=m from Int.add_sub_cancel m 1)▸aa;have af:=get?_update_seq (c:="list") aa.s (·.push (.ref T));rw[List.push_toArray] at af;replace af:_=U (fG (acc++ [.ref T]) _):=af;have le:acc.length+1<=2000:=aA (Nat.add_le_add_left (eH 1 m) _) b3;refine aB (m:=updateSeq (n+6) _) (hH aa.s rfl (aG ⟨plainId_quiet F.plain_extend_loop _,?_⟩) (aA (bW le) (by decide)) (by rw[List.push_toArray];show(acc++ [Value.ref T]).length<=_;rw[aF];exact aA le (by decide)));exact ih (k+1) (a+1) {s with heap:=_,toks:=tk} f ar (ae++ [.tup [.int a,x,y]]) ak ao (acc++ [.ref T]) _ ⟨st hs rfl aa.r,aa.a.at λab=>st hs rfl,aa.b.at λab=>st hs rfl,st hs rfl aa.t,aa.o.imp λab=>st hs rfl,aa.z.imp λab=>st hs rfl,af,λab ab ab e=>e⟩
   (.inr (ga aw λay o q1 q2 q3=>⟨ay,o,q1,q2,hl q2 q3⟩)) (kp _ _ (.inl i1) g1) (kp _ _ (.inl i2) g2) (am.mv zB) (aq.mv zB) (Nat.le_of_succ_le_succ b1) (Nat.le_of_succ_le_succ b2) (by rw[aF,gQ,iB [Value.ref T].length m];exact b3)
   ((hr.mv zB).append (.cons (.tup _ [.int a t,u,v] 0 T (hl ai ax) (λq=>bP.mpr ai (aj T q)) (.cons (.int a t) (.cons (al.mv zB) (.cons (ap.mv zB) .nil))) (by decide:3<=4000000)) .nil))
   λau av ag c' k2 g r2=>K au av ag c' (λb o hb e=>k2 b o hb (kp b o (.inl hb) e)) g (by rw[cN] at r2;exact r2)
end
end MI.Lake.Zp
namespace MI.Lake.Zp
open PySem.Builtin PySem.Builtin.SmallTypes
theorem pU(a b c:Value):checkTypeCall "zip" ⟨[a,b,c],[]⟩=pure ():=by kernel_rfl
theorem rK(a b c:Value):checkBuiltinCall "zip.__new__" ⟨[.type "zip",a,b,c],[]⟩=pure ():=by kernel_rfl
theorem ng(a b c d:Value):argsOk "object.__init__" ⟨[a,b,c,d],[]⟩:=by
 unfold argsOk;rw[signature?_of (n:= ['_','_','t','i','n','i','_','_']) (by kernel_rfl) F.owner_object];kernel_rfl
theorem Hs{E:Value->Shared->Prop}{g:Y->B->Sem (ForInStep B)}{e:Y}{l:List Y}{b:B}{Q:B->Shared->Prop}(h:wpAny zB A (g e b) (λr s'=>∃J,r= .yield J/\wpAny zB A (forIn l J g) Q E s') E s):wpAny zB A (forIn (e::l) b g) Q E s:=by
 rw[fH];exact aB (bX h (λr s' q=>cJ q λJ e q=>e▸q) λaa aa q=>q)
theorem LU{zB:Model}{A:Around}{E:Value->Shared->Prop}{s:Shared}{a b c:Value}{Q:List Value->Shared->Prop}
  (h:wpAny zB A (pyIter a) (λx=>wpAny zB A (pyIter b) (λy=>wpAny zB A (pyIter c) (λz=>Q [x,y,z]) E) E) E s):wpAny zB A (iterAll [a,b,c]) Q E s:=by
 unfold iterAll;refine aB (Hs (aB (cZ (bX h (λx s h=>aG ⟨_,rfl,?_⟩) λB B q=>q))));refine Hs (aB (cZ (bX h (λy s h=>aG ⟨_,rfl,?_⟩) λB B q=>q)));exact Hs (aB (cZ (bX h (λz s h=>aG ⟨_,rfl,aG (aG h)⟩) λB B q=>q)))
noncomputable def zL(n:Nat)(B l2:Addr)(J Y m3 m4:Nat)(a b:Int):List Obj:= [{cls:= .type "range_iterator",data:= .fields #[rawInt a,rawInt b,rawInt 1]},{cls:= .type "list_iterator",data:= .fields #[.ref B,.int 0 0]},{cls:= .type "list_iterator",data:= .fields #[.ref l2,.int 0 0]},
 {cls:= .type "tuple",data:= .seq #[.ref n,.ref J,.ref Y]},{cls:= .type "tuple",data:= .seq #[.none,.none,.none]},{cls:= .type "zip",data:= .fields #[.none,.bool zH,.bool zH,.ref m3,.ref m4]}]
theorem pk:∀(L:List Obj) (h:Heap) (b:Addr) (o:Obj),h.get? b=U o->(L.foldl Heap.push h).get? b=U o:=by
 intro L;induction L with
 |nil=>exact λB B B e=>e
 |cons x L J=>exact λh b o e=>J _ _ _ (aS _ e)
theorem pl:∀(L:List Obj) (h:Heap) (i:Nat) (o:Obj),L[i]? =U o->o.isFreed=zH->(L.foldl Heap.push h).get? (h.objs.size+i)=U o:=by
 intro L;induction L with
 |nil=>exact λB B B e=>ns e
 |cons x L J=>
  intro h i o e f;cases i with
  |zero=>exact pk L (h.push x) _ _ ((bE h (aC e▸f)).trans e)
  |succ i=>exact(Nat.add_right_comm h.objs.size 1 i).symm▸ff h x▸J (h.push x) i o e f
theorem wW(r J l2:Addr)(a b:Int)(t u v:Tok)(I ys:Array Value)(aa:Builtin.Range.small a b 1=zG):
  Meets (Builtin.«zip.__new__» ⟨[.type "zip",.ref r,.ref J,.ref l2],[]⟩) (λaf R s=>IsRange s.heap r a b 1 t u v/\s.heap.IsList J I/\s.heap.IsList l2 ys/\
   ∀Y m2 m3 m4 m5,Y=s.heap.objs.size+1->m2=s.heap.objs.size+2->m3=s.heap.objs.size+3->m4=s.heap.objs.size+4->m5=s.heap.objs.size+5->R (.ok (.ret (.ref m5))) {s with heap:=(zL s.heap.objs.size J l2 Y m2 m3 m4 a (Builtin.Range.rangeSize a b 1)).foldl Heap.push s.heap}):=
 .of_wp λprog w A R s h=>by
  refine Ie h λhr ab ae h=>?_;unfold Builtin.«zip.__new__»;refine aB (aB (ij (show isType (.type "zip")=pure zG from rfl) (j7 aU (aB (ij sub_zip (j7 aU (aG ?_)))))));simp only[i8,gt_iff_lt,gC,if_false];refine aB (LU (wpAny_pyIter_range hr aa (ny (ab.push _) (ny ((ae.push _).push _) ?_))));have B:∀(h:Heap) (o:Obj) {m:Nat},h.objs.size=m->(h.push o).objs.size=m+1:=λh o m e=>e▸ff h o;refine aB (jC (aB (jC ?_ (show 3<=sizeLine by decide))) (show 3<=sizeLine by decide));refine aB ?_;unfold newRecord;refine wpAny_newObj_type (aG (cU _ rfl ?_)) (show 5<=sizeLine+2 by decide);exact h _ _ _ _ _ (B _ _ rfl) (B _ _ (B _ _ rfl)) (B _ _ (B _ _ (B _ _ rfl))) (B _ _ (B _ _ (B _ _ (B _ _ rfl)))) (B _ _ (B _ _ (B _ _ (B _ _ (B _ _ rfl)))))
section
variable{prog:Program}{w:World}{A:Around}{E:Value->Shared->Prop}{s:Shared}
theorem call_zip3(aa:Builtin.Range.small a b 1=zG)(hr:IsRange s.heap r a b 1 t u v)(ae:s.heap.IsList J I)(af:s.heap.IsList l2 ys)
  (h:∀h',h'.objs.size=s.heap.objs.size+6->(∀c o,s.heap.get? c=U o->h'.get? c=U o)->(∀B S,(∀b o,h'.get? b=U o->B.get? b=U o)->B.get? (s.heap.objs.size+6)=U S->ZS s.heap.objs.size J l2 B S .none a (Builtin.Range.rangeSize a b 1) 0 0 #[.none,.none,.none] B)->Q (.ref (s.heap.objs.size+5)) {s with heap:=h'}):
  wpAny (model prog w) A (call (.type "zip") [.ref r,.ref J,.ref l2]) Q E s:=by
 refine callType_new F.called_zip (by decide) (pU _ _ _) (rK _ _ _) (λobj=>ng obj _ _ _) F.entry_zip_new
  (wW r J l2 a b t u v I ys aa) ⟨hr,ae,af,λm1 m2 m3 m4 m5 e1 e2 e3 e4 e5=>?_⟩
 subst e1 e2 e3 e4 e5;exact⟨⟨_,pl _ _ 5 _ rfl rfl,rfl⟩,h _ ((by
   intro L;induction L with
   |nil=>exact λY=>rfl
   |cons x L ab=>exact λh=>(ab (h.push x)).trans (ff h x▸Nat.add_right_comm h.objs.size 1 L.length):∀(L:List Obj) (h:Heap),(L.foldl Heap.push h).objs.size=h.objs.size+L.length) _ _) (pk _ _) λB S k g=>⟨k _ _ (pl _ _ 0 _ rfl rfl),⟨_,k _ _ (pl _ _ 1 _ rfl rfl),rfl,rfl⟩,⟨_,k _ _ (pl _ _ 2 _ rfl rfl),rfl,rfl⟩,k _ _ (pl _ _ 3 _ rfl rfl),⟨_,k _ _ (pl _ _ 4 _ rfl rfl)⟩,⟨_,k _ _ (pl _ _ 5 _ rfl rfl)⟩,g,λY Y Y e=>e⟩⟩
end
end MI.Lake.Zp
namespace MI.Lake.Zp
open PySem.Builtin PySem.Builtin.SmallTypes
theorem wf:typeLookup (.type "zip") "__len__"=pure zF:=by(rw[ln];refine hL.symm▸?_);kernel_rfl
theorem uI:typeLookup (.type "zip") "__length_hint__"=pure zF:=by(rw[ln];refine hL.symm▸?_);kernel_rfl
section
variable{prog:Program}{w:World}{A:Around}{E:Value->Shared->Prop}{s:Shared}{n B l2:Nat}{us vs:List Value}{Y c2:Nat}{r:Rh}{P:Params}{S:Obj}{aa:Value}{x left:Int}{k:Nat}{J:Array Value}
theorem Au(Z:ZS n B l2 s.heap S aa x left k 0 J s.heap)(h:Q (.ref (n+5)) s):wpAny (model prog w) A (pyIter (.ref (n+5))) Q E s:=
 dS Z.z λf1 hz=>
 have ab:s.TypeIs (.ref (n+5)) "zip":=⟨_,hz,rfl⟩
 wpAny_pyIter_slot ab F.slot_zip_iter (fL F.slot_zip_iter ab F.entry_zip_iter (aG ⟨_,rfl,"zip",_,ab,F.slot_zip_next.lookup,h⟩) (F.args_zip_iter_1 _))
theorem call_list_zip(hh:A.handled=zF)(hm:∀b,n<=b->b < n+7->r.mut b)(ap:∀b,r.mut b->b < n+7)(i1:B < n)(i2:l2 < n)(g1:s.heap.get? B=U (fG us Y))(g2:s.heap.get? l2=U (fG vs c2))(hx:dZ P r s.heap I us)(hy:dZ P r s.heap ys vs)
  (b0:0 < m) (b1:m<=I.length) (b2:m<=ys.length) (b3:m<=2000) (ah:s.heap.objs.size=n+6) (Z:∀ae S,(∀b o,s.heap.get? b=U o->ae.get? b=U o)->ae.get? (n+6)=U S->ZS n B l2 ae S .none a m 0 0 #[.none,.none,.none] ae)
  (aq:∀h' tk acc c,(∀b o,b < n->s.heap.get? b=U o->h'.get? b=U o)->h'.get? (n+6)=U (fG acc c)->dZ P r h' (pS a m I ys) acc->Q (.ref (n+6)) {s with heap:=h',toks:=tk}):
  wpAny (model prog w) A (call (.type "list") [.ref (n+5)]) Q E s:=by
 refine callType_codes (Q₁:=λobj ak=>obj= .ref (n+6)/\ak= {s with heap:=s.heap.push {cls:= .type "list",data:= .seq #[]}}) F.called_list (F.typeCall_list_1 _) F.entry_list_init
  (code_list_new _ ⟨congrArg Value.ref ah,rfl⟩) λobj ak al=>?_
 refine f7 al λq4 q5=>?_;clear al;subst q4;subst q5;have af:(s.heap.push {cls:= .type "list",data:= .seq #[]}).get? (n+6)=U {cls:= .type "list",data:= .seq #[]}:=ah▸bE _ rfl;refine⟨⟨_,af,rfl⟩,F.args_list_init_2 _ _,?_⟩;have up:∀(f:Obj->Obj) (h:Heap),(∀b o,s.heap.get? b=U o->h.get? b=U o)->∀b o,s.heap.get? b=U o->(h.update (n+6) f).get? b=U o:=λf h k b o e=>(jG _ _ λq=>cD _ (ah▸q▸dD e)).trans (k b o e);have ag:=cP (Obj.mapSeq (λab=>(#[]:Array Value))) af rfl;have u2:=up (Obj.mapSeq λab=>#[]) (s.heap.push {cls:= .type "list",data:= .seq #[]}) λb o e=>aS _ e;have am:=Z _ _ u2 ag;refine aB (aB (rZ af rfl (aG (aB (hH af rfl (aB (wpAny_letGo ?_)))))));unfold List.listExtendWith;refine dS am.z λf1 hz=>?_;have ai:Shared.TypeIs {s with heap:=(s.heap.push {cls:= .type "list",data:= .seq #[]}).update (n+6) (Obj.mapSeq (λab=>(#[]:Array Value)))} (.ref (n+5)) "zip":=⟨_,hz,rfl⟩;refine aB (wpAny_typeOf ai ?_);have q1:Builtin.List.listSameRef (.ref (n+6)) (.ref (n+5))=zH:=by simp[Builtin.List.listSameRef]
 refine j7 (by rw[q1];exact(by decide: ¬((zH || Value.type "zip"==Value.type "list" || Value.type "zip"==Value.type "tuple")=zG))) ?_;refine aB (Au am.base (aB (cZ ?_)));unfold List.listLengthHint;refine aB (pP ai wf (aB (pP ai uI (aG (aB (ii (aB (aB (hH ag rfl ?_)))))))));have aj:=cP (Obj.mapSeq (λab=>ab.push Value.none)) ag rfl;refine hH aj rfl ?_;have u4:=up (Obj.mapSeq (λab=>ab.pop)) _ (up (Obj.mapSeq (λab=>ab.push Value.none)) _ u2);have zB:Mv r s.heap r _:=⟨λab ab e=>e,λa o e f=>⟨u4 a o e,f⟩⟩;exact aG ⟨plainId_quiet F.plain_extend_loop _,Av (A:=A.in1) hh hm ap i1 i2 m 0 a {s with heap:=_} .none _ [] I ys [] _ (Z _ _ u4 (cP (Obj.mapSeq (λab=>ab.pop)) aj rfl)).base (.inl ⟨⟨rfl,rfl⟩,b0⟩) (u4 _ _ g1) (u4 _ _ g2) (hx.mv zB) (hy.mv zB) b1 b2 ((eW m).symm▸b3) .nil
  λh' tk ao c' k2 g r2=>⟨rfl,aq h' tk ao c' (λb o hb e=>k2 b o hb (u4 b o e)) g r2⟩⟩
end
end MI.Lake.Zp
namespace MI.Lake
theorem F4{vs:List V}{N:H}{o:V×H}(e:listZip vs N=U o):∃x y z,vs= [x,y,z]/\nS x y z N=U o:=by
 cases vs with
 |nil=>exact ns e
 |cons x r=>cases r with
  |nil=>exact ns e
  |cons y r=>cases r with
   |nil=>exact ns e
   |cons z r=>cases r with
    |cons=>exact ns e
    |nil=>exact⟨x,y,z,rfl,e⟩
theorem De{x y z:V}{N:H}{o:V×H}(e:nS x y z N=U o):∃a b,x= .rng a b/\nS (.rng a b) y z N=U o:=by
 cases x with
 |rng a b=>exact⟨a,b,rfl,e⟩
 |_=>exact ns e
theorem vz{vs:List V}{N J:H}{v:V}{G:Prop}(e:listZip vs N=U (v,J))(K:∀a b i j I ys,vs= [.rng a b,.ref i,.ref j]->N[i]? =U (.list I)->N[j]? =U (.list ys)->b - a < 1000->a < b->jh a=zG->jh b=zG->(b - a).toNat<=I.length->(b - a).toNat<=ys.length->iP (pS a (b - a).toNat I ys) N=U (v,J)->G):G:=
 BX (F4 e) λx y z Y e=>je (De e) λa b q1 e=>bi e λI B e2=>bi e2 λys h2 e3=>ym B λi q hi=>ym h2 λj q2 hj=>qH e3 λhc e4=>an hc λc1 B=>an B λc0 B=>an B λc2 B=>an B λc3 B=>an B λc4 c5=>
  K a b i j I ys (q1▸q▸q2▸Y) hi hj (of_decide_eq_true c1) (of_decide_eq_true c0) c2 c3 (aY c4) (aY c5) e4
section
variable{c:Cx}{A:Around}{E':Value->Shared->Prop}{s:Shared}[NeZero s.toks]{sc:Scope}{D:Env}{r:Rh}{N J B:H}{M:aW}{v:V}{ev:Ev}
theorem rM(aq:c.Ok)(hh:A.handled=zF)(ih:eV c A ev){f z:Str}{fp zp q p:Pos}{es:List Expr}{us:List E}(hf:fS c.t sc f (.type "list")=zG)(hz:fS c.t sc z (.type "zip")=zG)(a9:rV c.t sc es us)(eo:bZ c sc D r.pv)(vo:bV c sc D r s.heap M)(R:c.R r N s.heap)
  {vs:List V} (e1:dY ev us M N=U (vs,B)) (e2:listZip vs B=U (v,J)) {Q:Value->Shared->Prop} (O:gp c r s J v Q):wpAny c.M A (eval (.Call (.Name f fp) [.Call (.Name z zp) es [] q] [] p) D) Q E' s:=by
 refine vz e2 λa b i j I ys q7 hi hj hc a' fa fb l1 l2 e3=>?_;subst q7;refine zu e3 λbh q5 q6=>?_;clear e3 e2;subst q5;subst q6;have ah:=iG hf;have ai:=iG hz;refine aB (m:=eval (.Name f fp) D) (ji aq.glob ah.2.2 ah.1 ah.2.1 eo R λuf bj ax av ay al xf=>?_);intro _;obtain rfl:=xf.inv;refine callWith_of (P:=λh=>∀b o,c.h₀.get? b=U o->h.get? b=U o) rfl jw.type ?_;refine evalArgs_kw2 (Al.nil (t:=c.t) (sc:=sc)).names.1 (oQ ?_ rfl) rfl;refine aB (m:=eval (.Name z zp) D) (ji (s:= {s with heap:=ax,toks:=av}) aq.glob ai.2.2 ai.1 ai.2.1 (eo.step al) ay λuz az a0 aw a3 a4 xz=>?_);intro _;obtain rfl:=xz.inv;have aj:=al.trans a4;refine gU (s:= {s with heap:=a0,toks:=aw}) ih .type a9 (eo.step aj) (vo.step eo R aj) (r:=az) (N:=N) a3 e1 λitems aa Y af ab a5 am _=>ga am.inv λu0 bl qq x0 ao=>?_;subst qq;refine ga (ao.two) λu1 u2 q1 x1 x2=>?_;subst q1;refine I7 x0.inv λt u' v' y q2 ba hm=>?_;clear x0;subst q2;refine ab.listE hi x1 λa1 bm n1 q3 bn ak a6 bo=>?_;clear x1;subst q3;refine ab.listE hj x2 λa2 bp n2 q4 bq ag a7 br=>?_;clear x2 ao am;subst q4;have f1:=iF.mp fa;have f2:=iF.mp fb;refine Zp.call_zip3 (s:= {s with heap:=Y,toks:=af}) (on f1 f2) ba (dG ak) (dG ag) λh' bb kk Z=>?_;rw[rangeSize_nat a b] at Z;refine wpAny_items_nil (aG ⟨λb o e=>kk b o (ab.base b o e),?_⟩);have G7:∀b o,Y.get? b=U o->b < Y.objs.size:=λb o e=>dD e;have au:Mv aa Y {aa with pv:=aa.pv++List.range' Y.objs.size 7} h':=⟨λbc bc e=>e,λb o e f=>⟨kk b o e,λq=>q.elim (λq=>f (.inl q)) λq=>(aO.mp q).elim (λq=>f (.inr q)) λq=>kC.mpr (G7 b o e) (List.mem_range'_1.mp q).1⟩⟩;refine eS (Zp.call_list_zip (s:= {s with heap:=h',toks:=af}) (P:=c.w.params) (r:= {aa with pv:=aa.pv++List.range' Y.objs.size 7}) (n:=Y.objs.size) hh (λb q1 q2=>.inr (aL _ (List.mem_range'_1.mpr ⟨q1,q2⟩)))
  (λb q=>?_) (G7 _ _ ak) (G7 _ _ ag) (kk _ _ ak) (kk _ _ ag) (a6.mv au) (a7.mv au) (by exact Int.lt_toNat.mpr (Int.sub_pos.mpr a')) l1 l2 (by exact Int.toNat_le.mpr (Int.le_trans (Int.le_of_lt hc) (by decide))) bb Z λae a8 acc be q1 q3 q4=>?_)
 ·have ar:aa.mut b->b < Y.objs.size+7:=λq=>dS (ab.mutLive q) λo e=>aT (G7 b o e) (bL ..);exact q.elim (λq=>ar (.inl q)) λq=>(aO.mp q).elim (λq=>ar (.inr q)) λq=>(List.mem_range'_1.mp q).2
 intro _;have q1:∀b o,Y.get? b=U o->ae.get? b=U o:=λb o e=>q1 b o (G7 b o e) (kk b o e);have q2:Y.get? (Y.objs.size+6)=zF:=eP Y (bL ..);have mv:Mv {aa with pv:=aa.pv++List.range' Y.objs.size 7} ae {aa with ob:=aa.ob++ [(Y.objs.size+6,Y.objs.size+6)]} ae:=⟨λi p e=>(bM (aZ e)).trans e,λb o e f=>⟨e,λq=>q.elim (λq=>cJ q λp hp hb=>(aO.mp hp).elim (λhp=>f (.inl ⟨p,hp,hb⟩)) λhp=>f (.inr (aL _ (List.mem_range'_1.mpr (by
   rw[aH.mp hp] at hb;rw[hb.elim id id];exact⟨bL ..,Nat.add_lt_add_left (by decide) _⟩))))) λq=>f (.inr (aP _ q))⟩⟩
 have ap:=q4.mv mv;refine f7 (ab.push (p:=(Y.objs.size+6,Y.objs.size+6)) q1 q2 q2 (.list _ acc be _ q3 ap (by rw[ap.length];exact aA (by assumption) (by decide)))) λbf bg=>(O.after (tk:=af) (aj.trans a5)) _ _ ae a8 bf bg (.ref _ (Y.objs.size+6,Y.objs.size+6) ?_);exact ab.len▸List.getElem?_concat_length
end
theorem Et{v:V}{i:Int}(h:B5 v=U i):v= .int i:=by
 cases v with
 |int a=>exact aC h▸rfl
 |_=>exact ns h
abbrev DP(P:Params)(r:Rh)(h:Heap)(k:List Int)(u:List V)(p:List (Value×Value)):Prop:=D3 P r h (.int) k u p
section
variable{P:Params}{r Y:Rh}{h h':Heap}{J:List Int}{us:List V}{B:List (Value×Value)}
theorem DP.all(x:DP P r h J us B):allIntKeys B=zG:=by
 induction x with
 |nil=>rfl
 |cons a _ ih=>exact ih
theorem DP.keys(x:DP P r h J us B):(intKeyPairs B).map (λaa=>aa.1)=J:=by
 induction x with
 |nil=>rfl
 |cons a _ ih=>exact congrArg (List.cons _) ih
theorem DP.find{i:Int}{v:V}(x:DP P r h J us B):yc i J us=U v->∃u,valueAt (intKeyPairs B) i=U u/\VR P r h v u:=by
 induction x with
 |nil=>exact λe=>ns e
 |@cons k t u w J us B a _ ih=>
  intro e;replace e:(if decide (k=i)=zG then U u else yc i J us)=U v:=e;show∃y,(((k,w)::intKeyPairs B).find? λp=>p.1==i).map (λaa=>aa.2)=U y/\_;by_cases hk:k=i
  ·rw[if_pos (decide_eq_true hk)] at e;obtain rfl:=aC e;rw[jE (p:=λp:Int×Value=>p.1==i) (beq_iff_eq.mpr hk)];exact(cU w rfl a)
  ·rw[if_neg λq=>hk (of_decide_eq_true q)] at e;rw[jF (p:=λp:Int×Value=>p.1==i) λq=>hk (eq_of_beq q)];exact ih e
end
section
variable{c:Cx}{A:Around}{E':Value->Shared->Prop}{s:Shared}[NeZero s.toks]{sc:Scope}{D:Env}{r:Rh}{N J B:H}{M:aW}{v:V}{ev:Ev}
theorem ET{h:Heap}{d:Addr}(e:h.get? d=U {cls:= .type "dict",data:= .dict #[]}):h.DictOf (intKind c.prog c.w) d []:=
 ⟨_,#[],0,e,⟨rfl,rfl,rfl⟩,rfl,λY hd=>absurd hd (Array.not_mem_empty _),.nil,.nil⟩
theorem vi(ih:eV c A ev){q:Pos}:∀(Y:List (Int×Nat×Pos)) {vs:List AE} {r:Rh} {N B:H} {s:Shared} [NeZero s.toks] {us:List V},Y.length=vs.length->rJ c.t sc vs=zG->bZ c sc D r.pv->bV c sc D r s.heap M->c.R r N s.heap->dY ev (oi vs) M N=U (us,B)->∀ {Q:List (Value×Value)->Shared->Prop},
  (∀r' h' tk ps,c.R r' B h'->dH r s.heap r' h'->DP c.w.params r' h' (Y.map (λam=>am.1)) us ps->[NeZero tk]->Q ps {s with heap:=h',toks:=tk})->wpAny c.M A (evalPairs (pairTrees (Y.map λk=>U (.Constant (.int k.1) k.2.1 k.2.2)) (np vs) D q)) Q E' s:=by
 intro Y;induction Y with
 |nil=>
  intro vs r N B s _ us hl ok eo vo R e Q O;cases vs with
  |nil=>(refine sp e λq3 q4=>?_;subst q3;subst q4);exact pairTrees_nil_walk (O r s.heap s.toks [] R (dH.refl _ _) .nil)
  |cons _ _=>exact absurd hl (eX _).symm
 |cons k Y al=>
  intro vs r N B s _ us hl ok eo vo R e Q O;cases vs with
  |nil=>exact absurd hl (eX _)
  |cons a vs=>
   refine jH ((kR ev M N a.er (oi vs)).symm.trans e) λw ao e1 e2=>An e2 λws ap e3 e4=>?_;clear e e2;(refine sp e4 λq5 q6=>?_;subst q5;subst q6);refine pairTrees_cons_walk (wpAny_Constant_int ?_);exact ih (s:= {s with toks:=s.toks+1}) (.mk (a1 ok)) eo vo R e1 λuw aq ag ae ah aa xw _=>al (s:= {s with heap:=ag,toks:=ae}) (fP hl) (a2 ok) (eo.step aa) (vo.step eo R aa) ah e3 λai aj af ps ak ab d _=>O ai aj af _ ak (aa.trans ab) (.cons (xw.step ab) d)
theorem xn(ih:eV c A ev){ks:List (Int×Nat×Pos)}{vs:List AE}{q p:Pos}{i:AE}(hn:(ks.map (λaa=>aa.1)).Nodup)(hl:ks.length=vs.length)(hz:vs.length<=15)(hv:rJ c.t sc vs=zG)(hs:iE i.un=zH)(hi:i.ok c.t sc=zG)(eo:bZ c sc D r.pv)(vo:bV c sc D r s.heap M)(R:c.R r N s.heap)
  {us:List V} {ao:H} {w:V} (e1:dY ev (oi vs) M N=U (us,B)) (e2:ev i.er M B=U (w,ao)) (e3:Ba (ks.map (λaa=>aa.1)) us w=U v) {Q:Value->Shared->Prop} (O:gp c r s ao v Q):
  wpAny c.M A (eval (.Subscript (.Dict (ks.map λk=>U (.Constant (.int k.1) k.2.1 k.2.2)) (np vs) q) i.un p) D) Q E' s:=by
 refine bi e3 λj hj e3=>?_;obtain rfl:=Et hj;have a5:(np vs).length=vs.length:=mT vs;refine Subscript_ (wpAny_Dict_walk (knd:=intKind c.prog c.w) (by rw[xR];exact aR.mpr λaa aa=>rfl) (by rw[aD,hl,a5]) (λq=>?_) (by rw[aD,hl];exact hz) ?_)
 ·cases ks with
  |nil=>exact ns e3
  |cons _ _=>exact nomatch q
 have n0:=ja s.heap;have k0:∀b o,s.heap.get? b=U o->(s.heap.push {cls:= .type "dict",data:= .dict #[]}).get? b=U o:=λb o e=>aS _ e;have g0:(s.heap.push {cls:= .type "dict",data:= .dict #[]}).get? s.heap.objs.size=U {cls:= .type "dict",data:= .dict #[]}:=bE _ rfl;generalize s.heap.push {cls:= .type "dict",data:= .dict #[]} =a8 at k0 g0;generalize s.heap.objs.size=d at n0 g0;have nL:∀b∈ [d],s.heap.get? b= .none:=λb Y=>dN.mp Y▸n0;have af:=R.enter (L:= [d]) k0 nL λb Y=>dN.mp Y▸⟨_,g0⟩;refine vi (s:= {s with heap:=a8}) ih ks hl hv (eo.wider λb Y=>aP _ Y) (vo.keepE (λb aa o e=>k0 b o e) af.2) af.1 e1 λaj a9 ar ps ax ab dp _=>?_;have ai:∀b∈ [d],b∈aj.pv:=λb Y=>ab.pv▸aL _ Y;have g1:=ab.keep d _ g0 (af.1.pvo d (aL _ (.head _)));refine display_done_int dp.all (dp.keys.symm▸hn) (ET g1) λag hm am=>?_;have d2:∃o,ag.get? d=U o:=hm.elim λo z=>⟨o,z.elim λaa z=>z.elim λaa z=>z.1⟩;refine f7 (ax.chg (X:=(λaa=>aa∈ [d])) (h':=ag) ai (λb o e nb=>(am.2 b λq=>nb (dN.mpr q)).trans e) (λb o e=>by
  by_cases q:b=d
  ·exact q▸d2
  ·exact⟨o,(am.2 b q).trans e⟩)) λap ak=>?_
 have au:bZ c sc D aj.pv:=ab.pv▸eo.wider λb Y=>aP _ Y;have ay:∀b,hF D b->b≠d:=λb Y q=>by
  have a6:b∈r.pv:=Y.elim (λq=>q▸eo.lpv) λq=>q.elim λx hx=>eo.cpv x b hx;exact(R.pvl b a6).elim λo e=>ns (n0.symm.trans (q▸e))
 have av:bV c sc D aj ag M:=(((vo.keepE (λb aa o e=>k0 b o e) af.2).step (eo.wider λb Y=>aP _ Y) af.1 ab)).keepE (λb Y o e=>(am.2 b (ay b Y)).trans e) (ak.mv ai);refine ih (s:= {s with heap:=ag,toks:=ar+ps.length}) (.mk hi) au av ap e2 λui al ae aw az ah xi _=>dS xi.int_inv λt q=>?_;clear xi;subst q;have aq:ae.DictOf (intKind c.prog c.w) d (intKeyPairs ps):=hm.elim λo z=>⟨o,z.elim λes z=>z.elim λep z=>(rO es ep (ah.keep d _ z.1 (ap.pvo d (ai d (.head _)))) z.2)⟩;refine cJ (dp.find e3) λx hx hr=>tail_any aq.typeIs slot_dict_getitem.lookup ?_ (fU hs _ _);refine wpAny_getItem_of (s:= {s with heap:=ae,toks:=aw}) (knd:=intKind c.prog c.w) (k:=j) (by simp[intKind,Value.isInt]) aq.mapOf hx ?_;have a7:al.pv=r.pv++ [d]:=ah.pv.trans ab.pv;refine f7 (jj.leave az a7 (λb Y q=>(R.pvl b Y).elim λo e=>ns ((nL b q).symm.trans e)) (h':=ae) λb o e aa=>e) λa0 a3=>?_;have a4:dH r s.heap {al with pv:=r.pv} ae:=eA.exit (X:=(λaa=>aa∈ [d])) (L:= [d]) k0 nL ((ab.x.trans ak).trans ah.x) λb Y=>Y;exact O x {al with pv:=r.pv} ae _ a0 a4 (((hr.mv (ak.mv ai)).step ah).mv a3)
end
abbrev DS(P:Params)(r:Rh)(h:Heap)(k:List Txt)(u:List V)(p:List (Value×Value)):Prop:=D3 P r h (λk t=>.str (dE k) t) k u p
section
variable{P:Params}{r Y:Rh}{h h':Heap}{J:List Txt}{us:List V}{B:List (Value×Value)}
theorem DS.all(x:DS P r h J us B):allStrKeys B=zG:=by
 induction x with
 |nil=>rfl
 |cons a _ ih=>exact ih
theorem DS.keys(x:DS P r h J us B):(strPairs B).map (λaa=>aa.1)=J.map dE:=by
 induction x with
 |nil=>rfl
 |cons a _ ih=>exact congrArg (List.cons _) ih
theorem DS.find{i:Txt}{v:V}(x:DS P r h J us B):yb i J us=U v->∃u,valueAt (strPairs B) (dE i)=U u/\VR P r h v u:=by
 induction x with
 |nil=>exact λe=>ns e
 |@cons k t u w J us B a _ ih=>
  intro e;replace e:(if cW k i=zG then U u else yb i J us)=U v:=e;show∃y,(((dE k,w)::strPairs B).find? λp=>p.1==dE i).map (λaa=>aa.2)=U y/\_;by_cases hk:k=i
  ·rw[if_pos (dA.mpr hk)] at e;obtain rfl:=aC e;rw[jE (p:=λp:Str×Value=>p.1==dE i) (beq_iff_eq.mpr (congrArg dE hk))];exact(cU w rfl a)
  ·rw[if_neg λq=>hk (dA.mp q)] at e;rw[jF (p:=λp:Str×Value=>p.1==dE i) λq=>hk (nE.mp (eq_of_beq q))];exact ih e
end
section
variable{c:Cx}{A:Around}{E':Value->Shared->Prop}{s:Shared}[NeZero s.toks]{sc:Scope}{D:Env}{r:Rh}{N J B:H}{M:aW}{v:V}{ev:Ev}
theorem ES{h:Heap}{d:Addr}(e:h.get? d=U {cls:= .type "dict",data:= .dict #[]}):h.DictOf (strKind c.prog c.w) d []:=
 ⟨_,#[],0,e,⟨rfl,rfl,rfl⟩,rfl,λY hd=>absurd hd (Array.not_mem_empty _),.nil,.nil⟩
theorem tG(ih:eV c A ev){q:Pos}:∀(Y:List (Txt×Nat×Pos)) {vs:List AE} {r:Rh} {N B:H} {s:Shared} [NeZero s.toks] {us:List V},Y.length=vs.length->rJ c.t sc vs=zG->bZ c sc D r.pv->bV c sc D r s.heap M->c.R r N s.heap->dY ev (oi vs) M N=U (us,B)->∀ {Q:List (Value×Value)->Shared->Prop},
  (∀r' h' tk ps,c.R r' B h'->dH r s.heap r' h'->DS c.w.params r' h' (Y.map (λam=>am.1)) us ps->[NeZero tk]->Q ps {s with heap:=h',toks:=tk})->wpAny c.M A (evalPairs (pairTrees (Y.map λk=>U (.Constant (.str (gM k.1)) k.2.1 k.2.2)) (np vs) D q)) Q E' s:=by
 intro Y;induction Y with
 |nil=>
  intro vs r N B s _ us hl ok eo vo R e Q O;cases vs with
  |nil=>(refine sp e λq3 q4=>?_;subst q3;subst q4);exact pairTrees_nil_walk (O r s.heap s.toks [] R (dH.refl _ _) .nil)
  |cons _ _=>exact absurd hl (eX _).symm
 |cons k Y al=>
  intro vs r N B s _ us hl ok eo vo R e Q O;cases vs with
  |nil=>exact absurd hl (eX _)
  |cons a vs=>
   refine jH ((kR ev M N a.er (oi vs)).symm.trans e) λw ao e1 e2=>An e2 λws ap e3 e4=>?_;clear e e2;(refine sp e4 λq5 q6=>?_;subst q5;subst q6);refine pairTrees_cons_walk (mH ?_);exact ih (s:= {s with toks:=s.toks+1}) (.mk (a1 ok)) eo vo R e1 λuw aq ag ae ah aa xw _=>al (s:= {s with heap:=ag,toks:=ae}) (fP hl) (a2 ok) (eo.step aa) (vo.step eo R aa) ah e3 λai aj af ps ak ab d _=>O ai aj af _ ak (aa.trans ab) (.cons (xw.step ab) d)
theorem vO(ih:eV c A ev){ks:List (Txt×Nat×Pos)}{vs:List AE}{q p:Pos}{i:AE}(hn:(ks.map (λaa=>aa.1)).Nodup)(hl:ks.length=vs.length)(hz:vs.length<=15)(hv:rJ c.t sc vs=zG)(hs:iE i.un=zH)(hi:i.ok c.t sc=zG)(eo:bZ c sc D r.pv)(vo:bV c sc D r s.heap M)(R:c.R r N s.heap)
  {us:List V} {ao:H} {w:V} (e1:dY ev (oi vs) M N=U (us,B)) (e2:ev i.er M B=U (w,ao)) (e3:vg (ks.map (λaa=>aa.1)) us w=U v) {Q:Value->Shared->Prop} (O:gp c r s ao v Q):
  wpAny c.M A (eval (.Subscript (.Dict (ks.map λk=>U (.Constant (.str (gM k.1)) k.2.1 k.2.2)) (np vs) q) i.un p) D) Q E' s:=by
 refine bi e3 λj hj e3=>?_;obtain rfl:=rh.strOf_i2 hj;have a5:(np vs).length=vs.length:=mT vs;refine Subscript_ (wpAny_Dict_walk (knd:=strKind c.prog c.w) (by rw[xR];exact aR.mpr λaa aa=>rfl) (by rw[aD,hl,a5]) (λq=>?_) (by rw[aD,hl];exact hz) ?_)
 ·cases ks with
  |nil=>exact ns e3
  |cons _ _=>exact nomatch q
 have n0:=ja s.heap;have k0:∀b o,s.heap.get? b=U o->(s.heap.push {cls:= .type "dict",data:= .dict #[]}).get? b=U o:=λb o e=>aS _ e;have g0:(s.heap.push {cls:= .type "dict",data:= .dict #[]}).get? s.heap.objs.size=U {cls:= .type "dict",data:= .dict #[]}:=bE _ rfl;generalize s.heap.push {cls:= .type "dict",data:= .dict #[]} =a8 at k0 g0;generalize s.heap.objs.size=d at n0 g0;have nL:∀b∈ [d],s.heap.get? b= .none:=λb Y=>dN.mp Y▸n0;have af:=R.enter (L:= [d]) k0 nL λb Y=>dN.mp Y▸⟨_,g0⟩;refine tG (s:= {s with heap:=a8}) ih ks hl hv (eo.wider λb Y=>aP _ Y) (vo.keepE (λb aa o e=>k0 b o e) af.2) af.1 e1 λaj a9 ar ps ax ab dp _=>?_;have ai:∀b∈ [d],b∈aj.pv:=λb Y=>ab.pv▸aL _ Y;have g1:=ab.keep d _ g0 (af.1.pvo d (aL _ (.head _)));refine display_done_str dp.all (by rw[dp.keys];exact hn.map _ (λa b h q=>h (nE.mp q))) (ES g1) λag hm am=>?_;have d2:∃o,ag.get? d=U o:=hm.elim λo z=>⟨o,z.elim λaa z=>z.elim λaa z=>z.1⟩;refine f7 (ax.chg (X:=(λaa=>aa∈ [d])) (h':=ag) ai (λb o e nb=>(am.2 b λq=>nb (dN.mpr q)).trans e) (λb o e=>by
  by_cases q:b=d
  ·exact q▸d2
  ·exact⟨o,(am.2 b q).trans e⟩)) λap ak=>?_
 have au:bZ c sc D aj.pv:=ab.pv▸eo.wider λb Y=>aP _ Y;have ay:∀b,hF D b->b≠d:=λb Y q=>by
  have a6:b∈r.pv:=Y.elim (λq=>q▸eo.lpv) λq=>q.elim λx hx=>eo.cpv x b hx;exact(R.pvl b a6).elim λo e=>ns (n0.symm.trans (q▸e))
 have av:bV c sc D aj ag M:=(((vo.keepE (λb aa o e=>k0 b o e) af.2).step (eo.wider λb Y=>aP _ Y) af.1 ab)).keepE (λb Y o e=>(am.2 b (ay b Y)).trans e) (ak.mv ai);refine ih (s:= {s with heap:=ag,toks:=ar+ps.length}) (.mk hi) au av ap e2 λui al ae aw az ah xi _=>dS xi.str_inv λt q=>?_;clear xi;subst q;have aq:ae.DictOf (strKind c.prog c.w) d (strPairs ps):=hm.elim λo z=>⟨o,z.elim λes z=>z.elim λep z=>(rO es ep (ah.keep d _ z.1 (ap.pvo d (ai d (.head _)))) z.2)⟩;refine cJ (dp.find e3) λx hx hr=>tail_any aq.typeIs slot_dict_getitem.lookup ?_ (fU hs _ _);refine wpAny_getItem_of (s:= {s with heap:=ae,toks:=aw}) (knd:=strKind c.prog c.w) (k:=dE j) (by exact mI c.prog c.w (dE j) t) aq.mapOf hx ?_;have a7:al.pv=r.pv++ [d]:=ah.pv.trans ab.pv;refine f7 (jj.leave az a7 (λb Y q=>(R.pvl b Y).elim λo e=>ns ((nL b q).symm.trans e)) (h':=ae) λb o e aa=>e) λa0 a3=>?_;have a4:dH r s.heap {al with pv:=r.pv} ae:=eA.exit (X:=(λaa=>aa∈ [d])) (L:= [d]) k0 nL ((ab.x.trans ak).trans ah.x) λb Y=>Y;exact O x {al with pv:=r.pv} ae _ a0 a4 (((hr.mv (ak.mv ai)).step ah).mv a3)
end
section
variable{c:Cx}{A:Around}{E':Value->Shared->Prop}{s:Shared}[NeZero s.toks]{sc:Scope}{D:Env}{r:Rh}{N J B:H}{M:aW}{v:V}{C:Cf}{m:Nat}
theorem xg(h:Q (.builtin "str.replace",[.str x t]) s):wpAny c.M A (getMethod (.str x t) (Str.ofString "replace") pl) Q E' s:=by
 with_reducible exact PySem.GM.replace h
theorem wD(ih:eV c A (Lake.ev c.Γ C (m+1))){a:AE}(hq:q.endLine=p.line)(hn:hG a.un=zH)(ah:cW x y=zH)(ha:a.ok c.t sc=zG)(eo:bZ c sc D r.pv)(vo:bV c sc D r s.heap M)(R:c.R r N s.heap)
  (e1:Lake.ev c.Γ C (m+1) a.er M N=U (v0,B)) (e2:FD v0 x y B=U (v,J)) (O:gp c r s J v Q):
  wpAny c.M A (eval (.Call (.Attribute a.un (Str.ofString "replace") q) [.Constant (.str (gM x)) Y p1,.Constant (.str (gM y)) n2 p2] [] p) D) Q E' s:=by
 refine bi e2 λw hw e3=>jB e3 λhz e4=>?_;have h3:AE.ok c.t sc (.cst (.str (gM x)) (.str x) Y p1)=zG:=decide_eq_true (by simp[gM]);have h4:AE.ok c.t sc (.cst (.str (gM y)) (.str y) n2 p2)=zG:=decide_eq_true (by simp[gM]);have ta:rV c.t sc [.Constant (.str (gM x)) Y p1,.Constant (.str (gM y)) n2 p2] [.lit (.str x),.lit (.str y)]:=rV.mk (as:= [.cst (.str (gM x)) (.str x) Y p1,.cst (.str (gM y)) (.str y) n2 p2]) (by
  show(AE.ok c.t sc (.cst (.str (gM x)) (.str x) Y p1)&&(AE.ok c.t sc (.cst (.str (gM y)) (.str y) n2 p2)&&zG))=zG;rw[h3,h4];rfl)
 refine jp hq hn (aY rfl) ta (.nil) (ih (.mk ha) eo vo R e1 λu ae af aj aa ag xu=>?_);intro nz;refine f7 (ml xu hw) λq4 q5=>dS q5 λt q5=>?_;clear hw;subst q4;clear xu;subst q5;refine xg ?_;refine callWith_of rfl jw.builtin ?_;refine evalArgs_kw2 (Al.nil (t:=c.t) (sc:=sc)).names.1 ?_ rfl;refine oQ (mH ?_) rfl;refine oQ (mH ?_) rfl;refine wpAny_items_nil ?_;refine kwAll_nil ⟨aa.base,?_⟩;have ab:w.length<=1000:=aY (a1 hz);have ai:y.length<=2:=aY (a2 hz);refine eS (SC.replace (z:=dE y) (eB (Nat.pos_of_ne_zero nz.out)) (eX _) (bT (bQ _)) ((pW x y).symm.trans ah) ?_ λt' k=>?_)
 ·rw[eM,eM];have:(w.length+1)*y.length<=1001*2:=Nat.mul_le_mul (cH ab) ai;exact aA (bY ab this) (by decide)
 ·intro _;clear e3 e1 e2;cases e4;exact O _ ae af k aa ag (.str _ t')
theorem Cg{ev:Ev}(ih:eV c A ev){a:AE}(ha:a.ok c.t sc=zG)(eo:bZ c sc D r.pv)(vo:bV c sc D r s.heap M)(R:c.R r N s.heap)
  (e1:ev a.er M N=U (v0,B)) (e2:Lu v0 B=U (v,J)) (O:gp c r s J v Q):
  wpAny c.M A (eval (.FormattedValue a.un 115 zF p) D) Q E' s:=by
 refine bi e2 λw hw e3=>jB e3 λhz e4=>?_;have hl:=iC hz;have hs:=dM;have aa:(dE w).length<=sizeLine:=by rw[eM];exact aA (by assumption) (by decide)
 refine wpAny_FormattedValue_s (ih (.mk ha) eo vo R e1 λu ab ae ai af ag xu=>?_);intro _;refine f7 (ml xu hw) λq4 Y=>dS Y λt Y=>?_;clear hw;subst q4;clear xu;subst Y;clear e3 e1 e2;cases e4;refine eS (habitSame_str (λt' tk=>?_) aa);intro _;refine eS (formatField_str (λaj ah=>?_) aa);intro _;exact O _ ab ae ah af ag (.str _ _)
theorem Ht{ev:Ev}(ih:eV c A ev):∀(es:List AE) {r:Rh} {N B:H} {s:Shared} [NeZero s.toks] {us:List V} {acc:Txt} {Y:List Txt},rJ c.t sc es=zG->bZ c sc D r.pv->bV c sc D r s.heap M->c.R r N s.heap->dY ev (oi es) M N=U (us,B)->hO us=U Y->acc.length+Y.flatten.length<=1000000->
  (∀r' h' tk t,c.R r' B h'->dH r s.heap r' h'->[NeZero tk]->Q (.str (dE (acc++Y.flatten)) t) {s with heap:=h',toks:=tk})->wpAny c.M A (joinParts (dE acc) (evalEach (np es) D)) Q E' s:=by
 intro es;have hs:=dM;induction es with
 |nil=>
  intro r N B s _ us acc Y ok eo vo R e h hz O
  (refine sp e λae af=>?_;subst ae;subst af)
  (refine si h λag=>?_;subst ag)
  refine joinParts_nil ?_ (by rw[eM];exact aA (by assumption) (by decide));have:=O r s.heap (s.toks+1) s.toks R (dH.refl _ _);rw[List.flatten_nil,cF] at this;exact this
 |cons a es ah=>
  intro r N B s _ us acc Y ok eo vo R e h hz O;refine jH ((kR ev M N a.er (oi es)).symm.trans e) λw ap e1 e2=>An e2 λws aq e3 e4=>?_
  (refine sp e4 λai aj=>?_;subst ai;subst aj)
  cases w with
  |str x=>
   refine mi (show(hO ws).map (λal=>x::al)=U Y from h) λl hl q=>?_;clear h;subst q;rw[gJ,aF] at hz;refine joinParts_cons (ih (.mk (a1 ok)) eo vo R e1 λu au av ar ab aa xu=>?_);intro _;refine dS xu.str_inv λt q=>?_;clear xu;subst q;have ak:dE acc++dE x=dE (acc++x):=pY acc x;show(dE acc++dE x).length<=sizeLine/\wpAny c.M A (joinParts (dE acc++dE x) _) Q E' _;rw[ak];refine⟨by rw[eM,aF];exact aA (aA (Nat.add_le_add_left (bL _ _) _) hz) (aA (by decide) hs),ah (a2 ok) (eo.step aa) (vo.step eo R aa) ab e3 hl (by rw[aF];exact aA (bJ (gQ ..)) hz) λr' h' tk t am ao=>?_⟩;intro _;have:=O r' h' tk t am (aa.trans ao);rw[gJ,<-cN] at this;exact this
  |_=>exact ns h
theorem zT{ev:Ev}(ih:eV c A ev)(ok:rJ c.t sc es=zG)(eo:bZ c sc D r.pv)(vo:bV c sc D r s.heap M)(R:c.R r N s.heap)
  (Y:dY ev (oi es) M N=U (us,B)) (e2:Jl us B=U (v,J)) (O:gp c r s J v Q):
  wpAny c.M A (eval (.JoinedStr (np es) p) D) Q E' s:=by
 refine bi e2 λss hs e3=>jB e3 λhz e4=>an hz λh1 h2=>?_;cases e4;have key:wpAny c.M A (joinParts Str.empty (evalEach (np es) D)) Q E' s:=Ht ih es ok eo vo R Y hs (by rw[i8,eW];exact iC h1) λr' h' tk t ag ah=>O _ r' h' tk ag ah (.str _ t);cases es with
 |nil=>clear hs hz O e2 e3;(refine sp Y λaa ab=>?_;subst aa;subst ab);exact(aU h2).elim
 |cons a es=>cases es with
  |nil=>
   refine jH ((kR ev M N a.er []).symm.trans Y) λw ai Y e2=>?_;clear hs hz e3;(refine sp e2 λae af=>?_;subst ae;subst af);exact(aU h2).elim
  |cons b es=>exact JoinedStr_many key
end
theorem Cn(ab:c.Ok)(ag:iL A n)(m:Nat)(ae:∀k,k<=m->eV c A (Lake.ev c.Γ C k)):uq c A (m+1) C Hx:=by
 intro sc e u D r N ai s _ M v hf tr eo vo R eq Q E' O;refine fZ tr λa q1 q2 h=>?_;clear tr;subst q1;subst q2;have hh:=ag.hd;have hu:A.units+100 < cLine:=by have:=ag.un;exact aK (bY (Nat.le_add_right_of_le (bL _ 4)) (by decide)) this
 have ih:= @ae m (aJ _);cases a with
 |dsub ks vs q i p=>
  exact an h λJ h=>an h λal h=>an h λY h=>an h λh3 h=>an h λh4 h=>an h λh5 h6=>An eq λus aa B e=>jH e λw af e2 e=>mi e λv' hv e=>xn ih (of_decide_eq_true J) (of_decide_eq_true Y) (aY h3) h4 (fW h5) h6 eo vo R B e2 hv (O.cast (congrArg U e))
 |dsubS ks vs q i p=>
  exact an h λJ h=>an h λY h=>an h λh3 h=>an h λh4 h=>an h λh5 h6=>An eq λus aa B e=>jH e λw af e2 e=>mi e λv' hv e=>vO ih (of_decide_eq_true J) (of_decide_eq_true Y) (aY h3) h4 (fW h5) h6 eo vo R B e2 hv (O.cast (congrArg U e))
 |listZip f fp z zp zs q p=>
  exact an h λJ h=>an h λY h3=>An eq λvs aa B e=>rM ab hh ih J Y (.mk h3) eo vo R B e O
 |repl a q x n1 p1 y n2 p2 p=>
  refine an h λJ h=>an h λY h=>an h λh3 h4=>jH eq λv0 aa B e=>?_;cases m with
  |zero=>exact ns B
  |succ m=>exact wD ih (of_decide_eq_true J) (fW Y) (fW h3) h4 eo vo R B e O
 |fv a p=>
  exact jH eq λv0 aa B e=>Cg (a:=a) ih h eo vo R B e O
 |fmt es p=>
  exact An eq λvs aa B e=>zT ih h eo vo R B e O
 |comp2 elt tg it aj it2 ifs ak own p=>
  exact an h λhk h=>an h λhc h=>an h λJ h=>an h λY h=>an h λh3 h=>an h λh4 h=>an h λh6 h=>an h λh7 h5=>JN (nT eq) λitr aa ah acc af B ok e2 e3=>qT ab hh hu (λk hk=>@ae k (bA hk)) ih eo vo R (of_decide_eq_true hk) hc (qU ab hh hu (λk hk=>@ae k (bA hk)) ih (.mk J) (.mk Y) (.mk h6) (.mk h4) (.mk h7)) (.mk h3) (of_decide_eq_true h5) B ok e2 e3 O
 |_=>exact nomatch hf
theorem qA{B:Type}{l:List (Str×B)}(nd:(l.map (λJ=>J.1)).Nodup)(x:Str):l.reverse.lookup x=l.lookup x:=by
 induction l with
 |nil=>rfl
 |cons p r Y=>
  cases p with
  |mk y v=>
   refine f7 (lu.mp nd) λn1 n2=>?_
   (refine Eq.symm (gH)▸?_;refine jn.symm▸?_;refine Eq.symm (Y n2)▸?_;rw[dQ,dQ])
   cases h:x==y with
   |false=>cases r.lookup x<;>rfl
   |true=>
    clear nd;obtain rfl:=eq_of_beq h;cases q:r.lookup x with
    |none=>rfl
    |some w=>exact absurd (cC.mpr (cU _ (mem_of_lookup q) rfl)) n1
theorem uJ{c:Cx}{names:List Str}{ids:List Nat}(e:names.map c.t.id=ids.map U)(R:dZ c.w.params r h as us)(Y:names.length=us.length)(nd:names.Nodup)(x:Str)(i:Nat)(v:V)(hx:c.t.id x=U i)
  (B:aW.get i ((ids.zip as).map λp=>(p.1,U p.2))=U v):∃u,(names.zip us).lookup x=U u/\c.V r h v u:=by
 induction names generalizing ids as us with
 |nil=>cases ids with
  |nil=>exact ns B
  |cons a b=>exact nomatch e
 |cons n names ih=>cases ids with
  |nil=>exact nomatch e
  |cons j ids=>cases as with
   |nil=>exact ns B
   |cons a as=>
    refine ga R.inv λu ab q ra rb=>?_;clear R;subst q;refine f7 (lu.mp nd) λn1 n2=>?_;have e1:c.t.id n=U j:=oW e;replace B:(if (j==i)=zG then U a else aW.get i ((ids.zip as).map λp=>(p.1,U p.2)))=U v:=B;by_cases J:j=i
    ·subst J;replace B:=(if_pos (beq_self_eq_true j))▸B;clear nd e Y n1;obtain rfl:=aC ((Tx.id_get hx).symm.trans (Tx.id_get e1));exact(cU u (by(refine Eq.symm (List.zip_cons_cons)▸?_;rw[dQ,beq_self_eq_true])) (aC B▸ra))
    ·replace B:=(if_neg (mt eq_of_beq J))▸B;have aa:(x==n)=zH:=beq_eq_false_iff_ne.mpr λq=>J (aC (e1.symm.trans (q▸hx)))
     (refine Eq.symm (List.zip_cons_cons)▸?_;rw[dQ];refine aa.symm▸?_)
     exact ih (List.tail_eq_of_cons_eq e) rb (fP Y) n2 B
set_option tactic.hygienic true in
theorem xE(aa:F.kwarg=zF)(e:hX Γ F as J=U M):
  as.length<=F.params.length/\F.params.length<=as.length+F.dflts.length/\J.map (λah=>ah.1)=F.kwonly/\M=((F.params.zip (as++F.dflts.drop (F.dflts.length - (F.params.length - as.length)))).map λp=>(p.1,U p.2))++J.map λp=>(p.1,U p.2):=by
 unfold hX at e;dsimp only at e;split at e
 ·exact ns e
 ·rename_i h1
  split at e
  ·exact ns e
  ·rename_i Y
   have ab:as.length<=F.params.length:=by
    simp only[Nat.blt,Nat.ble_eq] at h1;exact bK (by assumption)
   have ae:F.params.length<=as.length+F.dflts.length:=by
    simp only[Nat.blt,Nat.ble_eq] at Y;exact Nat.sub_le_iff_le_add'.mp (cG (kD Y))
   refine⟨ab,ae,?_⟩;replace e:=aa▸e;cases hk:F.kwonly with
   |nil=>
    replace e:=hk▸e;dsimp only at e;split at e
    ·rename_i B
     (refine si e λaf=>?_;subst af;clear e)
     have:J= []:=oV.mp B;clear B;subst this;exact⟨rfl,by simp⟩
    ·exact ns e
   |cons a b=>
    replace e:=hk▸e;dsimp only at e;split at e
    ·rename_i B
     (refine si e λag=>?_;subst ag;clear e)
     exact⟨by simpa using B,rfl⟩
    ·exact ns e
theorem rj.rel(k:rj c r h ks Y)(e:J.map c.t.id=(ks.map (λB=>B.1)).map U):Y.map (λB=>B.1)=J/\dZ c.w.params r h (ks.map (λB=>B.2)) (Y.map (λB=>B.2)):=by
 induction k generalizing J with
 |nil=>exact⟨(lB.mp e).symm,.nil⟩
 |cons a _ ih=>cases J with
  |nil=>exact nomatch e
  |cons k J=>
   have aa:=ih (List.tail_eq_of_cons_eq e);obtain rfl:=aC (a.1.symm.trans (Tx.id_get (oW e)));exact⟨congrArg (λB=>_::B) aa.1,.cons a.2 aa.2⟩
theorem zip_fst_snd:∀l:List (aa×ab),(l.map (λB=>B.1)).zip (l.map (λB=>B.2))=l:=by
 intro l;induction l with
 |nil=>exact rfl
 |cons Y r J=>
  obtain⟨a,b⟩:=Y;simp[J]
theorem qR{n u d:Nat}(B:u<=n)(J:n<=u+d):n=u+(d - (d - (n - u))):=
 ((congrArg (λY=>u+Y) (Nat.sub_sub_self (Nat.sub_le_iff_le_add'.mpr J))).trans (Nat.add_sub_cancel' B)).symm
theorem iT.of{J:Scope}{an:Option Addr}
  (hl:c.K.lookup f=U ⟨oc,od,.func (fnOf name ah am body J a5 a6 au pm an aj ct),sl⟩) (av:codeIn c.K aj ah=zG) (aw:J.isCoroutine=zH) (ax:J.isGenerator=zH) (hk:J.kind= .function)
  (hn:(J.names.all λx=>J.names.lookup x.1==U x.2)=zG) (ay:(J.names.all λx=>x.2 != .free)=zG) (tb:xL c.t J body F.body)
  (names ko:List Str) (ag:names.map c.t.id=F.params.map U) (ae:ko.map c.t.id=F.kwonly.map U) (az:F.kwarg=zF) (nd:(names++ko).Nodup) (ds:List Value) (ak:dZ c.w.params ⟨[],[]⟩ c.h₀ F.dflts ds)
  (ao:(names++ko).all (λx=>J.names.lookup x==U .local || J.names.lookup x==U .cell)=zG)
  (a0:∀us Y S,us.length<=names.length->names.length<=us.length+ds.length->Y.map (λB=>B.1)=ko->peek c.K S (bindArgs (fnOf name ah am body J a5 a6 au pm an aj ct) ⟨us,Y⟩)=U (names.zip (us++ds.drop (ds.length - (names.length - us.length)))++Y)):iT c f F:=by
 refine .mk hl av aw ax hk hn ay tb ?_;intro as ks M hb A r N s us Y Q E' R x y go;refine Ie (xE az hb) λh1 h2 h3 q1=>?_;clear hb;subst q1;have ab:names.length=F.params.length:=by simpa using congrArg List.length ag
 have af:=x.length;have al:=ak.length;have a1:us.length<=names.length:=by(refine af.symm▸?_;refine ab.symm▸?_);exact h1
 have a2:names.length<=us.length+ds.length:=by(refine af.symm▸?_;refine ab.symm▸?_;refine al.symm▸?_);exact h2
 rw[<-h3] at ae;refine f7 (y.rel ae) λaa a3=>?_;have X:=c.X.keeps R.base;have b:=kp_binds X λS=>a0 us Y S a1 a2 aa;refine b c.M A E' Q (go _ s.heap s.toks (λB B e=>e) ?_ ?_)
 ·intro z u hz;have a4:z∈names++ko:=by
   rcases aO.mp hz with hz| hz
   ·exact aP _ (List.of_mem_zip hz).1
   ·refine aL _ ?_;rw[<-aa];exact cC.mpr (cU _ hz rfl)
  have:=aR.mp ao z a4;simpa using this
 ·intro z i v hz hv;have ap:dZ c.w.params r s.heap F.dflts ds:=ak.mv ⟨λi p e=>by simp at e,λa o e B=>⟨R.base a o e,λhm=>by have:=R.fresh a hm;replace e:=this▸e;exact ns e⟩⟩;have aq:dZ c.w.params r s.heap ((as++F.dflts.drop (F.dflts.length - (F.params.length - as.length)))++ks.map (λB=>B.2)) ((us++ds.drop (ds.length - (names.length - us.length)))++Y.map (λB=>B.2)):=by
   refine(x.append ?_).append a3
   (refine al.symm▸?_;refine ab.symm▸?_;refine af.symm▸?_)
   exact ap.drop _
  have e1:names.zip (us++ds.drop (ds.length - (names.length - us.length)))++Y=(names++ko).zip ((us++ds.drop (ds.length - (names.length - us.length)))++Y.map (λB=>B.2)):=by
   (rw[List.zip_append (by rw[aF,oU];exact qR a1 a2)];refine aa▸?_;rw[zip_fst_snd])
  have e2:((F.params.zip (as++F.dflts.drop (F.dflts.length - (F.params.length - as.length)))).map λp=>(p.1,U p.2))++(ks.map λp=>(p.1,U p.2))=(((F.params++ks.map (λB=>B.1)).zip ((as++F.dflts.drop (F.dflts.length - (F.params.length - as.length)))++ks.map (λB=>B.2))).map λp=>(p.1,U p.2)):=by
   (rw[List.zip_append (by rw[aF,oU];exact qR h1 h2),zip_fst_snd];exact Eq.symm (dP)▸rfl)
  replace hv:=e2▸hv;refine e1.symm▸?_;have ar:(names++ko).map c.t.id=(F.params++ks.map (λB=>B.1)).map U:=by(refine Eq.symm (dP)▸?_;refine Eq.symm (dP)▸?_;refine ag.symm▸?_;exact ae.symm▸rfl)
  have ai:(names++ko).length=((us++ds.drop (ds.length - (names.length - us.length)))++Y.map (λB=>B.2)).length:=by
   (refine Eq.symm (aF)▸?_;refine Eq.symm (aF)▸?_;refine Eq.symm (aF)▸?_;refine Eq.symm (oU)▸?_;rw[aD];refine(qR a1 a2)▸?_;refine aa▸?_;rw[aD])
  refine cJ (uJ ar aq ai nd z i v hz hv) λu hu hr=>(cU u ?_ hr);rw[qA]
  ·exact hu
  ·refine Eq.symm (List.map_fst_zip (bJ ai))▸?_;exact nd
def gb(K:Frag)(f:Addr):List Stmt:=match (dU K f).body with
 |.stmts b=>b
 |_=>[]
structure jP(K:Frag)(t:Tx)(f:Addr)(F:Fn)(names ko:List Str):Prop where
 hl:K.lookup f=U (o9 K f)
 hd:(o9 K f).data= .func (dU K f)
 hb:(dU K f).body= .stmts (gb K f)
 hg:(dU K f).globals=mainGlobals
 hc:(dU K f).closure= []
 hbi:(dU K f).builtins=builtinsNs
 hcd:codeIn K (dU K f).code (dU K f).qualname=zG
 sc:((dU K f).scope.isCoroutine || (dU K f).scope.isGenerator || !((dU K f).scope.kind== .function) || !((dU K f).scope.names.all λx=>(dU K f).scope.names.lookup x.1==U x.2) || !((dU K f).scope.names.all λx=>x.2 != .free))=zH
 tb:gb K f=pT (pt t (dU K f).scope (gb K f))/\F.body=nU (pt t (dU K f).scope (gb K f))/\qj t (dU K f).scope (pt t (dU K f).scope (gb K f))=zG
 hnames:names.map t.id=F.params.map U
 hko:ko.map t.id=F.kwonly.map U
 hkw:F.kwarg=zF
 nd:(names++ko).Nodup
 hloc:(names++ko).all (λx=>(dU K f).scope.names.lookup x==U .local || (dU K f).scope.names.lookup x==U .cell)=zG
structure iA(K:Frag)(t:Tx)(f:Addr)(F:Fn)(names ko:List Str)(ds:List Value):Prop where
 l0:jP K t f F names ko
 hpk:∀us kus S,us.length<=names.length->names.length<=us.length+ds.length->kus.map (λω=>ω.1)=ko->peek K S (bindArgs (dU K f) ⟨us,kus⟩)=U (names.zip (us++ds.drop (ds.length - (names.length - us.length)))++kus)
def KN(K:Frag)(t:Tx)(f:Addr)(F:Fn)(names B:List Str):Bool:=
 (K.lookup f).isSome&&((match (o9 K f).data with
  |.func _=>zG
  |_=>zH)&&((match (dU K f).body with
  |.stmts _=>zG
  |_=>zH)&&(decide ((dU K f).globals=mainGlobals)&&((dU K f).closure.isEmpty&&(decide ((dU K f).builtins=builtinsNs)&&(codeIn K (dU K f).code (dU K f).qualname&&
 (!((dU K f).scope.isCoroutine || (dU K f).scope.isGenerator || !((dU K f).scope.kind== .function) || !((dU K f).scope.names.all λx=>(dU K f).scope.names.lookup x.1==U x.2) || !((dU K f).scope.names.all λx=>x.2 != .free))&&
 (decide (names.map t.id=F.params.map U)&&(decide (B.map t.id=F.kwonly.map U)&&(F.kwarg.isNone&&(decide (names++B).Nodup&&(names++B).all (λx=>(dU K f).scope.names.lookup x==U .local || (dU K f).scope.names.lookup x==U .cell))))))))))))
theorem HJ{o:Obj} (h:(match o.data with
  |.func _=>zG
  |_=>zH)=zG):o.data= .func (match o.data with
  |.func B=>B
  |_=>default):=by
 generalize o.data=d at h⊢;cases d with
 |func B=>rfl
 |_=>exact ft h
theorem HS{o:FuncData} (h:(match o.body with
  |.stmts _=>zG
  |_=>zH)=zG):o.body= .stmts (match o.body with
  |.stmts b=>b
  |_=>[]):=by
 generalize o.body=d at h⊢;cases d with
 |stmts B=>rfl
 |_=>exact ft h
theorem jP.of{K:Frag}(h:KN K t f F names ko=zG)(tb:gb K f=pT (pt t (dU K f).scope (gb K f))/\F.body=nU (pt t (dU K f).scope (gb K f))/\qj t (dU K f).scope (pt t (dU K f).scope (gb K f))=zG):jP K t f F names ko:=by
 refine an h λh1 h=>an h λh2 h=>an h λh3 h=>an h λh4 h=>an h λh5 h=>an h λh6 h=>an h λh7 h=>an h λh8 h=>an h λh9 h=>an h λB h=>an h λJ h=>an h λY aa=>⟨(cR.mp h1).elim λo e=>e.trans (congrArg U (show o=(K.lookup f).getD default from e▸rfl)),HJ h2,HS h3,of_decide_eq_true h4,oV.mp h5,of_decide_eq_true h6,h7,fW h8,tb,of_decide_eq_true h9,of_decide_eq_true B,Option.isNone_iff_eq_none.mp J,of_decide_eq_true Y,aa⟩
theorem iA.of{K:Frag}(h:KN K t f F names J=zG)(tb:gb K f=pT (pt t (dU K f).scope (gb K f))/\F.body=nU (pt t (dU K f).scope (gb K f))/\qj t (dU K f).scope (pt t (dU K f).scope (gb K f))=zG)
  (Y:∀us B S,us.length<=names.length->names.length<=us.length+ds.length->B.map (λaa=>aa.1)=J->peek K S (bindArgs (dU K f) ⟨us,B⟩)=U (names.zip (us++ds.drop (ds.length - (names.length - us.length)))++B)):iA K t f F names J ds:=⟨.of h tb,Y⟩
theorem jP.fn{c:Cx}(L:jP c.K c.t f F names ko):dU c.K f=fnOf (dU c.K f).name (dU c.K f).qualname (dU c.K f).params (gb c.K f) (dU c.K f).scope (dU c.K f).defaults (dU c.K f).kwdefaults (dU c.K f).doc (dU c.K f).pyModule (dU c.K f).annotations (dU c.K f).code (dU c.K f).closureTuple:=by
 have B:=L.hb;have J:=L.hg;have Y:=L.hc;have h4:=L.hbi;generalize gb c.K f=b at B⊢;generalize dU c.K f=fd at B J Y h4⊢;cases fd;dsimp only at B J Y h4;subst B J Y h4;rfl
theorem jP.at{c:Cx}(L:jP c.K c.t f F names B):c.K.lookup f=U ⟨(o9 c.K f).cls,(o9 c.K f).dict,.func (fnOf (dU c.K f).name (dU c.K f).qualname (dU c.K f).params (gb c.K f) (dU c.K f).scope (dU c.K f).defaults (dU c.K f).kwdefaults (dU c.K f).doc (dU c.K f).pyModule (dU c.K f).annotations (dU c.K f).code (dU c.K f).closureTuple),(o9 c.K f).slots⟩:=by
 rw[<-L.fn,<-L.hd];exact L.hl
theorem iA.fact{c:Cx}(L:iA c.K c.t f F names ko ds)(aa:dZ c.w.params ⟨[],[]⟩ c.h₀ F.dflts ds):iT c f F:=by
 have sc:=L.l0.sc;simp only[eT,Bool.not_eq_false'] at sc;refine f7 sc λB s5=>?_;clear sc;refine f7 B λJ s4=>?_;clear B;refine f7 J λY s3=>?_;clear J;refine f7 Y λs1 s2=>?_;clear Y;exact iT.of L.l0.at L.l0.hcd s1 s2 (by simpa using s3) s4 s5 ⟨_,L.l0.tb⟩ names ko L.l0.hnames L.l0.hko L.l0.hkw L.l0.nd ds aa L.l0.hloc λus ab S a1 a2 a3=>by rw[<-L.l0.fn];exact L.hpk us ab S a1 a2 a3
structure mC(K:Frag)(t:Tx)(f:Addr)(F:Fn)(n0 n1 n2 nk:Str):Prop where
 l0:jP K t f ⟨F.params++(F.kwarg.map λi=>[i]).getD [],[],[],zF,F.body⟩ [n0,n1,n2,nk] []
 df:F.dflts= []/\F.kwonly= []/\F.params.length=3/\F.kwarg.isSome=zG
 hbd:∀a b d,bindArgs (dU K f) ⟨[a,b,d],[]⟩=(alloc {cls:= .type "dict",data:= .dict #[]} >>=λx=>pure [(n0,a),(n1,b),(n2,d),(nk,.ref x)])
 hbd2:∀a b d v w,bindArgs (dU K f) ⟨[a,b,d],[(dE rX,v),(dE rW,w)]⟩=(alloc {cls:= .type "dict",data:= .dict #[]} >>=λx=>(forIn [(dE rX,v),(dE rW,w)] PUnit.unit λkv ω=>nsSet x kv.1 kv.2>>=λω=>pure (.yield PUnit.unit):Sem PUnit)>>=λω=>pure [(n0,a),(n1,b),(n2,d),(nk,.ref x)])
 lo:(Nat.blt sysModules f)=zG
theorem BN{us:List B}{n:Nat}(h:us.length=n+1):∃a r,us=a::r/\r.length=n:=by
 cases us with
 |nil=>exact absurd h (eX n).symm
 |cons a r=>exact(rO a r rfl (fP h))
theorem Ek{us:List J}(h:us.length=1):∃a,us= [a]:=by
 refine je (BN h) λa r q B=>?_;subst q;clear h;obtain rfl:=(fw.mp B);exact⟨a,rfl⟩
theorem zI{us:List J}(h:us.length=2):∃a b,us= [a,b]:=by
 refine je (BN h) λa r q B=>?_;subst q;refine dS (Ek B) λb q=>?_;clear B h;subst q;exact(Ho a b rfl)
theorem Ej{us:List J}(h:us.length=3):∃a b d,us= [a,b,d]:=by
 refine je (BN h) λa r q B=>?_;subst q;refine Er (zI B) λb d q=>?_;clear B h;subst q;exact(Jh a b d rfl)
theorem Ln{x:Option B}{y:B}{G:Prop}(e:(if b=zG then .none else x)=U y)(k: ¬(b=zG)->x=U y->G):G:=by
 by_cases h:b=zG
 ·rw[if_pos h] at e;exact ns e
 ·rw[if_neg h] at e;exact k h e
theorem Hd{Γ:G}{J Y p2:Nat}{body:List S}{i:Nat}{a b d:V}{B:List (Nat×V)}{M:aW}(e:hX Γ ⟨[J,Y,p2],[],[],U i,body⟩ [a,b,d] B=U M):B= []\/∃p q,B= [p,q]:=by
 cases B with
 |nil=>exact .inl rfl
 |cons p B=>cases B with
  |nil=>exact ns e
  |cons q B=>cases B with
   |nil=>exact .inr ⟨p,q,rfl⟩
   |cons _ _=>exact ns e
theorem Ae(B:F.kwarg=U i)(hd:F.dflts= [])(ho:F.kwonly= [])(Y:F.params.length=3)(e:hX Γ F as ks=U M):∃a b d J vs,as= [a,b,d]/\M=((F.params++ [i]).zip [a,b,d,.kws J vs]).map (λp=>(p.1,U p.2))/\
  ((ks= []/\J= []/\vs= [])\/∃j k v w,ks= [(j,v),(k,w)]/\Γ.ids[j]? =U rX/\Γ.ids[k]? =U rW/\J= [rX,rW]/\vs= [v,w]):=by
 obtain⟨ps,df,ko,kw,body⟩:=F;subst B;subst hd;subst ho;refine Ep (Ej Y) λp0 p1 p2 q=>?_;subst q;refine Ep (Ej ((by
   unfold hX at e;rw[Y] at e;refine Ln e λaa e=>Ln e λab ae=>gD ?_ ?_
   ·exact bK λq=>aa (dJ q)
   ·exact Nat.sub_eq_zero_iff_le.mp (Nat.le_zero.mp (bK λq=>ab (dJ q)))))) λa b d q=>?_
 subst q;refine(Hd e).elim (λq=>?_) λq=>Er q λp r q=>?_
 ·subst q;exact(JS a b d [] [] rfl ((aC e).symm) (.inl ⟨rfl,rfl,rfl⟩))
 ·subst q;exact jB (b:=I6 Γ.ids p.1 r.1) e λB e=>an B λh1 h2=>H3 h1 λx hx e1=>H3 h2 λy hy e2=>(JS a b d _ _ rfl e (.inr (KI p.1 r.1 p.2 r.2 rfl (dA.mp e1▸hx) (dA.mp e2▸hy) rfl rfl)))
theorem sh{c:Cx}(hd:s.heap.get? J=U (hD es n))(hr:(es.any (λB=>B.refKey))=zH)(hz:es.length<=900)
  (h:∀h' m,h'.get? J=U (hD (putL name (PyData.keyHash c.w.params name) (.str name s.toks) v es) m)->Heap.SameBut J s.heap h'->Q () {s with heap:=h',toks:=s.toks+1}):wpAny c.M A (nsSet J name v) Q E' s:=by
 have e:Obj.putName name (PyData.keyHash c.w.params name) (.str name s.toks) v (hD es n)=hD (putL name (PyData.keyHash c.w.params name) (.str name s.toks) v es) (putN name es n):=putName_dict ..;have aa:(s.heap.update J (Obj.putName name (PyData.keyHash c.w.params name) (.str name s.toks) v)).get? J=U (hD (putL name (PyData.keyHash c.w.params name) (.str name s.toks) v es) (putN name es n)):=by
  rw[cP _ hd (by rw[e];rfl),e]
 unfold nsSet;refine aB (aB (wpAny_askSetting (aG (aB (wpAny_mkText (aB (wpAny_loadPart hd ?_)))))));have Y:(!es.toArray.any (λB=>B.key.isStr name)&&es.toArray.any (λB=>B.refKey))=zH:=by
  rw[<-o0,<-o0];have:(es.any (λB=>B.refKey))=zH:=hr;rw[this,Bool.and_false]
 dsimp only[hD];rw[aRefKeyMayBeTheName_at,Y];refine wpAny_updatePart hd ?_;exact h _ _ aa (eK ..)
theorem Dw{a b:Txt}(h:cW a b=zH):(dE a==dE b)=zH:=beq_eq_false_iff_ne.mpr λq=>by
 rw[nE.mp q,dA.mpr rfl] at h;exact Bool.noConfusion h
theorem fresh{c:Cx}(R:c.R r N h): ¬r.mut h.objs.size:=λB=>(R.mutLive B).elim λo J=>ns ((ja h).symm.trans J)
theorem Bt{c:Cx}(L:mC c.K c.t f F B J Y nk)(R:c.R r N h):(h.objs.size==sysModules)=zH:=beq_eq_false_iff_ne.mpr λq=>
 absurd (cO (aY L.lo:sysModules < f) (dD (R.base _ _ (c.X _ _ L.l0.hl)))) (q▸cD _)
theorem rj.two{c:Cx}{r:Rh}{h:Heap}{j k:Nat}{v w:V}{aa:List (Str×Value)}(y:rj c r h [(j,v),(k,w)] aa):∃B J Y u2,aa= [(B,Y),(J,u2)]/\c.t.ids[j]? =U B/\c.t.ids[k]? =U J/\c.V r h v Y/\c.V r h w u2:=by
 exact Ar y.inv λB Y l q i1 v1 y=>Ar y.inv λJ u2 l' q' i2 v2 y=>⟨B,J,Y,u2,by rw[q,q',y.inv],i1,i2,v1,v2⟩
theorem dZ.three{P:Params}{r:Rh}{h:Heap}{a b d:V}{us:List Value}(x:dZ P r h [a,b,d] us):∃u v w,us= [u,v,w]/\VR P r h a u/\VR P r h b v/\VR P r h d w:=
 ga x.inv λu l e J x=>ga x.inv λv l' Y xb x=>ga x.inv λw aa B xd x=>⟨u,v,w,by rw[e,Y,B,x.inv],J,xb,xd⟩
theorem mC.fin(L:mC c.K c.t f F B J Y nk)(hk:F.kwarg=U ik)(xa:VR c.w.params r s.heap a ua)(xb:VR c.w.params r s.heap b ub)(xd:VR c.w.params r s.heap d ud)
  (go:BO c (dU c.K f).scope (((F.params++ [ik]).zip [a,b,d,.kws ts vs]).map (λp=>(p.1,U p.2))) r s Q) (h':Heap) (tk:Nat) (k0:∀b o,s.heap.get? b=U o->h'.get? b=U o) (xe:c.V r h' (.kws ts vs) (.ref s.heap.objs.size)):Q [(B,ua),(J,ub),(Y,ud),(nk,.ref s.heap.objs.size)] {s with heap:=h',toks:=tk}:=by
 have hn: [B,J,Y,nk].map c.t.id=(F.params++ [ik]).map U:=by
  have:=L.l0.hnames;rw[hk] at this;exact this
 have nd: [B,J,Y,nk].Nodup:=cF [B,J,Y,nk]▸L.l0.nd;have S:=dH.grow (r:=r) k0;have all:dZ c.w.params r h' [a,b,d,.kws ts vs] [ua,ub,ud,.ref s.heap.objs.size]:= .cons (xa.step S) (.cons (xb.step S) (.cons (xd.step S) (.cons xe .nil)));refine go _ _ tk k0 (λz u hz=>?_) λz i v hz hv=>?_
 ·have aa:z∈ [B,J,Y,nk]++ []:=aP _ (cC.mpr (cU (z,u) hz rfl):z∈ [(B,ua),(J,ub),(Y,ud),(nk,Value.ref s.heap.objs.size)].map (λab=>ab.1));simpa using aR.mp L.l0.hloc z aa
 ·exact cJ (uJ hn all rfl nd z i v hz hv) λu hu hr=>(cU u ((qA (l:= [(B,ua),(J,ub),(Y,ud),(nk,Value.ref s.heap.objs.size)]) nd z).trans hu) hr)
theorem mC.fact(aa:c.Γ.ids=c.t.ids.map λx=>x.cps.toList)(L:mC c.K c.t f F n0 n1 n2 nk):iT c f F:=by
 have sc:=L.l0.sc;simp only[eT,Bool.not_eq_false'] at sc;refine f7 sc λq4 s5=>f7 q4 λq5 s4=>f7 q5 λq6 s3=>f7 q6 λs1 s2=>.mk L.l0.at L.l0.hcd s1 s2 (by simpa using s3) s4 s5 ⟨_,L.l0.tb⟩ (L.l0.fn▸?_);clear sc q4 q5 q6 s1 s2 s3 s4 s5;intro as ks M B;refine Ie L.df λhd ho hp J=>dS (cR.mp J) λik J=>JO (Ae J hd ho hp B) λa b d ts vs q7 q8 Y=>?_;clear B;subst q7;subst q8;refine Y.elim (λh=>pc h λq9 af ag=>?_) λh=>Ky h λj k v w ah hj ab ai aj=>?_
 ·clear Y h;subst q9;subst af;subst ag;intro A r N s us ae Q E' R x y go;refine Ar x.three λua ub ud q xa xb xd=>q▸(y.inv:ae= [])▸(L.hbd ua ub ud).symm▸aB (wpAny_alloc (aG (L.fin J xa xb xd go _ s.toks (λb o e=>aS _ e) (.kws [] [] [] _ ⟨0,⟨(cU [] (bE _ rfl) rfl),rfl,.nil⟩,fresh R,Bt L R⟩ .nil))))
 ·clear Y h;subst ah;subst ai;subst aj;intro A r N s us ae Q E' R x y go;refine Ar x.three λua ub ud q xa xb xd=>Ky y.two λx1 x2 uv uw q' i1 i2 v1 v2=>?_;have e1:x1=dE rX:=by
   rw[aa,bD,i1] at hj;exact(congrArg dE (aC hj):)
  have e2:x2=dE rW:=by
   rw[aa,bD,i2] at ab;exact(congrArg dE (aC ab):)
  rw[e1,e2] at q';refine q'▸q▸(L.hbd2 ua ub ud uv uw).symm▸aB (wpAny_alloc (aB ?_));have n0:=ja s.heap;have g0:(s.heap.push {cls:= .type "dict",data:= .dict #[]}).get? s.heap.objs.size=U (hD [] 0):=bE _ rfl;rw[fH];refine aB (aB (sh (s:= {s with heap:=s.heap.push {cls:= .type "dict",data:= .dict #[]}}) g0 rfl (cK _) λh1 m1 g1 s1=>aG ?_));dsimp only;rw[fH];refine aB (aB (sh g1 rfl (by show 1<=900;decide) λh2 m2 g2 s2=>aG (aG (aG ?_))));have k1:∀b o,s.heap.get? b=U o->h2.get? b=U o:=λb o e=>
   have B:b≠s.heap.objs.size:=λq=>ns (n0.symm.trans (q▸e))
   (s2.2 b B).trans ((s1.2 b B).trans (aS _ e))
  refine L.fin J xa xb xd go h2 _ k1 (.kws [rX,rW] [v,w] [uv,uw] _ ⟨m2,⟨(cU [s.toks,s.toks+1] ?_ rfl),rfl,?_⟩,fresh R,Bt L R⟩ (.cons (v1.step (dH.grow k1)) (.cons (v2.step (dH.grow k1)) .nil)))
  ·rw[g2];have hs:(Value.str (dE rX) s.toks).isStr (dE rW)=zH:=Dw rfl;show U (hD (putL (dE rW) _ _ uw [⟨_,.str (dE rX) s.toks,uv⟩]) m2)=_;rw[mo,hs];rfl
  ·decide
noncomputable def Ci(K:Frag)(zD:Addr)(t:Tx)(i:Nat):Bool:=(t.ids[i]?).any λx=>(findIn K (.ref zD) x).any (noGet K)&&(takerIn K zD x).any Option.isNone
noncomputable def yk(K:Frag)(zD:Addr)(t:Tx)(p:Nat×Addr):Bool:=(t.ids[p.1]?).any λx=>decide (findIn K (.ref zD) x=U (U (.ref p.2)))&&(decide (typeIn K (.ref p.2)=U (.type "function"))&&keepIn K (.ref p.2))
theorem hT[BEq B][LawfulBEq B]{l:List (B×aa)}{i f}(e:l.lookup i=U f):(i,f)∈l:=by
 refine je (List.lookup_eq_some_iff.mp e) λY l₂ J ab=>?_;clear e;subst J;exact aL _ (.head _)
theorem qC[BEq B][LawfulBEq B]{p:B×J->Bool}{l:List (B×J)}(h:l.all p=zG){i f}(e:l.lookup i=U f):p (i,f)=zG:=aR.mp h _ (hT e)
theorem kX.of{c:Cx}(pg:plainGet c.K zD ""=zG)(hd:hasDictIn c.K zD=zG)(po:plainOver c.K zD=zG)(sa:findIn c.K (.ref zD) "__setattr__"=U (U (.builtin "object.__setattr__")))(mks:makesIn c.K zD=zG)
  (ini:findIn c.K (.ref zD) "__init__"=U (U (.ref k.init))) (Y:typeIn c.K (.ref k.init)=U (.type "function")) (kp:keepIn c.K (.ref zD)=zG) (fl:k.flds.all (Ci c.K zD c.t)=zG) (me:k.meths.all (yk c.K zD c.t)=zG) (nq:noSeq c.K zD=zG):kX c zD k where
 pg:=pg
 hd:=hd
 po:=po
 sa:=sa
 mks:=mks
 ini:=⟨ini,Y⟩
 kp:=kp
 nq:=nq
 fl:=λi B=>by
  refine H3 (aR.mp fl i (List.contains_iff_mem.mp B)) λx J h=>(g8 x J (CR (a1 h)) ?_);refine H3 (a2 h) λy hy h3=>?_;cases y with
  |none=>exact hy
  |some _=>exact ft h3
 me:=λi f B=>by
  exact H3 (qC me B) λx J h=>(Ig x J (of_decide_eq_true (a1 h)) (of_decide_eq_true (a1 (a2 h))) (a2 (a2 h)))
def wm:V->Value->Bool
 |.cst c,u=>decide (c=u)
 |.int i,.int j _=>decide (i=j)
 |.str s,.str x _=>decide (dE s=x)
 |.none,.none=>zG
 |.bool a,.bool b=>a==b
 |_,_=>zH
theorem kF{P:Params}{r:Rh}{h:Heap}{v:V}{u:Value}(e:wm v u=zG):VR P r h v u:=by
 cases v with
 |cst c=>obtain rfl:=of_decide_eq_true (show decide (c=u)=zG from e);exact .cst _
 |int i=>cases u with
  |int j t=>obtain rfl:=of_decide_eq_true (show decide (i=j)=zG from e);exact .int _ _
  |_=>exact ft e
 |str s=>cases u with
  |str x t=>obtain rfl:=of_decide_eq_true (show decide (dE s=x)=zG from e);exact .str _ _
  |_=>exact ft e
 |none=>cases u with
  |none=>exact .none
  |_=>exact ft e
 |bool a=>cases u with
  |bool b=>obtain rfl:=eq_of_beq (show(a==b)=zG from e);exact .bool _
  |_=>exact ft e
 |_=>exact ft e
def yB(K:Frag)(p:Str×V):Bool:=match nsIn K mainGlobals p.1 with
 |some o=>match o with
  |some u=>wm p.2 u
  |.none=>(bootBuiltins p.1).any λu=>wm p.2 u&&decide (p.1≠("__name__":Str))
 |none=>zH
theorem Hr{f g:Value->Bool} (h:(match o with
  |some o=>match o with
   |some u=>f u
   |.none=>q.any g
  |none=>zH)=zG):(∃u,o=U (U u)/\f u=zG)\/(o=U .none/\∃u,q=U u/\g u=zG):=by
 cases o with
 |none=>exact ft h
 |some o=>cases o with
  |none=>exact .inr ⟨rfl,CR h⟩
  |some u=>exact .inl (cU u rfl h)
theorem GlobOk.of{c:Cx}{l:List (Str×V)}(Y:∀x,c.t.glob x=l.lookup x)(h:l.all (yB c.K)=zG):c.GlobOk:=λx v e=>by
 rcases Hr (qC h ((Y x).symm.trans e)) with⟨u,J,B⟩| ⟨J,u,hb,B⟩
 ·exact(cU u (kF B) (.inl J))
 ·exact(cU u (kF (a1 B)) (.inr ⟨J,hb,of_decide_eq_true (a2 B)⟩))
def Fv(P:Params)(l:List (Txt×Int×Tok×Tok)):List DictEntry:=l.map λp=>{hash:=PyData.keyHash P (dE p.1),key:= .str (dE p.1) p.2.2.1,val:= .int p.2.1 p.2.2.2}
theorem Gi{P:Params}{r:Rh}{h:Heap}:∀l:List (Txt×Int×Tok×Tok),iz P r h (AO l) (Fv P l):=by
 intro l;induction l with
 |nil=>exact .nil
 |cons p l B=>exact .cons ⟨p.2.2.1,rfl,rfl,.int _ _⟩ (B)
theorem pn.of{c:Cx}{code:Array Nat}(Y:c.K.lookup a=U {cls:= .type "re.Pattern",dict:=zF,data:= .fields #[p,f,g,x,y,.ref B,J],slots:=sl})(h2:c.K.lookup B=U {cls:=cls,dict:=zF,data:= .seq items n,slots:=ab})
  (hg:Builtin.Re.reRawNat g=0) (hk:Builtin.Re.reRawNat J=0) (hi:((items.map Builtin.Re.reRawOf).map (λaa=>aa.toNat))=code) (ok:nl code):pn c.h₀ a:=
 ⟨p,f,g,x,y,B,_,J,sl,hg,hk,c.X _ _ Y,_,items,n,c.X _ _ h2,rfl,rfl,hi▸ok⟩
theorem Ks{us:List J}(h:us.length=4):∃a b d e,us= [a,b,d,e]:=by
 refine je (BN h) λa r q B=>?_;subst q;refine Ep (Ej B) λb d e q=>?_;clear B h;subst q;exact((⟨a,b,d,e,rfl⟩))
theorem LN{us:List Y}(h:us.length=5):∃a b d e f,us= [a,b,d,e,f]:=by
 refine je (BN h) λa r q B=>?_;subst q;refine LS (Ks B) λb d e f J=>?_;clear B h;subst J;exact((⟨a,b,d,e,f,rfl⟩))
theorem Hg{B:List (Str×Value)}(h:B.map (λJ=>J.1)= []):B= []:=lB.mp h
theorem Kw{B:List (Str×Value)}(h:B.map (λJ=>J.1)= [x]):∃v,B= [(x,v)]:=by
 refine dS (Ek (us:=B) ((aD ..).symm.trans (congrArg List.length h))) λp q=>?_;subst q;cases p with
 |mk y v=>obtain rfl:=oW h;exact⟨v,rfl⟩
noncomputable def ig{B J:Type}(f:B->J)(L:List B):List J:=L.foldr (λx r=>f x::r) []
theorem Do{B Y:Type}(f:B->Y):∀L:List B,ig f L=L.map f:=by
 intro L;induction L with
 |nil=>exact rfl
 |cons x r J=>exact congrArg (λaa=>f x::aa) (J)
theorem hN{f g:B->J}{L:List B}(h:ig f L=L.map g):∀x∈L,f x=g x:=List.map_inj_left.mp ((Do f L).symm.trans h)
def Lj(K:Frag)(t:Tx)(e:Addr×Fn×List Str):List Stmt×List S×Bool×(Setting->(Nat->Value)->Option (List (Str×Value))):=
 (gb K e.1,e.2.1.body,KN K t e.1 e.2.1 e.2.2 []&&(qj t (dU K e.1).scope (pt t (dU K e.1).scope (gb K e.1))&&e.2.1.dflts.isEmpty),λS as=>peek K S (bindArgs (dU K e.1) ⟨(List.range e.2.2.length).map as,[]⟩))
def Li(K:Frag)(t:Tx)(e:Addr×Fn×List Str):List Stmt×List S×Bool×(Setting->(Nat->Value)->Option (List (Str×Value))):=
 (pT (pt t (dU K e.1).scope (gb K e.1)),nU (pt t (dU K e.1).scope (gb K e.1)),zG,λB as=>U (e.2.2.zip ((List.range e.2.2.length).map as)))
theorem A6(us:List Value):((List.range us.length).map λi=>us.getD i .none)=us:=List.ext_getElem (by rw[aD,aQ]) λi Y B=>by
 rw[List.getElem_map,List.getElem_range];exact congrArg (λJ=>Option.getD J _) (aM B)
theorem iA.factT(h:ig (Lj c.K c.t) L=L.map (Li c.K c.t))(J:e∈L):iT c e.1 e.2.1:=by
 have H:=hN h e J;refine an (congrArg (λz=>z.2.2.1) H) λY h5=>an h5 λb2 b3=>iA.fact (names:=e.2.2) (ds:= []) (.of Y ⟨congrArg (λz=>z.1) H,congrArg (λz=>z.2.1) H,b2⟩ λus aa S a1 a2 a3=>?_) (Eq.symm (oV.mp b3)▸.nil);have B:peek c.K S (bindArgs (dU c.K e.1) ⟨(List.range e.2.2.length).map λi=>us.getD i .none,[]⟩)=U (e.2.2.zip ((List.range e.2.2.length).map λi=>us.getD i .none)):=congrFun (congrFun (congrArg (λz=>z.2.2.2) H) S) _;rw[show e.2.2.length=us.length from gD a2 a1,A6] at B;obtain rfl:=Hg a3;rw[uG,cF,cF];exact B
mutual
noncomputable def V.ren(ρ:Nat->Option Nat):V->Option V
 |.ref i=>(ρ i).map .ref
 |.tup vs=>(jW ρ vs).map .tup
 |.flist vs=>(jW ρ vs).map .flist
 |.none=>U .none
 |.bool b=>U (.bool b)
 |.int i=>U (.int i)
 |.str s=>U (.str s)
 |.cst c=>U (.cst c)
 |.rng a b=>U (.rng a b)
 |.kws B vs=>(jW ρ vs).map (.kws B)
noncomputable def jW(ρ:Nat->Option Nat):List V->Option (List V)
 |[]=>U []
 |v::r=>(V.ren ρ v).bind λB=>(jW ρ r).map (λJ=>B::J)
end
noncomputable def vc(ρ:Nat->Option Nat):List (Nat×V)->Option (List (Nat×V))
 |[]=>U []
 |p::r=>(V.ren ρ p.2).bind λB=>(vc ρ r).map ((p.1,B):: ·)
def O.ren(ρ:Nat->Option Nat):O->Option O
 |.list vs=>(jW ρ vs).map .list
 |.inst zD fs=>(vc ρ fs).map (.inst zD)
section
variable{P:Params}{r₀ r:Rh}{h:Heap}{ρ:Nat->Option Nat}
theorem wE(e:jW ρ (v::l)=U vs):∃B J,V.ren ρ v=U B/\jW ρ l=U J/\vs=B::J:=by
 exact bi e λB Y e2=>mi e2 λJ h2 q=>(iS B J Y h2 q.symm)
theorem A7(e:vc ρ (p::l)=U vs):∃B J,V.ren ρ p.2=U B/\vc ρ l=U J/\vs=(p.1,B)::J:=by
 exact bi e λB Y e2=>mi e2 λJ h2 q=>(iS B J Y h2 q.symm)
theorem F2.to(x:F2 P r₀ h B us a)(J: ¬r₀.mut a->¬r.mut a):F2 P r h B us a:=by
 refine fZ x λn k m z=>?_;clear x;exact⟨n,k,J m,z⟩
theorem dZ.out_of(H:∀ {v₀:V} {u:Value},VR P r₀ h v₀ u->∀v,V.ren ρ v₀=U v->VR P r h v u)(x:dZ P r₀ h B us):∀vs,jW ρ B=U vs->dZ P r h vs us:=
 x.ind (zB:=λB us=>∀vs,jW ρ B=U vs->dZ P r h vs us) (λvs e=>aC e▸.nil) λa aa J vs e=>by
  refine ga (wE e) λY l' h1 h2 q=>?_;clear e;subst q;exact .cons (H a Y h1) (J l' h2)
theorem VR.out(ab:∀i j p,ρ i=U j->r₀.ob[i]? =U p->r.ob[j]? =U p)(hm:∀a,¬r₀.mut a->¬r.mut a)(x:VR P r₀ h v₀ u)(e:V.ren ρ v₀=U v):VR P r h v u:=
 VR.rec (motive_2:=λaa us B=>∀vs,jW ρ aa=U vs->dZ P r h vs us)
  (λB e=>aC e▸.none) (λb B e=>aC e▸.bool b) (λi t B e=>aC e▸.int i t) (λs t B e=>aC e▸.str s t)
  (λi p hp B e=>(f5.mp e).elim λj q=>q.2▸.ref j p (ab i j p q.1 hp)) (λc B e=>aC e▸.cst c)
  (λB items n a J h2 B h4 ih B e=>(f5.mp e).elim λY q=>q.2▸.tup Y items n a J (hm a h2) (ih Y q.1) h4)
  (λB items a J h2 B h4 ih B e=>(f5.mp e).elim λY q=>q.2▸.flist Y items a J (hm a h2) (ih Y q.1) h4)
  (λa b t u' v' x J h2 B e=>aC e▸.rng a b t u' v' x J (hm x h2)) (λks B us a J B ih B e=>(f5.mp e).elim λY q=>q.2▸.kws ks Y us a (J.to (hm a)) (ih Y q.1)) (λB e=>aC e▸.nil)
  (λB B ia ib B e=>ga (wE e) λv' l' J h2 q=>q▸.cons (ia v' J) (ib l' h2)) x v e
theorem dZ.out(J:∀i j p,ρ i=U j->r₀.ob[i]? =U p->r.ob[j]? =U p)(Y:∀a,¬r₀.mut a->¬r.mut a)(x:dZ P r₀ h B us)(e:jW ρ B=U vs):dZ P r h vs us:=x.out_of (λa aa q=>a.out J Y q) vs e
mutual
theorem VR.into(aa:∀i j p,ρ i=U j->r.ob[j]? =U p->r₀.ob[i]? =U p)(B:∀a,¬r.mut a->¬r₀.mut a):∀(v₀:V) {v:V} {u:Value},V.ren ρ v₀=U v->VR P r h v u->VR P r₀ h v₀ u
 |.none=>λe x=>by obtain rfl:=aC e;obtain rfl:=x.inv;exact .none
 |.bool b=>λe x=>by obtain rfl:=aC e;obtain rfl:=x.inv;exact .bool b
 |.int i=>λe x=>by obtain rfl:=aC e;exact dS x.inv λt q=>q▸.int i t
 |.str s=>λe x=>by obtain rfl:=aC e;exact dS x.inv λt q=>q▸.str s t
 |.cst c=>λe x=>by obtain rfl:=aC e;cases x.inv;exact .cst _
 |.ref i=>λe x=>by
  refine mi e λj hj q4=>?_;clear e;subst q4;exact cJ x.inv λp q hp=>q▸.ref i p (aa i j p hj hp)
 |.tup vs=>λe x=>by
  refine mi e λws hw q5=>?_;clear e;subst q5;exact Aq x.inv λitems n a q J Y h3 h4=>q▸.tup vs items n a J (B a Y) (dZ.into aa B vs hw h3) h4
 |.flist vs=>λe x=>by
  refine mi e λws hw q6=>?_;clear e;subst q6;exact KA x.inv λitems a q J Y h3 h4=>q▸.flist vs items a J (B a Y) (dZ.into aa B vs hw h3) h4
 |.rng a b=>λe x=>by
  obtain rfl:=aC e;exact I7 x.inv λt u' v' y q J Y=>q▸.rng a b t u' v' y J (B y Y)
 |.kws ks vs=>λe x=>by
  refine mi e λws hw q5=>?_;clear e;subst q5;exact ga x.inv λus a q J Y=>q▸.kws ks vs us a (J.to (B a)) (dZ.into aa B vs hw Y)
theorem dZ.into(J:∀i j p,ρ i=U j->r.ob[j]? =U p->r₀.ob[i]? =U p)(Y:∀a,¬r.mut a->¬r₀.mut a):∀(B:List V) {vs:List V} {us:List Value},jW ρ B=U vs->dZ P r h vs us->dZ P r₀ h B us
 |[]=>λe x=>by obtain rfl:=aC e;obtain rfl:=x.inv;exact .nil
 |v::r=>λe x=>by
  refine ga (wE e) λv' l' h1 h2 q=>?_;clear e;subst q;exact ga x.inv λu aa q a b=>q▸.cons (VR.into J Y v h1 a) (dZ.into J Y r h2 b)
end
theorem mn(e:vc ρ fs=U B):(∀v,look x fs=U v->∃J,V.ren ρ v=U J/\look x B=U J)/\(look x fs= .none->look x B= .none):=by
 induction fs generalizing B with
 |nil=>obtain rfl:=aC e;exact⟨λv q=>ns q,λaa=>rfl⟩
 |cons p fs Y=>
  refine ga (A7 e) λw' r' hw hr q=>?_;subst q;cases p with
  |mk y w=>
   rw[jd,jd];by_cases h:(y==x)=zG
   ·rw[if_pos h,if_pos h];exact⟨λv q=>(cU w' (aC q▸hw) rfl),λq=>sn q⟩
   ·rw[if_neg h,if_neg h];exact Y hr
theorem o6(e:vc ρ fs=U B):B.length=fs.length:=by
 induction fs generalizing B with
 |nil=>obtain rfl:=aC e;rfl
 |cons p fs J=>
  refine ga (A7 e) λw' r' hw Y q=>?_;clear e;subst q;exact congrArg Nat.succ (J Y)
theorem OR.out(aa:∀i j p,ρ i=U j->r₀.ob[i]? =U p->r.ob[j]? =U p)(hm:∀a,¬r₀.mut a->¬r.mut a)(x:OR P ids r₀ h ab p)(e:O.ren ρ ab=U o):OR P ids r h o p:=by
 cases x with
 |list vs items n a Y J h3=>
  refine mi (show(jW ρ vs).map O.list=U o from e) λws hw q7=>?_;clear e;subst q7;exact .list ws items n a Y (J.out aa hm hw) h3
 |inst zD fs a d es n ne e1 e2 le nr hv hn=>
  refine mi (show(vc ρ fs).map (O.inst zD)=U o from e) λae hf q8=>?_;clear e;subst q8;refine .inst zD ae a d es n ne e1 e2 (by rw[o6 hf];exact le) nr (λi x v hi B=>?_) λi x hi B=>?_
  ·have L:=mn (x:=i) hf;cases q:look i fs with
   |none=>rw[L.2 q] at B;exact ns B
   |some w=>
    refine cJ (L.1 w q) λv' Y J=>?_;rw[J] at B;(refine si B λaf=>?_;subst af;clear B);exact cJ (hv i x w hi q) λu hu hr=>(cU u hu (hr.out aa hm Y))
  ·have L:=mn (x:=i) hf;cases q:look i fs with
   |none=>exact hn i x hi q
   |some w=>
    refine cJ (L.1 w q) λv' Y J=>?_;rw[J] at B;exact sn B
theorem OR.into(ab:∀i j p,ρ i=U j->r.ob[j]? =U p->r₀.ob[i]? =U p)(hm:∀a,¬r.mut a->¬r₀.mut a)(e:O.ren ρ aa=U o)(x:OR P ids r h o p):OR P ids r₀ h aa p:=by
 cases aa with
 |list vs=>
  refine mi (show(jW ρ vs).map O.list=U o from e) λws hw q9=>?_;clear e;subst q9;cases x with
  |list ws items n a B J h3=>exact .list vs items n a B (dZ.into ab hm vs hw J) h3
 |inst zD fs=>
  refine mi (show(vc ρ fs).map (O.inst zD)=U o from e) λae Y af=>?_;clear e;subst af;cases x with
  |inst zD ae a d es n ne e1 e2 le nr hv hn=>
   refine .inst zD fs a d es n ne e1 e2 (by rw[<-o6 Y];exact le) nr (λi x v hi hl=>?_) λi x hi hl=>?_
   ·exact cJ ((mn Y).1 v hl) λv' B J=>cJ (hv i x v' hi J) λu hu hr=>(cU u hu (VR.into ab hm v B hr))
   ·exact hn i x hi ((mn Y).2 hl)
end
noncomputable def se(i:Nat):List Nat->Option Nat
 |[]=>zF
 |x::r=>if x==i then U 0 else (se i r).map (λB=>B+1)
theorem zj:∀ {B:List Nat} {m:Nat},se i B=U m->B[m]? =U i:=by
 intro B;induction B with
 |nil=>exact λe=>ns e
 |cons x r J=>
  intro m e;replace e:(if x==i then U 0 else (se i r).map (λY=>Y+1))=U m:=e;by_cases h:(x==i)=zG
  ·rw[if_pos h] at e;obtain rfl:=aC e;exact congrArg U (eq_of_beq h)
  ·rw[if_neg h] at e;refine mi e λm' h q1=>?_;clear e;subst q1;rw[List.getElem?_cons_succ];exact J h
def kL(B J:List Nat)(n₀ n:Nat)(i:Nat):Option Nat:=if i < n₀ then B[i]? else (se i J).map (λY=>n+Y)
structure nh(N σ' σ₀ σ₀':H)(ι κ:List Nat):Prop where
 nd:ι.Nodup
 lt:∀j∈ι,j < N.length
 len:ι.length=σ₀.length
 pre:∀(k:Nat) o₀,σ₀[k]? =U o₀->∃(j:Nat) (o:O),ι[k]? =U j/\O.ren (λi=>ι[i]?) o₀=U o/\N[j]? =U o
 ndk:κ.Nodup
 gek:∀i∈κ,σ₀.length<=i
 len':σ'.length=N.length+κ.length
 post:∀(k j:Nat) o₀,ι[k]? =U j->σ₀'[k]? =U o₀->∃o,O.ren (kL ι κ σ₀.length N.length) o₀=U o/\σ'[j]? =U o
 rest:∀(j:Nat),j < N.length->j ∉ ι->σ'[j]? =N[j]?
 new:∀(m i:Nat),κ[m]? =U i->∃o₀ o,σ₀'[i]? =U o₀/\O.ren (kL ι κ σ₀.length N.length) o₀=U o/\σ'[N.length+m]? =U o
noncomputable def jJ(r:Rh)(B:List Nat):List (Addr×Addr):=B.map λj=>r.ob.getD j (0,0)
noncomputable def ty(r:Rh)(B:List Nat):List Addr:=r.pv++(List.range r.ob.length).flatMap λj=>if j∈B then [] else [(r.ob.getD j (0,0)).1,(r.ob.getD j (0,0)).2]
def ip(r:Rh)(B:List Nat):Rh:=⟨jJ r B,ty r B⟩
section
variable{r:Rh}{B:List Nat}
theorem lU(h:j < r.ob.length):r.ob[j]? =U (r.ob.getD j (0,0)):=by
 rw[aI,aM h];rfl
theorem p5(Y:∀j∈B,j < r.ob.length){k:Nat}(e:(jJ r B)[k]? =U p):∃j,B[k]? =U j/\r.ob[j]? =U p:=by
 unfold jJ at e;rw[bD] at e;refine mi e λj J q2=>?_;clear e;subst q2;exact(cU j J (lU (Y j (bF J))))
set_option tactic.hygienic true in
theorem p4(h:b∈ty r B):b∈r.pv\/∃(j:Nat) (p:Addr×Addr),j ∉ B/\r.ob[j]? =U p/\(b=p.1\/b=p.2):=by
 rcases aO.mp h with h| h
 ·exact .inl h
 ·refine cJ (eJ.mp h) λj Y h=>?_;split at h
  ·cases h
  ·rename_i hn
   have J:j < r.ob.length:=bN.mp Y;refine .inr (iS j _ hn (lU J) ?_);simpa using h
theorem j8(J:∀j∈B,j < r.ob.length){b:Addr}(h:(ip r B).own b):∃(j:Nat) (p:Addr×Addr),j∈B/\r.ob[j]? =U p/\(b=p.1\/b=p.2):=by
 refine cJ h λp Y hb=>?_;clear h;exact dS (fA Y) λk hk=>cJ (p5 J hk) λj hj e=>(iS j p (bF hj) e hb)
theorem iD(Y:∀j∈B,j < r.ob.length)(h:(ip r B).mut b):r.mut b:=by
 rcases h with h| h
 ·exact ga (j8 Y h) λj p aa e J=>.inl ⟨p,bF e,J⟩
 ·rcases p4 h with h| ⟨j,p,_,e,J⟩
  ·exact .inr h
  ·exact .inl ⟨p,bF e,J⟩
theorem zr(h:r.mut b):(ip r B).mut b:=by
 rcases h with⟨p,hp,hb⟩| h
 ·refine dS (fA hp) λj hj=>?_;have J:j < r.ob.length:=by have h:=aZ hj;exact h
  have hg:=lU J;rw[hj] at hg;have Y:p=r.ob.getD j (0,0):=aC hg;by_cases hi:j∈B
  ·refine .inl ⟨p,?_,hb⟩;skip;exact cC.mpr (cU j hi Y.symm)
  ·refine .inr (aL _ (eJ.mpr (cU j (bN.mpr J) ?_)));rw[if_neg hi,<-Y];rcases hb with rfl| rfl<;>simp
 ·exact .inr (aP _ h)
theorem lN(R:jj P ids aa r N h){i j:Nat}(e1:r.ob[i]? =U p)(e2:r.ob[j]? =U q)(ne:i≠j):p.1≠q.1/\p.1≠q.2/\p.2≠q.1/\p.2≠q.2:=by
 have A:=List.pairwise_iff_getElem.mp R.apart;refine dS (cV.mp e1) λJ Y=>dS (cV.mp e2) λlj ej=>?_;rcases Nat.lt_or_gt_of_ne ne with lt| lt
 ·have:=A i j J lj lt;rw[Y,ej] at this;exact this
 ·have:=A j i lj J lt;rw[Y,ej] at this;exact⟨Ne.symm this.1,Ne.symm this.2.2.1,Ne.symm this.2.1,Ne.symm this.2.2.2⟩
theorem za{ab h:Heap}(R:jj P ids ab r N h)(F:nh N aj σ₀ ai B ak):jj P ids ab (ip r B) σ₀ h:=by
 have Y:∀j∈B,j < r.ob.length:=λj hj=>by rw[R.len];exact F.lt j hj
 have af:∀(i j:Nat) (p:Addr×Addr),B[i]? =U j->r.ob[j]? =U p->(ip r B).ob[i]? =U p:=λi j p e1 e2=>by
  show(B.map _)[i]? =_;rw[bD,e1];refine dS (cV.mp e2) λhl e=>?_;simp[hl,e]
 have hm:∀a,¬r.mut a->¬(ip r B).mut a:=λa h q=>h (iD Y q);refine⟨R.base,?_,λi o p e1 e2=>?_,λb J=>R.fresh b (iD Y J),?_,λb J ae=>?_,λb J=>?_⟩
 ·show(B.map _).length=_;rw[aD,F.len]
 ·refine ga (F.pre i o e1) λj o' hj ho hs=>cJ (p5 Y e2) λj' aa hp=>?_;rw[hj] at aa;(refine si aa λq7=>?_;subst q7;clear aa);exact OR.into af hm ho (R.obj j o' p hs hp)
 ·show(B.map _).Pairwise _;rw[xP];refine oe ?_ F.nd;intro a b ha J ag;exact lN R (lU (Y a ha)) (lU (Y b J)) ag
 ·refine ga (j8 Y ae) λj p hj e hp=>?_;rcases p4 J with h| ⟨j',p',hn,e',ah⟩
  ·exact R.pvo b h ⟨p,bF e,hp⟩
  ·have ne:j≠j':=λq=>hn (q▸hj);have A:=lN R e e' ne;clear J ae;rcases hp with rfl| rfl<;>rcases ah with q| q
   ·exact A.1 q
   ·exact A.2.1 q
   ·exact A.2.2.1 q
   ·exact A.2.2.2 q
 ·rcases p4 J with h| ⟨j,p,_,e,hp⟩
  ·exact R.pvl b h
  ·exact R.ownLive ⟨p,bF e,hp⟩
end
theorem gp.small(R:c.R r N s.heap)(F:nh N a4 σ₀ ax ab ak)(hv:V.ren (kL ab ak σ₀.length N.length) v₀=U v)(O:gp c r s a4 v Q):gp c (ip r ab) s ax v₀ Q:=by
 intro u aa h' tk ag ae x;have am:∀j∈ab,j < r.ob.length:=λj hj=>by rw[R.len];exact F.lt j hj
 obtain⟨aw,ar,ao⟩:=ae.ext;have a5:aa.pv=ty r ab:=ae.pv;have ap:(jJ r ab).length=σ₀.length:=by unfold jJ;rw[aD,F.len]
 have aq:∀i∈ak,∃p,aa.ob[i]? =U p/\p∈aw:=λi hi=>by
  refine dS (fA hi) λm hm=>ga (F.new m i hm) λaz o Y ai ai=>cJ (ag.there Y) λp B ai=>(cU p B ?_);have au:=B;rw[ar] at au;have:(ip r ab).ob.length<=i:=by show(jJ r ab).length<=i;rw[ap];exact F.gek i hi
  rw[bG this] at au;exact bF au
 let ah:List (Addr×Addr):=ak.map λi=>aa.ob.getD i (0,0);let r':Rh:=⟨r.ob++ah,r.pv⟩;have ay:∀ {m:Nat} {p:Addr×Addr},ah[m]? =U p->∃i,ak[m]? =U i/\aa.ob[i]? =U p/\p∈aw:=λ{m p} e=>by
  skip;have e':(ak.map λi=>aa.ob.getD i (0,0))[m]? =U p:=e;rw[bD] at e';clear e;obtain⟨i,hi,rfl⟩:=f5.mp e';refine cJ (aq i (bF hi)) λp B a'=>?_;have:aa.ob.getD i (0,0)=p:=by rw[aI,B];rfl
  rw[this];exact(g8 i hi B a')
 have al:∀ {p:Addr×Addr},p∈ah->p∈aw/\p∈aa.ob:=λ{p} B=>by
  exact dS (fA B) λm hm=>fZ (ay hm) λi ai h1 h2=>⟨h2,bF h1⟩
 have a9:∀ {k j:Nat} {p:Addr×Addr},ab[k]? =U j->aa.ob[k]? =U p->r.ob[j]? =U p:=λ{k j p} hk B=>by
  have ba:k < (ip r ab).ob.length:=by
   show k < (jJ r ab).length;rw[ap,<-F.len];have h:=aZ hk;exact h
  rw[ar,bM ba] at B;refine cJ (p5 am B) λj' af e=>?_;rw[hk] at af;(refine si af λbb=>?_;subst bb);exact e
 have av:∀(i j:Nat) (p:Addr×Addr),kL ab ak σ₀.length N.length i=U j->aa.ob[i]? =U p->r'.ob[j]? =U p:=λi j p Y e2=>by
  unfold kL at Y;split at Y
  ·have:=a9 Y e2;have hl:=aZ this;skip;rw[bM hl];exact this
  ·refine mi Y λm hm q3=>?_;subst q3;have bc:=zj hm;skip;rw[bG (by rw[R.len];exact bL ..),R.len,cY];skip;rw[bD,bc];show U (aa.ob.getD i (0,0))=_;rw[aI,e2];rfl
 have hm:∀a,¬aa.mut a->¬r'.mut a:=λa h q=>by
  refine h ?_;rcases q with⟨p,B,J⟩| q
  ·rcases aO.mp B with B| B
   ·have:(ip r ab).mut a:=zr (.inl ⟨p,B,J⟩);rcases this with h2| h2
    ·exact .inl (ae.own_new h2)
    ·exact .inr (a5▸h2)
   ·exact .inl ⟨p,(al B).2,J⟩
  ·exact .inr (a5▸aP _ q)
 have a8:∀ {p:Addr×Addr},p∈r.ob->(∃o,s.heap.get? p.1=U o)/\∃o,s.heap.get? p.2=U o:=λ{p} B=>⟨R.ownLive ⟨p,B,.inl rfl⟩,R.ownLive ⟨p,B,.inr rfl⟩⟩;have zB:Mv r s.heap r' h':=⟨λi p e=>by
   have hl:=aZ e;skip;rw[bM hl];exact e,λa o e f=>by
   refine⟨ae.keep a o e λq=>f (iD am (.inl q)),λq=>?_⟩;rcases q with⟨p,B,J⟩| q
   ·rcases aO.mp B with B| B
    ·exact f (.inl ⟨p,B,J⟩)
    ·refine f7 (ao p (al B).1) λh1 h2=>?_;clear f;rcases J with rfl| rfl
     ·exact ns ((h1).symm.trans e)
     ·exact ns ((h2).symm.trans e)
   ·exact f (.inr q)⟩
 intro _;refine O u r' h' tk ?_ ?_ (x.out av hm hv)
 ·refine⟨ag.base,?_,λj o p Y e2=>?_,λb J=>?_,?_,λb J a0=>?_,λb J=>?_⟩
  ·skip;rw[aF,R.len,F.len'];skip;rw[aD]
  ·by_cases hj:j < N.length
   ·have aj:r.ob[j]? =U p:=by
     have:(r.ob++ah)[j]? =U p:=e2;rw[bM (by rw[R.len];exact hj)] at this;exact this
    by_cases hi:j∈ab
    ·refine dS (fA hi) λk hk=>?_;have be:k < σ₀.length:=by
      rw[<-F.len];have h:=aZ hk;exact h
     have a3:aa.ob[k]? =U p:=by
      rw[ar,bM (by show k < (jJ r ab).length;rw[ap];exact be)];show(ab.map _)[k]? =_;rw[bD,hk];show U (r.ob.getD j (0,0))=_;rw[aI,aj];rfl
     have a6:k < ax.length:=by
      rw[<-ag.len];have h:=aZ a3;exact h
     refine cJ (F.post k j _ hk (aM a6)) λo' h1 h2=>?_;rw[h2] at Y;clear h2;(refine si Y λbf=>?_;subst bf);exact(ag.obj k _ p (aM a6) a3).out av hm h1
    ·rw[F.rest j hj hi] at Y;refine(R.obj j o p Y aj).mv zB (λob e=>ae.keep _ ob e λq=>?_) λob e=>ae.keep _ ob e λq=>?_
     ·refine ga (j8 am q) λj' p' af e' J=>?_;have A:=lN R aj e' λz=>hi (z▸af);rcases J with z| z
      ·exact A.1 z
      ·exact A.2.1 z
     ·refine ga (j8 am q) λj' p' af e' J=>?_;have A:=lN R aj e' λz=>hi (z▸af);rcases J with z| z
      ·exact A.2.2.1 z
      ·exact A.2.2.2 z
   ·have af:j < a4.length:=by have h:=aZ Y;exact h
    rw[F.len'] at af;obtain⟨m,rfl⟩:∃m,j=N.length+m:=⟨j - N.length,(Nat.add_sub_cancel' (bK hj)).symm⟩;have aj:ah[m]? =U p:=by
     have:(r.ob++ah)[N.length+m]? =U p:=e2;rw[bG (by rw[R.len];exact bL ..),R.len,cY] at this;exact this
    refine fZ (ay aj) λi hi B ai=>ga (F.new m i hi) λaz o' h1 h2 h3=>?_;rw[h3] at Y;clear h3;(refine si Y λbg=>?_;subst bg);exact(ag.obj i az p h1 B).out av hm h2
  ·refine Classical.byContradiction λq=>?_;have: ¬¬aa.mut b:=λz=>hm b z J;exact q (ag.fresh b (Classical.not_not.mp this))
  ·refine r0.mpr ⟨R.apart,?_,λp B q hq=>?_⟩
   ·skip;rw[xP];refine oe ?_ F.ndk;intro a b ha J bh;refine cJ (aq a ha) λp B ai=>cJ (aq b J) λq hq ai=>?_;have Y:aa.ob.getD a (0,0)=p:=by rw[aI,B];rfl
    have e2:aa.ob.getD b (0,0)=q:=by rw[aI,hq];rfl
    rw[Y,e2];exact lN ag B hq bh
   ·refine f7 (a8 B) λq4 q5=>dS q4 λo1 l1=>?_;clear q4;refine dS q5 λo2 l2=>?_;clear q5;refine f7 (ao q (al hq).1) λf1 f2=>?_;have no:∀ {a b:Addr} {ob},s.heap.get? b= .none->s.heap.get? a=U ob->a≠b:=λn e z=>ns (n.symm.trans (z▸e));exact⟨no f1 l1,no f2 l1,no f1 l2,no f2 l2⟩
  ·refine cJ a0 λp B a7=>?_;clear a0;rcases aO.mp B with B| B
   ·exact R.pvo b J ⟨p,B,a7⟩
   ·refine dS (R.pvl b J) λo e=>f7 (ao p (al B).1) λf1 f2=>?_;clear J;rcases a7 with rfl| rfl
    ·exact ns ((f1).symm.trans e)
    ·exact ns ((f2).symm.trans e)
  ·exact dS (R.pvl b J) λo e=>ae.live b o e
 ·refine⟨(cU ah rfl (λp B=>ao p (al B).1)),rfl,λb o e J=>ae.keep b o e λq=>?_,ae.live⟩;exact ga (j8 am q) λj p ai e' B=>J ⟨p,bF e',B⟩
theorem kB.le(F:kB A n)(h:m<=n):kB A m:=⟨F.hd,by have:=F.dp;exact aK (bS (Nat.add_le_add_left (f4 2 h) _) 9) this,by have:=F.un;exact aK (bS (Nat.add_le_add_left (f4 8 h) _) 500) this⟩
theorem yP(J:c.Ok)(ab:c.PatsOk)(Y:ll c n C)(ae:kB A (n+1))(fe fs:Nat)(D:Env):rn c (A.deeper D) (ic c.Γ C fe fs):=by
 have B:=ae.deeper D;have room:c.HasRoom (A.deeper D):=⟨B.hd,by have:=B.un;exact aK (bY (Nat.le_add_right_of_le (bL _ 4)) (by decide)) this,by have:=B.dp;exact aK (bY (Nat.le_add_right_of_le (bL _ 1)) (by decide)) this⟩;have E:∀m,∀k,k<=m->eV c (A.deeper D) (ev c.Γ C k):=Cq J B Y (Jz room.hd wz) (I0 J ab) (λm aa=>Cn J B m aa);have X:=zZ (fe:=fe) J B Y B.hd (by have:=B.un;exact aK (bY (Nat.le_add_right_of_le (bL _ 4)) (by decide)) this) (λm=>@E m m (aJ _)) fs;exact @And.right _ _ X
theorem DB(J:c.Ok)(ag:c.FnOk)(ai:c.PatsOk)(aj:ll c n C)(fe fs:Nat)(Y:kB A (n+1))(ak:c.Γ.fns.lookup f=U F)(R:c.R r N s.heap)(x:dZ c.w.params r s.heap as us)(hz:c.t.id z=U i)(hl:(dU c.K f).scope.names.lookup z=U .local)(hw:aW.get i ((hX c.Γ F as []).getD [])=U w)
  (e:f6 c.Γ C fe fs F as [] N=U (v,ah)) (O:gp c r s ah v (λu s'=>al (.ok (.ret u)) s')):codeAny c.M A (.call (.ref f) ⟨us,[]⟩) al s:=
 (sW (G:=λB=>True) J Y (λD=>yP J ai aj Y fe fs D) (ag f F ak) R x .nil (λh=>bX h (λB B q=>q trivial) (λB B q=>q)) (λ{av am ao aq ap ar au Q E} _ aa ab ae h=>(ae z i w hz hw).elim λu af=>vq aa af (ab▸hl) h) e O)
theorem pj(aa:c.Ok)(ab:c.FnOk)(ah:c.PatsOk)(H:ll c n₀ J)(fe fs:Nat):∀n,ll c (n₀+n) (mP c.Γ J fe fs n):=by
 intro n;induction n with
 |zero=>exact H
 |succ n ag=>
  have ai:=ag;refine⟨λf as Y N x e=>?_,λ{A f as Y N aj v r s} [_] {us ak al} af e R x y O=>?_⟩
  ·rw[nW] at e;cases q:J f as Y N with
   |some y=>exact H.keep _ _ _ _ _ q
   |none=>
    rw[q] at e;cases B:c.Γ.fns.lookup f with
    |none=>rw[B] at e;exact ns e
    |some F=>exact ED (ab f F B)
  ·rw[nW] at e;cases q:J f as Y N with
   |some y'=>
    rw[q] at e
    (refine sp e λq3 q4=>?_;subst q3;subst q4;clear e)
    exact H.run (af.le (bL _ _)) q R x y O
   |none=>
    rw[q] at e;cases B:c.Γ.fns.lookup f with
    |none=>rw[B] at e;exact ns e
    |some F=>
     rw[B] at e;have ae:kB A (n₀+n+1):=af;exact xy aa ae (λD=>yP aa ah ai ae fe fs D) (ab f F B) R x y e O
theorem zg(J:c.Ok)(Y:c.FnOk)(aa:c.PatsOk)(fe fs n:Nat):ll c n (gg c.Γ fe fs n):=by
 have:=pj (n₀:=0) J Y aa ⟨λB B B B B e=>(ns e),λB e=>(ns e)⟩ fe fs n;rw[eW] at this;exact this
structure xM(C:Cf)(f:Addr)(as:List V)(ks:List (Nat×V))(N:H)(v:V)(σ':H):Prop where
 flat:∀p∈ks,∀ρ,V.ren ρ p.2=U p.2
 small:∃σ₀ σ₀' as₀ v₀ ι κ,C f as₀ ks σ₀=U (v₀,σ₀')/\nh N σ' σ₀ σ₀' ι κ/\jW (λi=>ι[i]?) as₀=U as/\V.ren (kL ι κ σ₀.length N.length) v₀=U v
theorem rj.imp(y:rj c r h B J):(∀p∈B,∀u,c.V r h p.2 u->c.V r₀ h p.2 u)->rj c r₀ h B J:=by
 induction y with
 |nil=>exact λaa=>.nil
 |cons a _ Y=>exact λf=>.cons ⟨a.1,f _ (.head _) _ a.2⟩ (Y λp hp=>f p (.tail _ hp))
theorem DL(ae:ll c n C)(h:∀f as Y N v J,ag f as Y N=U (v,J)->xM C f as Y N v J):ll c n ag where
 keep:=λf as Y N x e=>by
  obtain⟨v,J⟩:=x;exact LQ ((h f as Y N v J e).small) λσ₀ af aa v₀ B aj e0 am=>ae.keep _ _ _ _ _ e0
 run:=λ{A f as Y N J v r s} [_] {us al ao} ak e R x y O=>by
  have T:=h f as Y N v J e;refine Lm (T.small) λσ₀ af aa v₀ B aj e0 F ha hv=>?_;have ah:c.R (ip r B) σ₀ s.heap:=za R F;have ai:∀j∈B,j < r.ob.length:=λj hj=>by rw[R.len];exact F.lt j hj
  have ab:∀(i j:Nat) (p:Addr×Addr),B[i]? =U j->r.ob[j]? =U p->(ip r B).ob[i]? =U p:=λi j p e1 e2=>by
   show(B.map _)[i]? =_;rw[bD,e1];refine dS (cV.mp e2) λhl e=>?_;simp[hl,e]
  have hm:∀a,¬r.mut a->¬(ip r B).mut a:=λa h q=>h (iD ai q);exact ae.run ak e0 ah (dZ.into (ρ:=λi=>B[i]?) ab hm aa ha x) (y.imp λp hp u z=>VR.into (ρ:=λi=>B[i]?) ab hm p.2 (T.flat p hp _) z) (gp.small R F hv O)
abbrev Fg:=Addr->List V->List (Nat×V)->H->Option (V×H)
def lL(C:Cf)(i9:Fg):Cf:=λf as B N=>match i9 f as B N with
 |.none=>.none
 |some x=>@ite _ (xM C f as B N x.1 x.2) (Classical.propDecidable _) (U x) .none
theorem DM(e:lL C i9 f as B N=U y):xM C f as B N y.1 y.2:=by
 replace e:(match i9 f as B N with
  |.none=>.none
  |some x=>@ite _ (xM C f as B N x.1 x.2) (Classical.propDecidable _) (U x) .none)=U y:=e
 cases q:i9 f as B N with
 |none=>rw[q] at e;exact ns e
 |some x=>
  rw[q] at e;by_cases h:xM C f as B N x.1 x.2
  ·exact aC ((if_pos h).symm.trans e)▸h
  ·exact ns ((if_neg h).symm.trans e)
theorem Bg(B:ll c n C)(i9:Fg):ll c n (lL C i9):=DL B λf as Y N v J e=>DM e
section
variable{C:Cf}{i9:Fg}{f:Addr}{as:List V}{B:List (Nat×V)}{N J:H}{v:V}{Γ:G}{fe fs n:Nat}
theorem iy(h:i9 f as B N=U (v,J))(T:xM C f as B N v J):mP Γ (lL C i9) fe fs n f as B N=U (v,J):=by
 have e:lL C i9 f as B N=U (v,J):=by
  unfold lL;rw[h];exact if_pos T
 cases n with
 |zero=>exact e
 |succ n=>rw[nW,e]
theorem Ab(h:i9 f as B N=zF)(Y:Γ.fns.lookup f=U F):mP Γ (lL C i9) fe fs (n+1) f as B N=f6 Γ (mP Γ (lL C i9) fe fs n) fe fs F as B N:=by
 have e:lL C i9 f as B N=zF:=by unfold lL;rw[h]
 rw[nW,e,Y]
end
end MI.Lake
end T7
section T8
open PySem
namespace MI.Lake.L1
noncomputable def ids:List Str:=(["self","param","value","quote","search","replace","headers","_headers","k","v","_convert_string_type","name","__init__","regex","format","val","append","__setitem__","kv","lower","__delitem__","get_all","items","_name","_value","_params","parts","join","add_header","ws","raw","count","b","n","nt","ch","norm","is_simple","S","T","trailing","longest_run_of_spaces","tabsize","il","i","indent_level","other","ts","less","a","not_less_witness","x","script","page","base","y","lead","share","text","row","at","size","get","find","lines","rows","whites","end","witness","late","line","table","pairs","behind","seen","signs","symbol","rounds","notes","at_","by_","column","sign","columns","longs","blocks","part","j","pair","split","ends","due","settings","leave","steps","above","inner","laid","first","queue","h","place","extend","t","pop","noted"]:List String).map Str.ofString
noncomputable def Je:List Txt:= [[115,101,108,102],[112,97,114,97,109],[118,97,108,117,101],[113,117,111,116,101],[115,101,97,114,99,104],[114,101,112,108,97,99,101],[104,101,97,100,101,114,115],[95,104,101,97,100,101,114,115],[107],[118],[95,99,111,110,118,101,114,116,95,115,116,114,105,110,103,95,116,121,112,101],[110,97,109,101],[95,95,105,110,105,116,95,95],[114,101,103,101,120],[102,111,114,109,97,116],[118,97,108],[97,112,112,101,110,100],[95,95,115,101,116,105,116,101,109,95,95],[107,118],[108,111,119,101,114],[95,95,100,101,108,105,116,101,109,95,95],[103,101,116,95,97,108,108],[105,116,101,109,115],[95,110,97,109,101],[95,118,97,108,117,101],[95,112,97,114,97,109,115],[112,97,114,116,115],[106,111,105,110],[97,100,100,95,104,101,97,100,101,114],[119,115],[114,97,119],[99,111,117,110,116],[98],[110],[110,116],[99,104],[110,111,114,109],[105,115,95,115,105,109,112,108,101],[83],[84],[116,114,97,105,108,105,110,103],[108,111,110,103,101,115,116,95,114,117,110,95,111,102,95,115,112,97,99,101,115],[116,97,98,115,105,122,101],[105,108],[105],[105,110,100,101,110,116,95,108,101,118,101,108],[111,116,104,101,114],[116,115],[108,101,115,115],[97],[110,111,116,95,108,101,115,115,95,119,105,116,110,101,115,115],[120],[115,99,114,105,112,116],[112,97,103,101],[98,97,115,101],[121],[108,101,97,100],[115,104,97,114,101],[116,101,120,116],[114,111,119],[97,116],[115,105,122,101],[103,101,116],[102,105,110,100],[108,105,110,101,115],[114,111,119,115],[119,104,105,116,101,115],[101,110,100],[119,105,116,110,101,115,115],[108,97,116,101],[108,105,110,101],[116,97,98,108,101],[112,97,105,114,115],[98,101,104,105,110,100],[115,101,101,110],[115,105,103,110,115],[115,121,109,98,111,108],[114,111,117,110,100,115],[110,111,116,101,115],[97,116,95],[98,121,95],[99,111,108,117,109,110],[115,105,103,110],[99,111,108,117,109,110,115],[108,111,110,103,115],[98,108,111,99,107,115],[112,97,114,116],[106],[112,97,105,114],[115,112,108,105,116],[101,110,100,115],[100,117,101],[115,101,116,116,105,110,103,115],[108,101,97,118,101],[115,116,101,112,115],[97,98,111,118,101],[105,110,110,101,114],[108,97,105,100],[102,105,114,115,116],[113,117,101,117,101],[104],[112,108,97,99,101],[101,120,116,101,110,100],[116],[112,111,112],[110,111,116,101,100]]
noncomputable def FV:List (Str×V):= [(Str.ofString "tspecials",.cst (.ref 43)),(Str.ofString "_name_disallowed_re",.cst (.ref 48)),(Str.ofString "_value_disallowed_re",.cst (.ref 53)),(Str.ofString "_formatparam",.cst (.ref 61)),(Str.ofString "Headers",.cst (.ref 182)),(Str.ofString "Whitespace",.cst (.ref 248)),(Str.ofString "ENDMARKER",.int 0),(Str.ofString "NT_OFFSET",.int 256),(Str.ofString "EXACT_TOKEN_TYPES",.cst (.ref 253)),(Str.ofString "ISTERMINAL",.cst (.ref 262)),(Str.ofString "ISNONTERMINAL",.cst (.ref 269)),(Str.ofString "ISEOF",.cst (.ref 276)),(Str.ofString "_law_page",.cst (.ref 281)),(Str.ofString "_law_cut",.cst (.ref 286)),(Str.ofString "_law_read",.cst (.ref 291)),(Str.ofString "_law_add",.cst (.ref 298)),(Str.ofString "_law_walk",.cst (.ref 303)),(Str.ofString "_law_column",.cst (.ref 310)),(Str.ofString "_law_blocks",.cst (.ref 315)),(Str.ofString "_law_roads",.cst (.ref 320)),(Str.ofString "law",.cst (.ref 325)),(Str.ofString "len",.cst (.builtin "len")),(Str.ofString "max",.cst (.builtin "max")),(Str.ofString "min",.cst (.builtin "min")),(Str.ofString "sum",.cst (.builtin "sum")),(Str.ofString "sorted",.cst (.builtin "sorted")),(Str.ofString "range",.cst (.type "range")),(Str.ofString "list",.cst (.type "list")),(Str.ofString "tuple",.cst (.type "tuple")),(Str.ofString "str",.cst (.type "str")),(Str.ofString "type",.cst (.type "type")),(Str.ofString "zip",.cst (.type "zip")),(Str.ofString "enumerate",.cst (.type "enumerate"))]
def tx:Tx:=⟨ids,λx=>FV.lookup x,λa x=>if a==248&&x==Str.ofString "S" then U (.str [32]) else if a==248&&x==Str.ofString "T" then U (.str [9]) else zF⟩
noncomputable def jx:Fn:=⟨[52],[],[],.none,
 [(.names [53] (.call (.lit (.cst (.ref 281))) [(.var 52)])),
  (.names [65] (.call (.lit (.cst (.ref 291))) [(.comp (.bin .add (.callM (.lit (.str [])) 27 [(.var 70)] []) (.lit (.str [32,9]))) [(.mk (.name 70) (.plain (.var 53)) [])] [70])])),
  (.unpack [(.name 71),(.name 74)] (.tup [(.call (.lit (.cst (.ref 182))) [(.list [(.tup [(.lit (.str [65])),(.lit (.str [45]))]),(.tup [(.lit (.str [98])),(.lit (.str [45]))])])]),(.comp (.list []) [(.mk (.name 70) (.plain (.var 53)) [])] [70])])),
  (.expr (.call (.lit (.cst (.ref 303))) [(.var 65),(.lit (.int 0)),(.call (.lit (.cst (.builtin "len"))) [(.var 65)]),(.var 71),(.var 74)])),
  (.names [85] (.call (.lit (.cst (.ref 315))) [(.var 53)])),
  (.ite (.cmp .ne (.comp (.tup [(.var 67),(.var 68)]) [(.mk (.tup [(.name 59),(.name 67),(.name 68)]) (.plain (.var 65)) [])] [59,67,68]) (.var 85)) [(.ret (U (.lit (.bool zH))))] []),
  (.names [72] (.callM (.var 71) 22 [] [])),
  (.ite (.cmp .ne (.comp (.callM (.var 71) 21 [(.var 11)] []) [(.mk (.name 11) (.plain (.lit (.str [97,66]))) [])] [11]) (.comp (.comp (.var 2) [(.mk (.tup [(.name 46),(.name 2)]) (.plain (.var 72)) [(.cmp .eq (.callM (.var 46) 19 [] []) (.callM (.var 11) 19 [] []))])] [46,2]) [(.mk (.name 11) (.plain (.lit (.str [97,66]))) [])] [11])) [(.ret (U (.lit (.bool zH))))] []),
  (.ret (U (.cmp .eq (.comp (.call (.lit (.cst (.builtin "sorted"))) [(.var 105)]) [(.mk (.name 105) (.plain (.bin .add (.var 74) (.list [(.var 72)]))) [])] [105]) (.call (.lit (.cst (.ref 320))) [(.var 53),(.comp (.var 67) [(.mk (.tup [(.name 67),(.name 68)]) (.plain (.var 85)) [])] [67,68])]))))]⟩
noncomputable def nj:Fn:=⟨[52],[],[],.none,
 [(.names [53] (.list [])),
  (.for_ (.tup [(.name 8),(.name 54)]) (.enum (.list [(.lit (.int 6)),(.lit (.int 64)),(.lit (.int 41)),(.lit (.int 197)),(.lit (.int 883))])) [(.names [55] (.bin .mod (.bin .add (.var 54) (.call (.lit (.cst (.builtin "sum"))) [(.comp (.bin .mod (.var 51) (.lit (.int 2916))) [(.mk (.name 51) (.plain (.slice (.var 52) (U (.var 8)) (U (.lit (.int 60))) (U (.lit (.int 5))))) [])] [51])])) (.lit (.int 2916)))),
  (.names [56] (.callM (.lit (.str [])) 27 [(.comp (.sub (.tup [(.lit (.str [])),(.lit (.str [32])),(.lit (.str [9]))]) (.bin .mod (.bin .fdiv (.var 55) (.var 57)) (.lit (.int 3)))) [(.mk (.name 57) (.plain (.tup [(.lit (.int 1)),(.lit (.int 108)),(.lit (.int 324)),(.lit (.int 972))])) [])] [57])] [])),
  (.expr (.callM (.var 53) 16 [(.tup [(.var 56),(.sub (.lit (.str [97,65,98,66])) (.bin .mod (.bin .fdiv (.var 55) (.lit (.int 27))) (.lit (.int 4)))),(.sub (.tup [(.lit (.str [61])),(.lit (.str [43,61])),(.lit (.str [45,61]))]) (.bin .mod (.bin .fdiv (.var 55) (.lit (.int 9))) (.lit (.int 3)))),(.sub (.tup [(.lit (.str [])),(.lit (.str [124])),(.lit (.str [42]))]) (.bin .mod (.bin .fdiv (.var 55) (.lit (.int 3))) (.lit (.int 3))))])] []))]),
  (.ret (U (.var 53)))]⟩
noncomputable def sZ:Fn:=⟨[58],[],[],.none,
 [(.unpack [(.name 59),(.name 60)] (.tup [(.list []),(.lit (.int 0))])),
  (.whil (.cmp .lt (.var 60) (.call (.lit (.cst (.builtin "len"))) [(.var 58)])) [(.names [61] (.call (.lit (.cst (.builtin "max"))) [(.bin .add (.list [(.lit (.int 1))]) (.comp (.var 8) [(.mk (.name 8) (.plain (.tup [(.lit (.int 2)),(.lit (.int 3))])) [(.cmp .isIn (.slice (.var 58) (U (.var 60)) (U (.bin .add (.var 60) (.var 8))) .none) (.lit (.cst (.ref 253))))])] [8]))])),
  (.expr (.callM (.var 59) 16 [(.callM (.lit (.cst (.ref 253))) 62 [(.slice (.var 58) (U (.var 60)) (U (.bin .add (.var 60) (.var 61))) .none),(.bin .add (.lit (.int 256)) (.callM (.lit (.str [97,65,98,66])) 63 [(.sub (.var 58) (.var 60))] []))] [])] [])),
  (.names [60] (.bin .add (.var 60) (.var 61)))]),
  (.ret (U (.bin .add (.var 59) (.list [(.lit (.int 0))]))))]⟩
noncomputable def kW:Fn:=⟨[64],[],[],.none,
 [(.unpack [(.name 66),(.name 65)] (.tup [(.comp (.call (.lit (.cst (.ref 248))) [(.var 70)]) [(.mk (.name 70) (.plain (.var 64)) [])] [70]),(.list [])])),
  (.for_ (.name 60) (.plain (.call (.lit (.cst (.type "range"))) [(.call (.lit (.cst (.builtin "len"))) [(.var 64)])])) [(.names [67] (.bin .add (.var 60) (.lit (.int 1)))),
  (.whil (.and (.cmp .lt (.var 67) (.call (.lit (.cst (.builtin "len"))) [(.var 64)])) (.callM (.sub (.var 66) (.var 60)) 48 [(.sub (.var 66) (.var 67))] [])) [(.names [67] (.bin .add (.var 67) (.lit (.int 1))))]),
  (.names [68] (.comp (.var 69) [(.mk (.name 46) (.plain (.slice (.var 66) (U (.bin .add (.var 60) (.lit (.int 1)))) (U (.bin .add (.var 67) (.lit (.int 1)))) .none)) []),(.mk (.name 69) (.plain (.callM (.sub (.var 66) (.var 60)) 50 [(.var 46)] [])) [])] [46,69])),
  (.expr (.callM (.var 65) 16 [(.tup [(.call (.lit (.cst (.ref 286))) [(.slice (.sub (.var 64) (.var 60)) (U (.attr (.sub (.var 66) (.var 60)) 33)) (U (.neg (.lit (.int 2)))) .none)]),(.var 67),(.var 68)])] []))]),
  (.ret (U (.var 65)))]⟩
noncomputable def s6:Fn:=⟨[71,72],[],[],.none,
 [(.for_ (.tup [(.name 11),(.name 2)]) (.plain (.var 72)) [(.ite (.cmp .notIn (.tup [(.var 11),(.var 2)]) (.callM (.var 71) 22 [] [])) [(.expr (.callM (.var 71) 28 [(.var 11),(.var 2)] []))] [])])]⟩
noncomputable def ni:Fn:=⟨[65,60,73,71,74],[],[],.none,
 [(.whil (.cmp .lt (.var 60) (.var 73)) [(.unpack [(.name 59),(.name 67),(.name 68)] (.sub (.var 65) (.var 60))),
  (.ite (.cmp .isNot (.var 74) (.lit .none)) [(.setSub (.var 74) (.var 60) (.callM (.var 71) 22 [] []))] []),
  (.names [11] (.callM (.lit (.str [])) 27 [(.comp (.sub (.lit (.str [97,65,98,66])) (.bin .sub (.var 76) (.lit (.int 256)))) [(.mk (.name 76) (.plain (.var 59)) [(.call (.lit (.cst (.ref 269))) [(.var 76)])])] [76])] [])),
  (.names [75] (.comp (.var 76) [(.mk (.name 76) (.plain (.var 59)) [(.and (.call (.lit (.cst (.ref 262))) [(.var 76)]) (.not (.call (.lit (.cst (.ref 276))) [(.var 76)])))])] [76])),
  (.ite (.cmp .eq (.sub (.var 75) (.lit (.int 0))) (.lit (.int 22))) [(.setSub (.var 71) (.var 11) (.call (.lit (.cst (.type "str"))) [(.var 60)]))] [(.ite (.cmp .eq (.sub (.var 75) (.lit (.int 0))) (.lit (.int 37))) [(.del (.var 71) (.var 11))] [(.ite (.and (.cmp .eq (.sub (.var 75) (.lit (.int 0))) (.lit (.int 36))) (.cmp .notIn (.bin .add (.bin .add (.lit (.str [34])) (.call (.lit (.cst (.type "str"))) [(.var 60)])) (.lit (.str [34]))) (.callM (.lit (.str [])) 27 [(.callM (.var 71) 21 [(.var 11)] [])] []))) [(.expr (.callM (.var 71) 28 [(.var 11),(.ite (.cmp .ne (.slice (.var 75) (U (.lit (.int 1))) .none .none) (.list [])) (.lit (.str [42])) (.lit .none))] [(79,(.call (.lit (.cst (.type "str"))) [(.var 60)])),(80,(.lit .none))]))] [])])]),
  (.ite (.or (.cmp .eq (.slice (.var 75) (U (.lit (.int 1))) .none .none) (.list [])) (.cmp .eq (.var 67) (.bin .add (.var 60) (.lit (.int 1))))) [(.expr (.call (.lit (.cst (.ref 303))) [(.var 65),(.bin .add (.var 60) (.lit (.int 1))),(.var 67),(.var 71),(.var 74)]))] [(.names [77] (.dsub [18,16] [(.list [(.var 74)]),(.list [(.lit .none),(.var 74)])] (.sub (.var 75) (.lit (.int 1))))),
  (.for_ (.name 78) (.plain (.ite (.cmp .is_ (.var 74) (.lit .none)) (.list [(.lit .none)]) (.var 77))) [(.names [46] (.call (.lit (.cst (.ref 182))) [(.callM (.var 71) 22 [] [])])),
  (.expr (.call (.lit (.cst (.ref 303))) [(.var 65),(.bin .add (.var 60) (.lit (.int 1))),(.var 67),(.var 46),(.var 78)])),
  (.expr (.call (.lit (.cst (.ref 298))) [(.var 71),(.callM (.var 46) 22 [] [])]))])]),
  (.names [60] (.var 67))])]⟩
noncomputable def n9:Fn:=⟨[56,61],[],[],.none,
 [(.names [81] (.lit (.int 0))),
  (.for_ (.name 82) (.plain (.var 56)) [(.names [81] (.ite (.cmp .eq (.var 82) (.lit (.str [32]))) (.bin .add (.var 81) (.lit (.int 1))) (.bin .mul (.bin .add (.bin .fdiv (.var 81) (.var 61)) (.lit (.int 1))) (.var 61))))]),
  (.ret (U (.var 81)))]⟩
noncomputable def hZ:Fn:=⟨[53],[],[],.none,
 [(.names [83] (.comp (.comp (.call (.lit (.cst (.ref 310))) [(.sub (.var 70) (.lit (.int 0))),(.var 61)]) [(.mk (.name 61) (.plain (.call (.lit (.cst (.type "range"))) [(.lit (.int 1)),(.lit (.int 6))])) [])] [61]) [(.mk (.name 70) (.plain (.var 53)) [])] [70])),
  (.names [84] (.comp (.call (.lit (.cst (.builtin "max"))) [(.comp (.call (.lit (.cst (.builtin "len"))) [(.var 86)]) [(.mk (.name 86) (.plain (.callM (.sub (.var 70) (.lit (.int 0))) 89 [(.lit (.str [9]))] [])) [])] [86])]) [(.mk (.name 70) (.plain (.var 53)) [])] [70])),
  (.names [85] (.list [])),
  (.for_ (.name 44) (.plain (.call (.lit (.cst (.type "range"))) [(.call (.lit (.cst (.builtin "len"))) [(.var 53)])])) [(.names [67] (.call (.lit (.cst (.builtin "min"))) [(.bin .add (.comp (.var 87) [(.mk (.name 87) (.plain (.call (.lit (.cst (.type "range"))) [(.bin .add (.var 44) (.lit (.int 1))),(.call (.lit (.cst (.builtin "len"))) [(.var 53)])])) [(.cmp .ge (.call (.lit (.cst (.builtin "max"))) [(.comp (.bin .sub (.var 49) (.var 32)) [(.mk (.tup [(.name 49),(.name 32)]) (.zip (.sub (.var 83) (.var 44)) (.sub (.var 83) (.var 87))) [])] [49,32])]) (.lit (.int 0)))])] [87]) (.list [(.call (.lit (.cst (.builtin "len"))) [(.var 53)])]))])),
  (.names [72] (.ite (.cmp .lt (.var 67) (.call (.lit (.cst (.builtin "len"))) [(.var 53)])) (.listZip [(.call (.lit (.cst (.type "range"))) [(.lit (.int 1)),(.bin .add (.call (.lit (.cst (.builtin "max"))) [(.sub (.var 84) (.var 44)),(.sub (.var 84) (.var 67))]) (.lit (.int 2)))]),(.sub (.var 83) (.var 44)),(.sub (.var 83) (.var 67))]) (.list []))),
  (.expr (.callM (.var 85) 16 [(.tup [(.var 67),(.comp (.var 88) [(.mk (.name 88) (.plain (.var 72)) [(.cmp .ge (.sub (.var 88) (.lit (.int 1))) (.sub (.var 88) (.lit (.int 2))))])] [88])])] []))]),
  (.ret (U (.var 85)))]⟩
noncomputable def fg:Fn:=⟨[53,90],[],[],.none,
 [(.unpack [(.name 93),(.name 94)] (.tup [(.list []),(.list [])])),
  (.for_ (.name 44) (.plain (.call (.lit (.cst (.type "range"))) [(.call (.lit (.cst (.builtin "len"))) [(.var 53)])])) [(.names [95] (.comp (.var 100) [(.mk (.name 100) (.plain (.call (.lit (.cst (.type "range"))) [(.var 44)])) [(.cmp .gt (.sub (.var 90) (.var 100)) (.var 44))])] [100])),
  (.ite (.and (.cmp .ne (.var 95) (.list [])) (.cmp .eq (.sub (.var 90) (.var 44)) (.sub (.var 90) (.sub (.var 95) (.neg (.lit (.int 1))))))) [(.expr (.callM (.var 93) 16 [(.bin .add (.sub (.var 93) (.sub (.var 95) (.neg (.lit (.int 1))))) (.ite (.cmp .eq (.sub (.sub (.var 53) (.sub (.var 95) (.neg (.lit (.int 1))))) (.lit (.int 3))) (.lit (.str [42]))) (.list [(.bin .add (.sub (.var 95) (.neg (.lit (.int 1)))) (.lit (.int 1)))]) (.list [])))] []))] [(.expr (.callM (.var 93) 16 [(.list [(.sub (.var 90) (.var 44))])] []))]),
  (.names [96] (.ite (.cmp .gt (.sub (.var 90) (.var 44)) (.bin .add (.var 44) (.lit (.int 1)))) (.list [(.bin .add (.var 44) (.lit (.int 1)))]) (.list []))),
  (.expr (.callM (.var 94) 16 [(.ite (.or (.cmp .eq (.var 96) (.list [])) (.cmp .ne (.sub (.sub (.var 53) (.var 44)) (.lit (.int 3))) (.lit (.str [])))) (.bin .add (.var 96) (.sub (.var 93) (.var 44))) (.var 96))] []))]),
  (.names [91] (.comp (.list []) [(.mk (.name 101) (.plain (.call (.lit (.cst (.type "range"))) [(.bin .add (.call (.lit (.cst (.builtin "len"))) [(.var 53)]) (.lit (.int 1)))])) [])] [101])),
  (.names [92] (.list [(.tup [(.lit (.str [65])),(.lit (.str [45])),(.list [(.lit (.int 0))])]),(.tup [(.lit (.str [98])),(.lit (.str [45])),(.list [(.lit (.int 0))])])])),
  (.for_ (.name 44) (.plain (.call (.lit (.cst (.type "range"))) [(.call (.lit (.cst (.builtin "len"))) [(.var 53)])])) [(.names [97] (.bin .add (.bin .add (.bin .add (.ite (.cmp .eq (.sub (.sub (.var 53) (.var 44)) (.lit (.int 3))) (.lit (.str []))) (.lit (.str [])) (.lit (.str [42,59,32]))) (.lit (.str [97,116,45,61,34]))) (.call (.lit (.cst (.type "str"))) [(.var 44)])) (.lit (.str [34,59,32,98,121,45])))),
  (.expr (.callM (.var 92) 102 [(.dsubS [[61],[43,61],[45,61]] [(.list [(.tup [(.sub (.sub (.var 53) (.var 44)) (.lit (.int 1))),(.call (.lit (.cst (.type "str"))) [(.var 44)]),(.sub (.var 94) (.var 44))])]),(.list [(.tup [(.sub (.sub (.var 53) (.var 44)) (.lit (.int 1))),(.var 97),(.sub (.var 94) (.var 44))])]),(.list [])] (.sub (.sub (.var 53) (.var 44)) (.lit (.int 2))))] []))]),
  (.for_ (.tup [(.name 11),(.name 2),(.name 98)]) (.plain (.var 92)) [(.names [99] (.call (.lit (.cst (.type "list"))) [(.var 98)])),
  (.whil (.cmp .ne (.var 99) (.list [])) [(.names [103] (.callM (.var 99) 104 [] [])),
  (.ite (.cmp .notIn (.tup [(.var 11),(.var 2)]) (.sub (.var 91) (.var 103))) [(.expr (.callM (.sub (.var 91) (.var 103)) 16 [(.tup [(.var 11),(.var 2)])] [])),
  (.ite (.and (.cmp .lt (.var 103) (.call (.lit (.cst (.builtin "len"))) [(.var 53)])) (.or (.cmp .eq (.sub (.sub (.var 53) (.var 103)) (.lit (.int 2))) (.lit (.str [43,61]))) (.cmp .ne (.callM (.sub (.sub (.var 53) (.var 103)) (.lit (.int 1))) 19 [] []) (.callM (.var 11) 19 [] [])))) [(.expr (.callM (.var 99) 102 [(.sub (.var 94) (.var 103))] []))] [])] [])])]),
  (.ret (U (.comp (.call (.lit (.cst (.builtin "sorted"))) [(.var 72)]) [(.mk (.name 72) (.plain (.var 91)) [])] [72])))]⟩
noncomputable def oa:Fn:=⟨[51],[],[],.none,
 [(.ret (U (.cmp .lt (.var 51) (.lit (.int 256)))))]⟩
noncomputable def lf:Fn:=⟨[51],[],[],.none,
 [(.ret (U (.cmp .ge (.var 51) (.lit (.int 256)))))]⟩
noncomputable def yW:Fn:=⟨[51],[],[],.none,
 [(.ret (U (.cmp .eq (.var 51) (.lit (.int 0)))))]⟩
noncomputable def iH:Fn:=⟨[1,2,3],[.none,(.int 1)],[],.none,
 [(.ite (.and (.cmp .isNot (.var 2) (.lit .none)) (.cmp .gt (.call (.lit (.cst (.builtin "len"))) [(.var 2)]) (.lit (.int 0)))) [(.ite (.or (.var 3) (.callM (.lit (.cst (.ref 43))) 4 [(.var 2)] [])) [(.names [2] (.repl (.repl (.var 2) [92] [92,92]) [34] [92,34])),
  (.ret (U (.fmt [(.fv (.var 1)),(.lit (.str [61,34])),(.fv (.var 2)),(.lit (.str [34]))])))] [(.ret (U (.fmt [(.fv (.var 1)),(.lit (.str [61])),(.fv (.var 2))])))])] [(.ret (U (.var 1)))])]⟩
noncomputable def ez:Fn:=⟨[0,29],[],[],.none,
 [(.setAttr (.var 0) 30 (.var 29)),
  (.unpack [(.name 38),(.name 39)] (.tup [(.lit (.str [32])),(.lit (.str [9]))])),
  (.names [31] (.list [])),
  (.names [32,33,34] (.lit (.int 0))),
  (.for_ (.name 35) (.plain (.attr (.var 0) 30)) [(.ite (.cmp .eq (.var 35) (.var 38)) [(.names [33] (.bin .add (.var 33) (.lit (.int 1)))),
  (.names [32] (.bin .add (.var 32) (.lit (.int 1))))] [(.ite (.cmp .eq (.var 35) (.var 39)) [(.names [33] (.bin .add (.var 33) (.lit (.int 1)))),
  (.names [34] (.bin .add (.var 34) (.lit (.int 1)))),
  (.ite (.cmp .ge (.var 32) (.call (.lit (.cst (.builtin "len"))) [(.var 31)])) [(.names [31] (.bin .add (.var 31) (.bin .mul (.list [(.lit (.int 0))]) (.bin .add (.bin .sub (.var 32) (.call (.lit (.cst (.builtin "len"))) [(.var 31)])) (.lit (.int 1))))))] []),
  (.setSub (.var 31) (.var 32) (.bin .add (.sub (.var 31) (.var 32)) (.lit (.int 1)))),
  (.names [32] (.lit (.int 0)))] [.brk])])]),
  (.setAttr (.var 0) 33 (.var 33)),
  (.setAttr (.var 0) 34 (.var 34)),
  (.setAttr (.var 0) 36 (.tup [(.call (.lit (.cst (.type "tuple"))) [(.var 31)]),(.var 32)])),
  (.setAttr (.var 0) 37 (.cmp .le (.call (.lit (.cst (.builtin "len"))) [(.var 31)]) (.lit (.int 1))))]⟩
noncomputable def fO:Fn:=⟨[0],[],[],.none,
 [(.unpack [(.name 31),(.name 40)] (.attr (.var 0) 36)),
  (.ret (U (.call (.lit (.cst (.builtin "max"))) [(.bin .sub (.call (.lit (.cst (.builtin "len"))) [(.var 31)]) (.lit (.int 1))),(.var 40)])))]⟩
noncomputable def gZ:Fn:=⟨[0,42],[],[],.none,
 [(.unpack [(.name 31),(.name 40)] (.attr (.var 0) 36)),
  (.names [43] (.lit (.int 0))),
  (.for_ (.name 44) (.plain (.call (.lit (.cst (.type "range"))) [(.var 42),(.call (.lit (.cst (.builtin "len"))) [(.var 31)])])) [(.names [43] (.bin .add (.var 43) (.bin .mul (.bin .fdiv (.var 44) (.var 42)) (.sub (.var 31) (.var 44)))))]),
  (.ret (U (.bin .add (.var 40) (.bin .mul (.var 42) (.bin .add (.var 43) (.attr (.var 0) 34))))))]⟩
noncomputable def jQ:Fn:=⟨[0,46],[],[],.none,
 [(.ite (.cmp .ge (.attr (.var 0) 33) (.attr (.var 46) 33)) [(.ret (U (.lit (.bool zH))))] []),
  (.ite (.and (.attr (.var 0) 37) (.attr (.var 46) 37)) [(.ret (U (.cmp .le (.attr (.var 0) 34) (.attr (.var 46) 34))))] []),
  (.names [33] (.bin .add (.call (.lit (.cst (.builtin "max"))) [(.callM (.var 0) 41 [] []),(.callM (.var 46) 41 [] [])]) (.lit (.int 1)))),
  (.for_ (.name 47) (.plain (.call (.lit (.cst (.type "range"))) [(.lit (.int 2)),(.bin .add (.var 33) (.lit (.int 1)))])) [(.ite (.cmp .ge (.callM (.var 0) 45 [(.var 47)] []) (.callM (.var 46) 45 [(.var 47)] [])) [(.ret (U (.lit (.bool zH))))] [])]),
  (.ret (U (.lit (.bool zG))))]⟩
noncomputable def gh:Fn:=⟨[0,46],[],[],.none,
 [(.names [33] (.bin .add (.call (.lit (.cst (.builtin "max"))) [(.callM (.var 0) 41 [] []),(.callM (.var 46) 41 [] [])]) (.lit (.int 1)))),
  (.names [49] (.list [])),
  (.for_ (.name 47) (.plain (.call (.lit (.cst (.type "range"))) [(.lit (.int 1)),(.bin .add (.var 33) (.lit (.int 1)))])) [(.ite (.cmp .ge (.callM (.var 0) 45 [(.var 47)] []) (.callM (.var 46) 45 [(.var 47)] [])) [(.expr (.callM (.var 49) 16 [(.tup [(.var 47),(.callM (.var 0) 45 [(.var 47)] []),(.callM (.var 46) 45 [(.var 47)] [])])] []))] [])]),
  (.ret (U (.var 49)))]⟩
noncomputable def gV:Fn:=⟨[0,6],[.none],[],.none,
 [(.names [6] (.ite (.cmp .isNot (.var 6) (.lit .none)) (.var 6) (.list []))),
  (.ite (.cmp .isNot (.call (.lit (.cst (.type "type"))) [(.var 6)]) (.lit (.cst (.type "list")))) [.bad] []),
  (.setAttr (.var 0) 7 (.var 6)),
  (.ite (.lit (.bool zG)) [(.for_ (.tup [(.name 8),(.name 9)]) (.plain (.var 6)) [(.expr (.callM (.var 0) 10 [(.var 8)] [(11,(.lit (.bool zG)))])),
  (.expr (.callM (.var 0) 10 [(.var 9)] [(11,(.lit (.bool zH)))]))])] [])]⟩
noncomputable def eO:Fn:=⟨[0,2],[],[11],.none,
 [(.ite (.cmp .is_ (.call (.lit (.cst (.type "type"))) [(.var 2)]) (.lit (.cst (.type "str")))) [(.names [13] (.ite (.var 11) (.lit (.cst (.ref 48))) (.lit (.cst (.ref 53))))),
  (.ite (.callM (.var 13) 4 [(.var 2)] []) [.bad] []),
  (.ret (U (.var 2)))] []),
  .bad]⟩
noncomputable def i5:Fn:=⟨[0,11,15],[],[],.none,
 [(.del (.var 0) (.var 11)),
  (.expr (.callM (.attr (.var 0) 7) 16 [(.tup [(.callM (.var 0) 10 [(.var 11)] [(11,(.lit (.bool zG)))]),(.callM (.var 0) 10 [(.var 15)] [(11,(.lit (.bool zH)))])])] []))]⟩
noncomputable def i6:Fn:=⟨[0,11],[],[],.none,
 [(.names [11] (.callM (.var 0) 10 [(.callM (.var 11) 19 [] [])] [(11,(.lit (.bool zG)))])),
  (.setAll (.attr (.var 0) 7) (.comp (.var 18) [(.mk (.name 18) (.plain (.attr (.var 0) 7)) [(.cmp .ne (.callM (.sub (.var 18) (.lit (.int 0))) 19 [] []) (.var 11))])] [18]))]⟩
noncomputable def jR:Fn:=⟨[0,11],[],[],.none,
 [(.names [11] (.callM (.var 0) 10 [(.callM (.var 11) 19 [] [])] [(11,(.lit (.bool zG)))])),
  (.ret (U (.comp (.sub (.var 18) (.lit (.int 1))) [(.mk (.name 18) (.plain (.attr (.var 0) 7)) [(.cmp .eq (.callM (.sub (.var 18) (.lit (.int 0))) 19 [] []) (.var 11))])] [18])))]⟩
noncomputable def lg:Fn:=⟨[0],[],[],.none,
 [(.ret (U (.slice (.attr (.var 0) 7) .none .none .none)))]⟩
noncomputable def dI:Fn:=⟨[0,23,24],[],[],U 25,
 [(.names [26] (.list [])),
  (.ite (.cmp .isNot (.var 24) (.lit .none)) [(.names [24] (.callM (.var 0) 10 [(.var 24)] [(11,(.lit (.bool zH)))])),
  (.expr (.callM (.var 26) 16 [(.var 24)] []))] []),
  (.for_ (.tup [(.name 8),(.name 9)]) (.items (.var 25)) [(.names [8] (.callM (.var 0) 10 [(.var 8)] [(11,(.lit (.bool zG)))])),
  (.ite (.cmp .is_ (.var 9) (.lit .none)) [(.expr (.callM (.var 26) 16 [(.repl (.var 8) [95] [45])] []))] [(.names [9] (.callM (.var 0) 10 [(.var 9)] [(11,(.lit (.bool zH)))])),
  (.expr (.callM (.var 26) 16 [(.call (.lit (.cst (.ref 61))) [(.repl (.var 8) [95] [45]),(.var 9)])] []))])]),
  (.expr (.callM (.attr (.var 0) 7) 16 [(.tup [(.callM (.var 0) 10 [(.var 23)] [(11,(.lit (.bool zG)))]),(.callM (.lit (.str [59,32])) 27 [(.var 26)] [])])] []))]⟩
def fns:List (Addr×Fn):= [(325,jx),(281,nj),(286,sZ),(291,kW),(298,s6),(303,ni),(310,n9),(315,hZ),(320,fg),(262,oa),(269,lf),(276,yW),(203,ez),(210,fO),(217,gZ),(238,jQ),(245,gh),(97,i5),(102,i6),(121,jR),(146,lg),(61,iH),(76,gV),(83,eO),(179,dI)]
noncomputable def oP:Ij:=⟨[(10,83),(17,97),(20,102),(21,121),(22,146),(28,179)],76,[7]⟩
noncomputable def kY:Ij:=⟨[(41,210),(45,217),(48,238),(50,245)],203,[30,33,34,36,37]⟩
def clss:List (Addr×Ij):= [(182,oP),(248,kY)]
noncomputable def tab:List (Txt×Int×Tok×Tok):= [([33],54,759,755),([33,61],28,761,703),([37],24,763,695),([37,61],40,765,727),([38],19,767,685),([38,61],41,769,729),([40],7,771,661),([41],8,773,663),([42],16,775,679),([42,42],35,777,717),([42,42,61],46,779,739),([42,61],38,781,723),([43],14,783,675),([43,61],36,785,719),([44],12,787,671),([45],15,789,677),([45,61],37,791,721),([45,62],51,793,749),([46],23,795,693),([46,46,46],52,797,751),([47],17,799,681),([47,47],47,801,741),([47,47,61],48,803,743),([47,61],39,805,725),([58],11,807,669),([58,61],53,809,753),([59],13,811,673),([60],20,813,687),([60,60],33,815,713),([60,60,61],44,817,735),([60,61],29,819,705),([61],22,821,691),([61,61],27,823,701),([62],21,825,689),([62,61],30,827,707),([62,62],34,828,715),([62,62,61],45,829,737),([64],49,830,745),([64,61],50,831,747),([91],9,832,665),([93],10,833,667),([94],32,834,711),([94,61],43,835,733),([123],25,836,697),([124],18,837,683),([124,61],42,838,731),([125],26,839,699),([126],31,840,709)]
def Γ:G:=⟨fns,clss,[(253,AO tab)],[48,53],Je,20,17⟩
end MI.Lake.L1
end T8
section T9
open PySem PySem.Spec PySem.Calls PyProof.Rows PySem.W
set_option maxHeartbeats 4000000
namespace MI.Lake
structure yY(K:Frag)(t:Tx)(zD:Addr)(k:Ij):Prop where
 pg:plainGet K zD ""=zG
 hd:hasDictIn K zD=zG
 po:plainOver K zD=zG
 sa:findIn K (.ref zD) "__setattr__"=U (U (.builtin "object.__setattr__"))
 mks:makesIn K zD=zG
 ini:findIn K (.ref zD) "__init__"=U (U (.ref k.init))
 ini2:typeIn K (.ref k.init)=U (.type "function")
 kp:keepIn K (.ref zD)=zG
 fl:k.flds.all (Ci K zD t)=zG
 me:k.meths.all (yk K zD t)=zG
 nq:noSeq K zD=zG
structure yZ(K:Frag)(zD:Addr)(x:Str)(u:Value):Prop where
 rd:readsIn K zD (.type "type")=zG
 fi:findCls K (.ref zD) (.type "type") x=U (.val u)
namespace L1
theorem FT:Je=ids.map λx=>x.cps.toList:=by decide+kernel
def LK:List (Addr×Fn×List Str):= [(325,jx,[Str.ofString "script"]),(281,nj,[Str.ofString "script"]),(286,sZ,[Str.ofString "text"]),(291,kW,[Str.ofString "lines"]),(298,s6,[Str.ofString "table",Str.ofString "pairs"]),(303,ni,[Str.ofString "rows",Str.ofString "at",Str.ofString "behind",Str.ofString "table",Str.ofString "seen"]),(310,n9,[Str.ofString "lead",Str.ofString "size"]),(315,hZ,[Str.ofString "page"]),(320,fg,[Str.ofString "page",Str.ofString "ends"]),(262,oa,[Str.ofString "x"]),(269,lf,[Str.ofString "x"]),(276,yW,[Str.ofString "x"]),(203,ez,[Str.ofString "self",Str.ofString "ws"]),(210,fO,[Str.ofString "self"]),(217,gZ,[Str.ofString "self",Str.ofString "tabsize"]),(238,jQ,[Str.ofString "self",Str.ofString "other"]),(245,gh,[Str.ofString "self",Str.ofString "other"]),(97,i5,[Str.ofString "self",Str.ofString "name",Str.ofString "val"]),(102,i6,[Str.ofString "self",Str.ofString "name"]),(121,jR,[Str.ofString "self",Str.ofString "name"]),(146,lg,[Str.ofString "self"])]
structure Facts(hp:Params->Frag):Prop where
 tab:∀P,(hp P).lookup 253=U (hD (Fv P tab) 48)
 lks:∀P,ig (Lj (hp P) tx) LK=LK.map (Li (hp P) tx)
 glob:∀P,FV.all (yB (hp P))=zG
 look_F_formatparam:∀P,iA (hp P) tx 61 iH [Str.ofString "param",Str.ofString "value",Str.ofString "quote"] [] [Value.none,(Value.int 1 385)]
 look_F_HeadersU_initU:∀P,iA (hp P) tx 76 gV [Str.ofString "self",Str.ofString "headers"] [] [Value.none]
 look_F_HeadersUconvert_string_type:∀P,iA (hp P) tx 83 eO [Str.ofString "self",Str.ofString "value"] [Str.ofString "name"] []
 look_F_Headers_add_header:∀P,mC (hp P) tx 179 dI (Str.ofString "self") (Str.ofString "_name") (Str.ofString "_value") (Str.ofString "_params")
 clsH:∀P,yY (hp P) tx 182 oP
 clsW:∀P,yY (hp P) tx 248 kY
 pat0:∀P,(hp P).lookup 48=U {cls:= .type "re.Pattern",dict:=zF,data:= .fields #[Value.str (Str.ofString "[\\x00-\\x1F\\x7F]") 326,Value.int 32 349,Value.int 0 0,.none,.none,.ref 47,Value.int 0 0],slots:= #[]}
 pit0:∀P,(hp P).lookup 47=U {cls:= .type "tuple",dict:=zF,data:= .seq #[Value.int 14 0,Value.int 10 0,Value.int 4 0,Value.int 1 0,Value.int 1 0,Value.int 22 0,Value.int 0 0,Value.int 31 0,Value.int 16 0,Value.int 127 0,Value.int 0 0,Value.int 13 0,Value.int 7 0,Value.int 22 0,Value.int 0 0,Value.int 31 0,Value.int 16 0,Value.int 127 0,Value.int 0 0,Value.int 1 0] 0,slots:= #[]}
 pat1:∀P,(hp P).lookup 53=U {cls:= .type "re.Pattern",dict:=zF,data:= .fields #[Value.str (Str.ofString "[\\x00-\\x08\\x0A-\\x1F\\x7F]") 352,Value.int 32 383,Value.int 0 0,.none,.none,.ref 52,Value.int 0 0],slots:= #[]}
 pit1:∀P,(hp P).lookup 52=U {cls:= .type "tuple",dict:=zF,data:= .seq #[Value.int 14 0,Value.int 14 0,Value.int 4 0,Value.int 1 0,Value.int 1 0,Value.int 9 0,Value.int 4294966783 0,Value.int 0 0,Value.int 0 0,Value.int 2147483648 0,Value.int 0 0,Value.int 0 0,Value.int 0 0,Value.int 0 0,Value.int 0 0,Value.int 13 0,Value.int 11 0,Value.int 9 0,Value.int 4294966783 0,Value.int 0 0,Value.int 0 0,Value.int 2147483648 0,Value.int 0 0,Value.int 0 0,Value.int 0 0,Value.int 0 0,Value.int 0 0,Value.int 1 0] 0,slots:= #[]}
 catS:∀P,yZ (hp P) 248 (Str.ofString "S") (.str (Str.ofString " ") 567)
 catT:∀P,yZ (hp P) 248 (Str.ofString "T") (.str (Str.ofString "\t") 568)
 lawl:∀P,(dU (hp P) 325).scope.names.lookup (Str.ofString "script")=U .local
 law:∀P,nsIn (hp P) mainGlobals (Str.ofString "law")=U (U (.ref 325))
def cx(Y:Params->Frag)(vw:Program)(J:List Str)(w:World)(B:Heap)(mg mb:Str->Option Value)(X:(Y w.params).In B)(T:TopRead vw J mg mb B):Cx:=⟨PySem.Challenge.rw_rs0232_01.row.prog,w,Y w.params,B,mg,mb,vw,J,X,T,Γ,tx⟩
section
variable{aa:Params->Frag}(Y:Facts aa){ab:Program}{B:List Str}{w:World}{J:Heap}{ae af:Str->Option Value}{X:(aa w.params).In J}{T:TopRead ab B ae af J}
include Y
theorem Ch:(cx aa ab B w J ae af X T).FnOk:=λf F e=>by
 have hf:fns=LK.map (λe=>(e.1,e.2.1))++ [(61,iH),(76,gV),(83,eO),(179,dI)]:=rfl;have m:(f,F)∈fns:=hT e;rw[hf] at m;refine(aO.mp m).elim (λm=>?_) λm=>(List.forall_mem_cons.mpr ⟨(Y.look_F_formatparam w.params).fact (c:=cx aa ab B w J ae af X T) (.cons .none (.cons (.int _ _) .nil)),List.forall_mem_cons.mpr ⟨(Y.look_F_HeadersU_initU w.params).fact (c:=cx aa ab B w J ae af X T) (.cons .none .nil),List.forall_mem_cons.mpr ⟨(Y.look_F_HeadersUconvert_string_type w.params).fact (c:=cx aa ab B w J ae af X T) .nil,List.forall_mem_cons.mpr ⟨(Y.look_F_Headers_add_header w.params).fact (c:=cx aa ab B w J ae af X T) FT,λag h=>nomatch h⟩⟩⟩⟩:∀p∈([(61,iH),(76,gV),(83,eO),(179,dI)]:List (Addr×Fn)),iT (cx aa ab B w J ae af X T) p.1 p.2) (f,F) m;refine cJ (cC.mp m) λy hy q=>?_;have z:=iA.factT (c:=cx aa ab B w J ae af X T) (Y.lks w.params) hy;rw[show y.1=f from congrArg Prod.fst q,show y.2.1=F from congrArg Prod.snd q] at z;exact z
theorem Gh:(cx aa ab B w J ae af X T).TabOk:=by
 intro a ag e;have e':(a,ag)∈ [(253,AO tab)]:=hT e;simp only[aX,Prod.mk.injEq,gX,or_false] at e';refine f7 e' λq1 q2=>?_;clear e';subst q1;clear e;subst q2;exact⟨by decide,_,_,Y.tab w.params,Gi tab⟩
theorem EB:(cx aa ab B w J ae af X T).GlobOk:=GlobOk.of (λag=>rfl) (Y.glob w.params)
theorem vQ:kX (cx aa ab B w J ae af X T) 182 oP:=
 have L:=Y.clsH w.params
 kX.of L.pg L.hd L.po L.sa L.mks L.ini L.ini2 L.kp L.fl L.me L.nq
theorem qV:kX (cx aa ab B w J ae af X T) 248 kY:=
 have L:=Y.clsW w.params
 kX.of L.pg L.hd L.po L.sa L.mks L.ini L.ini2 L.kp L.fl L.me L.nq
theorem HN:(cx aa ab B w J ae af X T).ClsOk:=by
 intro zD k e;have e':(zD,k)∈clss:=hT e;unfold clss at e';simp only[aX,Prod.mk.injEq,gX,or_false] at e';clear e;rcases e' with⟨rfl,rfl⟩| ⟨rfl,rfl⟩
 ·exact vQ Y
 ·exact qV Y
theorem tF:(cx aa ab B w J ae af X T).PatsOk:=by
 intro a e;have e':a∈([48,53]:List Addr):=List.elem_iff.mp e;simp only[aX,gX,or_false] at e';clear e;rcases e' with rfl| rfl
 ·exact pn.of (Y.pat0 w.params) (Y.pit0 w.params) rfl rfl (by kernel_rfl) z9
 ·exact pn.of (Y.pat1 w.params) (Y.pit1 w.params) rfl rfl (by kernel_rfl) xt
set_option tactic.hygienic true in
theorem HO:(cx aa ab B w J ae af X T).CatOk:=by
 intro ad x v e;change (if ad==248&&x==Str.ofString "S" then U (V.str [32]) else if ad==248&&x==Str.ofString "T" then U (V.str [9]) else zF)=U v at e;split at e
 ·rename_i h
  rw[dR] at h;have h1:ad=248:=by simpa using h.1
  have h2:x=Str.ofString "S":=by simpa using h.2
  clear h;subst h1 h2
  (refine si e λq3=>?_;subst q3;clear e)
  exact(tY (.type "type") (.str (Str.ofString " ") 567) ((Y.catS w.params).rd) ((Y.catS w.params).fi) rfl (kF (by decide+kernel)))
 ·split at e
  ·rename_i h
   rw[dR] at h;have h1:ad=248:=by simpa using h.1
   have h2:x=Str.ofString "T":=by simpa using h.2
   clear h;subst h1 h2
   (refine si e λq5=>?_;subst q5;clear e)
   exact(tY (.type "type") (.str (Str.ofString "\t") 568) ((Y.catT w.params).rd) ((Y.catT w.params).fi) rfl (kF (by decide+kernel)))
  ·exact ns e
theorem CC:(cx aa ab B w J ae af X T).Ok where
 tab:=Gh Y
 glob:=EB Y
 cls:=HN Y
 cat:=HO Y
 ids:=FT
 uniq:=(by
   intro i ak x ag ah;exact dS (cV.mp ag) λai ag=>dS (cV.mp ah) λaj ah=>(List.getElem_inj (show ids.Nodup by decide+kernel)).mp (ag.trans ah.symm))
 dot:=by show tx.id _=zF;decide+kernel
 setN:=by show ids[Γ.setId]? =_;decide+kernel
 delN:=by show ids[Γ.delId]? =_;decide+kernel
end
end MI.Lake.L1
set_option maxHeartbeats 4000000
namespace MI.Lake.L1
theorem vE{ns:List Int}(x:IntsAre vs ns):dZ P r h (ns.map V.int) vs:=by
 induction x with
 |nil=>exact .nil
 |cons i t _ B=>exact .cons (.int i t) B
theorem Ka:jj P ids h ⟨[],[]⟩ [] h where
 base:=λJ J e=>e
 len:=rfl
 obj:=λi o p e=>by simp at e
 fresh:=λb B=>by
  rcases B with⟨p,Y,_⟩| B
  ·cases Y
  ·cases B
 apart:= .nil
 pvo:=λb B=>by cases B
 pvl:=λb B=>by cases B
def Run:Prop:=∀ns:List Int,ns.length<=63->∃i9 B,f6 Γ (mP Γ (lL (gg Γ 60 60 20) i9) 60 60 18) 60 60 jx [.flist (ns.map .int)] [] []=U (.bool zG,B)
theorem BR{w:World}(Y:Facts hp){X:(hp w.params).In J}{T:TopRead vw aa mg mb J}(B:mg (Str.ofString "law")=U (.ref fa)):fa=325:=by
 have e:=Y.law w.params;have:=mg_of X T.g e;rw[B] at this;clear B;cases this;rfl
theorem KO(H:Run)(B:Facts Y){s₀ J:Shared}{ns:List Int}(X:(Y w.params).In J.heap)(T:TopRead vw af mg mb J.heap)(ab:mg (Str.ofString "law")=U (.ref fa))
  (ai:J.heap.IsList l vs.toArray) (ae:IntsAre vs ns) (aa: ¬((63:Nat):Int) < (ns.length:Int)) (hg:J.gens= #[]):
  wpAny (model PySem.Challenge.rw_rs0232_01.row.prog w) callerA (call (.ref fa) [.ref l])
   (λv s'=>GoodWG PySem.Challenge.rw_rs0232_01.row.claim (classAt s₀.heap) (ExcName.means s₀.heap) [ofPy (PyData.list (List.map PyData.int ns))] J (Except.ok (Flow.ret v)) s')
   (λe s'=>GoodWG PySem.Challenge.rw_rs0232_01.row.claim (classAt s₀.heap) (ExcName.means s₀.heap) [ofPy (PyData.list (List.map PyData.int ns))] J (Except.error e) s') J:=by
 have ag:fa=325:=BR B (X:=X) (T:=T) ab;clear ab;subst ag;refine Er (H ns (bK λq=>aa (Int.ofNat_lt.mpr q))) λi9 am e=>?_;have aj:=pj (c:=cx Y vw af w J.heap mg mb X T) (CC B) (Ch B) (tF B) (Bg (zg (CC B) (Ch B) (tF B) 60 60 20) i9) 60 60 18;have ah:vs.length=ns.length:=by
  have:=(vE (P:=w.params) (r:=⟨[],[]⟩) (h:=J.heap) ae).length;simpa using this
 refine pC (DB (i:=52) (CC B) (Ch B) (tF B) aj 60 60 ⟨rfl,by decide+kernel,by decide+kernel⟩ rfl Ka (.cons (.flist _ vs l ai (λhm=>?_) (vE ae) (aA (bJ ah) (aA (bK λq=>aa (Int.ofNat_lt.mpr q)) (by decide)))) .nil) (by show tx.id _=_;decide+kernel) (B.lawl w.params) rfl e λu r' h' tk ak ao x=>?_)
 ·rcases hm with⟨p,Y,_⟩| hb
  ·cases Y
  ·cases hb
 ·cases x;refine⟨.inl (Jg (.bool zG) (.bool zG) [] rfl (λcls=>rfl) (.bool zG) (by kernel_rfl) (λal=>⟨.nil,λal h=>by cases h⟩)),.of_keep ak.base,rfl,.of_eq hg⟩
end MI.Lake.L1
end T9
section T10
open PySem
namespace MI.Lake
section
variable(Γ:G)(C:Cf)(N:H)
theorem fK(s:String)(as:List V):nX Γ C (.cst (.builtin s)) as N=builtin (.builtin s) as N:=rfl
theorem m9(s:String)(as:List V):nX Γ C (.cst (.type s)) as N=builtin (.type s) as N:=rfl
theorem Ai(s:Txt):builtin (.builtin "len") [.str s] N=(if iM s.length then U (.int (s.length:Int),N) else .none):=rfl
theorem Aj(h:N[i]? =U (.list I)):builtin (.builtin "len") [.ref i] N=U (.int (I.length:Int),N):=by
 show(match N[i]? with| some (.list I)=>U (V.int (I.length:Int),N)| _=>.none)=_;rw[h]
theorem CP(b:Int):builtin (.type "range") [.int b] N=(if jh b then U (.rng 0 b,N) else .none):=rfl
theorem mB(a b:Int):mR .add (.int a) (.int b) N=(mkI (a+b)).map (λB=>(B,N)):=rfl
theorem E7(a b:Int):mR .sub (.int a) (.int b) N=(mkI (a - b)).map (λB=>(B,N)):=rfl
theorem CM(a b:Int):mR .fdiv (.int a) (.int b) N=(if decide (0 < b)&&decide (b < 1000000000) then (mkI (Int.fdiv a b)).map (λB=>(B,N)) else .none):=rfl
theorem uj(a b:Int):mR .mod (.int a) (.int b) N=(if decide (0 < b) then (mkI (Int.fmod a b)).map (λB=>(B,N)) else .none):=rfl
theorem nY(a b:Txt):mR .add (.str a) (.str b) N=GY (a++b) N:=rfl
theorem iQ{i:Int}(h:jh i=zG):mkI i=U (.int i):=by unfold mkI;rw[h];rfl
theorem gF{i:Int}(B: -4611686018427387904 < i)(J:i < 4611686018427387904):jh i=zG:=by unfold jh;simp[B,J]
theorem gT{n:Nat}(h:n<=1000000):iM n=zG:=dJ h
theorem tQ{s:Txt}(h:s.length<=1000000):GY s N=U (.str s,N):=by unfold GY;rw[gT h];rfl
theorem g6{vs:List V}(h:vs.length<=1000000):iP vs N=U (.ref N.length,N++ [.list vs]):=by unfold iP;rw[gT h];rfl
theorem CH(a b:Int):jO Γ .ge (.int a) (.int b) N=U (decide (b<=a)):=rfl
theorem eq_str(B:oq a=zG)(J:oq b=zG):yJ N (.str a) (.str b)=U (cW a b):=by
 unfold yJ;have e:∀ {a:Txt},oq a=zG->flat N 12 (.str a)=U (.str a):=λ{a} h=>by
  show(if oq a then U (V.str a) else .none)=_;rw[h];rfl
 rw[e B,e J];rfl
theorem sL{i x:Nat}{zD:Addr}{fs:List (Nat×V)}{v:V}(h:N[i]? =U (.inst zD fs))(B:m6 Γ zD x=zG)(J:look x fs=U v)(Y:wS (U v)=U v):fields Γ N i x=U v:=by
 unfold fields;rw[h];dsimp only;rw[B,J];exact Y
theorem yj{i x:Nat}{zD f:Addr}{fs:List (Nat×V)}(h:N[i]? =U (.inst zD fs))(B:look x fs=zF)(J:gO Γ zD x=U f):fJ Γ (.ref i) x N=U (.fn f (.ref i)):=by
 unfold fJ;dsimp only;rw[h];dsimp only;rw[B,J];rfl
theorem rf(f:Addr)(self:V)(as:List V)(B:List (Nat×V)):hK Γ C (.fn f self) as B N=C f (self::as) B N:=rfl
noncomputable def n7:Txt:= [97,112,112,101,110,100]
theorem lP{k x:Nat}{I:List V}(h:N[k]? =U (.list I))(B:Γ.ids[x]? =U n7):fJ Γ (.ref k) x N=U (.lst k n7):=by
 unfold fJ;dsimp only;rw[h];dsimp only;rw[B];rfl
theorem dC(h:N[k]? =U (.list I)):dX N (.ref k)=U I:=by
 show(match N[k]? with
  |some (.list I)=>U I
  |_=>.none)=_
 rw[h]
theorem kU(h:N[k]? =U (.list I))(B:I.length < 1000000):hK Γ C (.lst k n7) [v] [] N=U (.none,N.set k (.list (I++ [v]))):=by
 show((dX N (.ref k)).bind λI=>vA k I n7 [v] N)=_;rw[dC N h];show jV N k (I++ [v]) .none=_;unfold jV;rw[gT (by simp;exact cG (by assumption))];rfl
theorem u6(x y:O):(N++ [x]).set N.length y=N++ [y]:=by
 rw[List.set_append_right _ _ (aJ _),fh];rfl
theorem bC(x:O):(N++ [x])[N.length]? =U x:=by
 rw[bG (aJ _),fh];rfl
theorem fC{i:Nat}(B:H)(h:N[i]? =U o):(N++B)[i]? =U o:=by
 have J:=aZ h;rw[bM J];exact h
end
theorem n3{P:Nat->Prop}(a:P 0)(b:P 1)(c:∀n,P (n+2))(n:Nat):P n:=by
 cases n with
 |zero=>exact a
 |succ n=>cases n with
  |zero=>exact b
  |succ n=>exact c n
theorem G7{P:Nat->Prop}(a:P 0)(b:P 1)(c:P 2):∀n,n < 3->P n:=j0 (j0 (j0 Ec a) b) c
theorem La:n < 3->n=0\/n=1\/n=2:=G7 (P:=λn=>n=0\/n=1\/n=2) (.inl rfl) (.inr (.inl rfl)) (.inr (.inr rfl)) n
theorem l2{P:Nat->B->Prop}{x y:B}(a:P 0 x)(b:P 1 y)(k:Nat)(o:B)(e: [x,y][k]? =U o):P k o:=by
 cases k with
 |zero=>exact aC e▸a
 |succ k=>cases k with
  |zero=>exact aC e▸b
  |succ k=>exact ns e
theorem LO{P:Nat->J->B->Prop}{x y:J}{u v:B}{l:List B}(a:P 0 x u)(b:P 1 y v)(k:Nat)(j:J)(o:B)(e: [x,y][k]? =U j)(f:(u::v::l)[k]? =U o):P k j o:=
 l2 (P:=λk j=>(u::v::l)[k]? =U o->P k j o) (λf=>aC f▸a) (λf=>aC f▸b) k j e f
theorem get_set(x y:Nat)(v:V)(M:aW):aW.get y (aW.set x v M)=if x==y then U v else aW.get y M:=by
 induction M with
 |nil=>rfl
 |cons p r Y=>
  obtain⟨z,u⟩:=p;rw[aW.set_cons,aW.get_cons];by_cases h:(z==x)=zG
  ·have hz:=eq_of_beq h;rw[if_pos h,aW.get_cons,hz];by_cases B:(x==y)=zG
   ·rw[if_pos B,if_pos B]
   ·rw[if_neg B,if_neg B,if_neg B]
  ·rw[if_neg h,aW.get_cons,Y];by_cases B:(z==y)=zG
   ·have J: ¬(x==y)=zG:=λq=>h (by rw[eq_of_beq B,eq_of_beq q];exact beq_self_eq_true y);rw[if_pos B,if_neg J];exact(if_pos B).symm
   ·rw[if_neg B];by_cases J:(x==y)=zG
    ·rw[if_pos J,if_pos J]
    ·rw[if_neg J,if_neg J];exact(if_neg B).symm
theorem ph(h:(x==y)=zH)(v:V)(M:aW):aW.get y (aW.set x v M)=aW.get y M:=by rw[get_set,h];rfl
theorem gn(h:(x==y)=zH)(e:aW.get y M=r):aW.get y (aW.set x v M)=r:=(ph h v M).trans e
theorem bH(x:Nat)(v:V)(M:aW):aW.get x (aW.set x v M)=U v:=by rw[get_set];simp
theorem uK(h:N[i]? =U (.list I)):s7 (.ref i) N=U (.ls i 0):=by
 show(match N[i]? with
  |some (.list _)=>U (Zc.ls i 0)
  |_=>.none)=_
 rw[h]
noncomputable def k9(p:V->Bool)(g:V->List O->V)(J Y:V->List O->List O):List V->List V->List O->List V×List O
 |[],acc,B=>(acc,B)
 |v::r,acc,B=>if p v then k9 p g J Y r (acc++ [g v B]) (B++J v B++Y v B) else k9 p g J Y r acc (B++J v B)
structure yV(σb:H)(it:Nat->gx)(I:List V):Prop where
 item:∀(k:Nat) v τ,I[k]? =U v->(it k).next (σb++τ)=U (U (v,it (k+1)))
 done:∀τ,(it I.length).next (σb++τ)=U .none
theorem vF(h:σb[i]? =U (.list I)):yV σb (λk=>.one (.ls i k)) I where
 item:=λk v B Y=>by
  show(match (Zc.ls i k).next (σb++B) with
   |some (U (v,J))=>U (U (v,gx.one J))
   |some .none=>U .none
   |.none=>.none)=_
  unfold Zc.next;dsimp only;rw[fC _ B h];dsimp only;rw[Y]
 done:=λB=>by
  show(match (Zc.ls i I.length).next (σb++B) with
   |some (U (v,J))=>U (U (v,gx.one J))
   |some .none=>U .none
   |.none=>.none)=_
  unfold Zc.next;dsimp only;rw[fC _ B h];dsimp only;rw[cI (aJ _)]
def iK(B:Ev)(elt:E)(t:T)(ifs:List E):V->aW->List V->H->Option (aW×List V×H):=λv M acc N=>
   match gc t v N M with
   |some M=>match k7 B ifs M N with
    |some (x,N)=>match x with
     |false=>U (M,acc,N)
     |true=>match B elt M N with
      |some (v,N)=>if iM acc.length then U (M,acc++ [v],N) else .none
      |.none=>.none
    |.none=>.none
   |.none=>.none
theorem qX(B:Ev)(elt:E)(t:T)(ifs:List E)(itr:gx)(M:aW)(acc:List V)(N:H):j4 B elt t ifs itr M acc N=gr (λN J=>J.next N) (iK B elt t ifs) dW itr M acc N:=rfl
theorem xA(p:V->Bool)(g:V->List O->V)(J Y:V->List O->List O)(v:V)(r acc:List V)(B:List O):k9 p g J Y (v::r) acc B=if p v then k9 p g J Y r (acc++ [g v B]) (B++J v B++Y v B) else k9 p g J Y r acc (B++J v B):=rfl
theorem E2(aj:yV σb it I)(P:aW->Prop)(ab:V->aW->aW)(p:V->Bool)(g:V->List O->V)(Y af:V->List O->List O)
  (hb:∀v∈I,∀N M,gc t v N M=U (ab v M)) (ak:∀v∈I,∀M,P M->P (ab v M))
  (hi:∀v∈I,∀M B,P M->k7 ag ifs (ab v M) (σb++B)=U (p v,σb++(B++Y v B)))
  (he:∀v∈I,∀M B,P M->p v=zG->ag elt (ab v M) (σb++(B++Y v B))=U (g v B,σb++(B++Y v B++af v B))):
  ∀(k j:Nat) (M:aW) (acc:List V) (B:List O),P M->I.length < 2000->j<=I.length->j+k=I.length+1->acc.length<=j->∃al,gr (λN it=>it.next N) (iK ag elt t ifs) (k+n) (it j) M acc (σb++B)=U (al,(k9 p g Y af (I.drop j) acc B).1,σb++(k9 p g Y af (I.drop j) acc B).2):=by
 intro k;induction k with
 |zero=>
  intro j M acc B hp hl ae hj ha;exact absurd (Nat.lt_of_lt_of_eq (bQ _) hj.symm) (bP.mpr ae)
 |succ k ah=>
  intro j M acc B hp hl ai hj ha;rw[show k+1+n=(k+n)+1 by exact Nat.add_right_comm k 1 n];by_cases ae:j=I.length
  ·subst ae;rw[jm];rw[aj.done B,oX];exact⟨M,rfl⟩
  ·have aa:j < I.length:=Nat.lt_of_le_of_ne ai ae;have J:=gY aa;rw[jm];rw[aj.item j I[j] B (aM aa)];dsimp only[iK];rw[hb _ J];dsimp only;rw[hi _ J M B hp];have hd:I.drop j=I[j]::I.drop (j+1):=iI aa;rw[hd];rw[xA];cases am:p I[j]
   ·skip;rw[if_neg (by simp)];exact ah (j+1) _ acc _ (ak _ J _ hp) hl aa (jS hj) (dT ha)
   ·dsimp only;rw[he _ J M B hp am,if_pos rfl];dsimp only;rw[gT (aA ha (aA ai (aA (bA hl) (by decide)))),if_pos rfl];exact ah (j+1) _ _ _ (ak _ J _ hp) hl aa (jS hj) (by simp;assumption)
theorem yH(Γ:G)(C:Cf)(n:Nat)(elt:E)(t:T)(iter:It)(ifs:List E)(own:List Nat)(M:aW)(N:H):ev Γ C (n+1) (.comp elt [.mk t iter ifs] own) M N=(match gG (ev Γ C n) iter M N with
    |some (itr,N)=>if lM t itr then match j4 (ev Γ C n) elt t ifs itr (own.map (λB=>(B,.none))++M) [] N with
     |some (_,acc,N)=>iP acc N
     |.none=>.none else .none
    |.none=>.none):=rfl
theorem uc(h0:gG (ev Γ C n) iter M N=U (it 0,σb))(ae:lM t (it 0)=zG)(hx:I.length < 1999)(af:yV σb it I)(P:aW->Prop)(Y:V->aW->aW)(p:V->Bool)(g:V->List O->V)(J aa:V->List O->List O)
  (hb:∀v∈I,∀N M,gc t v N M=U (Y v M)) (ag:∀v∈I,∀M,P M->P (Y v M)) (hp:P (own.map (λab=>(ab,.none))++M))
  (hi:∀v∈I,∀M B,P M->k7 (ev Γ C n) ifs (Y v M) (σb++B)=U (p v,σb++(B++J v B)))
  (he:∀v∈I,∀M B,P M->p v=zG->ev Γ C n elt (Y v M) (σb++(B++J v B))=U (g v B,σb++(B++J v B++aa v B))):
  ev Γ C (n+1) (.comp elt [.mk t iter ifs] own) M N=iP (k9 p g J aa I [] []).1 (σb++(k9 p g J aa I [] []).2):=by
 rw[yH,h0];dsimp only;rw[if_pos ae];refine dS (E2 (n:=dW - (I.length+1)) af P Y p g J aa hb ag hi he (I.length+1) 0 (own.map (λab=>(ab,.none))++M) [] [] hp (cX hx) (cK _) (eW _) (aJ _)) λah e=>?_;rw[show I.length+1+(dW - (I.length+1))=dW by unfold dW;exact Nat.add_sub_cancel' (dT hx),cF] at e;rw[qX,e,List.drop_zero]
theorem w1(h1:B.next N=U (U (v,Y)))(h2:body v M N=U (.next,J,aa)):jM (λN B=>B.next N) body (k+1) B M N=jM (λN B=>B.next N) body k Y J aa:=by
 rw[qy];rw[h1];dsimp only;rw[h2]
theorem Cp(Γ:G)(C:Cf)(fe n:Nat)(t:T)(iter:It)(b:List S)(M:aW)(N:H):ex Γ C fe (n+1) (.for_ t iter b) M N=(match gG (ev Γ C fe) iter M N with
   |some (itr,N)=>if lM t itr then jM (λN B=>B.next N) (λv M N=>match gc t v N M with
     |some M=>ic Γ C fe n b M N
     |.none=>.none) dW itr M N else .none
   |.none=>.none):=rfl
section
variable{B:Type}{N:H}{y:Option B}
theorem vm{f:V->H->Option B}:o=U (x,N)->f x N=y->(match o with
  |some (v,J)=>f v J
  |.none=>.none)=y:=λh k=>h▸k
theorem Gb{f:List V->H->Option B}:o=U (x,N)->f x N=y->(match o with
  |some (v,J)=>f v J
  |.none=>.none)=y:=λh k=>h▸k
theorem Fs{f:Bool->H->Option B}:o=U (x,N)->f x N=y->(match o with
  |some (v,J)=>f v J
  |.none=>.none)=y:=λh k=>h▸k
theorem JJ{f:oN->Option B}:o=U x->f x=y->(match o with
  |some v=>f v
  |.none=>.none)=y:=λh k=>h▸k
theorem LA{f:Addr->Option B}{o:Option Addr}:o=U x->f x=y->(match o with
  |some v=>f v
  |.none=>d)=y:=λh k=>h▸k
theorem bd{J:Type}{f:J->Option B}{o:Option J}{x:J}:o=U x->f x=y->o.bind f=y:=λh k=>h▸k
theorem Ly{f:aW->Option B}:o=U x->f x=y->(match o with
  |some v=>f v
  |.none=>.none)=y:=λh k=>h▸k
theorem K6{f:Fl->aW->H->Option B}{o:Option (Fl×aW×H)}:o=U (x,vs,N)->f x vs N=y->(match o with
  |some (v,w,J)=>f v w J
  |.none=>.none)=y:=λh k=>h▸k
end
section
variable{Γ:G}{C:Cf}{n:Nat}{M:aW}{N B J Y:H}{x y v:V}{r:Option (V×H)}
theorem cB:ev Γ C (n+1) (.lit v) M N=U (v,N):=rfl
theorem aV(h:M.get i=U v):ev Γ C (n+1) (.var i) M N=U (v,N):=congrArg (Option.map (λaa=>(aa,N))) h
theorem hI(ha:ev Γ C n a M N=U (x,B))(hb:ev Γ C n b M B=U (y,J))(h:mR op x y J=r):ev Γ C (n+1) (.bin op a b) M N=r:=vm ha (vm hb h)
theorem FF(ha:ev Γ C n a M N=U (.int i,B))(h:jh (-i)=zG):ev Γ C (n+1) (.neg a) M N=U (.int (-i),B):=vm ha (congrArg (Option.map (λaa=>(aa,B))) (iQ h))
theorem fr(h:dY (ev Γ C n) es M N=U (vs,B))(hl:vs.length<=1000000):ev Γ C (n+1) (.list es) M N=U (.ref B.length,B++ [.list vs]):=Gb h (g6 _ hl)
theorem hQ(h:dY (ev Γ C n) es M N=U (vs,B))(hl:vs.length<=1000000):ev Γ C (n+1) (.tup es) M N=U (.tup vs,B):=Gb h (if_pos (gT hl))
theorem fE(ha:ev Γ C n a M N=U (x,B))(hb:ev Γ C n b M B=U (y,J))(h:jO Γ op x y J=U z):ev Γ C (n+1) (.cmp op a b) M N=U (.bool z,J):=vm ha (vm hb (congrArg (Option.map λb=>(V.bool b,J)) h))
theorem fD(ha:ev Γ C n a M N=U (x,B))(hb:ev Γ C n i M B=U (y,J))(h:g9 Γ x y J=U v):ev Γ C (n+1) (.sub a i) M N=U (v,J):=vm ha (vm hb (congrArg (Option.map (λaa=>(aa,J))) h))
theorem wN(ha:ev Γ C n a M N=U (.ref i,B))(h:fields Γ B i z=U v):ev Γ C (n+1) (.attr a z) M N=U (v,B):=by
 rw[yI,ha];exact congrArg (Option.map (λaa=>(aa,B))) h
theorem GP(hf:ev Γ C n f M N=U (x,B))(ha:dY (ev Γ C n) as M B=U (vs,J))(h:nX Γ C x vs J=r):ev Γ C (n+1) (.call f as) M N=r:=vm hf (Gb ha h)
theorem hR(ha:dY (ev Γ C (n+1)) as M N=U (vs,J))(h:nX Γ C (.cst w) vs J=r):ev Γ C (n+1+1) (.call (.lit (.cst w)) as) M N=r:=GP cB ha h
theorem gm{z:Nat}{as:List E}(ho:ev Γ C n o M N=U (x,B))(hm:fJ Γ x z B=U m)(ha:dY (ev Γ C n) as M B=U (vs,J))(hk:mD (ev Γ C n) ks M J=U (kv,Y))(h:hK Γ C m vs kv Y=r):
  ev Γ C (n+1) (.callM o z as ks) M N=r:=vm ho (JJ hm (Gb ha ((λh k=>h▸k) hk h)))
theorem lO(ht:hJ (ev Γ C n) t M N=U (zG,B))(h:ev Γ C n a M B=r):ev Γ C (n+1) (.ite t a b) M N=r:=Fs ht h
theorem mX(ht:hJ (ev Γ C n) t M N=U (zH,B))(h:ev Γ C n b M B=r):ev Γ C (n+1) (.ite t a b) M N=r:=Fs ht h
theorem kn(ha:ev Γ C n a M N=U (x,B))(hl:jr (ev Γ C n) l M B=U (lv,J))(hu:jr (ev Γ C n) u M J=U (uv,Y))(hs:jr (ev Γ C n) s M Y=U (sv,aa))(h:lT x lv uv sv aa=r):ev Γ C (n+1) (.slice a l u s) M N=r:=vm ha (vm hl (vm hu (vm hs h)))
theorem Bo(ha:dY (ev Γ C n) vs M N=U (us,B))(hi:ev Γ C n i M B=U (x,J))(h:Ba ks us x=U v):ev Γ C (n+1) (.dsub ks vs i) M N=U (v,J):=Gb ha (vm hi (congrArg (Option.map (λaa=>(aa,J))) h))
end
section
variable{J:Ev}{M:aW}{N B Y:H}{v:V}
theorem iZ:dY J [] M N=U ([],N):=rfl
theorem cQ(h:J e M N=U (v,B))(hr:dY J es M B=U (vs,Y)):dY J (e::es) M N=U (v::vs,Y):=vm h (Gb hr rfl)
theorem cL(h:J e M N=U (v,B)):dY J [e] M N=U ([v],B):=cQ h iZ
theorem gS:mD J [] M N=U ([],N):=rfl
theorem Ha(h:J e M N=U (v,B)):mD J [(x,e)] M N=U ([(x,v)],B):=vm h rfl
variable{b p:Bool}{r:Option (Bool×H)}
theorem Dr(hp:hJ J e M N=(match J e M N with| some (v,aa)=>(truthy v).map (λab=>(ab,aa))| .none=>.none))(h:J e M N=U (.bool b,B)):hJ J e M N=U (b,B):=hp.trans (vm h rfl)
theorem fm(h:J (.cmp op a d) M N=U (.bool b,B)):hJ J (.cmp op a d) M N=U (b,B):=Dr rfl h
theorem ww(h:J (.call f as) M N=U (.bool b,B)):hJ J (.call f as) M N=U (b,B):=Dr rfl h
theorem Dp(h:J (.callM o x as ks) M N=U (.none,B)):hJ J (.callM o x as ks) M N=U (zH,B):=vm h rfl
theorem r5{a d:E}(h:hJ J a M N=U (p,B))(h2:p=zG->hJ J d M B=U (b,Y))(hs:p=zH->B=Y):hJ J (.and a d) M N=U (p&&b,Y):=Fs h (match p,h2,hs with
 |true,h2,_=>h2 rfl
 |false,_,hs=>hs rfl▸rfl)
theorem Gj{a d:E}(h:hJ J a M N=U (p,B))(h2:p=zH->hJ J d M B=U (b,Y))(hs:p=zG->B=Y):hJ J (.or a d) M N=U (p || b,Y):=Fs h (match p,h2,hs with
 |false,h2,_=>h2 rfl
 |true,_,hs=>hs rfl▸rfl)
theorem kN{a:E}(h:hJ J a M N=U (b,B)):k7 J [a] M N=U (b,B):=Fs h (by cases b<;>rfl)
end
section
variable{Γ:G}{C:Cf}{fe n:Nat}{M J aa:aW}{N B Y ab:H}{x y v:V}{r:Option (Fl×aW×H)}
theorem bR(h:ex Γ C fe n s M N=U (.next,J,B))(hr:ic Γ C fe n ss J B=r):ic Γ C fe (n+1) (s::ss) M N=r:=K6 h hr
theorem k3(h:ex Γ C fe n s M N=U (.ret v,J,B)):ic Γ C fe (n+1) (s::ss) M N=U (.ret v,J,B):=K6 h rfl
theorem eF:ic Γ C fe (n+1) [] M N=U (.next,M,N):=rfl
theorem eU(h:ev Γ C fe e M N=U (v,B)):ex Γ C fe (n+1) (.names [z] e) M N=U (.next,M.set z v,B):=(vm h rfl)
theorem nI(h:ev Γ C fe e M N=U (v,B))(hb:gc (.tup ts) v B M=U J):ex Γ C fe (n+1) (.unpack ts e) M N=U (.next,J,B):=vm h (Ly hb rfl)
theorem gl(h:ev Γ C fe e M N=U (v,B)):ex Γ C fe (n+1) (.expr e) M N=U (.next,M,B):=vm h rfl
theorem lJ(h:ev Γ C fe e M N=U (v,B)):ex Γ C fe (n+1) (.ret (U e)) M N=U (.ret v,M,B):=vm h rfl
theorem kJ(ht:hJ (ev Γ C fe) t M N=U (zG,B))(h:ic Γ C fe n a M B=r):ex Γ C fe (n+1) (.ite t a b) M N=r:=Fs ht h
theorem iN(ht:hJ (ev Γ C fe) t M N=U (zH,B))(h:ic Γ C fe n b M B=r):ex Γ C fe (n+1) (.ite t a b) M N=r:=Fs ht h
theorem zf(h:ev Γ C fe e M N=U (v,B))(ho:ev Γ C fe o M B=U (.ref i,Y))(hi:Y[i]? =U (.inst zD fs))(hf:(m6 Γ zD z&&Nat.ble fs.length 100)=zG):ex Γ C fe (n+1) (.setAttr o z e) M N=U (.next,M,Y.set i (.inst zD (put z v fs))):=by
 rw[qO,h];dsimp only;refine ho.symm▸?_;dsimp only;refine hi.symm▸?_;dsimp only;exact if_pos hf
end
section
variable{Γ:G}{C:Cf}{fe n:Nat}{M:aW}{N Y J B aa:H}{x y v:V}
theorem LY(o i e:E):ex Γ C fe (n+1) (.setSub o i e) M N=(match ev Γ C fe e M N with
   |some (v,N)=>match ev Γ C fe o M N with
    |some (ov,N)=>match ev Γ C fe i M N with
     |some (iv,N)=>yw Γ C ov iv v M N
     |.none=>.none
    |.none=>.none
   |.none=>.none):=rfl
theorem BK(h:a<=1000000):a < 1000000000:=aK h (by decide)
theorem sJ(h:k < n)(hf:n < 1000000000):yz n (k:Int)=U k:=by
 have h1:jh (k:Int)=zG:=gF (nL k) (nH (bA (cO h hf)));unfold yz;refine h1.symm▸?_;unfold seqIndex?;have h2: ¬((k:Int) < 0):=jc.mpr (fM k);have h3:(k:Int) < n:=Int.ofNat_lt.mpr h;simp[h2,h3]
theorem A4{j k:Nat}(h:ev Γ C fe e M N=U (v,Y))(ho:ev Γ C fe o M Y=U (.ref j,J))(hi:ev Γ C fe i M J=U (.int (k:Int),B))(hj:B[j]? =U (.list I))(hk:k < I.length)(hl:I.length<=1000000):
  ex Γ C fe (n+1) (.setSub o i e) M N=U (.next,M,B.set j (.list (I.set k v))):=by
 rw[LY,h];dsimp only;refine ho.symm▸?_;dsimp only;refine hi.symm▸?_;have hc:hE B j= .none:=by unfold hE;(refine hj.symm▸?_;with_reducible rfl)
 show(match hE B j with
 |some zD=>(gO Γ zD Γ.setId).bind λf=>(C f [.ref j,.int (k:Int),v] [] B).bind λp=>if isNone p.1 then U (Fl.next,M,p.2) else .none
 |.none=>xZ B j (.int (k:Int)) v M)=_
 refine hc.symm▸?_;show(if decide (0<=(k:Int))=zG then (dX B (.ref j)).bind λI=>(yz I.length (k:Int)).bind λq=>(jV B j (I.set q v) .none).map λp=>(Fl.next,M,p.2) else .none)=_;have hq:yz I.length (k:Int)=U k:=sJ hk (BK hl);have hs:jV B j (I.set k v) .none=U (.none,B.set j (.list (I.set k v))):=if_pos (gT (by refine Eq.symm (i7)▸?_;exact hl));rw[if_pos (decide_eq_true (fM k)),dC _ hj,bO,hq,bO,hs];rfl
theorem ze{zD f:Addr}{fs:List (Nat×V)}(h:ev Γ C fe e M N=U (v,Y))(ho:ev Γ C fe o M Y=U (.ref j,J))(hi:ev Γ C fe i M J=U (iv,B))(hj:B[j]? =U (.inst zD fs))(hm:gO Γ zD Γ.setId=U f)(hc:C f [.ref j,iv,v] [] B=U (.none,aa)):
  ex Γ C fe (n+1) (.setSub o i e) M N=U (.next,M,aa):=
 vm h (vm ho (vm hi (LA (show hE B j=U zD by unfold hE;rw[hj]) (bd hm (bd hc rfl)))))
theorem FA{zD f:Addr}{fs:List (Nat×V)}(ho:ev Γ C fe o M N=U (.ref j,J))(hi:ev Γ C fe i M J=U (iv,B))(hj:B[j]? =U (.inst zD fs))(hm:gO Γ zD Γ.delId=U f)(hc:C f [.ref j,iv] [] B=U (.none,aa)):
  ex Γ C fe (n+1) (.del o i) M N=U (.next,M,aa):=
 vm ho (vm hi (bd (x:=j) rfl (bd (show hE B j=U zD by unfold hE;rw[hj]) (bd hm (bd hc rfl)))))
theorem A5{I ys:List V}(h:ev Γ C fe e M N=U (.ref j,Y))(ho:ev Γ C fe o M Y=U (.ref i,J))(hi:J[i]? =U (.list I))(hj:J[j]? =U (.list ys))(hl:ys.length<=1000000):ex Γ C fe (n+1) (.setAll o e) M N=U (.next,M,J.set i (.list ys)):=
 vm h (vm ho (bd (x:=i) rfl (bd (dC _ hi) (bd (dC _ hj) (congrArg (Option.map _) (show jV J i ys .none=U (.none,J.set i (.list ys)) from if_pos (gT hl)))))))
end
def Le(N B:H):Prop:=∀(i:Nat) (o:O),N[i]? =U o->B[i]? =U o
theorem Le.refl(N:H):Le N N:=λB B h=>h
theorem Le.trans(a:Le N J)(b:Le J B):Le N B:=λi o h=>b i o (a i o h)
theorem Le.app(N B:H):Le N (N++B):=λi o h=>fC N B h
theorem Le.snoc(a:Le N B)(x:O):Le N (B++ [x]):=a.trans (.app _ _)
theorem eZ.imp{R S:B->J->Prop}(h:∀a b,R a b->S a b){l:List B}{m:List J}(x:eZ R l m):eZ S l m:=by
 induction x with
 |nil=>exact .nil
 |cons a _ Y=>exact .cons (h _ _ a) Y
theorem eZ.snoc{m:List B}{a:Y}{b:B}(x:eZ R l m)(h:R a b):eZ R (l++ [a]) (m++ [b]):=by
 induction x with
 |nil=>exact .cons h .nil
 |cons q _ J=>exact .cons q J
theorem eZ.map_eq{l:List J}{m:List Y}(x:eZ (λa b=>b=g a) l m):m=l.map g:=by
 induction x with
 |nil=>rfl
 |cons q _ B=>rw[q,B];rfl
theorem eZ.length{l:List J}{m:List Y}(x:eZ R l m):m.length=l.length:=by
 induction x with
 |nil=>rfl
 |cons q _ B=>exact congrArg Nat.succ B
theorem eZ.get{l:List B}{m:List Y}(x:eZ R l m):∀ {k:Nat} {a:B},l[k]? =U a->∃b,m[k]? =U b/\R a b:=by
 induction x with
 |nil=>exact λh=>ns h
 |cons q _ J=>
  intro k a h;cases k with
  |zero=>obtain rfl:=aC h;exact(cU _ rfl q)
  |succ k=>exact J h
structure oO(σb:H)(it:Nat->gx)(I:List V):Prop where
 item:∀(k:Nat) v N,Le σb N->I[k]? =U v->(it k).next N=U (U (v,it (k+1)))
 done:∀N,Le σb N->(it I.length).next N=U .none
theorem mu(h:N[i]? =U (.list I))(B:I[k]? =U v):(gx.one (.ls i k)).next N=U (U (v,.one (.ls i (k+1)))):=by
 show(match (Zc.ls i k).next N with
   |some (U (v,J))=>U (U (v,gx.one J))
   |some .none=>U .none
   |.none=>.none)=_
 unfold Zc.next;dsimp only;rw[h];dsimp only;rw[B]
theorem mw(h:N[i]? =U (.list I))(B:I[k]? = .none):(gx.one (.ls i k)).next N=U .none:=by
 show(match (Zc.ls i k).next N with
   |some (U (v,J))=>U (U (v,gx.one J))
   |some .none=>U .none
   |.none=>.none)=_
 unfold Zc.next;dsimp only;rw[h];dsimp only;rw[B]
theorem fu(h:σb[i]? =U (.list I)):oO σb (λk=>.one (.ls i k)) I where
 item:=λk v N l B=>mu (l _ _ h) B
 done:=λN l=>mw (l _ _ h) (cI (aJ _))
theorem mf{I:List V}(B:I[k]? =U v):(gx.one (.vs (I.drop k))).next N=U (U (v,.one (.vs (I.drop (k+1))))):=by
 refine dS (cV.mp B) λJ e=>?_;have:I.drop k=v::I.drop (k+1):=by rw[iI J,e]
 rw[this];rfl
theorem mh{N:H}{I:List V}:(gx.one (.vs (I.drop I.length))).next N=U .none:=by
 rw[oX];rfl
theorem jg{σb:H}(I:List V):oO σb (λk=>.one (.vs (I.drop k))) I where
 item:=λk v N B J=>mf J
 done:=λN B=>mh
noncomputable def wg:List V->List V->List V
 |x::I,y::ys=>.tup [x,y]::wg I ys
 |_,_=>[]
theorem pR(B:I.length=ys.length){k:Nat}(h:(wg I ys)[k]? =U v):∃x y,I[k]? =U x/\ys[k]? =U y/\v= .tup [x,y]:=by
 induction I generalizing ys k with
 |nil=>exact ns h
 |cons x I J=>cases ys with
  |nil=>exact ns h
  |cons y ys=>cases k with
   |zero=>exact(iS x y rfl rfl ((aC h).symm))
   |succ k=>exact J (fP B) h
theorem o3(B:I.length=ys.length):(wg I ys).length=I.length:=by
 induction I generalizing ys with
 |nil=>rfl
 |cons x I J=>cases ys with
  |nil=>exact absurd B (eX _)
  |cons y ys=>exact congrArg Nat.succ (J (fP B))
theorem xc(h:σb[i]? =U (.list I))(h':σb[j]? =U (.list ys))(B:I.length=ys.length):oO σb (λk=>.zip i j k) (wg I ys) where
 item:=λk v N l J=>by
  refine ga (pR B J) λx y hx hy q=>?_;clear J;subst q;show((dX N (.ref i)).bind λI=>(dX N (.ref j)).bind λys=>match I[k]? with
  |some v=>match ys[k]? with
   |some w=>U (U (V.tup [v,w],gx.zip i j (k+1)))
   |.none=>.none
  |.none=>U .none)=_
  rw[dC _ (l _ _ h),bO,dC _ (l _ _ h'),bO,hx,hy]
 done:=λN l=>by
  show((dX N (.ref i)).bind λY=>(dX N (.ref j)).bind λaa=>match Y[(wg I ys).length]? with
  |some v=>match aa[(wg I ys).length]? with
   |some w=>U (U (V.tup [v,w],gx.zip i j ((wg I ys).length+1)))
   |.none=>.none
  |.none=>U .none)=_
  rw[dC _ (l _ _ h),bO,dC _ (l _ _ h'),bO,o3 B,cI (aJ _)]
section
variable{Γ:G}{C:Cf}{n fe:Nat}{t:T}{iter:It}{M:aW}{N σb:H}{itr:Nat->gx}{I:List V}
theorem mz(h0:gG (ev Γ C n) iter M N=U (itr 0,σb))(au:lM t (itr 0)=zG)(hx:I.length < 1999)(aq:oO σb itr I)(P:aW->Prop)(ab:V->aW->aW)(p:V->Bool)(G:V->V->H->Prop)
  (hb:∀v∈I,∀N M,gc t v N M=U (ab v M)) (ar:∀v∈I,∀M,P M->P (ab v M)) (hp:P (own.map (λam=>(am,.none))++M))
  (step:∀v∈I,∀M N,Le σb N->P M->∃ae,k7 (ev Γ C n) ifs (ab v M) N=U (p v,ae)/\Le N ae/\(p v=zG->∃w ag,ev Γ C n elt (ab v M) ae=U (w,ag)/\Le ae ag/\G v w ag))
  (mono:∀v w N B,Le N B->G v w N->G v w B):
  ∃ws B,ev Γ C (n+1) (.comp elt [.mk t iter ifs] own) M N=U (.ref B.length,B++ [.list ws])/\Le σb B/\eZ (λv w=>G v w B) (I.filter p) ws:=by
 have go:∀(m j:Nat) (M:aW) (acc:List V) (N:H),P M->Le σb N->j+m=I.length->acc.length<=j->eZ (λv w=>G v w N) ((I.take j).filter p) acc->
   ∃Y J B,(∀aa,gr (λN it=>it.next N) (iK (ev Γ C n) elt t ifs) (aa+m+1) (itr j) M acc N=U (Y,J,B))/\Le σb B/\J.length<=I.length/\eZ (λv w=>G v w B) (I.filter p) J:=by
  intro m;induction m with
  |zero=>
   intro j M acc N ak af hj ha aj;obtain rfl:=(show j=I.length from hj);refine(Hn M acc N (λaa=>?_) af ha (by rw[gd] at aj;exact aj));show(match (itr I.length).next N with| Option.none=>Option.none| some Option.none=>U (M,acc,N)| some (U (v,al))=>(match iK (ev Γ C n) elt t ifs v M acc N with
     |some (Y,J,B)=>gr (λN it=>it.next N) (iK (ev Γ C n) elt t ifs) (aa+0) al Y J B
     |Option.none=>Option.none))=_
   rw[aq.done N af]
  |succ m ih=>
   intro j M acc N ak af hj ha aj;have ao:j < I.length:=jL hj;have hg:I[j]? =U I[j]:=aM ao;have ah:=gY ao;refine fZ (step _ ah M N af ak) λae e1 l1 e2=>?_;have tk:I.take (j+1)=I.take j++ [I[j]]:=by rw[fT,hg];rfl
   have ap:∀aa,gr (λN it=>it.next N) (iK (ev Γ C n) elt t ifs) (aa+(m+1)+1) (itr j) M acc N=(match iK (ev Γ C n) elt t ifs I[j] M acc N with
     |some (Y,J,B)=>gr (λN it=>it.next N) (iK (ev Γ C n) elt t ifs) (aa+m+1) (itr (j+1)) Y J B
     |.none=>.none):=λaa=>by
    show(match (itr j).next N with| Option.none=>Option.none| some Option.none=>U (M,acc,N)| some (U (v,al))=>(match iK (ev Γ C n) elt t ifs v M acc N with
     |some (Y,J,B)=>gr (λN it=>it.next N) (iK (ev Γ C n) elt t ifs) (aa+m+1) al Y J B
     |Option.none=>Option.none))=_
    rw[aq.item j _ N af hg]
   cases ai:p I[j] with
   |false=>
    have ht:iK (ev Γ C n) elt t ifs I[j] M acc N=U (ab I[j] M,acc,ae):=by
     unfold iK;rw[hb _ ah];dsimp only;rw[e1,ai]
    refine Ep (ih (j+1) (ab I[j] M) acc ae (ar _ ah _ ak) (af.trans l1) (jS hj) (dT (by assumption)) ?_) λY J B H=>?_
    ·rw[tk,mK,fB (by rw[ai];exact aU),List.filter_nil,cF];exact aj.imp λv w=>mono v w _ _ l1
    ·exact(Ey Y J B (λaa=>by rw[ap,ht];exact H.1 aa) H.2)
   |true=>
    refine ga (e2 ai) λw ag e3 l2 av=>?_;have ht:iK (ev Γ C n) elt t ifs I[j] M acc N=U (ab I[j] M,acc++ [w],ag):=by
     unfold iK;rw[hb _ ah];dsimp only;rw[e1,ai];dsimp only;rw[e3];exact if_pos (gT (aA (aA ha (bA (jL hj))) (aA (bA hx) (by decide))))
    refine Ep (ih (j+1) (ab I[j] M) (acc++ [w]) ag (ar _ ah _ ak) ((af.trans l1).trans l2) (jS hj) (by rw[aF];exact cH ha) ?_) λY J B H=>?_
    ·rw[tk,mK,dK ai,List.filter_nil];exact(aj.imp λv w=>mono v w _ _ (l1.trans l2)).snoc av
    ·exact(Ey Y J B (λaa=>by rw[ap,ht];exact H.1 aa) H.2)
 refine Ep (go I.length 0 (own.map (λam=>(am,.none))++M) [] σb hp (.refl _) (eW _) (aJ _) .nil) λY ws B H=>(iS ws B ?_ H.2.1 H.2.2.2);rw[yH,h0];dsimp only;rw[if_pos au,qX];have hf:=H.1 (1999 - I.length);rw[show 1999 - I.length+I.length+1=dW by show _=2000;exact congrArg Nat.succ (Nat.sub_add_cancel (bA hx))] at hf;rw[hf];exact g6 _ (aA H.2.2.1 (aA (bA (by assumption)) (by decide)))
theorem hB(h0:gG (ev Γ C n) iter M N=U (itr 0,σb))(ae:lM t (itr 0)=zG)(hx:I.length < 1999)(ag:oO σb itr I)(P:aW->Prop)(Y:V->aW->aW)(p:V->Bool)(g:V->V)
  (hb:∀v∈I,∀N M,gc t v N M=U (Y v M)) (ah:∀v∈I,∀M,P M->P (Y v M)) (hp:P (own.map (λB=>(B,.none))++M))
  (step:∀v∈I,∀M N,Le σb N->P M->∃J,k7 (ev Γ C n) ifs (Y v M) N=U (p v,J)/\Le N J/\(p v=zG->∃ab,ev Γ C n elt (Y v M) J=U (g v,ab)/\Le J ab)):
  ∃aa,ev Γ C (n+1) (.comp elt [.mk t iter ifs] own) M N=U (.ref aa.length,aa++ [.list ((I.filter p).map g)])/\Le σb aa:=by
 refine ga (mz (elt:=elt) (ifs:=ifs) h0 ae hx ag P Y p (λv w B=>w=g v) hb ah hp (λv hv M N l af=>?_) λB B B B B h=>h) λws aa e l ai=>?_
 ·refine fZ (step v hv M N l af) λJ e1 l1 e2=>(g8 J e1 l1 (λh=>?_));exact cJ (e2 h) λab e3 l3=>(iS _ ab e3 l3 rfl)
 ·rw[ai.map_eq] at e;exact(cU aa e l)
def sX(Γ:G)(C:Cf)(fe n:Nat)(t:T)(b:List S):V->aW->H->Option (Fl×aW×H):=λv M N=>match gc t v N M with
     |some M=>ic Γ C fe n b M N
     |.none=>.none
theorem EC(h0:gG (ev Γ C fe) iter M N=U (itr 0,σb))(ah:lM t (itr 0)=zG)(hx:I.length < 1999)(zE:Nat->aW->H->Prop)(R:V->aW->H->Prop)(am:zE 0 M σb)
  (ae:∀k v M N,I[k]? =U v->zE k M N->(itr k).next N=U (U (v,itr (k+1)))) (ao:∀M N,zE I.length M N->(itr I.length).next N=U .none)
  (step:∀k v M N,I[k]? =U v->zE k M N->∃aa,gc t v N M=U aa/\∃fl B J,ic Γ C fe n b aa N=U (fl,B,J)/\((fl= .next/\zE (k+1) B J)\/∃w,fl= .ret w/\R w B J)):
  ∃fl B J,ex Γ C fe (n+1) (.for_ t iter b) M N=U (fl,B,J)/\((fl= .next/\zE I.length B J)\/∃w,fl= .ret w/\R w B J):=by
 have go:∀(m j:Nat) (M:aW) (N:H),j+m=I.length->zE j M N->∃fl B J,(∀Y,jM (λN it=>it.next N) (sX Γ C fe n t b) (Y+m+1) (itr j) M N=U (fl,B,J))/\((fl= .next/\zE I.length B J)\/∃w,fl= .ret w/\R w B J):=by
  intro m;induction m with
  |zero=>
   intro j M N hj hi;obtain rfl:=(show j=I.length from hj);exact(Ey .next M N (λY=>(by
     rw[qy];rw[(ao M N hi)])) (.inl ⟨rfl,hi⟩))
  |succ m ih=>
   intro j M N hj hi;have ai:j < I.length:=jL hj;have hg:I[j]? =U I[j]:=aM ai;refine cJ (step j _ M N hg hi) λaa e1 e2=>BX e2 λfl B J e2 e3=>?_;have ab:sX Γ C fe n t b I[j] M N=U (fl,B,J):=by unfold sX;rw[e1];exact e2
   rcases e3 with⟨q,aj⟩| ⟨w,q,hr⟩
   ·subst q;exact Ep (ih (j+1) B J (jS hj) aj) λak af ag H=>(Ey ak af ag (λY=>(w1 (ae j _ M N hg hi) ab).trans (H.1 Y)) H.2)
   ·subst q;refine(Ey (.ret w) B J (λY=>?_) (.inr (cU w rfl hr)));show(match (itr j).next N with| Option.none=>Option.none| some Option.none=>U (Fl.next,M,N)| some (U (v,al))=>(match sX Γ C fe n t b v M N with
     |some (fl,B,J)=>match fl with
      |.next=>jM (λN it=>it.next N) (sX Γ C fe n t b) (Y+m+1) al B J
      |.brk=>U (.next,B,J)
      |.ret v=>U (.ret v,B,J)
     |Option.none=>Option.none))=_
    rw[ae j _ M N hg hi];dsimp only;rw[ab]
 refine BX (go I.length 0 M σb (eW _) am) λfl B J H hr=>(Ey fl B J ?_ hr);rw[Cp,h0];dsimp only;rw[if_pos ah];have hf:=H (1999 - I.length);rw[show 1999 - I.length+I.length+1=dW by show _=2000;exact congrArg Nat.succ (Nat.sub_add_cancel (bA hx))] at hf;exact hf
theorem hV(h0:gG (ev Γ C fe) iter M N=U (itr 0,σb))(ab:lM t (itr 0)=zG)(hx:I.length < 1999)(zE:Nat->aW->H->Prop)(ae:zE 0 M σb)
  (af:∀k v M N,I[k]? =U v->zE k M N->(itr k).next N=U (U (v,itr (k+1)))) (ag:∀M N,zE I.length M N->(itr I.length).next N=U .none)
  (step:∀k v M N,I[k]? =U v->zE k M N->∃Y,gc t v N M=U Y/\∃B J,ic Γ C fe n b Y N=U (.next,B,J)/\zE (k+1) B J):
  ∃B J,ex Γ C fe (n+1) (.for_ t iter b) M N=U (.next,B,J)/\zE I.length B J:=by
 refine BX (EC (b:=b) (n:=n) (R:=λaa aa aa=>False) h0 ab hx zE ae af ag λk v M N h hi=>?_) λfl B J e h=>?_
 ·exact cJ (step k v M N h hi) λY e1 e2=>(cU Y e1 (je e2 λB J e2 e3=>(Ey .next B J e2 (.inl ⟨rfl,e3⟩))))
 ·rcases h with⟨q,h⟩| ⟨w,q,h⟩
  ·subst q;exact(rO B J e h)
  ·exact h.elim
theorem kj(h:J M N=U (zH,B)):kl J body (k+1) M N=U (.next,M,B):=by
 rw[vx];rw[h]
theorem mZ(h:B M N=U (zG,J))(hb:body M J=U (.next,Y,aa)):kl B body (k+1) M N=kl B body k Y aa:=by
 rw[vx];rw[h];dsimp only;rw[hb]
end
end MI.Lake
namespace MI.Lake.L1
noncomputable def JY(B:Txt)(n J:Int)(rP:List Int)(b:Int):List (Nat×V):= [(30,.str B),(33,.int n),(34,.int J),(36,.tup [.tup (rP.map .int),.int b]),(37,.bool (decide (rP.length<=1)))]
noncomputable def P3:List Txt:= [[],[32],[9]]
def kz:List Txt:= []::(P3.drop 1++(P3.drop 1).flatMap λa=>(P3.drop 1).flatMap λb=>(a++b)::((P3.drop 1).flatMap λc=>(a++b++c)::(P3.drop 1).map λd=>a++b++c++d))
noncomputable def KR(rP:List Int)(b:Nat):List Int:=let c:=if b < rP.length then rP else rP++List.replicate (b - rP.length+1) 0;c.set b (c.getD b 0+1)
noncomputable def GQ:Txt->List Int->Nat->List Int×Nat
 |[],rP,b=>(rP,b)
 |c::r,rP,b=>if c==32 then GQ r rP (b+1) else GQ r (KR rP b) 0
def wO(l B:Txt):O:= .inst 248 (JY B (l.length:Int) ((l.filter (λJ=>J==9)).length:Int) (GQ l [] 0).1 ((GQ l [] 0).2:Int))
theorem td{f g:B->J->aa}{L:List B}{zB:List J}(h:ig (λa=>ig (f a) zB) L=L.map λa=>zB.map (g a)){x:B}{y:J}(Y:x∈L)(hy:y∈zB):f x y=g x y:=hN (hN h x Y) y hy
noncomputable def gR(k:Nat):Txt:= [[97,65,98,66].getD k 0]
noncomputable def z8(d:Nat):Txt:=match d with
 | 0=>[61]
 | 1=>[43,61]
 |_=>[45,61]
noncomputable def zx(m:Nat):Txt:=match m with
 | 0=>[]
 | 1=>[124]
 |_=>[42]
def At(x:Nat×Nat×Nat):Txt:=gR x.1++z8 x.2.1++zx x.2.2
noncomputable def lm:List (Nat×Nat×Nat):=(List.range 4).flatMap λk=>(List.range 3).flatMap λd=>(List.range 3).map λm=>(k,d,m)
def mN(l:Txt)(x:Nat×Nat×Nat):Txt:=l++At x++ [32,9]
noncomputable def mG:Txt->Int->Int->Int
 |[],B,c=>c
 |x::r,B,c=>mG r B (if x==32 then c+1 else (Int.fdiv c B+1)*B)
def fN(a b:Txt):Bool:=(List.range 5).all λ(k:Nat)=>decide (mG a ((k:Int)+1) 0 < mG b ((k:Int)+1) 0)
noncomputable def oh:Txt->Nat->Nat
 |[],c=>c
 |x::r,c=>if x==32 then oh r (c+1) else Nat.max c (oh r 0)
noncomputable def jz(p:Int×Int×Int):V:= .tup [.int p.1,.int p.2.1,.int p.2.2]
def uM(a b:Txt):List (Int×Int×Int):=((List.range (Nat.max (oh a 0) (oh b 0)+1)).map λ(k:Nat)=>((k:Int)+1,mG a ((k:Int)+1) 0,mG b ((k:Int)+1) 0)).filter λp=>decide (p.2.2<=p.2.1)
noncomputable def K8(o:Option (V×H)):Option (V×H):=o.map λy=>(y.1,y.2.take 3)
def Ea(k:Nat):Prop:=∀r s,ig (λa=>ig (λb=>(gg Γ 60 60 20 238 [.ref 0,.ref 1] [] [wO a r,wO b s],K8 (gg Γ 60 60 20 245 [.ref 0,.ref 1] [] [wO a r,wO b s]))) kz) ((kz.drop (4*k)).take 4)=((kz.drop (4*k)).take 4).map λa=>kz.map λb=>(U (V.bool (fN a b),[wO a r,wO b s]),U (V.ref 2,[wO a r,wO b s,O.list ((uM a b).map jz)]))
noncomputable def JW(c:Nat):V:= .str [c]
noncomputable def Jd:List S:=match ez.body.getD 4 .bad with
 |.for_ _ _ b=>b
 |_=>[]
noncomputable def Hl(s:Txt):aW:= [(0,U (.ref 0)),(29,U (.str s)),(38,U (.str [32])),(39,U (.str [9])),(31,U (.ref 1)),(32,U (.int 0)),(33,U (.int 0)),(34,U (.int 0))]
def KD(s:Txt)(its:List V):Option (Fl×aW×H):=jM (λN B=>B.next N) (sX Γ (gg Γ 60 60 19) 60 54 (.name 35) Jd) dW (.one (.vs its)) (Hl s) [.inst 248 [(30,.str s)],.list []]
def KG(o:Option (Fl×aW×H)):Option (Fl×Fl×Option O):=o.bind λx=>(ic Γ (gg Γ 60 60 19) 60 55 (ez.body.drop 5) x.2.1 x.2.2).map λy=>(x.1,y.1,y.2.2.head?)
def KC:Prop:=∀s r,ig (λl=>ig (λc=>KG (KD s (l.map JW++JW c::r))) [97,65,98,66]) kz=kz.map λl=>[97,65,98,66].map λB=>U (Fl.next,Fl.next,U (wO l s))
theorem Jc:KC:=by
 intro s r;kernel_rfl
theorem Kq:Ea 0:=by
 intro r s;kernel_rfl
theorem Kp:Ea 1:=by
 intro r s;kernel_rfl
theorem Ko:Ea 2:=by
 intro r s;kernel_rfl
theorem Kn:Ea 3:=by
 intro r s;kernel_rfl
theorem Km:Ea 4:=by
 intro r s;kernel_rfl
theorem Kl:Ea 5:=by
 intro r s;kernel_rfl
theorem Kk:Ea 6:=by
 intro r s;kernel_rfl
theorem Kj:Ea 7:=by
 intro r s;kernel_rfl
theorem G5:∀k < 8,Ea k:=j0 (j0 (j0 (j0 (j0 (j0 (j0 (j0 Ec Kq) Kp) Ko) Kn) Km) Kl) Kk) Kj
theorem Jr{B:Type}{L:List B}{x:B}{n:Nat}(h:x∈L)(hl:L.length<=4*n):∃k < n,x∈(L.drop (4*k)).take 4:=by
 refine dS (fA h) λi J=>?_;have Y:=aZ J;refine⟨i / 4,by exact Nat.div_lt_of_lt_mul (aT Y hl),bF (i:=i % 4) ?_⟩;rw[List.getElem?_take_of_lt (Nat.mod_lt i (by decide)),List.getElem?_drop,show 4*(i / 4)+i % 4=i by exact Nat.div_add_mod i 4];exact J
theorem BH{a b:Txt}(B:a∈kz)(J:b∈kz)(r s:Txt):gg Γ 60 60 20 238 [.ref 0,.ref 1] [] [wO a r,wO b s]=U (.bool (fN a b),[wO a r,wO b s])/\K8 (gg Γ 60 60 20 245 [.ref 0,.ref 1] [] [wO a r,wO b s])=U (V.ref 2,[wO a r,wO b s,O.list ((uM a b).map jz)]):=
 cJ (Jr B (n:=8) (by decide)) λk Y hx=>Prod.ext_iff.mp (td (G5 k Y r s) hx J)
set_option tactic.hygienic true in
theorem yD:∀(a:List S) {M:aW} {N:H},ic Γ C fe (n+1+a.length) a M N=U (.next,B,J)->ic Γ C fe (n+1+a.length) (a++b) M N=ic Γ C fe (n+1) b B J:=by
 intro a;induction a with
 |nil=>
  exact λh=>by
   replace h:ic Γ C fe (n+1) [] _ _=U (.next,B,J):=h;replace h:=eF▸h;cases h;rfl
 |cons s a Y=>
  exact λh=>by
   rename_i M N
   (replace h:=(fy)▸h;rw[<-gQ,qN] at h)
   (refine Eq.symm (fy)▸?_;rw[<-gQ];refine Eq.symm (List.cons_append)▸?_;rw[qN])
   cases q:ex Γ C fe (n+1+a.length) s M N with
   |none=>replace h:=q▸h;exact ns h
   |some x=>
    obtain⟨fl,vs,aa⟩:=x;replace h:=q▸h;cases fl with
    |next=>exact Y h
    |_=>exact nomatch h
theorem Ew(hl:l∈kz)(hc:c∈ [97,65,98,66])(ha:n5 (l++c::r)=zG):∃Y,gg Γ 60 60 20 203 [.ref 0,.str (l++c::r)] [] [.inst 248 []]=U (.none,wO l (l++c::r)::Y):=by
 have e:=td (Jc (l++c::r) (r.map JW)) hl hc;refine bi e λx h1 h2=>mi h2 λy h3 J=>?_;obtain⟨fl,vs,Y⟩:=x;obtain⟨ab,aa,B⟩:=y;clear h2;obtain rfl:=congrArg Prod.fst J;obtain rfl:=congrArg (λz=>z.2.1) J;have h5:B.head? =U (wO l (l++c::r)):=congrArg (λz=>z.2.2) J;cases B with
 |nil=>exact ns h5
 |cons o B=>
  clear J;obtain rfl:=aC h5;refine⟨B,?_⟩;have ef:ex Γ (gg Γ 60 60 19) 60 55 (.for_ (.name 35) (.plain (.attr (.var 0) 30)) Jd) (Hl (l++c::r)) [.inst 248 [(30,.str (l++c::r))],.list []]=U (.next,vs,Y):=by
   (rw[Cp];refine Eq.symm (show gG (ev Γ (gg Γ 60 60 19) 60) (.plain (.attr (.var 0) 30)) (Hl (l++c::r)) [.inst 248 [(30,.str (l++c::r))],.list []]=U (.one (.vs ((l++c::r).map JW)),[.inst 248 [(30,.str (l++c::r))],.list []]) from congrArg (Option.map _) (if_pos ha))▸?_)
   refine Eq.symm (dP)▸?_;exact h1
  have ee:ic Γ (gg Γ 60 60 19) 60 60 ez.body [(0,U (.ref 0)),(29,U (.str (l++c::r)))] [.inst 248 []]=U (.next,aa,wO l (l++c::r)::B):=
   (yD (ez.body.take 4) rfl).trans (bR ef h3)
  show f6 Γ (gg Γ 60 60 19) 60 60 ez [.ref 0,.str (l++c::r)] [] [.inst 248 []]=_;unfold f6;refine Eq.symm (show hX Γ ez [.ref 0,.str (l++c::r)] []=U [(0,U (.ref 0)),(29,U (.str (l++c::r)))] from rfl)▸?_;dsimp only;exact ee.symm▸rfl
noncomputable def T5:List Int:= [1,2,3,4,5]
theorem E3:ig (λl=>ig (λk=>gg Γ 60 60 20 310 [.str l,.int k] [] []) T5) kz=kz.map λl=>T5.map λk=>U (V.int (mG l k 0),[]):=by kernel_rfl
noncomputable def C9(d:Nat):Int:=match d with
 | 0=>22
 | 1=>36
 |_=>37
noncomputable def pB(m:Nat):List Int:=match m with
 | 0=>[]
 | 1=>[18]
 |_=>[16]
def r4(x:Nat×Nat×Nat):List Int:=((256+x.1:Nat):Int)::C9 x.2.1::(pB x.2.2++ [0])
noncomputable def Kc(o:Option (V×H)):Option (Option O):=o.map λy=>match y.1 with
 |.ref k=>y.2[k]?
 |_=>.none
theorem EY:ig (λx=>Kc (gg Γ 60 60 20 286 [.str (At x)] [] [])) lm=lm.map λx=>U (U (O.list ((r4 x).map V.int))):=by kernel_rfl
noncomputable abbrev P:=Txt×Txt
noncomputable def pV(p:P):V:= .tup [.str p.1,.str p.2]
noncomputable def tO(h:Nat):O:= .inst 182 [(7,.ref h)]
noncomputable def rq(i:Nat):Txt:= [48+i]
noncomputable def lI:List Txt->Txt
 |[]=>[]
 |x::r=>match r with
  |[]=>x
  |_=>x++([59,32]++lI r)
def w0(m:Bool)(i:Nat):List Txt:=(if m then [[42]] else [])++ [[97,116,45,61,34]++(rq i++ [34]),[98,121,45]]
def fX(m:Bool)(i:Nat):Txt:=lI (w0 m i)
def VL:List Txt:= [45]::((List.range 5).map rq++((List.range 5).map (fX zH)++(List.range 5).map (fX zG)))
def PL:List P:=(List.range 4).flatMap λk=>VL.map λv=>(gR k,v)
def AL:List (Txt×V×List (Nat×V)×List Txt):=(PL.map λp=>(p.1,.str p.2,[],[p.2]))++(List.range 4).flatMap λk=>(List.range 5).flatMap λi=>[zH,zG].map λm=>(gR k,if m then .str [42] else .none,[(79,.str (rq i)),(80,.none)],w0 m i)
noncomputable abbrev GA(a b:E):E:= .tup [.callM (.var 0) 10 [a] [(11,.lit (.bool zG))],b]
noncomputable abbrev A1:E:= .callM (.lit (.str [59,32])) 27 [.var 26] []
def K1(I:List V)(a:Txt×V×List (Nat×V)×List Txt):Option (Fl×Option V×H×Option (List V×H)):=(hX Γ dI [.ref 0,.str a.1,a.2.1] a.2.2.1).bind λvs=>(ic Γ (gg Γ 60 60 19) 60 60 (dI.body.take 3) vs [tO 1,.list I]).map λy=>(y.1,y.2.1.get 0,y.2.2,dY (ev Γ (gg Γ 60 60 19) 59) [GA (.var 23) A1] y.2.1 y.2.2)
def v5(I:List V)(B:List Txt):H:= [tO 1,O.list I,O.list (B.map .str)]
theorem tC(ρ:Nat->Option Nat)(f:B->V)(h:∀x,V.ren ρ (f x)=U (f x))(I:List B):jW ρ (I.map f)=U (I.map f):=by
 induction I with
 |nil=>rfl
 |cons x r J=>
  show(V.ren ρ (f x)).bind (λY=>(jW ρ (r.map f)).map (λaa=>Y::aa))=_;rw[h x,J];rfl
theorem p8(ρ:Nat->Option Nat){B:Type}(f:B->V)(h:∀x,V.ren ρ (f x)=U (f x))(I:List B):O.ren ρ (.list (I.map f))=U (.list (I.map f)):=congrArg (Option.map O.list) (tC ρ f h I)
theorem mW(l Y:Txt)(ρ:Nat->Option Nat):O.ren ρ (wO l Y)=U (wO l Y):=by
 show(((U (V.str Y)).bind λB=>((U (V.int (l.length:Int))).bind λB=>((U (V.int ((l.filter (λJ=>J==9)).length:Int))).bind λB=>(((((jW ρ ((GQ l [] 0).1.map V.int)).map V.tup).bind λB=>(U [V.int ((GQ l [] 0).2:Int)]).map (λJ=>B::J)).map V.tup).bind λB=>(U [((37:Nat),V.bool (decide ((GQ l [] 0).1.length<=1)))]).map ((36,B):: ·)).map ((34,B):: ·)).map ((33,B):: ·)).map ((30,B):: ·)).map (O.inst 248))=_;rw[tC ρ V.int (λJ=>rfl)];rfl
section
variable{N:H}
theorem lV(nd:Y.Nodup)(len:Y.length=σ₀.length)(h:∀(k:Nat) B,σ₀[k]? =U B->(∃j:Nat,Y[k]? =U j/\N[j]? =U B)/\∀ρ,O.ren ρ B=U B):nh N N σ₀ σ₀ Y []:=by
 refine⟨nd,λj hj=>?_,len,λk B e=>(h k B e).1.elim λj q=>(iS j B q.1 ((h k B e).2 _) q.2),.nil,λaa h=>(nomatch h),rfl,λk j B e1 J=>?_,λaa aa aa=>rfl,λm i e=>(nomatch e)⟩
 ·refine dS (fA hj) λk hk=>?_;refine cJ (h k _ (aM (len▸aZ hk))).1 λj' e1 J=>?_
  (refine si (hk.symm.trans e1) λq3=>?_;subst q3)
  exact aZ J
 ·refine cJ (h k B J).1 λj' q1 q2=>?_
  (refine si (e1.symm.trans q1) λq5=>?_;subst q5)
  exact(cU B ((h k B J).2 _) q2)
theorem qK(F:nh N N σ₀ σ₀ af [])(hr:∀(j:Nat) o,σ₀[j]? =U o->J[j]? =U o/\∀ρ,O.ren ρ o=U o)(hk:σ₀.length<=k)(hx:J[k]? =U x)(aa:∀ρ,O.ren ρ x=U x):nh N (N++ [x]) σ₀ J af [k]:=by
 refine⟨F.nd,F.lt,F.len,F.pre,by simp,λi hi=>aH.mp hi▸hk,aF,λm j ag Y e2=>?_,λj hj ah=>bM hj,λm i e=>?_⟩
 ·have hm:m < σ₀.length:=F.len▸aZ Y;have B:=hr m _ (aM hm)
  (refine si (B.1.symm.trans e2) λq7=>?_;subst q7)
  refine je (F.pre m _ (aM hm)) λj' o q1 q2=>?_
  (refine si (Y.symm.trans q1) λq9=>?_;subst q9)
  (refine si ((B.2 _).symm.trans q2.1) λab=>?_;subst ab)
  exact(cU _ (B.2 _) (fC N _ q2.2))
 ·cases m with
  |zero=>(refine si e λae=>?_;subst ae);exact(iS x x hx (aa _) (bC N x))
  |succ m=>exact nomatch e
theorem yf(h:n<=k):V.ren (kL J [k] n B) (.ref k)=U (.ref B):=by
 show(kL J [k] n B k).map V.ref=_;have e:se k [k]=U 0:=if_pos (beq_self_eq_true k);have Y:kL J [k] n B k=(se k [k]).map (λaa=>B+aa):=if_neg (bP.mpr h);rw[Y,e];rfl
noncomputable abbrev TL:=xM (gg Γ 60 60 20)
theorem y4(e:gg Γ 60 60 20 f as [] []=U (v,[]))(B:∀ρ,jW ρ as=U as)(J:∀ρ,V.ren ρ v=U v):TL f as [] N v N:=
 ⟨λY h=>(nomatch h),[],[],as,v,[],[],e,lV .nil rfl (λk o e=>nomatch e),B _,J _⟩
theorem wq(e:gg Γ 60 60 20 f as [] []=U (.ref k,B))(hx:B[k]? =U x)(ha:∀ρ,jW ρ as=U as)(Y:∀ρ,O.ren ρ x=U x):TL f as [] N (.ref N.length) (N++ [x]):=
 ⟨λJ h=>(nomatch h),[],B,as,.ref k,[],[k],e,qK (lV .nil rfl (λk o e=>nomatch e)) (λJ J h=>nomatch h) (cK _) hx Y,ha _,yf (cK _)⟩
theorem uQ(B:i≠j)(h:N[i]? =U x)(h':N[j]? =U y)(J:∀ρ,O.ren ρ x=U x)(Y:∀ρ,O.ren ρ y=U y):nh N N [x,y] [x,y] [i,j] []:=by
 exact lV (by simp[B]) rfl (l2 ⟨(cU i rfl h),J⟩ ⟨(cU j rfl h'),Y⟩)
theorem y0(hl:l∈kz)(hc:c∈ [97,65,98,66])(ha:n5 (l++c::r)=zG)(h:N[i]? =U (.inst 248 [])):TL 203 [.ref i,.str (l++c::r)] [] N .none (N.set i (wO l (l++c::r))):=by
 refine dS (Ew hl hc ha) λag e=>?_;have B:=aZ h;refine⟨λaf h=>(nomatch h),_,_,[.ref 0,.str (l++c::r)],.none,[i],[],e,⟨by simp,by simpa using B,rfl,?_,.nil,λaf h=>(by cases h),by simp,?_,?_,λm i h=>(by simp at h)⟩,rfl,rfl⟩
 ·intro k Y e;cases k with
  |zero=>(refine si e λaa=>?_;subst aa);exact(iS i _ rfl rfl h)
  |succ k=>simp at e
 ·intro k j Y J e2;cases k with
  |zero=>(refine si J λab=>?_;subst ab);(refine si e2 λae=>?_;subst ae);exact(cU _ (mW l _ _) (by rw[eY B]))
  |succ k=>simp at J
 ·intro j hj hn;rw[bU (by intro e;exact hn (by simp[e]))]
theorem AH(J:l∈kz)(Y:m∈kz)(hn:i≠j)(h:N[i]? =U (wO l r))(h':N[j]? =U (wO m s)):TL 245 [.ref i,.ref j] [] N (.ref N.length) (N++ [.list ((uM l m).map jz)]):=by
 refine mi (BH J Y r s).2 λy e q=>?_;obtain⟨v,B⟩:=y;have q1:v= .ref 2:=congrArg Prod.fst q;subst q1;have q2:B.take 3= [wO l r,wO m s,O.list ((uM l m).map jz)]:=congrArg Prod.snd q;have g:∀k < 3,B[k]? = [wO l r,wO m s,O.list ((uM l m).map jz)][k]? :=λk hk=>by rw[<-q2,List.getElem?_take_of_lt hk]
 refine⟨λaa h=>(nomatch h),_,_,[.ref 0,.ref 1],.ref 2,[i,j],[2],e,qK (uQ hn h h' (mW l r) (mW m s)) (l2 ⟨g 0 (by decide),mW l r⟩ ⟨g 1 (by decide),mW m s⟩) (by decide:2<=2) (g 2 (by decide)) (λρ=>p8 ρ jz (λaa=>rfl) _),rfl,yf (aJ 2)⟩
theorem AJ{L:List P}(ha:a∈AL)(hn:t≠h)(ht:N[t]? =U (tO h))(hh:N[h]? =U (.list (L.map pV)))(hl:L.length < 1000000):TL 179 [.ref t,.str a.1,a.2.1] a.2.2.1 N .none (N.set h (.list (L.map pV++ [pV (a.1,lI a.2.2.2)]))):=by
 have hf:(∀p∈a.2.2.1,∀ρ,V.ren ρ p.2=U p.2)/\∀ρ,V.ren ρ a.2.1=U a.2.1:=by
  rcases aO.mp ha with h| h
  ·refine mm h λp B q=>?_;clear ha;subst q;exact⟨λB h=>(nomatch h),λρ=>rfl⟩
  ·refine cJ (eJ.mp h) λk B h=>cJ (eJ.mp h) λi B h=>mm h λm B q=>?_;subst q;refine⟨λp hp ρ=>?_,λρ=>?_⟩
   ·rcases aX.mp hp with rfl| hp
    ·rfl
    ·obtain rfl:=aH.mp hp;rfl
   ·clear ha;cases m<;>rfl
 have hr:∀ρ,jW ρ (L.map pV++ [pV (a.1,lI a.2.2.2)])=U (L.map pV++ [pV (a.1,lI a.2.2.2)]):=λρ=>by
  have:=tC ρ pV (λB=>rfl) (L++ [(a.1,lI a.2.2.2)]);rwa [dP] at this
 obtain⟨aa,e⟩:∃aa,gg Γ 60 60 20 179 [.ref 0,.str a.1,a.2.1] a.2.2.1 [tO 1,.list (L.map pV)]=U (.none,tO 1:: .list (L.map pV++ [pV (a.1,lI a.2.2.2)])::aa):=by
  refine bi (hN ((by kernel_rfl:ig (K1 (L.map pV)) AL=AL.map λa=>U (Fl.next,U (V.ref 0),v5 (L.map pV) a.2.2.2,U ([pV (a.1,lI a.2.2.2)],v5 (L.map pV) a.2.2.2)))) a ha) λvs e1 e2=>mi e2 λy e3 q=>?_;obtain⟨fl,Y,aa⟩:=y;obtain rfl:=congrArg Prod.fst q;have g0:Y.get 0=U (.ref 0):=congrArg (λz=>z.2.1) q;cases (congrArg (λz=>z.2.2.1) q:aa=v5 (L.map pV) a.2.2.2);have e4:dY (ev Γ (gg Γ 60 60 19) 59) [GA (.var 23) A1] Y (v5 (L.map pV) a.2.2.2)=U ([pV (a.1,lI a.2.2.2)],v5 (L.map pV) a.2.2.2):=congrArg (λz=>z.2.2.2) q;refine⟨[O.list (a.2.2.2.map .str)],?_⟩;have e5:ex Γ (gg Γ 60 60 19) 60 56 (.expr (.callM (.attr (.var 0) 7) 16 [GA (.var 23) A1] [])) Y (v5 (L.map pV) a.2.2.2)=U (.next,Y,tO 1:: .list (L.map pV++ [pV (a.1,lI a.2.2.2)]):: [O.list (a.2.2.2.map .str)]):=
   gl (gm (wN (aV g0) rfl) (lP Γ (v5 (L.map pV) a.2.2.2) rfl rfl) e4 gS (kU Γ _ (v5 (L.map pV) a.2.2.2) rfl (by rw[aD];exact hl)))
  have ee:ic Γ (gg Γ 60 60 19) 60 60 dI.body vs [tO 1,.list (L.map pV)]=_:=(yD (dI.body.take 3) e3).trans (bR e5 eF);show f6 Γ (gg Γ 60 60 19) 60 60 dI [.ref 0,.str a.1,a.2.1] a.2.2.1 [tO 1,.list (L.map pV)]=_;unfold f6;rw[e1];dsimp only;rw[ee]
 refine⟨hf.1,_,_,[.ref 0,.str a.1,a.2.1],.none,[t,h],[],e,⟨by simp[hn],λj hj=>?_,rfl,l2 (iS t _ rfl rfl ht) (iS h _ rfl (p8 _ pV (λB=>rfl) L) hh),.nil,λB h=>(nomatch h),by simp,LO (cU (tO h) rfl (by rw[bU (Ne.symm hn)];exact ht)) (cU _ (congrArg (Option.map O.list) (hr _)) (by rw[eY (aZ hh)])),λj hj hn=>?_,λB B h=>nomatch h⟩,?_,rfl⟩
 ·rcases aX.mp hj with rfl| hj
  ·exact aZ ht
  ·exact aH.mp hj▸aZ hh
 ·rw[bU (by rintro rfl;exact hn (by simp))]
 ·show(U (V.ref t)).bind (λJ=>((U (V.str a.1)).bind λJ=>((V.ren _ a.2.1).bind λJ=>U [J]).map (λB=>J::B)).map (λB=>J::B))=_;rw[hf.2];rfl
end
noncomputable def hU(s:Txt):Txt:=s.takeWhile λc=>c==32 || c==9
def lR(N:H)(i:Nat):Option Txt:=match N[i]? with
 |some (.inst _ ((_,.str B)::_))=>U (hU B)
 |_=>.none
noncomputable def JU(N:H)(t:Nat):Option Nat:=match N[t]? with
 |some (.inst _ [(_,.ref h)])=>U h
 |_=>.none
def Fe(v:V)(B:List (Nat×V)):Txt:=match B with
 |(_,.str [c])::_=>fX (match v with| .str _=>zG| _=>zH) (c - 48)
 |_=>match v with
  |.str s=>s
  |_=>[]
def HL(s:Txt):Nat×Nat×Nat:=(lm.find? λy=>cW (At y) s).getD (0,0,0)
def i9:Fg:=λg as B N=>match as with
 |[.ref i,.str s]=>if g==203 then U (.none,N.set i (wO (hU s) s)) else .none
 |[.ref i,.ref j]=>if g==238 || g==245 then (lR N i).bind λa=>(lR N j).map λb=>if g==238 then (.bool (fN a b),N) else (.ref N.length,N++ [.list ((uM a b).map jz)]) else .none
 |[.str l,.int k]=>if g==310 then U (.int (mG l k 0),N) else .none
 |[.str s]=>if g==286 then U (.ref N.length,N++ [.list ((r4 (HL s)).map .int)]) else .none
 |[.ref t,.str n,v]=>if g==179 then (JU N t).bind λh=>(dX N (.ref h)).map λI=>(.none,N.set h (.list (I++ [pV (n,Fe v B)]))) else .none
 |_=>.none
noncomputable abbrev eG(n:Nat):Cf:=mP Γ (lL (gg Γ 60 60 20) i9) 60 60 n
structure Ws(N:H)(i:Nat)(l:Txt):Prop where
 hl:l∈kz
 w:∃raw,N[i]? =U (wO l raw)/\hU raw=l
theorem Ws.at(h:Ws N i l):lR N i=U l:=cJ h.w λB e q=>by
 unfold lR;rw[e];exact congrArg U q
section
variable{n:Nat}{N:H}
theorem HR(B:i≠j)(h:Ws N i l)(h':Ws N j m):eG n 238 [.ref i,.ref j] [] N=U (.bool (fN l m),N):=
 cJ h.w λr e q=>cJ h'.w λs J Y=>iy (by
  show((lR N i).bind λa=>(lR N j).map λb=>(V.bool (fN a b),N))=_;rw[h.at,h'.at];rfl) ((⟨λaa e=>(nomatch e),_,_,[.ref 0,.ref 1],_,[i,j],[],(BH h.hl h'.hl r s).1,uQ B e J (mW l r) (mW m s),rfl,rfl⟩))
theorem Jt(B:i≠j)(h:Ws N i l)(h':Ws N j m):eG n 245 [.ref i,.ref j] [] N=U (.ref N.length,N++ [.list ((uM l m).map jz)]):=
 cJ h.w λr e q=>cJ h'.w λs J Y=>iy (by
  show((lR N i).bind λa=>(lR N j).map λb=>(V.ref N.length,N++ [O.list ((uM a b).map jz)]))=_;rw[h.at,h'.at];rfl) (AH h.hl h'.hl B e J)
theorem Jv(B:x∈lm):eG n 286 [.str (At x)] [] N=U (.ref N.length,N++ [.list ((r4 x).map .int)]):=by
 have J:∀x∈lm,HL (At x)=x:=by decide+kernel
 refine iy ?_ (mi (hN EY x B) λy e q=>?_)
 ·show U (V.ref N.length,N++ [O.list ((r4 (HL (At x))).map .int)])=_;rw[J x B]
 ·obtain⟨v,Y⟩:=y;cases v with
  |ref k=>exact wq e q (λρ=>rfl) λρ=>p8 ρ V.int (λaa=>rfl) _
  |_=>exact ns q
theorem Jw(B:a∈AL)(hn:t≠h)(J:N[t]? =U (tO h))(Y:N[h]? =U (.list (L.map pV)))(hl:L.length < 1000000):eG n 179 [.ref t,.str a.1,a.2.1] a.2.2.1 N=U (.none,N.set h (.list ((L++ [(a.1,lI a.2.2.2)]).map pV))):=by
 have hw:∀a∈AL,Fe a.2.1 a.2.2.1=lI a.2.2.2:=by
  have:=(by decide+kernel:(AL.all λa=>cW (Fe a.2.1 a.2.2.1) (lI a.2.2.2))=zG);exact λa h=>dA.mp (aR.mp this a h)
 rw[dP];refine iy ?_ (AJ B hn J Y hl);have h1:JU N t=U h:=by unfold JU;rw[J];rfl
 cases q:a.2.1 with
 |ref i=>exact absurd q (by
   have:∀a∈AL,(match a.2.1 with| .ref _=>zH| _=>zG)=zG:=aR.mp (by decide+kernel);intro q2;have:=this a B;rw[q2] at this;exact ft this)
 |_=>
  show((JU N t).bind λh=>(dX N (.ref h)).map λI=>(V.none,N.set h (O.list (I++ [pV (a.1,Fe _ a.2.2.1)]))))=_;rw[<-q,hw a B,h1,bO,dC _ Y];rfl
theorem FZ(h:i9 f as B N=zF)(J:Γ.fns.lookup f=U F):eG (n+1) f as B N=f6 Γ (eG n) 60 60 F as B N:=Ab h J
theorem mQ(h:i9 f as B N=zF)(Y:Γ.fns.lookup f=U F)(hb:hX Γ F as B=U M)(he:ic Γ (eG n) 60 60 F.body M N=U (.ret v,aa,J)):eG (n+1) f as B N=U (v,J):=by
 rw[FZ h Y];unfold f6;rw[hb];dsimp only;rw[he]
theorem qW(h:i9 f as B N=zF)(Y:Γ.fns.lookup f=U F)(hb:hX Γ F as B=U M)(he:ic Γ (eG n) 60 60 F.body M N=U (.next,aa,J)):eG (n+1) f as B N=U (.none,J):=by
 rw[FZ h Y];unfold f6;rw[hb];dsimp only;rw[he]
end
def NM:List Txt:=(List.range 4).map gR
def oz(s:Txt):Txt:=s.map zz
def jK(a b:Txt):Bool:=cW (oz a) (oz b)
def LJ(n:Txt):Bool:=(kh n&&kh (oz n))&&((n5 n&&iM n.length)&&(oq (oz n)&&oq n))
theorem IV:∀n∈NM,LJ n=zG:=by decide+kernel
theorem nK:∀p∈PL,p.1∈NM/\(kh p.2&&oq p.2)=zG:=by
 intro p B;refine cJ (eJ.mp B) λk J h=>mm h λv Y q=>?_;clear B h;subst q;exact⟨cC.mpr (cU k J rfl),aR.mp (by decide+kernel:(VL.all λv=>kh v&&oq v)=zG) v Y⟩
structure HT(t h:Nat)(L:List P)(N:H):Prop where
 t:N[t]? =U (tO h)
 h:N[h]? =U (.list (L.map pV))
 ok:∀p∈L,p∈PL
 nd:L.Nodup
theorem HT.len{t h:Nat}(a:HT t h L N):L.length<=64:=aA (a.nd.length_le_of_subset a.ok) (by decide+kernel)
theorem HT.ne{t h:Nat}(a:HT t h L N):t≠h:=λe=>by
 have J:=a.t;have B:=a.h;clear a;subst e;rw[J] at B;exact nomatch B
def f8(Z:Nat->Prop)(N B:H):Prop:=N.length<=B.length/\∀(i:Nat) (o:O),¬Z i->N[i]? =U o->B[i]? =U o
theorem Le.len{N B:H}(a:Le N B):N.length<=B.length:=bK λh=>by
 have e:=a B.length _ (aM h);exact absurd (aZ e) (cD _)
theorem f8.of{Z:Nat->Prop}{N B:H}(a:Le N B):f8 Z N B:=⟨Le.len a,λi o J e=>a i o e⟩
theorem f8.trans{Z:Nat->Prop}{N J B:H}(a:f8 Z N J)(b:f8 Z J B):f8 Z N B:=⟨aA a.1 b.1,λi o Y e=>b.2 i o Y (a.2 i o Y e)⟩
theorem f8.set{Z:Nat->Prop}(N:H){h:Nat}(o:O)(B:Z h):f8 Z N (N.set h o):=⟨bJ (i7 ..).symm,λi x J e=>(bU λq=>J (by rw[<-q];exact B)).trans e⟩
theorem f8.imp{Z J:Nat->Prop}{N B:H}(a:f8 Z N B)(h:∀i < N.length,Z i->J i):f8 J N B:=⟨a.1,λi o Y e=>a.2 i o (λq=>Y (h i (aZ e) q)) e⟩
theorem HT.le{t h:Nat}(a:HT t h L N)(l:Le N B):HT t h L B:=⟨l _ _ a.t,l _ _ a.h,a.ok,a.nd⟩
theorem HT.chg{t h:Nat}(a:HT t h L N)(l:f8 (λY=>Y=h) N J)(e:J[h]? =U (.list (B.map pV)))(ok:∀p∈B,p∈PL)(nd:B.Nodup):HT t h B J:=⟨l.2 _ _ a.ne a.t,e,ok,nd⟩
theorem mr{L:List B}{p:B}(h:L.Nodup)(J:p ∉ L):(L++ [p]).Nodup:=List.nodup_append.mpr ⟨h,by simp,λa Y b hb e=>J (aH.mp hb▸e▸Y)⟩
theorem jU{N:H}(h:N[i]? =U o):(N.set i B)[i]? =U B:=eY (aZ h)
theorem kc{n:Txt}(h:n∈NM):((kh n=zG/\kh (oz n)=zG)/\(n5 n&&iM n.length)=zG/\oq (oz n)=zG/\oq n=zG):=
 an (IV n h) λB J=>an J λY h4=>⟨hY B,Y,hY h4⟩
section
variable{C:Cf}{n k t h:Nat}{M:aW}{N B:H}{L:List P}{s m:Txt}{b:Bool}{x:V}
theorem CD(h:kh s=zG):eG (n+1) 83 [.ref t,.str s] [(11,.bool b)] N=U (.str s,N):=by
 have J:hJ (ev Γ (eG n) 60) (.callM (.var 13) 4 [.var 2] []) [(0,U (.ref t)),(2,U (.str s)),(11,U (.bool b)),(13,U (.cst (.ref (if b then 48 else 53))))] N=U (zH,N):=by
  refine Dp (gm (aV rfl) (by cases b<;>rfl:fJ Γ (.cst (.ref (if b then 48 else 53))) 4 N=U (.search (if b then 48 else 53))) (cL (aV rfl)) gS ?_);show(if kh s then U (V.none,N) else .none)=_;rw[h];rfl
 refine mQ rfl rfl rfl (k3 (kJ (fm (fE (hR (cL (aV rfl)) rfl) cB rfl)) (bR (eU ?_) (bR (iN J eF) (k3 (lJ (aV rfl)))))));clear J;cases b<;>rfl
noncomputable abbrev sQ(b:Bool)(e:E):E:= .callM (.var 0) 10 [e] [(11,.lit (.bool b))]
noncomputable abbrev Ee(e:E):E:= .callM e 19 [] []
theorem sg(J:m∈NM)(g:ev Γ C n e M N=U (.str m,B)):ev Γ C (n+1) (Ee e) M N=U (.str (oz m),B):=by
 refine gm g (rfl:fJ Γ (.str m) 19 B=U (.str m [108,111,119,101,114])) iZ gS ?_;show(if (n5 m&&iM m.length)=zG then U (V.str (oz m),B) else .none)=_;rw[if_pos (kc J).2.1]
theorem sy(T:HT t h L N){x f:Nat}(J:gO Γ 182 x=U f)(Y:(7==x)=zH):fJ Γ (.ref t) x N=U (.fn f (.ref t)):=
 yj Γ N T.t (show(if (7==x)=zG then U (V.ref h) else zF)=zF by rw[Y];rfl) J
theorem tJ{z:Nat}(T:HT t h L N)(g:M.get z=U (.ref t)):ev Γ C (n+2) (.attr (.var z) 7) M N=U (.ref h,N):=wN (aV g) (sL Γ N T.t rfl rfl rfl)
theorem qm{e:E}(T:HT t h L N)(J:M.get 0=U (.ref t))(Y:ev Γ (eG (k+1)) (n+1) e M N=U (.str s,N))(hs:kh s=zG):ev Γ (eG (k+1)) (n+2) (sQ b e) M N=U (.str s,N):=
 gm (aV J) (sy T rfl rfl) (cL Y) (Ha cB) ((rf Γ (eG (k+1)) N 83 _ _ _).trans (CD hs))
theorem EZ(I:List V):js I .none .none .none=I:=by
 have e:sliceRange 0 (I.length:Int) 1=List.range I.length:=(sliceRange_one 0 I.length).trans ((fF λk J=>eW k).trans (nB _));show(sliceRange (sliceBounds zF zF zF I.length).1 (sliceBounds zF zF zF I.length).2.1 (sliceBounds zF zF zF I.length).2.2).filterMap (λi=>I[i]?)=I;rw[show sliceBounds zF zF zF I.length=(0,(I.length:Int),1) by simp[sliceBounds],e];exact List.filterMap_getElem?_range_length I
theorem zK(T:HT t h L N):eG (k+1) 146 [.ref t] [] N=U (.ref N.length,N++ [O.list (L.map pV)]):=by
 have J:ev Γ (eG k) 60 (.slice (.attr (.var 0) 7) .none .none .none) [(0,U (.ref t))] N=U (.ref N.length,N++ [O.list (L.map pV)]):=by
  refine kn (tJ T rfl) (rfl:_=U (V.none,N)) (rfl:_=U (V.none,N)) (rfl:_=U (V.none,N)) ?_;show(match N[h]? with
  |some (.list I)=>iP (js I .none .none .none) N
  |_=>.none)=_
  rw[T.h];show iP (js (L.map pV) .none .none .none) N=_;rw[EZ];exact g6 N (by rw[aD];exact aA T.len (by decide))
 exact mQ rfl rfl rfl (k3 (lJ J))
theorem nO{z:Nat}(T:HT t h L N)(g:M.get z=U (.ref t)):ev Γ (eG (k+1)) (n+2) (.callM (.var z) 22 [] []) M N=U (.ref N.length,N++ [O.list (L.map pV)]):=
 gm (aV g) (sy T rfl rfl) iZ gS ((rf Γ (eG (k+1)) N 146 _ _ _).trans (zK T))
def rp(L:List P)(m:Txt):List P:=L.filter λp=>jK p.1 m
def lh(L:List P)(m:Txt):List P:=L.filter λp=>!(jK p.1 m)
def Lc(v:V):Txt:=((iO v).getD ([],[])).1
def Lz(v:V):V:= .str ((iO v).getD ([],[])).2
theorem nV{x y:Txt}(J:oq x=zG)(Y:oq y=zG)(h:cW x y=z):jO Γ .eq (.str x) (.str y) N=U z:=h▸eq_str N J Y
theorem ue{x y:Txt}(J:oq x=zG)(Y:oq y=zG)(h:cW x y=z):jO Γ .ne (.str x) (.str y) N=U (!z):=by
 show(yJ N (.str x) (.str y)).map (λaa=>!aa)=_;rw[eq_str N J Y,h];rfl
theorem sw{q:Bool}(T:HT t h L N)(g0:M.get 0=U (.ref t))(ab:M.get 11=U (.str (oz m)))(hm:m∈NM)(he:∀p∈L,∀vs Y,vs.get 18=U (pV p)->ev Γ C 59 elt vs Y=U (g (pV p),Y)):
  ∃J,ev Γ C 60 (.comp elt [.mk (.name 18) (.plain (.attr (.var 0) 7)) [.cmp (if q then .eq else .ne) (Ee (.sub (.var 18) (.lit (.int 0)))) (.var 11)]] [18]) M N=U (.ref J.length,J++ [.list (((if q then rp L m else lh L m).map pV).map g)])/\Le N J:=by
 have ae:gG (ev Γ C 59) (.plain (.attr (.var 0) 7)) M N=U (.one (.ls h 0),N):=by
  show(match ev Γ C 59 (.attr (.var 0) 7) M N with
   |some (v,J)=>(s7 v J).map λz=>(gx.one z,J)
   |.none=>.none)=_
  rw[tJ T g0];dsimp only;rw[uK T.h];rfl
 refine cJ (hB (Γ:=Γ) (t:= .name 18) (elt:=elt) (ifs:= [.cmp (if q then .eq else .ne) (Ee (.sub (.var 18) (.lit (.int 0)))) (.var 11)]) (own:= [18]) ae rfl (by rw[aD];exact aK T.len (by decide)) (fu T.h)
  (λvs=>vs.get 11=U (.str (oz m))) (λv vs=>vs.set 18 v) (λv=>if q then jK (Lc v) m else !(jK (Lc v) m)) g (λv aa N vs=>rfl) (λv aa vs h=>(ph rfl _ _).trans h) ab λv hv vs Y l P=>?_) λB e2 l1=>(cU B ?_ l1)
 ·refine mm hv λp hp e=>?_;clear hv;subst e;have hn:=(nK p (T.ok p hp)).1;refine(g8 Y (kN (fm (fE (sg hn (fD (aV (bH _ _ _)) cB rfl)) (aV ((ph rfl _ _).trans P)) ?_))) (.refl _) (λaa=>(cU Y (he p hp _ Y (bH _ _ _)) (.refl _))));cases q with
  |true=>exact nV (kc hn).2.2.1 (kc hm).2.2.1 rfl
  |false=>exact ue (kc hn).2.2.1 (kc hm).2.2.1 rfl
 ·rw[e2,ly];clear e2;cases q<;>rfl
noncomputable abbrev Kr:S:= .names [11] (sQ zG (Ee (.var 11)))
theorem Fo(T:HT t h L N)(J:m∈NM):ex Γ (eG (k+1)) 60 59 Kr [(0,U (.ref t)),(11,U (.str m))] N=U (.next,[(0,U (.ref t)),(11,U (.str (oz m)))],N):=
 eU (qm (n:=58) T rfl (sg (n:=58) J (aV rfl)) (kc J).1.2)
theorem yR(T:HT t h L N)(Y:m∈NM):∃J,eG (k+2) 121 [.ref t,.str m] [] N=U (.ref J.length,J++ [.list ((rp L m).map λp=>.str p.2)])/\Le N J:=by
 refine cJ (sw (q:=zG) (elt:= .sub (.var 18) (.lit (.int 1))) (g:=Lz) (C:=eG (k+1)) (M:= [(0,U (.ref t)),(11,U (.str (oz m)))]) T rfl rfl Y λp aa vs ab g=>fD (aV g) cB rfl) λJ e l=>(cU J ?_ l);rw[eC] at e;exact mQ rfl rfl rfl (bR (Fo T Y) (k3 (lJ e)))
theorem yM(T:HT t h L N)(hm:m∈NM):∃Y,eG (k+2) 102 [.ref t,.str m] [] N=U (.none,Y)/\HT t h (lh L m) Y/\f8 (λJ=>J=h) N Y:=by
 refine cJ (sw (q:=zH) (g:=id) (C:=eG (k+1)) (M:= [(0,U (.ref t)),(11,U (.str (oz m)))]) T rfl rfl hm λp J vs ab g=>aV g) λB e l1=>?_;rw[nB] at e;have aa:=(T.le l1).le (.app B [O.list ((lh L m).map pV)]);have hl:(lh L m).length<=64:=aA (gi _ _) T.len;have hx:f8 (λJ=>J=h) N ((B++ [O.list ((lh L m).map pV)]).set h (O.list ((lh L m).map pV))):=(f8.of (l1.snoc _)).trans (.set _ _ rfl);exact(g8 _ (qW rfl rfl rfl (bR (Fo T hm) (bR (A5 e (tJ aa rfl) aa.h (bC _ _) (by rw[aD];exact aA hl (by decide))) eF))) (T.chg hx (jU aa.h) (λp hp=>T.ok p (dO.mp hp).1) (T.nd.sublist List.filter_sublist)) hx)
theorem Dz(T:HT t h L N)(hp:(m,v)∈PL):∃Y,eG (k+3) 97 [.ref t,.str m,.str v] [] N=U (.none,Y)/\HT t h (lh L m++ [(m,v)]) Y/\f8 (λaa=>aa=h) N Y:=by
 have hm:=(nK _ hp).1;refine fZ (yM (k:=k) T hm) λB e1 J l1=>?_;have e2:ev Γ (eG (k+2)) 60 (.callM (.attr (.var 0) 7) 16 [.tup [sQ zG (.var 11),sQ zH (.var 15)]] []) [(0,U (.ref t)),(11,U (.str m)),(15,U (.str v))] B=U (.none,B.set h (.list ((lh L m).map pV++ [pV (m,v)]))):=
  gm (tJ J rfl) (lP Γ B J.h rfl) (cL (hQ (cQ (qm J rfl (aV rfl) (kc hm).1.1) (cL (qm J rfl (aV rfl) (hY (nK _ hp).2).1))) (by decide:2<=1000000))) gS (kU Γ _ B J.h (by have:=J.len;rw[aD];exact aK this (by decide)))
 have hx:f8 (λaa=>aa=h) N (B.set h (.list ((lh L m).map pV++ [pV (m,v)]))):=l1.trans (.set _ _ rfl);refine(g8 _ (qW rfl rfl rfl (bR (FA (aV rfl) (aV rfl) T.t rfl e1) (bR (gl e2) eF))) (T.chg hx (by rw[dP];exact jU J.h) (λp h=>?_) (mr J.nd λh=>?_)) hx)
 ·exact(aO.mp h).elim (λh=>J.ok p h) λh=>aH.mp h▸hp
 ·have:=(dO.mp h).2;rw[show jK (m,v).1 m=zG from dA.mpr rfl] at this;exact ft this
theorem yS{a:Txt×V×List (Nat×V)×List Txt}(T:HT t h L N)(ha:a∈AL)(hp:(a.1,lI a.2.2.2)∈PL)(hn:(a.1,lI a.2.2.2) ∉ L):∃J,eG n 179 [.ref t,.str a.1,a.2.1] a.2.2.1 N=U (.none,J)/\HT t h (L++ [(a.1,lI a.2.2.2)]) J/\f8 (λY=>Y=h) N J:=by
 have hx:f8 (λY=>Y=h) N (N.set h (.list ((L++ [(a.1,lI a.2.2.2)]).map pV))):= .set _ _ rfl;exact(g8 _ (Jw ha T.ne T.t T.h (aK T.len (by decide))) (T.chg hx (jU T.h) (λp h=>(aO.mp h).elim (λh=>T.ok p h) λh=>aH.mp h▸hp) (mr T.nd hn)) hx)
theorem hC(h:ev Γ C fe e M N=U (.ref i,B))(Y:B[i]? =U (.list I)):gG (ev Γ C fe) (.plain e) M N=U (.one (.ls i 0),B):=by
 show(match ev Γ C fe e M N with
   |some (v,J)=>(s7 v J).map λz=>(gx.one z,J)
   |.none=>.none)=_
 rw[h];dsimp only;rw[uK Y];rfl
theorem Cc{j:Nat}(J:(L.map pV)[j]? =U v):∃p,L[j]? =U p/\v=pV p/\p∈L:=by
 rw[bD] at J;exact mi J λp Y e=>(g8 p Y e.symm (bF Y))
theorem ye{q:Nat}(hq:N[q]? =U (.list (L.map pV)))(ok:∀p∈L,p∈PL)(nd:L.Nodup):∃Y,nX Γ (eG (k+2)) (.cst (.ref 182)) [.ref q] N=U (.ref N.length,Y)/\HT N.length q L Y/\Le N Y:=by
 let J:H:=N++ [tO q];have l2:Le N J:= .app _ _;have T:HT N.length q L J:=⟨bC N _,l2 _ _ hq,ok,nd⟩;let v1:aW:= [(0,U (.ref N.length)),(6,U (.ref q))];have ae:builtin (.type "type") [.ref q] (N++ [O.inst 182 []])=U (.cst (.type "list"),N++ [O.inst 182 []]):=by
  show(match (N++ [O.inst 182 []])[q]? with
   |some (.list _)=>U (V.cst (.type "list"),N++ [O.inst 182 []])
   |_=>.none)=_
  rw[fC N _ hq]
 have e3:ex Γ (eG (k+1)) 60 57 (.setAttr (.var 0) 7 (.var 6)) v1 (N++ [O.inst 182 []])=U (.next,v1,J):=by
  rw[zf (v:= .ref q) (i:=N.length) (zD:=182) (fs:= []) (aV rfl) (aV rfl) (bC N _) rfl,u6];rfl
 refine je (hV (Γ:=Γ) (C:=eG (k+1)) (fe:=60) (n:=54) (t:= .tup [.name 8,.name 9]) (b:= [.expr (sQ zG (.var 8)),.expr (sQ zH (.var 9))]) (itr:=λj=>.one (.ls q j)) (I:=L.map pV) (hC (aV (i:=6) (M:=v1) (N:=J) rfl) T.h) rfl (by rw[aD];exact aK T.len (by decide)) (zE:=λab vs aa=>vs.get 0=U (.ref N.length)/\aa=J) ⟨rfl,rfl⟩
  (λj v vs aa hv zE=>mu (by rw[zE.2];exact T.h) hv) (λvs aa zE=>mw (by rw[zE.2];exact T.h) (cI (aJ _))) (λj v vs aa hv zE=>?_)) λaf Y e4 zE=>?_
 ·refine fZ (Cc hv) λp ab e hp=>f7 zE λg0 q1=>?_;clear zE;subst q1;clear hv;subst e;have hn:=nK p (ok p hp);exact⟨(vs.set 8 (.str p.1)).set 9 (.str p.2),rfl,_,_,bR (gl (qm (T:=T) (gn rfl (gn rfl g0)) (aV (gn rfl (bH _ _ _))) (kc hn.1).1.1)) (bR (gl (qm (T:=T) (gn rfl (gn rfl g0)) (aV (bH _ _ _)) (hY hn.2).1)) eF),gn rfl (gn rfl g0),rfl⟩
 ·refine f7 zE λab q2=>?_;clear zE;subst q2;have ec:eG (k+2) 76 [.ref N.length,.ref q] [] (N++ [O.inst 182 []])=U (.none,J):=qW rfl rfl rfl (bR (eU (lO (fm (fE (aV rfl) cB rfl)) (aV rfl))) (bR (iN (fm (fE (hR (cL (aV rfl)) ae) cB rfl)) eF) (bR e3 (bR (kJ ((Dr rfl cB)) (bR e4 eF)) eF))));refine(g8 J ?_ T l2);show Bs 182 N (eG (k+2) 76 [.ref N.length,.ref q] [] (N++ [.inst 182 []]))=_;rw[ec];rfl
end
theorem yC(h:p∈PL):flat N (n+2) (pV p)=U (pV p):=by
 have B:=nK p h;show(match (match (if oq p.1 then U (V.str p.1) else zF) with
  |some y=>match (match (if oq p.2 then U (V.str p.2) else zF) with
   |some y=>U [y]
   |.none=>.none) with
   |some ys=>U (y::ys)
   |.none=>.none
  |.none=>.none) with
  |some ds=>U (V.tup ds)
  |.none=>.none)=_
 (refine Eq.symm (if_pos (kc B.1).2.2.2)▸?_;refine Eq.symm (if_pos (hY B.2).2)▸?_);rfl
theorem qL:∀ {L:List P},(∀p∈L,p∈PL)->gP (flat N (n+2)) (L.map pV)=U (L.map pV):=by
 intro L;induction L with
 |nil=>exact λJ=>rfl
 |cons p L B=>
  intro h;show(match flat N (n+2) (pV p) with
   |some y=>match gP (flat N (n+2)) (L.map pV) with
    |some ys=>U (y::ys)
    |.none=>.none
   |.none=>.none)=_
  (refine Eq.symm (yC (h p (.head _)))▸?_;refine Eq.symm (B λq hq=>h q (.tail _ hq))▸?_);rfl
theorem Jn(p q:P):uB (pV q) (pV p)=decide (p=q):=by
 show(cW q.1 p.1&&(cW q.2 p.2&&zG))=_;rw[Bool.and_true,eI,dR,dA,dA,decide_eq_true_iff];exact⟨λh=>Prod.ext h.1.symm h.2.symm,λh=>h▸⟨rfl,rfl⟩⟩
theorem H2:∀(L:List P),(L.map pV).any (λe=>uB e (pV p))=decide (p∈L):=by
 intro L;induction L with
 |nil=>exact rfl
 |cons q L B=>
  (refine Eq.symm (uF)▸?_;refine Eq.symm (iU)▸?_;rw[Jn];refine Eq.symm (B)▸?_;rw[eI,fj,decide_eq_true_iff,decide_eq_true_iff,decide_eq_true_iff,aX])
theorem B8{L:List P}(hq:N[q]? =U (.list (L.map pV)))(J:∀p∈L,p∈PL)(Y:p∈PL):jO Γ .notIn (pV p) (.ref q) N=U (!decide (p∈L)):=by
 show(match N[q]? with
   |some (.list I)=>G0 N (pV p) I
   |_=>Option.none).map (λB=>!B)=_
 refine hq.symm▸?_;show((match flat N 12 (pV p) with
 |some d=>match gP (flat N 12) (L.map pV) with
  |some es=>U (es.any λe=>uB e d)
  |.none=>Option.none
 |.none=>.none)).map (λB=>!B)=_
 (refine Eq.symm (yC Y)▸?_;refine Eq.symm (qL J)▸?_)
 show U (!((L.map pV).any λe=>uB e (pV p)))=_;rw[H2]
noncomputable def Ak(L:List P)(p:P):List P:=if p∈L then L else L++ [p]
def iq(L zB:List P):List P:=zB.foldl Ak L
noncomputable abbrev K2:List S:= [.ite (.cmp .notIn (.tup [.var 11,.var 2]) (.callM (.var 71) 22 [] [])) [.expr (.callM (.var 71) 28 [.var 11,.var 2] [])] []]
theorem zw(T:HT t h L N)(hq:N[q]? =U (.list (zB.map pV)))(ah:q≠h)(aj:∀p∈zB,p∈PL)(hl:zB.length < 1999):∃Y,eG (k+3) 298 [.ref t,.ref q] [] N=U (.none,Y)/\HT t h (iq L zB) Y/\f8 (λab=>ab=h) N Y:=by
 refine je (hV (Γ:=Γ) (C:=eG (k+2)) (fe:=60) (n:=58) (t:= .tup [.name 11,.name 2]) (b:=K2) (M:= [(71,U (.ref t)),(72,U (.ref q))]) (itr:=λj=>.one (.ls q j)) (hC (aV (i:=72) rfl) hq) rfl (by rw[aD];exact hl)
  (zE:=λj vs B=>vs.get 71=U (.ref t)/\HT t h (iq L (zB.take j)) B/\f8 (λab=>ab=h) N B) ⟨rfl,T,f8.of (.refl _)⟩
  (λj v vs B hv zE=>mu (zE.2.2.2 _ _ ah hq) hv) (λvs B zE=>mw (zE.2.2.2 _ _ ah hq) (cI (aJ _))) (λj v vs B hv zE=>?_)) λal Y e4 zE=>?_
 ·refine fZ (Cc hv) λp hj e hp=>?_;clear hv;subst e;have af:=aj p hp;refine(cU ((vs.set 11 (.str p.1)).set 2 (.str p.2)) rfl ?_);have ae:aW.get 71 ((vs.set 11 (.str p.1)).set 2 (.str p.2))=U (.ref t):=gn rfl (gn rfl zE.1);have hx:zB.take (j+1)=zB.take j++ [p]:=by(refine Eq.symm (fT)▸?_;refine hj.symm▸?_);rfl
  have ai:iq L (zB.take (j+1))=Ak (iq L (zB.take j)) p:=by refine hx.symm▸?_;exact xQ ..
  have ag:=zE.2.1.le (.app B [O.list ((iq L (zB.take j)).map pV)]);have J:hJ (ev Γ (eG (k+2)) 60) (.cmp .notIn (.tup [.var 11,.var 2]) (.callM (.var 71) 22 [] [])) ((vs.set 11 (.str p.1)).set 2 (.str p.2)) B=U (!decide (p∈iq L (zB.take j)),B++ [O.list ((iq L (zB.take j)).map pV)]):=
   fm (fE (hQ (cQ (aV (gn rfl (bH _ _ _))) (cL (aV (bH _ _ _)))) (by decide:2<=1000000)) (nO zE.2.1 ae) (B8 (bC B _) zE.2.1.ok af))
  have lx:f8 (λab=>ab=h) N (B++ [O.list ((iq L (zB.take j)).map pV)]):=zE.2.2.trans (.of (.app _ _));refine ai.symm▸?_;unfold Ak;by_cases aa:p∈iq L (zB.take j)
  ·replace J:=(decide_eq_true aa)▸J;refine Eq.symm (if_pos aa)▸?_;exact(tY _ _ (bR (iN J eF) eF) ae ag lx)
  ·replace J:=(decide_eq_false aa)▸J;refine Eq.symm (if_neg aa)▸?_;exact fZ (yS (n:=k+2) ag (aP _ (cC.mpr (cU p af rfl))) af aa) λam e1 ak l2=>(tY _ _ (bR (kJ J (bR (gl (gm (aV ae) (sy ag rfl rfl) (cQ (aV (gn rfl (bH _ _ _))) (cL (aV (bH _ _ _)))) gS e1)) eF)) eF) ae ak (lx.trans l2))
 ·(rw[aD] at zE;replace zE:=(gd)▸zE)
  exact(cU Y (qW rfl rfl rfl (bR e4 eF)) zE.2)
noncomputable def hq(c:Nat):Txt->Bool
 |[]=>zH
 |a::r=>cW ((a::r).take 3) [34,c,34] || hq c r
def ya(i:Nat)(v:Txt):Bool:=cW v (fX zH i) || cW v (fX zG i)
theorem Hq(J:i < 5):∀vs:List Txt,(∀v∈vs,v∈VL)->hq (48+i) vs.flatten=vs.any (ya i):=by
 intro vs;induction vs with
 |nil=>exact λY=>rfl
 |cons v vs B=>
  intro h;rw[gJ,td ((by kernel_rfl:ig (λv=>ig (λi=>hq (48+i) (v++vs.flatten)) (List.range 5)) VL=VL.map λv=>(List.range 5).map λi=>ya i v || hq (48+i) vs.flatten)) (h v (.head _)) (bN.mpr J),B λw hw=>h w (.tail _ hw),iU]
theorem Hp:∀t:Txt,hq c t=zG↔ ∃i,(t.drop i).take 3= [34,c,34]:=by
 intro t;induction t with
 |nil=>exact⟨λh=>ft h,λ⟨i,h⟩=>by rw[uG] at h;cases h⟩
 |cons a r B=>
  rw[show hq c (a::r)=(cW ((a::r).take 3) [34,c,34] || hq c r) from rfl,fj,dA,B];refine⟨λh=>h.elim (λh=>⟨0,h⟩) λ⟨i,h⟩=>⟨i+1,h⟩,λ⟨i,h⟩=>?_⟩;cases i with
  |zero=>exact .inl h
  |succ i=>exact .inr ⟨i,h⟩
theorem GD(t:Txt)(c:Nat):(!(Builtin.Str.occurrences (gM t) (gM [34,c,34]) 0 t.length 1).isEmpty)=hq c t:=by
 rw[eI,Hp,show t.length=(gM t).length by simp[gM,PySem.Str.length],StrLaws.found_iff];have e:∀i,Builtin.Str.subAt (gM t) (gM [34,c,34]) i=zG↔(t.drop i).take 3= [34,c,34]:=λi=>by
  show((t.toArray.extract i (i+3))== [34,c,34].toArray)=zG↔_;rw[beq_iff_eq,<-Array.toList_inj];simp
 refine⟨λ⟨i,_,h⟩=>⟨i,(e i).mp h⟩,λ⟨i,h⟩=>⟨i,?_,(e i).mpr h⟩⟩;have B:=congrArg List.length h;rw[List.length_take,oU] at B;rw[show(gM t).length=t.length by simp[gM,PySem.Str.length]];simp only[fy,i8] at B;have J:=aA (bJ B.symm) (gW 3 _);exact iB 3 i▸Nat.add_le_of_le_sub (bA (Nat.lt_of_sub_pos (aT (by decide) J))) J
theorem sF(l:List Txt):rv (PySem.Txt.join (gM []) (l.map gM))=l.flatten:=by
 have g:∀(l:List Txt) (acc:Array Nat),((l.map gM).foldl (λacc p=>acc++(gM []).cps++p.cps) acc).toList=acc.toList++l.flatten:=by
  intro l;induction l with
  |nil=>intro acc;simp
  |cons x r B=>intro acc;rw[uF,List.foldl_cons,B];simp[gM]
 cases l with
 |nil=>rfl
 |cons x r=>exact(g r _).trans (by simp[gM])
theorem yv(h:∀v∈l,v.length<=1000)(B:l.length<=100):j2 [] l=zG:=by
 have e:∀l:List Txt,(∀v∈l,v.length<=1000)->(l.map λx=>(gM x).length).sum<=1000*l.length:=by
  intro l;induction l with
  |nil=>exact λaa=>aJ _
  |cons x r J=>
   intro h;have Y:=h x (.head _);have h2:=J λv hv=>h v (.tail _ hv);rw[uF,List.sum_cons,fy,show(gM x).length=x.length by simp[gM,PySem.Str.length]];exact aA (bY Y h2) (bJ (iB 1000 _))
 have:=e l h;exact dJ (show(l.map λx=>(gM x).length).sum+l.length*0<=1000000 by exact aA this (f4 1000 (aA B (by decide:100<=1000))))
theorem uV:∀l:List Txt,hO (l.map V.str)=U l:=by
 intro l;induction l with
 |nil=>exact rfl
 |cons s l B=>exact congrArg (Option.map (λJ=>s::J)) (B)
theorem Bn{l:List Txt}(J:ev Γ C (n+1) e vs N=U (.ref q,B))(hq:B[q]? =U (.list (l.map V.str)))(h:∀v∈l,v.length<=1000)(Y:l.length<=100):ev Γ C (n+2) (.callM (.lit (.str [])) 27 [e] []) vs N=U (.str l.flatten,B):=by
 refine gm cB (rfl:fJ Γ (.str []) 27 N=U (.str [] [106,111,105,110])) (cL J) gS ?_;show((dX B (.ref q)).bind λI=>(hO I).bind λl=>if j2 [] l then U (V.str (rv (PySem.Txt.join (gM []) (l.map gM))),B) else .none)=_;rw[dC _ hq,bO,uV,bO,if_pos (yv h Y),sF]
noncomputable def sE:S->E
 |.names _ e=>e
 |.expr e=>e
 |.ite e _ _=>e
 |.ret (U e)=>e
 |.setSub _ _ e=>e
 |.unpack _ e=>e
 |_=>.lit .none
noncomputable def sA:S->List S
 |.ite _ a _=>a
 |.whil _ b=>b
 |.for_ _ _ b=>b
 |_=>[]
noncomputable def sB:S->List S
 |.ite _ _ b=>b
 |_=>[]
noncomputable def hS(l:List S)(k:Nat):S:=l.getD k .bad
noncomputable def g7:V->Int
 |.int i=>i
 |_=>0
def wB:List S:=sA (hS ni.body 0)
section
variable{n r:Nat}{vs:aW}{N:H}{x:Nat×Nat×Nat}
theorem HQ(v:Int):eG (n+1) 269 [.int v] [] N=U (.bool (decide (256<=v)),N):=mQ rfl rfl rfl (k3 (lJ (fE (aV rfl) cB rfl)))
theorem HP(v:Int):eG (n+1) 262 [.int v] [] N=U (.bool (decide (v < 256)),N):=mQ rfl rfl rfl (k3 (lJ (fE (aV rfl) cB rfl)))
theorem Ju(v:Int):eG (n+1) 276 [.int v] [] N=U (.bool (v==0),N):=mQ rfl rfl rfl (k3 (lJ (fE (aV rfl) cB rfl)))
def gN(v:V):V:= .str [[97,65,98,66].getD (g7 v - 256).toNat 0]
theorem GS:ig (λx=>(((r4 x).map V.int).filter λv=>decide (256<=g7 v)).map gN) lm=lm.map λx=>[V.str (gR x.1)]:=by kernel_rfl
theorem Gf:ig (λx=>((r4 x).map V.int).filter λv=>decide (g7 v < 256)&& !(g7 v==0)) lm=lm.map λx=>(C9 x.2.1::pB x.2.2).map V.int:=by kernel_rfl
theorem Gg:∀x∈lm,∀v∈r4 x,v < 256\/∃k < 4,v=256+(k:Nat):=by
 have h:(lm.all λx=>(r4 x).all λv=>decide (v < 256) || (List.range 4).any λk=>decide (v=256+(k:Nat)))=zG:=by decide+kernel
 intro x B v J;have:=aR.mp (aR.mp h x B) v J;rcases dL.mp this with h| h
 ·exact .inl (of_decide_eq_true h)
 ·refine cJ (oY.mp h) λk Y e=>.inr (cU k (bN.mp Y) (of_decide_eq_true e))
theorem F6(g:vs.get 59=U (.ref r))(hr:N[r]? =U (.list ((r4 x).map .int)))(J:x∈lm):∃aa,ev Γ (eG (n+1)) 60 (sE (hS wB 2)) vs N=U (.str (gR x.1),aa)/\Le N aa:=by
 have hl:∀x∈lm,(r4 x).length < 10:=by decide+kernel
 refine cJ (hB (Γ:=Γ) (C:=eG (n+1)) (n:=58) (t:= .name 76) (elt:= .sub (.lit (.str [97,65,98,66])) (.bin .sub (.var 76) (.lit (.int 256)))) (ifs:= [.call (.lit (.cst (.ref 269))) [.var 76]]) (own:= [76]) (hC (aV g) hr) rfl (by rw[aD];exact cO (hl x J) (by decide)) (fu hr)
  (λab=>True) (λv vs=>vs.set 76 v) (λv=>decide (256<=g7 v)) gN (λv ab N vs=>rfl) (λv ab vs h=>trivial) trivial λv Y vs B l P=>?_) λae e2 l1=>?_
 ·refine mm Y λi hi e=>?_;subst e;refine(g8 B (kN (ww (hR (cL (aV (bH _ _ _))) (HQ (n:=n) i)))) (.refl _) (λhp=>(cU B ?_ (.refl _))));refine(Gg x J i hi).elim (λq=>absurd q (jc.mpr (of_decide_eq_true hp))) λq=>cJ q λk hk q1=>?_;clear q;subst q1;refine j0 (P:=λk=>ev Γ (eG (n+1)) 58 (.sub (.lit (.str [97,65,98,66])) (.bin .sub (.var 76) (.lit (.int 256)))) (aW.set 76 (.int (256+(k:Int))) vs) B=U (gN (.int (256+(k:Int))),B)) (j0 (j0 (j0 Ec ?_) ?_) ?_) ?_ k hk<;>exact fD cB (hI (aV (bH _ _ _)) cB rfl) rfl
 ·rw[hN GS x J] at e2;have ej:=Bn (l:= [gR x.1]) e2 (bC _ _) (λv Y=>aH.mp Y▸(by decide:1<=1000)) (by decide:1<=100);exact(cU _ (ej.trans (congrArg (λs=>U (V.str s,_)) (cF _))) (l1.snoc _))
theorem Di(g:vs.get 59=U (.ref r))(Y:N[r]? =U (.list ((r4 x).map .int)))(hx:x∈lm):∃q J,ev Γ (eG (n+1)) 60 (sE (hS wB 3)) vs N=U (.ref q,J)/\J[q]? =U (.list ((C9 x.2.1::pB x.2.2).map V.int))/\Le N J:=by
 have hl:∀x∈lm,(r4 x).length < 10:=by decide+kernel
 refine cJ (hB (Γ:=Γ) (C:=eG (n+1)) (n:=59) (t:= .name 76) (elt:= .var 76) (ifs:= [.and (.call (.lit (.cst (.ref 262))) [.var 76]) (.not (.call (.lit (.cst (.ref 276))) [.var 76]))]) (own:= [76]) (hC (aV g) Y) rfl (by rw[aD];exact cO (hl x hx) (by decide)) (fu Y)
  (λB=>True) (λv vs=>vs.set 76 v) (λv=>decide (g7 v < 256)&& !(g7 v==0)) id (λv B N vs=>rfl) (λv B vs h=>trivial) trivial λv hv vs aa l P=>?_) λab e2 l1=>?_
 ·refine mm hv λi hi e=>?_;subst e;exact(g8 aa (kN (r5 (ww (hR (cL (aV (bH _ _ _))) (HP (n:=n) i))) (λB=>(Fs (ww (hR (cL (aV (bH _ _ _))) (Ju (n:=n) i))) rfl)) λB=>rfl)) (.refl _) (λhp=>(cU aa (aV (bH _ _ _)) (.refl _))))
 ·rw[nB,hN Gf x hx] at e2;exact(iS _ _ e2 (bC _ _) (l1.snoc _))
end
def k8(x:Nat×Nat×Nat)(i:Nat)(L:List P):List P:=match x.2.1 with
 | 0=>lh L (gR x.1)++ [(gR x.1,rq i)]
 | 1=>if (rp L (gR x.1)).any (λq=>ya i q.2) then L else L++ [(gR x.1,fX (!(Nat.beq x.2.2 0)) i)]
 |_=>lh L (gR x.1)
section
variable{C:Cf}{n m q k t h i:Nat}{vs:aW}{N B:H}{x:Nat×Nat×Nat}{L:List P}{e:E}
theorem io(hq:N[q]? =U (.list I))(J:I[k]? =U v)(Y:I.length<=1000000):g9 Γ (.ref q) (.int (k:Int)) N=U v:=by
 show(match N[q]? with
  |some (.list I)=>(yz I.length (k:Int)).bind λj=>I[j]?
  |_=>.none)=_
 rw[hq];dsimp only;rw[sJ (aZ J) (BK Y),bO,J]
theorem zX:∀is:List Int,gP (flat N 11) (is.map V.int)=U (is.map V.int):=by
 intro is;induction is with
 |nil=>exact rfl
 |cons i is J=>
  show(match gP (flat N 11) (is.map V.int) with
   |some ys=>U (V.int i::ys)
   |.none=>.none)=_
  rw[J];rfl
theorem oE(hq:N[q]? =U (.list I))(J:gP (flat N 11) I=U ys):flat N 12 (.ref q)=U (.flist ys):=by
 show(match N[q]? with
   |some (.list vs)=>match gP (flat N 11) vs with
    |some ds=>U (V.flist ds)
    |.none=>.none
   |_=>.none)=_
 rw[hq];dsimp only;rw[J]
theorem EP{x y:V}(J:flat N 12 a=U x)(Y:flat N 12 b=U y):yJ N a b=U (uB x y):=by
 unfold yJ;rw[J,Y]
theorem Bl{is:List Int}(J:∀x y N,jO Γ op x y N=(yJ N x y).map f)(Y:ev Γ C (n+1) e vs N=U (.ref q,B))(hq:B[q]? =U (.list (is.map .int))):ev Γ C (n+2) (.cmp op e (.list [])) vs N=U (.bool (f is.isEmpty),B++ [.list []]):=by
 refine fE Y (fr iZ (by decide)) ?_;rw[J,EP (oE (fC _ _ hq) (zX is)) (oE (bC _ _) rfl)];clear hq;cases is<;>rfl
theorem Bk(g:vs.get 75=U (.ref q))(hq:N[q]? =U (.list ((C9 x.2.1::pB x.2.2).map V.int))):ev Γ C (n+2) (.slice (.var 75) (U (.lit (.int 1))) .none .none) vs N=U (.ref N.length,N++ [.list ((pB x.2.2).map V.int)]):=by
 refine kn (aV g) (rfl:_=U (V.int 1,N)) (rfl:_=U (V.none,N)) (rfl:_=U (V.none,N)) ?_;show(match N[q]? with
  |some (.list I)=>iP (js I (U 1) .none .none) N
  |_=>.none)=_
 rw[hq];obtain⟨_,d,m⟩:=x;cases m with
 |zero=>kernel_rfl
 |succ m=>cases m with
  |zero=>kernel_rfl
  |succ m=>kernel_rfl
theorem yl(m:Nat):(pB m).isEmpty=Nat.beq m 0:=n3 (P:=λm=>(pB m).isEmpty=Nat.beq m 0) rfl rfl (λJ=>rfl) m
theorem G1(m:Nat):Nat.beq m 0=zH->(m=1/\pB m= [18])\/(Nat.beq m 1=zH/\pB m= [16]):=n3 (P:=λm=>Nat.beq m 0=zH->(m=1/\pB m= [18])\/(Nat.beq m 1=zH/\pB m= [16])) (λh=>nomatch h) (λJ=>.inl ⟨rfl,rfl⟩) (λJ J=>.inr ⟨rfl,rfl⟩) m
theorem D7(m):(pB m).length<=1:=by
 cases m with
 |zero=>exact cK _
 |succ m=>cases m<;>exact aJ _
theorem A0:ig (λi:Nat=>p7 (i:Int)) (List.range 5)=(List.range 5).map rq:=by kernel_rfl
theorem vk(g:vs.get z=U (.int (i:Int)))(J:i < 5):ev Γ C (n+2) (.call (.lit (.cst (.type "str"))) [.var z]) vs N=U (.str (rq i),N):=by
 have e:builtin (.type "str") [.int (i:Int)] N=(if jh (i:Int) then U (V.str (p7 (i:Int)),N) else .none):=by
  show Gk "str" (.int (i:Int)) N=_;unfold Gk;rw[if_neg (by decide),if_neg (by decide),if_neg (by decide),if_pos rfl];rfl
 refine hR (cL (aV g)) (e.trans ?_);rw[if_pos (gF (nL i) (nH (aA (bA J) (by decide)))),hN A0 i (bN.mpr J)]
theorem rg(J:x∈lm):x.1 < 4/\x.2.1 < 3/\x.2.2 < 3:=by
 have:=aR.mp (by decide+kernel:(lm.all λx=>decide (x.1 < 4/\x.2.1 < 3/\x.2.2 < 3))=zG) x J;exact of_decide_eq_true this
theorem sf(hx:x∈lm)(hi:i < 5):gR x.1∈NM/\(gR x.1,rq i)∈PL/\∀b,(gR x.1,fX b i)∈PL:=by
 have Y:=bN.mpr (rg hx).1;have J:=bN.mpr hi;have go:∀v∈VL,(gR x.1,v)∈PL:=λv hv=>eJ.mpr (cU _ Y (cC.mpr (cU v hv rfl)));refine⟨cC.mpr (cU _ Y rfl),go _ (.tail _ (aP _ (cC.mpr (cU i J rfl)))),λb=>go _ (.tail _ (aL _ ?_))⟩;cases b with
 |false=>exact aP _ (cC.mpr (cU i J rfl))
 |true=>exact aL _ (cC.mpr (cU i J rfl))
theorem JF(J:x∈lm)(Y:i < 5)(b:Bool):(gR x.1,(if b then V.str [42] else V.none),[((79:Nat),V.str (rq i)),(80,V.none)],w0 b i)∈AL:=
 aL _ (eJ.mpr (cU _ (bN.mpr (rg J).1) (eJ.mpr (cU _ (bN.mpr Y) (cC.mpr (cU b (by cases b<;>simp) rfl))))))
theorem IJ(J:p∈PL):p.2∈VL:=by
 refine cJ (eJ.mp J) λk hk h=>mm h λv Y q=>?_;clear J h;subst q;exact Y
theorem wv(g:vs.get 75=U (.ref q))(hq:N[q]? =U (.list ((C9 x.2.1::pB x.2.2).map V.int))):hJ (ev Γ C (n+3)) (.cmp .eq (.sub (.var 75) (.lit (.int 0))) (.lit (.int d))) vs N=U (C9 x.2.1==d,N):=
 fm (fE (fD (aV g) cB (io hq rfl (by rw[aD,fy];exact aA (cH (D7 _)) (by decide:2<=1000000)))) cB rfl)
end
section
variable{C:Cf}{n m q k t h i:Nat}{vs:aW}{N B:H}{x:Nat×Nat×Nat}{L:List P}{e:E}
theorem vd(b:Bool):ya i (fX b i)=zG:=by
 unfold ya;cases b with
 |false=>rw[show cW (fX zH i) (fX zH i)=zG from dA.mpr rfl];rfl
 |true=>rw[show cW (fX zG i) (fX zG i)=zG from dA.mpr rfl,pG]
theorem GR{n:Txt}(ha:(rp L n).any (λq=>ya i q.2)=zH):(n,fX b i) ∉ L:=λY=>by
 have J:(rp L n).any (λq=>ya i q.2)=zG:=oY.mpr (cU _ (dO.mpr ⟨Y,dA.mpr rfl⟩) (vd b));rw[ha] at J;exact ft J
theorem Dq(T:HT t h L N)(hx:x∈lm)(hi:i < 5)(ae:vs.get 71=U (.ref t))(af:vs.get 11=U (.str (gR x.1)))(ag:vs.get 60=U (.int (i:Int))):
  ∃aa,hJ (ev Γ (eG (k+3)) 60) (.cmp .notIn (.bin .add (.bin .add (.lit (.str [34])) (.call (.lit (.cst (.type "str"))) [.var 60])) (.lit (.str [34]))) (.callM (.lit (.str [])) 27 [.callM (.var 71) 21 [.var 11] []] [])) vs N=U (!((rp L (gR x.1)).any λq=>ya i q.2),aa)/\Le N aa:=by
 have hm:=(sf hx hi).1;refine cJ (yR (k:=k+1) T hm) λB e1 l1=>?_;have hl:(rp L (gR x.1)).length<=64:=aA (gi _ _) T.len;have ew:∀v∈(rp L (gR x.1)).map (λJ=>J.2),v∈VL:=λv Y=>by
  refine mm Y λp hp e=>?_;clear Y;subst e;exact IJ (T.ok p (dO.mp hp).1)
 have ea:ev Γ (eG (k+3)) 58 (.callM (.var 71) 21 [.var 11] []) vs N=U (.ref B.length,B++ [.list (((rp L (gR x.1)).map (λJ=>J.2)).map V.str)]):=by
  rw[eC];exact gm (aV ae) (sy T rfl rfl) (cL (aV af)) gS ((rf Γ _ N 121 _ _ _).trans e1)
 have ej:=Bn ea (bC _ _) (λv Y=>(λv ab=>aA (of_decide_eq_true (aR.mp (by decide+kernel:(VL.all λv=>decide (v.length<=30))=zG) v ab)) (by decide)) v (ew v Y)) (by rw[aD];exact aA hl (by decide));have eq:ev Γ (eG (k+3)) 59 (.bin .add (.bin .add (.lit (.str [34])) (.call (.lit (.cst (.type "str"))) [.var 60])) (.lit (.str [34]))) vs N=U (.str [34,48+i,34],N):=
  hI (hI cB (vk ag hi) rfl) cB rfl
 refine(cU _ (fm (fE eq ej ?_)) (l1.snoc _));show U (!(!(Builtin.Str.occurrences (gM ((rp L (gR x.1)).map (λJ=>J.2)).flatten) (gM [34,48+i,34]) 0 ((rp L (gR x.1)).map (λJ=>J.2)).flatten.length 1).isEmpty))=_;rw[GD,Hq hi _ ew,List.any_map];rfl
theorem Ga(T:HT t h L N)(hx:x∈lm)(hi:i < 5)(ae:vs.get 71=U (.ref t))(af:vs.get 11=U (.str (gR x.1)))(ah:vs.get 60=U (.int (i:Int)))(ag:vs.get 75=U (.ref q))(hq:N[q]? =U (.list ((C9 x.2.1::pB x.2.2).map V.int))):
  ∃J,ex Γ (eG (k+3)) 60 (m+7) (hS wB 4) vs N=U (.next,vs,J)/\HT t h (k8 x i L) J/\f8 (λaa=>aa=h) N J:=by
 obtain⟨c,d,md⟩:=x;have hd:d < 3:=(rg hx).2.1;cases d with
 |zero=>
  have P:=sf hx hi;have Y:=λd=>wv (C:=eG (k+3)) (n:=57) (d:=d) ag hq;refine fZ (Dz (k:=k) T P.2.1) λJ e ab l=>(g8 J ?_ ab l);exact kJ (Y 22) (bR (ze (vk ah hi) (aV ae) (aV af) T.t rfl e) eF)
 |succ d=>cases d with
  |zero=>
   have P:=sf hx hi;have Y:=λd=>wv (C:=eG (k+3)) (n:=57) (d:=d) ag hq;have am:=JF hx hi;refine cJ (Dq (k:=k) T hx hi ae af ah) λB et l1=>?_;have ai:=T.le l1;have aj:=l1 _ _ hq;have ta:hJ (ev Γ (eG (k+3)) 60) (sE (hS (sB (hS (sB (hS wB 4)) 0)) 0)) vs N=U (zG&& !((rp L (gR c)).any λq=>ya i q.2),B):=r5 (Y 36) (λaa=>et) λh=>tf h;show∃J,_/\HT t h (if (rp L (gR c)).any (λq=>ya i q.2) then L else L++ [(gR c,fX (!(Nat.beq md 0)) i)]) J/\_;cases ha:(rp L (gR c)).any (λq=>ya i q.2) with
   |true=>
    rw[ha] at ta;exact(g8 B (iN (Y 22) (bR (iN (Y 37) (bR (iN ta eF) eF)) eF)) ai (.of l1))
   |false=>
    rw[ha] at ta;have ek:=Bl (C:=eG (k+3)) (op:= .ne) (n:=56) (λaa aa aa=>rfl) (Bk ag aj) (bC _ _);have l2:Le B (B++ [O.list ((pB (c,1,md).2.2).map V.int)]++ [O.list []]):=(Le.app _ _).trans (.app _ _);have ao:=ai.le l2;have ak:(!(pB md).isEmpty)= !(Nat.beq md 0):=congrArg not (yl md);refine fZ (yS (n:=k+3) ao (am (!(Nat.beq md 0))) (P.2.2 _) (GR ha)) λJ e ab l=>(g8 J ?_ ab (((f8.of l1).trans (.of l2)).trans l));have al:ev Γ (eG (k+3)) 59 (.ite (.cmp .ne (.slice (.var 75) (U (.lit (.int 1))) .none .none) (.list [])) (.lit (.str [42])) (.lit .none)) vs B=U (if !(Nat.beq md 0) then V.str [42] else V.none,B++ [O.list ((pB (c,1,md).2.2).map V.int)]++ [O.list []]):=by
     rw[<-ak];cases hm:(pB md).isEmpty with
     |true=>exact mX (fm (ek.trans (by rw[hm];rfl))) cB
     |false=>exact lO (fm (ek.trans (by rw[hm];rfl))) cB
    refine iN (Y 22) (bR (iN (Y 37) (bR (kJ ta (bR (gl (gm (aV ae) (sy ai rfl rfl) (cQ (aV af) (cL al)) ?_ e)) eF)) eF)) eF);rw[z4,vk ah hi];rfl
  |succ d=>cases d with
   |zero=>
    have P:=sf hx hi;have Y:=λd=>wv (C:=eG (k+3)) (n:=57) (d:=d) ag hq;refine fZ (yM (k:=k+1) T P.1) λJ e ab l=>(g8 J ?_ ab l);exact iN (Y 22) (bR (kJ (Y 37) (bR (FA (aV ae) (aV af) T.t rfl e) eF)) eF)
   |succ d=>exact absurd hd (bP.mpr (eH 3 d))
end
end MI.Lake.L1
namespace MI.Lake
theorem eZ.set{m:List B}{x:aa}{y:B}(h:eZ R l m)(J:R x y):∀i,eZ R (l.set i x) (m.set i y):=by
 induction h with
 |nil=>exact λab=>.nil
 |cons a b Y=>
  intro i;cases i with
  |zero=>exact .cons J b
  |succ i=>exact .cons a (Y i)
end MI.Lake
namespace MI.Lake.L1
structure Pg where
 X:Nat->Nat×Nat×Nat
 en:Nat->Nat
structure Pg.Ok(p:Pg):Prop where
 x:∀i < 5,p.X i∈lm
 lt:∀i < 5,i < p.en i
 le:∀i < 5,p.en i<=5
 nest:∀i < 5,∀j,i < j->j < p.en i->p.en j<=p.en i
abbrev WT:=List P×List (List P)
noncomputable def wF(s:Bool)(B:Nat):List Bool:=if s then (if Nat.beq B 1 then [zG] else [zH,zG]) else [zH]
noncomputable def wl(p:Pg):Nat->Bool->Nat->Nat->WT->WT
 | 0,_,_,_,st=>st
 |f+1,s,a,e,st=>if a < e then
   let B:WT:=(k8 (p.X a) a st.1,if s then st.2.set a st.1 else st.2)
   wl p f s (p.en a) e (if Nat.beq (p.X a).2.2 0 || Nat.beq (p.en a) (a+1) then wl p f s (a+1) (p.en a) B else (wF s (p.X a).2.2).foldl (λst s'=>(iq st.1 (wl p f s' (a+1) (p.en a) st).1,if s' then (wl p f s' (a+1) (p.en a) st).2 else st.2)) B)
  else st
noncomputable def sV:Option Nat->V
 |some s=>.ref s
 |.none=>.none
structure rY(p:Pg)(b R:Nat)(N:H):Prop where
 lt:R < b
 l:∃vs,N[R]? =U (.list vs)/\vs.length=5/\∀i < 5,∃r w,vs[i]? =U (.tup [.ref r,.int (p.en i:Int),w])/\r < b/\N[r]? =U (.list ((r4 (p.X i)).map .int))
def Zn(h:Nat)(S:Option Nat)(i:Nat):Prop:=i=h\/S=U i
structure WS(b t h:Nat)(S:Option Nat)(rs:List Nat)(st:WT)(N:H):Prop where
 T:HT t h st.1 N
 bh:b<=h
 sn:∀s,S=U s->(b<=s/\s≠h/\rs.length=5)/\N[s]? =U (.list (rs.map .ref))/\eZ (λr L=>(r≠s/\r≠h)/\N[r]? =U (.list (L.map pV))) rs st.2
theorem rY.keep{S:Option Nat}(a:rY p b R N)(w:WS b t h S rs st N)(l:f8 (Zn h S) N J):rY p b R J:=by
 have Y:∀i o,i < b->N[i]? =U o->J[i]? =U o:=λi o B e=>l.2 i o (λz=>z.elim (λq=>absurd (q▸B) (bP.mpr w.bh)) λq=>absurd B (bP.mpr (w.sn i q).1.1)) e;refine fZ a.l λvs h1 h2 h3=>⟨a.lt,vs,Y _ _ a.lt h1,h2,λi B=>?_⟩;refine ga (h3 i B) λr w e1 e2 e3=>(iS r w e1 e2 (Y _ _ e2 e3))
theorem WS.chg{S:Option Nat}(a:WS b t h S Y st N)(T:HT t h L B)(l:f8 (λaa=>aa=h) N B):WS b t h S Y (L,st.2) B:=
 ⟨T,a.bh,λs hs=>pc (a.sn s hs) λJ h2 h3=>⟨J,l.2 _ _ J.2.1 h2,h3.imp λr L q=>⟨q.1,l.2 _ _ q.1.2 q.2⟩⟩⟩
theorem WS.le{S:Option Nat}(a:WS b t h S J st N)(l:Le N B):WS b t h S J st B:=a.chg (a.T.le l) (.of l)
theorem WS.note{st:WT}{N:H}(w:WS b t h (U s) B st N):WS b t h (U s) (B.set a N.length) (st.1,st.2.set a st.1) ((N++ [O.list (st.1.map pV)]).set s (.list ((B.map V.ref).set a (.ref N.length))))/\f8 (Zn h (U s)) N ((N++ [O.list (st.1.map pV)]).set s (.list ((B.map V.ref).set a (.ref N.length))))/\∀r∈B.set a N.length,r∈B\/N.length<=r:=by
 refine pc (w.sn s rfl) λY h2 h3=>?_;have l1:Le N (N++ [O.list (st.1.map pV)]):= .app _ _;have aa:=w.T.le l1;have hs:=aZ h2;have J:∀ {i o},i≠s->(N++ [O.list (st.1.map pV)])[i]? =U o->((N++ [O.list (st.1.map pV)]).set s (.list ((B.map V.ref).set a (.ref N.length))))[i]? =U o:=λhn e=>(bU (Ne.symm hn)).trans e;have ab:t≠s:=λq=>by
  have e1:=w.T.t;rw[q,h2] at e1;exact nomatch e1
 refine⟨⟨⟨J ab aa.t,J (Ne.symm Y.2.1) aa.h,aa.ok,aa.nd⟩,w.bh,λs' q=>?_⟩,(f8.of l1).trans (.set _ _ (.inr rfl)),λr hr=>(List.mem_or_eq_of_mem_set hr).imp id λq=>bJ q.symm⟩;obtain rfl:=aC q;refine⟨⟨Y.1,Y.2.1,by rw[i7];exact Y.2.2⟩,?_,(h3.imp λr L q=>⟨q.1,J q.1.1 (l1 _ _ q.2)⟩).set ⟨⟨eB hs,eB (aZ w.T.h)⟩,J (eB hs) (bC N _)⟩ a⟩;rw[eY (by rw[aF];exact Nat.lt_add_right _ hs),List.map_set]
structure Vr(vs:aW)(R a e t:Nat)(S:Option Nat):Prop where
 r:vs.get 65=U (.ref R)
 a:vs.get 60=U (.int (a:Int))
 e:vs.get 73=U (.int (e:Int))
 t:vs.get 71=U (.ref t)
 s:vs.get 74=U (sV S)
theorem Vr.set{R a e t:Nat}{S:Option Nat}(g:Vr vs R a e t S)(J: [65,60,73,71,74].all (λy=>!(z==y))=zG):Vr (vs.set z v) R a e t S:=by
 have B:∀y∈ [65,60,73,71,74],(z==y)=zH:=λy Y=>fW (aR.mp J y Y);exact⟨gn (B _ (by decide)) g.r,gn (B _ (by decide)) g.a,gn (B _ (by decide)) g.e,gn (B _ (by decide)) g.t,gn (B _ (by decide)) g.s⟩
section
variable{p:Pg}{b R n m t h a e:Nat}{S:Option Nat}{B:List Nat}{st:WT}{vs:aW}{N:H}
theorem F9(hp:p.Ok)(ha:a < 5)(W:WS b t h S B st N)(aq:rY p b R N)(g:Vr vs R a e t S):∃ab ae ai q,(∀r,ic Γ (eG (n+3)) 60 (m+9) (wB.drop 5) ab ae=r->ic Γ (eG (n+3)) 60 (m+14) wB vs N=r)/\Vr ab R a e t S/\ab.get 67=U (.int (p.en a:Int))/\ab.get 75=U (.ref q)/\ae[q]? =U (.list ((C9 (p.X a).2.1::pB (p.X a).2.2).map V.int))/\q≠h/\
  WS b t h S ai (k8 (p.X a) a st.1,if S.isSome then st.2.set a st.1 else st.2) ae/\f8 (Zn h S) N ae/\∀r∈ai,r∈B\/N.length<=r:=by
 have hx:=hp.x a ha;refine fZ aq.l λau ar am ao=>ga (ao a ha) λr w e1 e2 e3=>?_;let J:=((vs.set 59 (.ref r)).set 67 (.int (p.en a:Int))).set 68 w;have x1:ex Γ (eG (n+3)) 60 (m+13) (hS wB 0) vs N=U (.next,J,N):=nI (fD (aV g.r) (aV g.a) (io ar e1 (by rw[am];decide))) rfl;have Y:Vr J R a e t S:=((g.set rfl).set rfl).set rfl;obtain⟨aa,af,x2,ag,l2,h2⟩:∃aa af,ex Γ (eG (n+3)) 60 (m+12) (hS wB 1) J N=U (.next,J,aa)/\WS b t h S af (st.1,if S.isSome then st.2.set a st.1 else st.2) aa/\f8 (Zn h S) N aa/\∀r∈af,r∈B\/N.length<=r:=by
  cases S with
  |none=>exact(tY N B (iN (fm (fE (aV Y.s) cB rfl)) eF) W (.of (.refl _)) (λr hr=>.inl hr))
  |some s=>
   refine pc (W.note (a:=a)) λag l2 h2=>(tY _ _ ?_ ag l2 h2);exact pc (W.sn s rfl) λq1 q2 q3=>kJ (fm (fE (aV Y.s) cB rfl)) (bR (A4 (nO (n:=58) W.T Y.t) (aV Y.s) (aV Y.a) (fC _ _ q2) (by rw[aD,q1.2.2];exact ha) (by rw[aD,q1.2.2];decide)) eF)
 have aj:aa[r]? =U (.list ((r4 (p.X a)).map .int)):=l2.2 _ _ (λz=>z.elim (λq=>absurd (q▸e2) (bP.mpr W.bh)) λq=>absurd e2 (bP.mpr (W.sn r q).1.1)) e3;refine cJ (F6 (n:=n+2) (vs:=J) (r:=r) (gn rfl (gn rfl (bH _ _ _))) aj hx) λav x3 l3=>ga (Di (n:=n+2) (vs:=J.set 11 (.str (gR (p.X a).1))) (r:=r) (gn rfl (gn rfl (gn rfl (bH _ _ _)))) (l3 _ _ aj) hx) λq aw x4 hq l4=>?_;have g4:Vr ((J.set 11 (.str (gR (p.X a).1))).set 75 (.ref q)) R a e t S:=(Y.set rfl).set rfl;have ah:=(ag.le l3).le l4;have ak:q≠h:=λe=>by
  have e5:=ah.T.h;rw[<-e,hq] at e5;cases al:st.1 with
  |nil=>rw[al] at e5;exact nomatch e5
  |cons y l=>rw[al] at e5;exact nomatch e5
 refine fZ (Ga (k:=n) (m:=m+2) (i:=a) ah.T hx ha g4.t (gn rfl (bH _ _ _)) g4.a (bH _ _ _) hq) λap x5 T5 l5=>(LV _ ap af q (λr hr=>bR x1 (bR x2 (bR (eU x3) (bR (eU x4) (bR x5 hr))))) g4 (gn rfl (gn rfl (gn rfl (bH _ _ _)))) (bH _ _ _) (l5.2 _ _ ak hq) ak (ah.chg T5 l5) (((l2.trans (.of l3)).trans (.of l4)).trans (l5.imp λi ax z=>.inl z)) h2)
end
end MI.Lake.L1
namespace MI.Lake
theorem eZ.all{R:B->J->Prop}{Q:B->Prop}(f:∀a b,R a b->Q a){l:List B}{m:List J}(h:eZ R l m):∀a∈l,Q a:=by
 induction h with
 |nil=>exact λaa h=>nomatch h
 |cons x _ Y=>exact λa ha=>(aX.mp ha).elim (λe=>e▸f _ _ x) (Y a)
theorem eZ.add{Q:B->Prop}{l:List B}{m:List aa}(h:eZ R l m):(∀a∈l,Q a)->eZ (λa b=>Q a/\R a b) l m:=by
 induction h with
 |nil=>exact λab=>.nil
 |cons x _ J=>exact λf=>.cons ⟨f _ (.head _),x⟩ (J λa Y=>f a (.tail _ Y))
end MI.Lake
namespace MI.Lake.L1
def ut(p:Pg)(b R f:Nat):Prop:=∀ {n a e t h:Nat} {S:Option Nat} {Y:List Nat} {st:WT} {N:H},f+4<=n->e - a<=f->e<=5->(∀j,a<=j->j < e->p.en j<=e)->rY p b R N->WS b t h S Y st N->
 ∃B J,eG n 303 [.ref R,.int (a:Int),.int (e:Int),.ref t,sV S] [] N=U (.none,B)/\WS b t h S J (wl p f S.isSome a e st) B/\f8 (Zn h S) N B/\∀r∈J,r∈Y\/N.length<=r
section
variable{p:Pg}{b R n m t h a e f k q:Nat}{S:Option Nat}{J:List Nat}{st:WT}{vs:aW}{N B:H}{s':Bool}
def C5(p:Pg)(f a:Nat)(st:WT)(s':Bool):WT:=(iq st.1 (wl p f s' (a+1) (p.en a) st).1,if s' then (wl p f s' (a+1) (p.en a) st).2 else st.2)
noncomputable def sI(S:Option Nat)(s':Bool):Option Nat:=if s' then S else zF
theorem Bm(g:vs.get 60=U (.int (a:Int)))(Y:a < 5):ev Γ (eG n) (m+2) (.bin .add (.var 60) (.lit (.int 1))) vs N=U (.int ((a+1:Nat):Int),N):=
 hI (aV g) cB (by rw[mB,iQ (gF (by exact nL (a+1)) (by exact nH (aA Y (by decide))))];rfl)
theorem FH(Y:vs.get 65=U (.ref R))(aa:vs.get 60=U (.int (a:Int)))(ab:vs.get 67=U (.int (e:Int)))(gz:vs.get z=U (.ref q2))(gy:vs.get y=U w)(ha:a < 5)(h:eG n 303 [.ref R,.int ((a+1:Nat):Int),.int (e:Int),.ref q2,w] [] N=U (.none,B)):
  ev Γ (eG n) (m+4) (.call (.lit (.cst (.ref 303))) [.var 65,.bin .add (.var 60) (.lit (.int 1)),.var 67,.var z,.var y]) vs N=U (.none,B):=
 hR (cQ (aV Y) (cQ (Bm aa ha) (cQ (aV ab) (cQ (aV gz) (cL (aV gy)))))) h
noncomputable abbrev rB:List Lake.S:=sA (hS (sB (hS wB 5)) 1)
theorem Dj(az:ut p b R f)(hn:f+4<=k+3)(ha:a < 5)(he:p.en a - (a+1)<=f)(am:p.en a<=5)(hb:∀j,a+1<=j->j < p.en a->p.en j<=p.en a)(hs:s'=zG->S.isSome=zG)(W:WS b t h S J st N)(a0:rY p b R N)
  (ao:vs.get 65=U (.ref R)) (ap:vs.get 60=U (.int (a:Int))) (aq:vs.get 67=U (.int (p.en a:Int))) (ai:vs.get 71=U (.ref t)) (ar:vs.get 78=U (sV (sI S s'))):
  ∃t' B aj,ic Γ (eG (k+3)) 60 (m+5) rB vs N=U (.next,vs.set 46 (.ref t'),B)/\WS b t h S aj (C5 p f a st s') B/\f8 (Zn h S) N B/\∀r∈aj,r∈J\/N.length<=r:=by
 have l1:Le N (N++ [O.list (st.1.map pV)]):= .app _ _;have hh:h < N.length:=aZ W.T.h;refine fZ (ye (k:=k+1) (bC N _) W.T.ok W.T.nd) λau e2 a3 l2=>?_;have Y:=l1.trans l2;have av:(sI S s').isSome=s':=by
  cases s' with
  |true=>exact hs rfl
  |false=>rfl
 have ah:∀s,sI S s'=U s->S=U s:=λs q=>by
  cases s' with
  |true=>exact q
  |false=>exact nomatch q
 have a5:=W.le Y;have lt:∀ {i o},N[i]? =U o->i≠N.length:=λe=>bT (aZ e);have a4:WS b (N++ [O.list (st.1.map pV)]).length N.length (sI S s') J st au:=⟨a3,bA (aK W.bh hh),λs q=>pc (W.sn s (ah s q)) λy1 y2 y3=>⟨⟨y1.1,lt y2,y1.2.2⟩,Y _ _ y2,y3.imp λr L q=>⟨⟨q.1.1,lt q.2⟩,Y _ _ q.2⟩⟩⟩;refine pb (az hn he am hb (a0.keep W (.of Y)) a4) λaa aw e3 ab l3 c3=>?_;replace ab:=av▸ab;have ax:f8 (Zn h S) N aa:=⟨aA (Le.len Y) l3.1,λi o hz e=>l3.2 i o (λz=>z.elim (λq=>lt e q) λq=>hz (.inr (ah i q))) (Y _ _ e)⟩;have ay:∀s,S=U s->t≠s:=λs q e=>by
  have e1:=W.T.t
  (replace e1:=e▸e1;replace e1:=((W.sn s q).2.1)▸e1)
  exact nomatch e1
 have al:HT t h st.1 aa:=by
  have keep:∀i o,i≠N.length->(∀s,S=U s->i≠s)->N[i]? =U o->aa[i]? =U o:=λi o h1 h2 e=>l3.2 i o (λz=>z.elim h1 λq=>h2 i (ah i q) rfl) (Y _ _ e);exact⟨keep _ _ (lt W.T.t) ay W.T.t,keep _ _ (lt W.T.h) (λs q=>Ne.symm (W.sn s q).1.2.1) W.T.h,W.T.ok,W.T.nd⟩
 have l4:Le aa (aa++ [O.list ((wl p f s' (a+1) (p.en a) st).1.map pV)]):= .app _ _;refine fZ (zw (k:=k) (al.le l4) (bC aa _) (eB (aZ al.h)) ab.T.ok (aK ab.T.len (by decide))) λak e5 T5 l5=>?_;have af:f8 (λae=>ae=h) aa ak:=(f8.of l4).trans l5;have ag:∀ {z v},vs.get z=v->(46==z)=zH->aW.get z (vs.set 46 (.ref (N++ [O.list (st.1.map pV)]).length))=v:=λg hz=>gn hz g;refine(Hn ((N++ [O.list (st.1.map pV)]).length) ak (if s' then aw else J) ?_ ⟨T5,W.bh,λs q=>pc (W.sn s q) λy1 y2 y3=>?_⟩ (ax.trans (af.imp λi ae z=>.inl z)) (λr hr=>?_))
 ·refine bR (eU (hR (cL (nO W.T ai)) e2)) (bR (gl (FH (ag ao rfl) (ag ap rfl) (ag aq rfl) (bH _ _ _) (ag ar rfl) ha e3)) (bR (gl (hR (n:=58) (cQ (aV (ag ai rfl)) (cL (nO (n:=57) ab.T (bH _ _ _)))) e5)) eF))
 ·cases s' with
  |true=>
   refine pc (ab.sn s q) λz1 z2 z3=>⟨⟨y1.1,y1.2.1,z1.2.2⟩,af.2 _ _ y1.2.1 z2,(z3.add (Q:=(λae=>ae≠h)) λr hr=>?_).imp λr L q=>⟨⟨q.2.1.1,q.1⟩,af.2 _ _ q.1 q.2.2⟩⟩;exact(c3 r hr).elim (y3.all (λae ae q=>q.1.2) r) λq=>eB (aT hh (aA (Le.len Y) q))
  |false=>exact⟨y1,af.2 _ _ y1.2.1 (l3.2 _ _ (λz=>z.elim (lt y2) λq=>nomatch q) (Y _ _ y2)),y3.imp λr L q=>⟨q.1,af.2 _ _ q.1.2 (l3.2 _ _ (λz=>z.elim (lt q.2) λq=>nomatch q) (Y _ _ q.2))⟩⟩
 ·cases s' with
  |true=>exact(c3 r hr).imp id λq=>aA (Le.len Y) q
  |false=>exact .inl hr
end
section
variable{p:Pg}{b R n m t h a e f k q:Nat}{S:Option Nat}{J:List Nat}{st:WT}{vs:aW}{N B:H}{s':Bool}{x:Nat×Nat×Nat}
noncomputable abbrev fI:E:= .ite (.cmp .is_ (.var 74) (.lit .none)) (.list [.lit .none]) (.var 77)
theorem F7(ae:vs.get 74=U (sV S))(ag:vs.get 75=U (.ref q))(hq:N[q]? =U (.list ((C9 x.2.1::pB x.2.2).map V.int)))(hm:Nat.beq x.2.2 0=zH):
  ∃y qr ah af,ev Γ (eG n) 60 (sE (hS (sB (hS wB 5)) 0)) vs N=U (.ref y,ah)/\ev Γ (eG n) 60 fI (vs.set 77 (.ref y)) ah=U (.ref qr,af)/\af[qr]? =U (.list ((wF S.isSome x.2.2).map λs'=>sV (sI S s')))/\Le N af/\N.length<=qr:=by
 let Y:H:=N++ [O.list [sV S]]++ [O.list [.none,sV S]];have l2:Le N Y:=(Le.app _ _).trans (.app _ _);have h2:Y[N.length+1]? =U (O.list [.none,sV S]):=by
  have:=bC (N++ [O.list [sV S]]) (O.list [.none,sV S]);rwa [aF] at this
 have h1:Y[N.length]? =U (O.list [sV S]):=fC _ _ (bC N _);have e1:dY (ev Γ (eG n) 59) [.list [.var 74],.list [.lit .none,.var 74]] vs N=U ([.ref N.length,.ref (N.length+1)],Y):=by
  refine cQ (fr (cL (aV ae)) (by decide:1<=1000000)) (cL ?_);have:=fr (Γ:=Γ) (C:=eG n) (n:=58) (N:=N++ [O.list [sV S]]) (cQ (cB (v:=V.none)) (cL (aV ae))) (by decide:2<=1000000);rwa [aF] at this
 obtain⟨y,hy,ey⟩:∃y,(y=N.length/\x.2.2=1\/y=N.length+1/\Nat.beq x.2.2 1=zH)/\ev Γ (eG n) 60 (sE (hS (sB (hS wB 5)) 0)) vs N=U (.ref y,Y):=by
  have ab:=l2 _ _ hq;refine(G1 _ hm).elim (λh=>?_) λh=>?_
  ·rw[h.2] at ab;exact(cU _ (.inl ⟨rfl,h.1⟩) (Bo e1 (fD (aV ag) cB (io ab rfl (by decide:2<=1000000))) rfl))
  ·rw[h.2] at ab;exact(cU _ (.inr ⟨rfl,h.1⟩) (Bo e1 (fD (aV ag) cB (io ab rfl (by decide:2<=1000000))) rfl))
 have gy:∀v,aW.get 77 (vs.set 77 v)=U v:=λv=>bH _ _ _;have aa:aW.get 74 (vs.set 77 (.ref y))=U (sV S):=gn rfl ae;cases S with
 |none=>
  exact(KI y Y.length Y _ ey (lO (fm (fE (aV aa) cB rfl)) (fr (cL cB) (by decide:1<=1000000))) (bC _ _) (l2.snoc _) (Le.len l2))
 |some s=>
  refine(KI y y Y Y ey (mX (fm (fE (aV aa) cB rfl)) (aV (gy _))) ?_ l2 ?_)
  ·clear ey aa;rcases hy with⟨rfl,h⟩| ⟨rfl,h⟩
   ·rw[h1,h];rfl
   ·rw[h2];unfold wF;rw[h];rfl
  ·clear ey aa;rcases hy with⟨rfl,_⟩| ⟨rfl,_⟩
   ·exact aJ _
   ·exact fR _
theorem Dk(ao:ut p b R f)(hn:f+4<=k+3)(hp:p.Ok)(ha:a < 5)(he:p.en a - (a+1)<=f)(W:WS b t h S J st N)(ap:rY p b R N)(g:Vr vs R a e t S)(af:vs.get 67=U (.int (p.en a:Int)))(ak:vs.get 75=U (.ref q))(hq:N[q]? =U (.list ((C9 (p.X a).2.1::pB (p.X a).2.2).map V.int))):
  ∃aa B Y,ex Γ (eG (k+3)) 60 (m+9) (hS wB 5) vs N=U (.next,aa,B)/\(Vr aa R a e t S/\aa.get 67=U (.int (p.en a:Int)))/\
   WS b t h S Y (if Nat.beq (p.X a).2.2 0 || Nat.beq (p.en a) (a+1) then wl p f S.isSome (a+1) (p.en a) st else (wF S.isSome (p.X a).2.2).foldl (C5 p f a) st) B/\f8 (Zn h S) N B/\∀r∈Y,r∈J\/N.length<=r:=by
 have ek:=Bl (C:=eG (k+3)) (op:= .eq) (n:=57) (λx y N=>Option.map_id'.symm) (Bk ak hq) (bC _ _);have lt:Le N (N++ [O.list ((pB (p.X a).2.2).map V.int)]++ [O.list []]):=(Le.app _ _).trans (.app _ _);have et:hJ (ev Γ (eG (k+3)) 60) (sE (hS wB 5)) vs N=U ((pB (p.X a).2.2).isEmpty || (((p.en a:Nat):Int)==((a+1:Nat):Int)),N++ [O.list ((pB (p.X a).2.2).map V.int)]++ [O.list []]):=
  Gj (fm ek) (λai=>fm (fE (aV af) (Bm g.a ha) rfl)) λai=>rfl
 have eb:((pB (p.X a).2.2).isEmpty || (((p.en a:Nat):Int)==((a+1:Nat):Int)))=(Nat.beq (p.X a).2.2 0 || Nat.beq (p.en a) (a+1)):=by
  have h1:(((p.en a:Nat):Int)==((a+1:Nat):Int))=Nat.beq (p.en a) (a+1):=by
   rw[eI,beq_iff_eq,Nat.beq_eq];exact Int.ofNat_inj
  rw[h1];rw[yl]
 rw[eb] at et;have au:=W.le lt;have av:=ap.keep W (.of lt);cases hb:(Nat.beq (p.X a).2.2 0 || Nat.beq (p.en a) (a+1)) with
 |true=>
  rw[hb] at et;refine pb (ao hn he (hp.le a ha) (hp.nest a ha) av au) λB Y e' ab l' c'=>(Jg vs B Y (kJ et (bR (gl (FH g.r g.a af g.t g.s ha e')) eF)) ⟨g,af⟩ ab ((f8.of lt).trans l') (λr hr=>(c' r hr).imp id λq=>aA (Le.len lt) q))
 |false=>
  rw[hb] at et;have hm:Nat.beq (p.X a).2.2 0=zH:=(eT.mp hb).1;refine Ky (F7 (n:=k+3) g.s ak (lt _ _ hq) hm) λy qr aq al ey ei ah l1 hl=>?_;have ag:=lt.trans l1;have am:N.length<=qr:=aA (Le.len lt) hl;have hz: ¬Zn h S qr:=λz=>z.elim (λq=>absurd (aZ W.T.h) (bP.mpr (q▸am))) λq=>absurd (aZ (W.sn qr q).2.1) (bP.mpr am);refine je (hV (Γ:=Γ) (n:=m+5) (t:= .name 78) (b:=rB) (N:=aq) (σb:=al) (itr:=λj=>.one (.ls qr j)) (hC ei ah) rfl (by
    rw[aD];unfold wF;split<;>(try split)<;>decide)
   (zE:=λj vs ae=>(Vr vs R a e t S/\vs.get 67=U (.int (p.en a:Int)))/\∃Y,WS b t h S Y (((wF S.isSome (p.X a).2.2).take j).foldl (C5 p f a) st) ae/\f8 (Zn h S) al ae/\∀r∈Y,r∈J\/N.length<=r)
   ⟨⟨g.set rfl,gn rfl af⟩,J,W.le ag,.of (.refl _),λr hr=>.inl hr⟩
   (λj v vs ae hv zE=>zE.2.elim λai w=>mu (w.2.1.2 _ _ hz ah) hv) (λvs ae zE=>zE.2.elim λai w=>mw (w.2.1.2 _ _ hz ah) (cI (aJ _))) (λj v vs ae hv zE=>?_)) λaa B ef zE=>?_
  ·obtain⟨⟨g',aj⟩,Y,ab,l',c'⟩:=zE;rw[bD] at hv;refine mi hv λs' hs e'=>?_;subst e';have aw:s'=zG->S.isSome=zG:=λq=>by
    cases S with
    |some s=>rfl
    |none=>
     have:=bF hs;rw[q] at this;exact absurd (aH.mp this) (by decide)
   refine(cU (vs.set 78 (sV (sI S s'))) rfl ?_);refine Ar (Dj (m:=m) ao hn ha he (hp.le a ha) (hp.nest a ha) aw ab (ap.keep W ((f8.of ag).trans l')) (gn rfl g'.r) (gn rfl g'.a) (gn rfl aj) (gn rfl g'.t) (bH _ _ _)) λt' ay ar e2 ax l2 c2=>?_;have hx:(wF S.isSome (p.X a).2.2).take (j+1)=(wF S.isSome (p.X a).2.2).take j++ [s']:=by rw[fT,hs];rfl
   refine⟨_,_,e2,⟨(g'.set rfl).set rfl,gn rfl (gn rfl aj)⟩,ar,?_,l'.trans l2,λr hr=>(c2 r hr).elim (c' r) λq=>.inr (aA (aA (Le.len ag) l'.1) q)⟩;rw[hx,xQ];exact ax
  ·rw[aD,gd] at zE;obtain⟨g',Y,ab,l',c'⟩:=zE;exact(Jg aa B Y (iN et (bR (eU ey) (bR ef eF))) g' ab ((f8.of ag).trans l') c')
noncomputable abbrev wQ:E:= .cmp .lt (.var 60) (.var 73)
def jv(p:Pg)(b R f:Nat):Prop:=∀ {n a e t h:Nat} {S:Option Nat} {J:List Nat} {st:WT} {N:H} {vs:aW},f+3<=n->e - a<=f->e<=5->(∀j,a<=j->j < e->p.en j<=e)->rY p b R N->WS b t h S J st N->Vr vs R a e t S->
 ∃aa B Y,(∀K,kl (λM N=>hJ (ev Γ (eG n) 60) wQ M N) (λM N=>ic Γ (eG n) 60 58 wB M N) (K+f+1) vs N=U (.next,aa,B))/\WS b t h S Y (wl p f S.isSome a e st) B/\f8 (Zn h S) N B/\∀r∈Y,r∈J\/N.length<=r
theorem sU(L:jv p b R f)(hf:f<=5):ut p b R f:=by
 intro n a e t h S J st N Y aa he hb ae W;obtain⟨n,rfl⟩:∃n',n=n'+1:=⟨n - 1,(Nat.sub_add_cancel (aA (eH 1 (f+3)) Y)).symm⟩;refine Ar (L (vs:= [(65,U (.ref R)),(60,U (.int (a:Int))),(73,U (.int (e:Int))),(71,U (.ref t)),(74,U (sV S))]) (Nat.le_of_succ_le_succ Y) aa he hb ae W ⟨rfl,rfl,rfl,rfl,rfl⟩) λag B ab H af l' c'=>(tY B ab ?_ af l' c');have e1:=H (1999 - f);rw[show 1999 - f+f+1=dW by show _=2000;exact congrArg Nat.succ (Nat.sub_add_cancel (aA hf (by decide)))] at e1;exact qW rfl rfl rfl (bR (show ex Γ (eG n) 60 59 (.whil wQ wB) _ N=_ from e1) eF)
theorem Eg(hp:p.Ok):∀f,f<=5->jv p b R f:=by
 intro f;induction f with
 |zero=>
  intro _ n a e t h S J st N vs hn aa he hb ab W g;refine(Hn vs N J (λK=>kj (fm (fE (aV g.a) (aV g.e) (congrArg U (decide_eq_false ?_))))) W (.of (.refl _)) (λr hr=>.inl hr));exact λq=>bP.mpr (Nat.sub_eq_zero_iff_le.mp (Nat.le_zero.mp aa)) (Int.ofNat_lt.mp q)
 |succ f ih=>
  intro hf n a e t h S J st N vs hn aa he hb ab W g;have ih:jv p b R f:=ih (bA (by assumption));have et:hJ (ev Γ (eG n) 60) wQ vs N=U (decide ((a:Int) < (e:Int)),N):=fm (fE (aV g.a) (aV g.e) rfl);by_cases Y:a < e
  ·rw[decide_eq_true (Int.ofNat_lt.mpr Y)] at et;obtain⟨k,rfl⟩:∃k,n=k+3:=⟨n - 3,(Nat.sub_add_cancel (aA (eH 3 (f+1)) hn)).symm⟩;have ha:a < 5:=aT (by assumption) (by assumption);have ae:=hp.lt a ha;refine JP (F9 (n:=k) (m:=44) hp ha W ab g) λau av aw q e1 g1 ai aj hq az ag l1 c1=>?_;have ah:=ab.keep W l1;have ax:=hp.le a ha;have h1:f+4<=k+3:=hn;have ak:=hb a (aJ _) Y;have h2:p.en a - (a+1)<=f:=by rw[<-Nat.sub_sub];exact Nat.sub_le_of_le_add (aA (Nat.sub_le_sub_right ak a) aa)
   have h3:e - p.en a<=f:=aA (Nat.sub_le_sub_left ae e) (by rw[Nat.succ_eq_add_one,Nat.sub_add_eq];exact Nat.sub_le_of_le_add aa);have CL:ut p b R f:=sU ih (bW hf);refine Aq (Dk (m:=43) CL h1 hp ha h2 ag ah g1 ai aj hq) λaf al ay e2 q1 aq l2 c2=>?_;have g3:Vr (af.set 60 (.int (p.en a:Int))) R (p.en a) e t S:=⟨gn rfl q1.1.r,bH _ _ _,gn rfl q1.1.e,gn rfl q1.1.t,gn rfl q1.1.s⟩;refine Ar (ih (bW h1) h3 he (λj q=>hb j (bA (aT ae q))) (ah.keep ag l2) aq g3) λam ao ap e3 ar l3 c3=>?_;have eb:ic Γ (eG (k+3)) 60 58 wB vs N=U (.next,af.set 60 (.int (p.en a:Int)),al):=e1 _ (bR e2 (bR (eU (aV q1.2)) eF));refine(Hn am ao ap (λK=>(mZ et eb).trans (e3 K)) ?_ ((l1.trans l2).trans l3) (λr hr=>?_))
   ·have:wl p (f+1) S.isSome a e st=wl p f S.isSome (p.en a) e (if (Nat.beq (p.X a).2.2 0 || Nat.beq (p.en a) (a+1))=zG then wl p f S.isSome (a+1) (p.en a) (k8 (p.X a) a st.1,if S.isSome=zG then st.2.set a st.1 else st.2) else (wF S.isSome (p.X a).2.2).foldl (C5 p f a) (k8 (p.X a) a st.1,if S.isSome=zG then st.2.set a st.1 else st.2)):=if_pos Y;rw[this];exact ar
   ·refine(c3 r hr).elim (λq=>(c2 r q).elim (c1 r) λq=>.inr (aA l1.1 q)) λq=>.inr (aA (aA l1.1 l2.1) q)
  ·rw[decide_eq_false (λq=>Y (Int.ofNat_lt.mp q))] at et;refine(Hn vs N J (λK=>kj et) ?_ (.of (.refl _)) (λr hr=>.inl hr));rw[show wl p (f+1) S.isSome a e st=st from if_neg Y];exact W
theorem Ay(hp:p.Ok)(hn:9<=n)(aa:rY p b R N)(W:WS b t h S J st N):∃B Y,eG n 303 [.ref R,.int 0,.int 5,.ref t,sV S] [] N=U (.none,B)/\WS b t h S Y (wl p 5 S.isSome 0 5 st) B/\f8 (Zn h S) N B:=
 pb (sU (Eg hp 5 (aJ _)) (aJ _) hn (aJ _) (aJ _) (λj ab hj=>hp.le j hj) aa W) λB Y e ae l' ab=>(iS B Y e ae l')
end
noncomputable def FR:S->Bool
 |.ite _ _ _=>zG
 |_=>zH
section
variable{C:Cf}{fe n:Nat}{s:S}{M:aW}{N B:H}{r:Option (Fl×aW×H)}
theorem KH(J:FR s=zG)(Y:hJ (ev Γ C fe) (sE s) M N=U (zG,B))(h:ic Γ C fe n (sA s) M B=r):ex Γ C fe (n+1) s M N=r:=by
 cases s with
 |ite t a b=>exact kJ Y h
 |_=>exact ft J
theorem Jf(J:FR s=zG)(Y:hJ (ev Γ C fe) (sE s) M N=U (zH,B))(h:ic Γ C fe n (sB s) M B=r):ex Γ C fe (n+1) s M N=r:=by
 cases s with
 |ite t a b=>exact iN Y h
 |_=>exact ft J
end
noncomputable def xJ(B:Nat->Nat)(i:Nat):List Nat:=(List.range i).filter λh=>Nat.blt i (B h)
def rL(p:Pg)(i:Nat)(ls:List (List Nat)):List Nat:=match (xJ p.en i).getLast? with
 |some b=>if Nat.beq (p.en i) (p.en b) then ls.getD b []++(if Nat.beq (p.X b).2.2 2 then [b+1] else []) else [p.en i]
 |.none=>[p.en i]
noncomputable def jy(p:Pg):Nat->List (List Nat)
 | 0=>[]
 |i+1=>jy p i++ [rL p i (jy p i)]
def lv(p:Pg)(i:Nat):List Nat:=(jy p 5).getD i []
noncomputable def inn(p:Pg)(i:Nat):List Nat:=if Nat.blt (i+1) (p.en i) then [i+1] else []
def Du(p:Pg)(i:Nat)(l:List Nat):List Nat:=if (inn p i).isEmpty || !(Nat.beq (p.X i).2.2 0) then inn p i++l else inn p i
noncomputable def cT(n:Nat):V:= .int (n:Int)
def dF(l:List Nat):List V:=l.map cT
def BJ(l:Txt)(x:Nat×Nat×Nat):V:= .tup [.str l,.str (gR x.1),.str (z8 x.2.1),.str (zx x.2.2)]
structure PE(p:Pg)(q e:Nat)(N:H):Prop where
 q:∃ls:Nat->Txt,N[q]? =U (.list ((List.range 5).map λi=>BJ (ls i) (p.X i)))
 e:N[e]? =U (.list ((List.range 5).map λi=>cT (p.en i)))
theorem PE.le{q e:Nat}(a:PE p q e N)(hq: ¬Z q)(J: ¬Z e)(l:f8 Z N B):PE p q e B:=⟨a.q.elim λls h=>⟨ls,l.2 _ _ hq h⟩,l.2 _ _ J a.e⟩
section
variable{C:Cf}{n m q e i:Nat}{vs:aW}{N B:H}{p:Pg}{a:E}
theorem FC:∀(n:Nat) (a:Nat),kK (a:Int) n=(List.range' a n).map cT:=by
 intro n;induction n with
 |zero=>exact λY=>rfl
 |succ n J=>
  intro a;show V.int (a:Int)::kK ((a:Int)+1) n=_;rw[show(a:Int)+1=((a+1:Nat):Int) from rfl,J (a+1)];rfl
theorem Aw(a b:Int):s7 (.rng a b) N=(if decide (b - a < 1000)&&jh a&&jh b then U (.vs (j9 a b)) else .none):=rfl
theorem tV(h:ev Γ C (n+1) a vs N=U (cT k,B))(Y:k < 1000):gG (ev Γ C (n+2)) (.plain (.call (.lit (.cst (.type "range"))) [a])) vs N=U (.one (.vs ((dF (List.range k)).drop 0)),B):=by
 have e1:ev Γ C (n+2) (.call (.lit (.cst (.type "range"))) [a]) vs N=U (.rng 0 (k:Int),B):=
  hR (cL h) ((m9 Γ C B "range" _).trans ((CP B (k:Int)).trans (if_pos (gF (nL k) (nH (aA (bA Y) (by decide)))))))
 show(match ev Γ C (n+2) (.call (.lit (.cst (.type "range"))) [a]) vs N with
   |some (v,J)=>(s7 v J).map λz=>(gx.one z,J)
   |.none=>.none)=_
 rw[e1];dsimp only;rw[Aw,if_pos (by rw[gF (by decide) (by decide),gF (nL k) (nH (aA (bA Y) (by decide))),decide_eq_true (by exact Int.ofNat_lt.mpr (by assumption))];rfl)];show U (gx.one (.vs (kK ((0:Nat):Int) ((k:Int) - 0).toNat)),B)=_;rw[FC,show((k:Int) - 0).toNat=k by exact(congrArg Int.toNat (Int.sub_zero _)).trans (Int.toNat_natCast k),<-List.range_eq_range'];rfl
theorem ql(h:ev Γ C (n+1) a vs N=U (.ref q,B))(hq:B[q]? =U (.list I)):ev Γ C (n+2) (.call (.lit (.cst (.builtin "len"))) [a]) vs N=U (cT I.length,B):=
 hR (cL h) ((fK Γ C B "len" _).trans (Aj B hq))
theorem FX(h:PE p q e N)(J:i < 5):g9 Γ (.ref e) (cT i) N=U (cT (p.en i)):=
 io h.e (by rw[bD,cM J];rfl) (by rw[aD,aQ];decide)
theorem FE(h:PE p q e N)(J:i < 5):∃l,g9 Γ (.ref q) (cT i) N=U (BJ l (p.X i)):=
 dS h.q λls hq=>⟨ls i,io hq (by rw[bD,cM J];rfl) (by rw[aD,aQ];decide)⟩
theorem El(hq:N[q]? =U (.list (dF l)))(J:l.getLast? =U v)(hl:l.length<=1000):g9 Γ (.ref q) (.int (-1)) N=U (cT v):=by
 have Y:l≠ []:=λe=>by rw[e] at J;exact ns J
 have hp:=List.length_pos_iff.mpr Y;show(match N[q]? with
  |some (.list I)=>(yz I.length (-1)).bind λj=>I[j]?
  |_=>.none)=_
 rw[hq];have e1:yz (dF l).length (-1)=U (l.length - 1):=by
  unfold dF;rw[aD];show seqIndex? (-1) l.length=_;unfold seqIndex?;obtain⟨n,hn⟩:=Nat.exists_eq_succ_of_ne_zero (eB hp);have e:(-1:Int)+((n+1:Nat):Int)=n:=(Int.add_comm _ _).trans (Int.add_neg_cancel_right (n:Int) 1);simp;rw[hn,e];exact⟨⟨fM n,Int.ofNat_lt.mpr (bQ n)⟩,rfl⟩
 dsimp only;rw[e1,bO];unfold dF;rw[bD,<-nn,J];rfl
end
def f9(p:Pg)(i:Nat):List Nat:=Du p i (rL p i (jy p i))
noncomputable def wb(p:Pg):Nat->List (List Nat)
 | 0=>[]
 |i+1=>wb p i++ [f9 p i]
section
variable{C:Cf}{n i j a:Nat}{vs:aW}{N B J:H}{x y o:E}{I ys:List V}{v:V}
theorem tI(Y:ev Γ C n x vs N=U (.ref i,B))(hy:ev Γ C n y vs B=U (.ref j,J))(hi:J[i]? =U (.list I))(hj:J[j]? =U (.list ys))(hl:(I++ys).length<=1000000):ev Γ C (n+1) (.bin .add x y) vs N=U (.ref J.length,J++ [.list (I++ys)]):=by
 refine hI Y hy ?_;show((dX J (.ref i)).bind λI=>(dX J (.ref j)).bind λys=>iP (I++ys) J)=_;rw[dC _ hi,bO,dC _ hj,bO];exact g6 _ hl
theorem kg(Y:ev Γ C (n+1) o vs N=U (.ref a,N))(h:N[a]? =U (.list I))(he:ev Γ C (n+1) x vs N=U (v,B))(h1:B[a]? =U (.list I))(hl:I.length < 1000000):
  ev Γ C (n+2) (.callM o 16 [x] []) vs N=U (.none,B.set a (.list (I++ [v]))):=
 gm Y (lP Γ N h rfl) (cL he) gS (kU Γ C B h1 hl)
theorem ki(l m:List Nat):dF (l++m)=dF l++dF m:=dP ..
theorem su(l:List Nat):dF l=(l.map Int.ofNat).map V.int:=(eC ..).symm
theorem eR(l:List Nat):(dF l).length=l.length:=aD ..
theorem wM(Y:∀x y N,jO Γ op x y N=(yJ N x y).map f)(he:ev Γ C (n+1) x vs N=U (.ref a,B))(hq:B[a]? =U (.list (dF l))):ev Γ C (n+2) (.cmp op x (.list [])) vs N=U (.bool (f l.isEmpty),B++ [.list []]):=by
 have:=Bl Y he (by rw[hq,su]);rwa [List.isEmpty_map] at this
end
def NL(f:J->V)(Z:Nat->Prop)(a:Nat)(ls:List (List J))(N:H):Prop:=∃B:List Nat,N[a]? =U (.list (B.map .ref))/\eZ (λr l=>¬Z r/\N[r]? =U (.list (l.map f))) B ls
section
variable{J:Type}{f:J->V}{Z:Nat->Prop}{a:Nat}{ls:List (List J)}{N B:H}
theorem NL.keep(h:NL f Z a ls N)(l:f8 Z N B)(e:B[a]? =N[a]?):NL f Z a ls B:=cJ h λY h1 h2=>⟨Y,e.trans h1,h2.imp λr x q=>⟨q.1,l.2 _ _ q.1 q.2⟩⟩
theorem NL.le(h:NL f Z a ls N)(l:Le N B):NL f Z a ls B:=cJ h λY h1 h2=>⟨Y,l _ _ h1,h2.imp λr x q=>⟨q.1,l _ _ q.2⟩⟩
theorem NL.get(h:NL f Z a ls N)(hk:ls[k]? =U l)(hl:ls.length<=1000):∃r,g9 Γ (.ref a) (cT k) N=U (.ref r)/\N[r]? =U (.list (l.map f))/\ ¬Z r:=by
 refine cJ h λrs h1 h2=>?_;have Y:=h2.length;have aa:k < rs.length:=Y▸aZ hk;refine cJ (h2.get (aM aa)) λl' e1 q=>?_;rw[hk] at e1;obtain rfl:=aC e1;exact(g8 (rs[k]) (io h1 (by rw[bD,aM aa];rfl) (by rw[aD,<-Y];exact aA (by assumption) (by decide))) q.2 q.1)
theorem NL.snoc(h:NL f Z a ls N)(ha:Z a)(Y: ¬Z r)(e:N[r]? =U (.list (l.map f)))(hl:ls.length<=1000):∃I,N[a]? =U (.list I)/\I.length < 1000000/\NL f Z a (ls++ [l]) (N.set a (.list (I++ [.ref r]))):=by
 refine cJ h λrs h1 h2=>⟨_,h1,by rw[aD,<-h2.length];exact aK (by assumption) (by decide),rs++ [r],?_,?_⟩
 ·rw[jU h1,dP];rfl
 ·have go:∀i o,¬Z i->N[i]? =U o->(N.set a (.list (rs.map .ref++ [.ref r])))[i]? =U o:=λi o hn e=>(bU λz=>hn (by rw[<-z];exact ha)).trans e;exact(h2.imp λaa x q=>⟨q.1,go _ _ q.1 q.2⟩).snoc ⟨Y,go _ _ Y e⟩
end
def Zr(l s i:Nat):Prop:=i=l\/i=s
structure RS(p:Pg)(q e lr sr:Nat)(a c:List (List Nat))(N:H):Prop where
 pe:PE p q e N
 z:(¬Zr lr sr q/\ ¬Zr lr sr e)/\lr≠sr
 n:a.length<=5/\c.length<=5
 l:NL cT (Zr lr sr) lr a N
 s:NL cT (Zr lr sr) sr c N
section
variable{p:Pg}{q e Y aa:Nat}{a c:List (List Nat)}{N B:H}
theorem RS.le(h:RS p q e Y aa a c N)(l:Le N B):RS p q e Y aa a c B:=⟨h.pe.le h.z.1.1 h.z.1.2 (f8.of l),h.z,h.n,h.l.le l,h.s.le l⟩
structure Rv(vs:aW)(q e lr sr:Nat):Prop where
 q:vs.get 53=U (.ref q)
 e:vs.get 90=U (.ref e)
 l:vs.get 93=U (.ref lr)
 s:vs.get 94=U (.ref sr)
theorem Rv.set(g:Rv vs q e Y aa)(hz: [53,90,93,94].all (λy=>!(z==y))=zG):Rv (vs.set z v) q e Y aa:=by
 have ab:∀y∈ [53,90,93,94],(z==y)=zH:=λy hy=>fW (aR.mp hz y hy);exact⟨gn (ab _ (by decide)) g.q,gn (ab _ (by decide)) g.e,gn (ab _ (by decide)) g.l,gn (ab _ (by decide)) g.s⟩
variable{C:Cf}{n m r i b:Nat}{vs:aW}{J:H}{x:E}{l:List Nat}
theorem RS.addL(h:RS p q e Y aa a c N)(g:Rv vs q e Y aa)(hx:ev Γ C (n+1) x vs N=U (.ref r,J))(l1:Le N J)(hr: ¬Zr Y aa r)(er:J[r]? =U (.list (dF l)))(ha:a.length < 5):∃B,ev Γ C (n+2) (.callM (.var 93) 16 [x] []) vs N=U (.none,B)/\RS p q e Y aa (a++ [l]) c B/\f8 (Zr Y aa) N B:=by
 have h1:=h.le l1;refine cJ h.l λrs e0 ab=>fZ (h1.l.snoc (.inl rfl) hr er (aA (bA (by assumption)) (by decide))) λI e1 e2 e3=>?_;have l2:f8 (Zr Y aa) J (J.set Y (.list (I++ [.ref r]))):= .set _ _ (.inl rfl);exact(g8 _ (kg (aV g.l) (e0.trans ((l1 _ _ e0).symm.trans e1)) hx e1 e2) ⟨h1.pe.le h1.z.1.1 h1.z.1.2 l2,h.z,⟨by rw[aF];exact ha,h.n.2⟩,e3,h1.s.keep l2 (bU h.z.2)⟩ ((f8.of l1).trans l2))
theorem RS.addS(h:RS p q e Y aa a c N)(g:Rv vs q e Y aa)(hx:ev Γ C (n+1) x vs N=U (.ref r,J))(l1:Le N J)(hr: ¬Zr Y aa r)(er:J[r]? =U (.list (dF l)))(ha:c.length < 5):∃B,ev Γ C (n+2) (.callM (.var 94) 16 [x] []) vs N=U (.none,B)/\RS p q e Y aa a (c++ [l]) B/\f8 (Zr Y aa) N B:=by
 have h1:=h.le l1;refine cJ h.s λrs e0 ab=>fZ (h1.s.snoc (.inr rfl) hr er (aA (bA (by assumption)) (by decide))) λI e1 e2 e3=>?_;have l2:f8 (Zr Y aa) J (J.set aa (.list (I++ [.ref r]))):= .set _ _ (.inr rfl);exact(g8 _ (kg (aV g.s) (e0.trans ((l1 _ _ e0).symm.trans e1)) hx e1 e2) ⟨h1.pe.le h1.z.1.1 h1.z.1.2 l2,h.z,⟨h.n.1,by rw[aF];exact ha⟩,h1.l.keep l2 (bU (Ne.symm h.z.2)),e3⟩ ((f8.of l1).trans l2))
theorem RS.new(h:RS p q e Y aa a c N)(hr:N.length<=r): ¬Zr Y aa r:=λz=>z.elim
 (λw=>cJ h.l λab e0 ab=>absurd (aZ e0) (bP.mpr (w▸hr))) λw=>cJ h.s λab e0 ab=>absurd (aZ e0) (bP.mpr (w▸hr))
theorem PE.lee(a:PE p q e N)(l:Le N B):PE p q e B:=a.le (Z:=λab=>False) id id (f8.of l)
theorem mA(a b:Nat):decide ((a:Int) < (b:Int))=Nat.blt a b:=by
 rw[eI,decide_eq_true_iff,Nat.blt_eq];exact Int.ofNat_lt
theorem E9(a b:Nat):((a:Int)==(b:Int))=Nat.beq a b:=by
 rw[eI,beq_iff_eq,Nat.beq_eq];exact Int.ofNat_inj
noncomputable abbrev rA:List Lake.S:=sA (hS fg.body 1)
theorem DW(h:PE p q e N)(g:Rv vs q e Y aa)(gz:vs.get z=U (cT i))(hi:i < 5):ev Γ C (n+2) (.sub (.var 90) (.var z)) vs N=U (cT (p.en i),N):=fD (aV g.e) (aV gz) (FX h hi)
theorem DH(h:PE p q e N)(g:Rv vs q e Y aa)(ab:vs.get 44=U (cT i))(hi:i < 5):∃B,ev Γ C 60 (sE (hS rA 0)) vs N=U (.ref B.length,B++ [.list (dF (xJ p.en i))])/\Le N B:=by
 refine cJ (hB (Γ:=Γ) (C:=C) (n:=59) (t:= .name 100) (elt:= .var 100) (ifs:= [.cmp .gt (.sub (.var 90) (.var 100)) (.var 44)]) (own:= [100]) (tV (N:=N) (aV ab) (aA (by assumption) (by decide))) rfl (by rw[eR,aQ];exact aA (by assumption) (by decide)) (jg _)
  (λvs=>(Rv vs q e Y aa)/\vs.get 44=U (cT i)) (λv vs=>vs.set 100 v) (λv=>Nat.blt i (p.en (g7 v).toNat)) id (λv af N vs=>rfl) (λv af vs h=>⟨h.1.set rfl,gn rfl h.2⟩) ⟨⟨g.q,g.e,g.l,g.s⟩,ab⟩ λv hv vs ae l P=>?_) λJ e2 l1=>?_
 ·refine mm hv λk hk e=>?_;clear hv;subst e;have hk:=bN.mp hk;have ag:=P.1.set (z:=100) (v:=cT k) rfl;refine(g8 ae (kN (fm (fE (DW (h.lee l) ag (bH _ _ _) (cO (by assumption) (by assumption))) (aV (gn rfl P.2)) ?_))) (.refl _) (λhp=>(cU ae (aV (bH _ _ _)) (.refl _))));exact congrArg U (mA i (p.en k))
 ·refine(cU J (e2.trans ?_) l1);unfold dF;rw[nB,ly];rfl
theorem ke(gz:vs.get z=U (cT i))(hi:i < 5):ev Γ C (n+2) (.bin .add (.var z) (.lit (.int 1))) vs N=U (cT (i+1),N):=
 hI (aV gz) cB (by rw[cT,mB,iQ (gF (by exact nL (i+1)) (by exact nH (aA hi (by decide))))];rfl)
theorem F0(h:(xJ en i).getLast? =U b):b < i/\i < en b:=by
 have:=dO.mp (List.mem_of_getLast? h);exact⟨bN.mp this.1,Nat.blt_eq▸this.2⟩
theorem Ff(hi:i < 5):(xJ en i).length<=1000:=by
 have:=gi (λh=>Nat.blt i (en h)) (List.range i);rw[aQ] at this;exact aA this (aA (bA (by assumption)) (by decide))
theorem BC:∀x∈lm,cW (zx x.2.2) []=Nat.beq x.2.2 0:=by decide+kernel
theorem GI{f:Bool->Bool}(ab:∀ {x y:Txt} {z:Bool} {N},oq x=zG->oq y=zG->cW x y=z->jO Γ op (.str x) (.str y) N=U (f z))(h:PE p q e N)(hp:p.Ok)(g:Rv vs q e Y aa)(hz:ev Γ C (n+2) z vs N=U (cT k,N))(hk:k < 5)(hs:oq s=zG):
  ev Γ C (n+5) (.cmp op (.sub (.sub (.var 53) z) (.lit (.int 3))) (.lit (.str s))) vs N=U (.bool (f (cW (zx (p.X k).2.2) s)),N):=by
 refine dS (FE h hk) λls e1=>fE (fD (fD (aV g.q) hz e1) cB rfl) cB (ab ((by decide+kernel:∀x∈lm,oq (zx x.2.2)=zG) _ (hp.x k hk)) hs rfl)
theorem F8(q:Bool)(b:Nat):(if q then [b] else []).length<=1:=by
 cases q
 ·exact cK _
 ·exact aJ _
theorem vI{ls:List (List Nat)}(h:∀l∈ls,l.length<=k)(b:Nat):(ls.getD b []).length<=k:=by
 rw[aI];cases hb:ls[b]? with
 |none=>exact cK _
 |some l=>exact h l (bF hb)
theorem qx(h:∀l∈ls,l.length<=k+1):(rL p i ls).length<=k+2:=by
 unfold rL;cases (xJ p.en i).getLast? with
 |none=>exact eH 1 _
 |some b=>
  dsimp only;cases Nat.beq (p.en i) (p.en b) with
  |false=>exact eH 1 _
  |true=>
   rw[if_pos rfl,aF];exact bY (b:=k+1) (vI h b) (F8 _ _)
theorem qw:∀i,∀l∈jy p i,l.length<=i+1:=by
 intro i;induction i with
 |zero=>exact λae h=>nomatch h
 |succ i ab=>
  exact λl h=>(aO.mp h).elim (λh=>dT (ab l h)) λh=>by
   rw[aH.mp h];exact qx (ab)
theorem DG(hp:p.Ok)(h:RS p q e Y aa (jy p i) c N)(g:Rv vs q e Y aa)(ag:vs.get 44=U (cT i))(hi:i < 5)(ah:vs.get 95=U (.ref r))(hr:N[r]? =U (.list (dF (xJ p.en i))))(hl:(jy p i).length=i):
  ∃B,ex Γ C 60 (m+5) (hS rA 1) vs N=U (.next,vs,B)/\RS p q e Y aa (jy p i++ [rL p i (jy p i)]) c B/\f8 (Zr Y aa) N B:=by
 have l1:Le N (N++ [O.list []]):= .app _ _;have ht:hJ (ev Γ C 60) (.cmp .ne (.var 95) (.list [])) vs N=U (!(xJ p.en i).isEmpty,N++ [O.list []]):=fm (wM (λab ab ab=>rfl) (aV ah) hr);have h1:=h.le l1;have ao:=l1 _ _ hr;have no:rL p i (jy p i)= [p.en i]->hJ (ev Γ C 60) (sE (hS rA 1)) vs N=U (zH,N++ [O.list []])->∃B,ex Γ C 60 (m+5) (hS rA 1) vs N=U (.next,vs,B)/\RS p q e Y aa (jy p i++ [rL p i (jy p i)]) c B/\f8 (Zr Y aa) N B:=λe0 et=>by
  have l2:Le (N++ [O.list []]) (N++ [O.list []]++ [O.list (dF [p.en i])]):= .app _ _;refine fZ (h1.addL g (fr (cL (DW h1.pe g ag hi)) (by decide:1<=1000000)) l2 (h1.new (aJ _)) (bC _ _) (by rw[hl];exact hi)) λB ea h' l'=>(g8 B (Jf rfl et (bR (gl ea) eF)) (e0▸h') ((f8.of l1).trans l'))
 cases hk:(xJ p.en i).getLast? with
 |none=>
  have e0:=List.getLast?_eq_none_iff.mp hk;refine no (by unfold rL;rw[hk]) (r5 (p:=zH) (b:=zH) (by rw[e0] at ht;exact ht) (λz=>nomatch z) λab=>rfl)
 |some b=>
  have hb:=F0 hk;have aj:(xJ p.en i).isEmpty=zH:=by
   cases hz:xJ p.en i with
   |nil=>rw[hz] at hk;exact ns hk
   |cons _ _=>rfl
  rw[aj] at ht;have ae:b < 5:=cO hb.1 hi;have ob:∀ {n B},Le N B->ev Γ C (n+3) (.sub (.var 95) (.neg (.lit (.int 1)))) vs B=U (cT b,B):=λl=>(fD (aV ah) (FF cB rfl) (El (l _ _ hr) hk (Ff hi)));have et:hJ (ev Γ C 60) (sE (hS rA 1)) vs N=U (Nat.beq (p.en i) (p.en b),N++ [O.list []]):=
   r5 ht (λab=>fm (fE (DW h1.pe g ag hi) (fD (aV g.e) (ob l1) (FX h1.pe ae)) (congrArg U (E9 _ _)))) (λz=>nomatch z)
  cases hq:Nat.beq (p.en i) (p.en b) with
  |false=>exact no (by unfold rL;rw[hk];dsimp only;rw[hq];rfl) (hq▸et)
  |true=>
   rw[hq] at et;have ak:(jy p i)[b]? =U ((jy p i).getD b []):=by
    have al:b < (jy p i).length:=by rw[hl];exact hb.1
    rw[aI,aM al];rfl
   refine fZ (h1.l.get ak (by rw[hl];exact aA (bA (by assumption)) (by decide))) λr2 e1 e2 ap=>?_;let w:List Nat:=if Nat.beq (p.X b).2.2 2 then [b+1] else []
   have l2:Le (N++ [O.list []]) (N++ [O.list []]++ [O.list (dF w)]):= .app _ _;have h2:=h1.le l2;have em:hJ (ev Γ C 57) (.cmp .eq (.sub (.sub (.var 53) (.sub (.var 95) (.neg (.lit (.int 1))))) (.lit (.int 3))) (.lit (.str [42]))) vs (N++ [O.list []])=U (Nat.beq (p.X b).2.2 2,N++ [O.list []]):=by
    have:=GI (n:=52) nV h1.pe hp g (ob l1) ae (by decide:oq [42]=zG);rw[(by decide+kernel:∀x∈lm,cW (zx x.2.2) [42]=Nat.beq x.2.2 2) _ (hp.x b ae)] at this;exact fm this
   have ew:ev Γ C 58 (.ite (.cmp .eq (.sub (.sub (.var 53) (.sub (.var 95) (.neg (.lit (.int 1))))) (.lit (.int 3))) (.lit (.str [42]))) (.list [.bin .add (.sub (.var 95) (.neg (.lit (.int 1)))) (.lit (.int 1))]) (.list [])) vs (N++ [O.list []])=U (.ref (N++ [O.list []]).length,N++ [O.list []]++ [O.list (dF w)]):=by
    cases hm:Nat.beq (p.X b).2.2 2 with
    |true=>
     rw[hm] at em;have hw:w= [b+1]:=if_pos hm;rw[hw];exact lO em (fr (cL (hI (ob l1) cB (by rw[cT,mB,iQ (gF (by exact nL (b+1)) (by exact nH (aA (cO hb.1 hi) (by decide))))];rfl))) (by decide:1<=1000000))
    |false=>
     rw[hm] at em;have hw:w= []:=if_neg (by rw[hm];exact aU);rw[hw];exact mX em (fr iZ (by decide:0<=1000000))
   have af:=tI (fD (aV g.l) (ob l1) e1) ew (l2 _ _ e2) (bC _ _) (by
    have h1:=vI (qw (p:=p) i) b;have h2:w.length<=1:=F8 _ _;rw[aF,aD,eR];exact aA (bY (aA h1 hi) h2) (by decide))
   rw[show List.map cT ((jy p i).getD b [])++dF w=dF ((jy p i).getD b []++w) from(ki _ _).symm] at af;have e0:rL p i (jy p i)=(jy p i).getD b []++w:=by unfold rL;rw[hk];dsimp only;rw[hq];rfl
   rw[<-e0] at af;have l3:Le (N++ [O.list []]) (N++ [O.list []]++ [O.list (dF w)]++ [O.list (dF (rL p i (jy p i)))]):=l2.snoc _;have ai:=h1.new (Le.len l2);have am:(jy p i).length < 5:=by rw[hl];exact hi
   refine fZ (h1.addL g af l3 ai (bC _ _) am) λB ea h' l'=>(g8 B (KH rfl et (bR (gl ea) eF)) h' ((f8.of l1).trans l'))
end
section
variable{p:Pg}{q e J Y:Nat}{a c:List (List Nat)}{N B:H}{C:Cf}{n m r i b:Nat}{vs:aW}{aa:H}{x:E}{l:List Nat}
theorem tW(p:Pg)(i:Nat):(inn p i).length<=1:=F8 _ _
theorem IH(h:PE p q e N)(g:Rv vs q e J Y)(ab:vs.get 44=U (cT i))(hi:i < 5):ev Γ C 60 (sE (hS rA 2)) vs N=U (.ref N.length,N++ [.list (dF (inn p i))]):=by
 have et:hJ (ev Γ C 59) (.cmp .gt (.sub (.var 90) (.var 44)) (.bin .add (.var 44) (.lit (.int 1)))) vs N=U (Nat.blt (i+1) (p.en i),N):=
  fm (fE (DW h g ab hi) (ke ab hi) (congrArg U (mA (i+1) (p.en i))))
 cases hq:Nat.blt (i+1) (p.en i) with
 |true=>
  rw[hq] at et;have hw:inn p i= [i+1]:=if_pos hq;rw[hw];exact lO et (fr (cL (ke ab hi)) (by decide:1<=1000000))
 |false=>
  rw[hq] at et;have hw:inn p i= []:=if_neg (by rw[hq];exact aU);rw[hw];exact mX et (fr iZ (by decide:0<=1000000))
theorem Gw(hp:p.Ok)(hl:(jy p i).length=i)(hc:(wb p i).length=i)(h:RS p q e J Y (jy p i++ [rL p i (jy p i)]) (wb p i) N)(g:Rv vs q e J Y)(af:vs.get 44=U (cT i))(hi:i < 5)(ab:vs.get 96=U (.ref r))(hr:N[r]? =U (.list (dF (inn p i))))(hz: ¬Zr J Y r):
  ∃B,ex Γ C 60 (m+5) (hS rA 3) vs N=U (.next,vs,B)/\RS p q e J Y (jy p (i+1)) (wb p (i+1)) B/\f8 (Zr J Y) N B:=by
 have l1:Le N (N++ [O.list []]):= .app _ _;have h1:=h.le l1;have et:hJ (ev Γ C 58) (.or (.cmp .eq (.var 96) (.list [])) (.cmp .ne (.sub (.sub (.var 53) (.var 44)) (.lit (.int 3))) (.lit (.str [])))) vs N=U ((inn p i).isEmpty || !(Nat.beq (p.X i).2.2 0),N++ [O.list []]):=by
  refine Gj (fm (wM (f:=id) (λx y N=>Option.map_id'.symm) (aV ab) hr)) (λai=>fm ?_) λai=>rfl;have:=GI (n:=53) ue h1.pe hp g (aV (C:=C) (Γ:=Γ) af) hi (by decide:oq []=zG);rwa [BC _ (hp.x i hi)] at this
 have go:∀ {r2 ae},ev Γ C 59 (.ite (.or (.cmp .eq (.var 96) (.list [])) (.cmp .ne (.sub (.sub (.var 53) (.var 44)) (.lit (.int 3))) (.lit (.str [])))) (.bin .add (.var 96) (.sub (.var 93) (.var 44))) (.var 96)) vs N=U (.ref r2,ae)->Le N ae->¬Zr J Y r2->ae[r2]? =U (.list (dF (f9 p i)))->∃B,ex Γ C 60 (m+5) (hS rA 3) vs N=U (.next,vs,B)/\RS p q e J Y (jy p (i+1)) (wb p (i+1)) B/\f8 (Zr J Y) N B:=λe1 l2 z2 e2=>
  fZ (h.addS g e1 l2 z2 e2 (by rw[hc];exact hi)) λB ea h' l'=>(g8 B (gl ea) h' l')
 cases hq:((inn p i).isEmpty || !(Nat.beq (p.X i).2.2 0)) with
 |true=>
  rw[hq] at et;have e0:f9 p i=inn p i++rL p i (jy p i):=if_pos hq;have ah:(jy p i++ [rL p i (jy p i)])[i]? =U (rL p i (jy p i)):=by
   rw[bG (by rw[hl];exact aJ _),hl,fh];rfl
  refine fZ (h1.l.get ah (by rw[aF,hl];exact aA (cH (bA hi)) (by decide:6<=1000))) λr2 e1 e2 aj=>?_;have ag:=tI (C:=C) (n:=57) (aV ab) (fD (aV g.l) (aV af) e1) (l1 _ _ hr) e2 (by
   have h1:=qx (p:=p) (i:=i) (qw (p:=p) i);have h2:=tW p i;rw[aF,aD,eR];exact aA (bY h2 (aA h1 (bS (bA hi) 2))) (by decide))
  rw[show dF (inn p i)++List.map cT (rL p i (jy p i))=dF (f9 p i) from by rw[e0];exact(ki _ _).symm] at ag;exact go (lO et ag) (l1.snoc _) (h1.new (aJ _)) (bC _ _)
 |false=>
  rw[hq] at et;have e0:f9 p i=inn p i:=if_neg (by rw[hq];exact aU);exact go (mX et (aV ab)) l1 hz (by rw[e0];exact l1 _ _ hr)
theorem nQ:∀i,(jy p i).length=i:=by
 intro i;induction i with
 |zero=>exact rfl
 |succ i ab=>
  show(jy p i++ [_]).length=_;rw[aF,ab];rfl
theorem mj:∀i,(wb p i).length=i:=by
 intro i;induction i with
 |zero=>exact rfl
 |succ i ab=>
  show(wb p i++ [_]).length=_;rw[aF,ab];rfl
theorem FQ(h:PE p q e N)(g:vs.get 53=U (.ref q)):gG (ev Γ C (n+4)) (.plain (.call (.lit (.cst (.type "range"))) [.call (.lit (.cst (.builtin "len"))) [.var 53]])) vs N=U (.one (.vs ((dF (List.range 5)).drop 0)),N):=by
 refine dS h.q λls e1=>tV (?_:ev Γ C (n+3) _ vs N=U (cT 5,N)) (by decide);have:=ql (C:=C) (n:=n+1) (aV g) e1;rwa [aD,aQ] at this
theorem pL(h:(dF (List.range n))[k]? =U v):k < n/\v=cT k:=by
 unfold dF at h;rw[bD] at h;refine mi h λi hi e=>?_;have hk:=aZ hi;rw[aQ] at hk;rw[cM hk] at hi;obtain rfl:=aC hi;exact⟨hk,e.symm⟩
theorem DF(hp:p.Ok)(h:RS p q e J Y [] [] N)(g:Rv vs q e J Y):∃ae B,ex Γ C 60 (m+11) (hS fg.body 1) vs N=U (.next,ae,B)/\Rv ae q e J Y/\RS p q e J Y (jy p 5) (wb p 5) B/\f8 (Zr J Y) N B:=by
 refine je (hV (Γ:=Γ) (N:=N) (σb:=N) (itr:=λj=>.one (.vs ((dF (List.range 5)).drop j))) (FQ h.pe g.q) rfl (by rw[eR,aQ];decide)
  (zE:=λj vs ab=>Rv vs q e J Y/\RS p q e J Y (jy p j) (wb p j) ab/\f8 (Zr J Y) N ab) ⟨g,h,.of (.refl _)⟩ (λj v vs ab hv zE=>mf hv) (λvs ab zE=>mh) (λj v vs ab hv zE=>?_)) λae B ef zE=>(rO ae B ef (by rw[eR,aQ] at zE;exact zE))
 refine f7 (pL hv) λhi e'=>?_;clear hv;subst e';refine(cU (vs.set 44 (cT j)) rfl ?_);have g1:Rv (vs.set 44 (cT j)) q e J Y:=zE.1.set rfl;refine cJ (DH (C:=C) zE.2.1.pe g1 (bH _ _ _) hi) λaf e1 l1=>?_;have la:Le af (af++ [O.list (dF (xJ p.en j))]):= .app _ _;have h1:=zE.2.1.le (l1.trans la);have g2:Rv ((vs.set 44 (cT j)).set 95 (.ref af.length)) q e J Y:=g1.set rfl;refine fZ (DG (C:=C) (m:=m+3) hp h1 g2 (gn rfl (bH _ _ _)) hi (bH _ _ _) (bC _ _) (nQ j)) λag e2 h2 l2=>?_;have e3:=IH (C:=C) h2.pe g2 (gn rfl (bH _ _ _)) hi;have lb:Le ag (ag++ [O.list (dF (inn p j))]):= .app _ _;have g3:Rv (((vs.set 44 (cT j)).set 95 (.ref af.length)).set 96 (.ref ag.length)) q e J Y:=g2.set rfl;exact fZ (Gw (C:=C) (m:=m+1) hp (nQ j) (mj j) (h2.le lb) g3 (gn rfl (gn rfl (bH _ _ _))) hi (bH _ _ _) (bC _ _) (h2.new (aJ _))) λah e4 h3 l3=>(tY _ ah (bR (eU e1) (bR e2 (bR (eU e3) (bR e4 eF)))) g3 h3 (((((zE.2.2.trans (.of l1)).trans (.of la)).trans l2).trans (.of lb)).trans l3))
end
abbrev SS:=Txt×Txt×List Nat
def hP(p:Pg)(i:Nat):List SS:=match (p.X i).2.1 with
 | 0=>[(gR (p.X i).1,rq i,f9 p i)]
 | 1=>[(gR (p.X i).1,fX (!(Nat.beq (p.X i).2.2 0)) i,f9 p i)]
 |_=>[]
theorem wx{zB:List SS->Prop}(B:zB [(gR (p.X i).1,rq i,f9 p i)])(J:zB [(gR (p.X i).1,fX (!(Nat.beq (p.X i).2.2 0)) i,f9 p i)])(Y:zB []):zB (hP p i):=by
 unfold hP;generalize (p.X i).2.1=d;cases d with
 |zero=>exact B
 |succ d=>cases d with
  |zero=>exact J
  |succ d=>exact Y
theorem tm{G:Prop}(h:s∈hP p i)(B:s=(gR (p.X i).1,rq i,f9 p i)->G)(J:s=(gR (p.X i).1,fX (!(Nat.beq (p.X i).2.2 0)) i,f9 p i)->G):G:=
 wx (zB:=λl=>s∈l->G) (λh=>B (aH.mp h)) (λh=>J (aH.mp h)) (λh=>nomatch h) h
theorem uY{i:Nat}:(hP p i).length<=1:=wx (zB:=λl=>l.length<=1) (aJ _) (aJ _) (cK _)
noncomputable def kE(p:Pg):Nat->List SS
 | 0=>[([65],[45],[0]),([98],[45],[0])]
 |i+1=>kE p i++hP p i
def Zd(B i:Nat):Prop:=B<=i/\i < B+6
def DU(B:Nat)(J:List (List P))(N:H):Prop:=N[B+6]? =U (.list ((List.range 6).map λk=>V.ref (B+k)))/\J.length=6/\∀k < 6,N[B+k]? =U (.list ((J.getD k []).map pV))
def SG(B a:Nat)(ls:List SS)(N:H):Prop:=∃vs,N[a]? =U (.list vs)/\eZ (λv (s:SS)=>∃r,v= .tup [.str s.1,.str s.2.1,.ref r]/\(¬Zd B r/\r≠a)/\N[r]? =U (.list (dF s.2.2))) vs ls
section
variable{J a:Nat}{Y:List (List P)}{ls:List SS}{N aa B:H}
theorem DU.lex{Z:Nat->Prop}(h:DU J Y N)(l:f8 Z N B)(hz:∀k≤6,¬Z (J+k)):DU J Y B:=⟨l.2 _ _ (hz 6 (aJ _)) h.1,h.2.1,λk hk=>l.2 _ _ (hz k (bA hk)) (h.2.2 k hk)⟩
theorem SG.lex{Z:Nat->Prop}(h:SG J a ls N)(l:f8 Z N B)(ha: ¬Z a)(hz:∀r < N.length,¬Zd J r->r≠a->¬Z r):SG J a ls B:=
 cJ h λvs h1 h2=>⟨vs,l.2 _ _ ha h1,h2.imp λv s q=>fZ q λr e z er=>(g8 r e z (l.2 _ _ (hz r (aZ er) z.1 z.2) er))⟩
theorem SG.le(h:SG J a ls N)(l:Le N B):SG J a ls B:=h.lex (Z:=λab=>False) (f8.of l) id λab ab ab ab=>id
theorem Le.setHi{i:Nat}(l:Le N B)(hi:N.length<=i)(o:O):Le N (B.set i o):=λj x e=>(bU (eB (aT (aZ e) hi))).trans (l _ _ e)
theorem eZ.app{l l':List ab}{m m':List ae}(h:eZ R l m)(h':eZ R l' m'):eZ R (l++l') (m++m'):=by
 induction h with
 |nil=>exact h'
 |cons q _ ih=>exact .cons q ih
theorem SG.app{bs:List SS}{ys:List V}(h:SG J a ls N)(hl:ls.length<=7)(hb:bs.length<=1)(hy:eZ (λv (s:SS)=>∃r,v= .tup [.str s.1,.str s.2.1,.ref r]/\(¬Zd J r/\r≠a)/\N[r]? =U (.list (dF s.2.2))) ys bs):∃I,N[a]? =U (.list I)/\(I++ys).length<=1000000/\SG J a (ls++bs) (N.set a (.list (I++ys))):=
 cJ h λvs h1 h2=>⟨vs,h1,by
  have e1:=h2.length;have e2:=hy.length;rw[aF];exact aA (bY (aA (bJ e1.symm) hl) (aA (bJ e2.symm) hb)) (by decide),_,jU h1,(eZ.app h2 hy).imp λv s q=>fZ q λr e z er=>(g8 r e z ((bU (Ne.symm z.2)).trans er))⟩
end
section
variable{p:Pg}{q e ab ae J a:Nat}{N Y B:H}{C:Cf}{n m r i b:Nat}{vs:aW}{x:E}{aa:List (List P)}{ls:List SS}
theorem B9{σb:H}(I:List V):yV σb (λk=>.one (.vs (I.drop k))) I:=⟨λk v af hv=>mf hv,λaf=>mh⟩
theorem II(h:PE p q e N)(g:vs.get 53=U (.ref q)):∃B,ev Γ C 60 (sE (hS fg.body 2)) vs N=U (.ref (N.length+6),B)/\Le N B/\DU N.length (List.replicate 6 []) B/\B.length=N.length+7:=by
 have h6:ev Γ C 58 (.bin .add (.call (.lit (.cst (.builtin "len"))) [.var 53]) (.lit (.int 1))) vs N=U (cT 6,N):=
  dS h.q λls e1=>by
   have e2:=ql (C:=C) (n:=55) (aV g) e1;rw[aD,aQ] at e2;exact hI e2 cB rfl
 have e3:=uc (Γ:=Γ) (t:= .name 101) (ifs:= []) (own:= [101]) (tV h6 (by decide)) rfl (by rw[eR,aQ];decide) (B9 _) (λaf=>True) (λv vs=>vs.set 101 v) (λaf=>zG) (λaf ag=>.ref (N.length+ag.length)) (λaf af=>[]) (λaf af=>[O.list []])
  (λv af N vs=>rfl) (λaf af af af=>trivial) trivial (λv af vs ag af=>by rw[cF];rfl) (λv af vs ag af af=>by
   rw[cF,<-cN,<-aF];exact fr iZ (by decide:0<=1000000))
 have e4:k9 (λaf=>zG) (λaf ag=>V.ref (N.length+ag.length)) (λaf af=>[]) (λaf af=>[O.list []]) (dF (List.range 6)) [] []=((List.range 6).map λk=>V.ref (N.length+k),List.replicate 6 (O.list [])):=rfl;rw[e4] at e3;refine(Ig (N++List.replicate 6 (O.list [])++ [O.list ((List.range 6).map λk=>V.ref (N.length+k))]) (e3.trans ?_) ((Le.app N (List.replicate 6 (O.list []))).snoc _) ⟨?_,rfl,λk hk=>?_⟩ ?_)
 ·rw[g6 _ (by rw[aD,aQ];decide),aF];rfl
 ·have:=bC (N++List.replicate 6 (O.list [])) (O.list ((List.range 6).map λk=>V.ref (N.length+k)));rwa [aF] at this
 ·refine fC _ _ ?_;rw[bG (bL _ _),cY,List.getElem?_replicate,if_pos hk,aI,List.getElem?_replicate,if_pos hk];rfl
 ·rw[aF,aF];rfl
theorem IF(af:J+7<=N.length):∃B,ev Γ C 60 (sE (hS fg.body 3)) vs N=U (.ref (N.length+2),B)/\Le N B/\SG J (N.length+2) (kE p 0) B:=by
 have e1:=fr (Γ:=Γ) (C:=C) (n:=57) (M:=vs) (N:=N) (cL (cB (v:= .int 0))) (by decide:1<=1000000);have e2:=fr (Γ:=Γ) (C:=C) (n:=57) (M:=vs) (N:=N++ [O.list [.int 0]]) (cL (cB (v:= .int 0))) (by decide:1<=1000000);have e3:=fr (Γ:=Γ) (cQ (hQ (cQ (cB (v:= .str [65])) (cQ (cB (v:= .str [45])) (cL e1))) (by decide:3<=1000000)) (cL (hQ (cQ (cB (v:= .str [98])) (cQ (cB (v:= .str [45])) (cL e2))) (by decide:3<=1000000)))) (by decide:2<=1000000);have l1:(N++ [O.list [.int 0]]).length=N.length+1:=aF;have l2:(N++ [O.list [.int 0]]++ [O.list [.int 0]]).length=N.length+2:=by rw[aF,l1];rfl
 rw[l2] at e3;refine⟨_,e3,((Le.app N _).snoc _).snoc _,_,l2▸bC _ _,.cons (g8 N.length rfl ⟨λz=>?_,?_⟩ ?_) (.cons (g8 _ rfl ⟨λz=>?_,?_⟩ ?_) .nil)⟩
 ·exact absurd z.2 (bP.mpr (bW af))
 ·exact bT (oT (by decide))
 ·exact fC _ _ (fC _ _ (bC N _))
 ·rw[l1] at z;exact absurd z.2 (bP.mpr (dT (bW af)))
 ·rw[l1];exact bT (bQ _)
 ·exact fC _ _ (bC _ _)
end
noncomputable def Lh:O->List V
 |.list I=>I
 |_=>[]
section
variable{p:Pg}{q e aa ab Y a:Nat}{N B ae J:H}{C:Cf}{n m r i b:Nat}{vs:aW}{x y:E}{af:List (List P)}{ls:List SS}{I ys us:List V}{v w:V}
theorem vl(g:vs.get z=U (.ref a))(h:N[a]? =U (.list I))(he:ev Γ C (n+1) x vs N=U (.ref r,B))(h1:B[a]? =U (.list I))(hr:B[r]? =U (.list ys))(hl:(I++ys).length<=1000000):
  ev Γ C (n+2) (.callM (.var z) 102 [x] []) vs N=U (.none,B.set a (.list (I++ys))):=by
 have hm:fJ Γ (.ref a) 102 N=U (.lst a [101,120,116,101,110,100]):=by
  unfold fJ;dsimp only;rw[h];rfl
 refine gm (aV g) hm (cL he) gS ?_;show((dX B (.ref a)).bind λI=>(dX B (.ref r)).bind λys=>jV B a (I++ys) .none)=_;rw[dC _ h1,bO,dC _ hr,bO];exact if_pos (gT hl)
theorem IN(g:vs.get z=U (.ref a))(h:N[a]? =U (.list (I++ [v])))(hl:I.length<=1000000):
  ev Γ C (n+2) (.callM (.var z) 104 [] []) vs N=U (v,N.set a (.list I)):=by
 have hm:fJ Γ (.ref a) 104 N=U (.lst a [112,111,112]):=by
  unfold fJ;dsimp only;rw[h];rfl
 refine gm (aV g) hm iZ gS ?_;show((dX N (.ref a)).bind λI=>I.getLast?.bind λv=>jV N a I.dropLast v)=_;rw[dC _ h,bO,List.getLast?_concat,bO,kZ];exact if_pos (gT hl)
theorem DX(ha:dY (ev Γ C n) es vs N=U (us,B))(hi:ev Γ C n x vs B=U (w,ae))(h:vg ks us w=U v):ev Γ C (n+1) (.dsubS ks es x) vs N=U (v,ae):=by
 have e0:ev Γ C (n+1) (.dsubS ks es x) vs N=(match dY (ev Γ C n) es vs N with
   |some (us,N)=>match ev Γ C n x vs N with
    |some (w,N)=>(vg ks us w).map (λag=>(ag,N))
    |.none=>.none
   |.none=>.none):=rfl
 rw[e0,ha];dsimp only;rw[hi];dsimp only;rw[h];rfl
structure Ru(vs:aW)(q e lr sr zC a:Nat):Prop where
 v:Rv vs q e lr sr
 d:vs.get 91=U (.ref (zC+6))
 s:vs.get 92=U (.ref a)
theorem Ru.set(g:Ru vs q e aa ab Y a)(hz: [53,90,93,94,91,92].all (λy=>!(z==y))=zG):Ru (vs.set z v) q e aa ab Y a:=by
 have ag:∀y∈ [53,90,93,94,91,92],(z==y)=zH:=λy hy=>fW (aR.mp hz y hy);exact⟨⟨gn (ag _ (by decide)) g.v.q,gn (ag _ (by decide)) g.v.e,gn (ag _ (by decide)) g.v.l,gn (ag _ (by decide)) g.v.s⟩,gn (ag _ (by decide)) g.d,gn (ag _ (by decide)) g.s⟩
theorem xW:∀ {i j:Nat},j < i->(wb p i)[j]? =U (f9 p j):=by
 intro i;induction i with
 |zero=>exact λh=>absurd h (gC _)
 |succ i ih=>
  intro j h;show(wb p i++ [f9 p i])[j]? =_;by_cases hj:j < i
  ·rw[bM (by rw[mj];exact hj)];exact ih hj
  ·have:j=i:=gD (cG h) (bK hj);rw[this,bG (by rw[mj];exact aJ _),mj,fh];rfl
theorem NL.all{ls:List (List ai)}(h:NL f Z a ls N){l:List ai}(hk:ls[k]? =U l)(hl:ls.length<=1000):∃r,(∀J,Le N J->g9 Γ (.ref a) (cT k) J=U (.ref r))/\N[r]? =U (.list (l.map f))/\ ¬Z r:=by
 refine cJ h λrs h1 h2=>?_;have ag:=h2.length;have ah:k < rs.length:=ag▸aZ hk;refine cJ (h2.get (aM ah)) λl' e1 q=>?_;rw[hk] at e1;obtain rfl:=aC e1;exact(g8 (rs[k]) (λJ l=>io (l _ _ h1) (by rw[bD,aM ah];rfl) (by rw[aD,<-ag];exact aA (by assumption) (by decide))) q.2 q.1)
theorem wL(h:PE p q e N)(g:vs.get 53=U (.ref q))(gz:vs.get z=U (cT i))(hi:i < 5)(hv:∀l,g9 Γ (BJ l (p.X i)) (.int (k:Int)) N=U v):ev Γ C (n+3) (.sub (.sub (.var 53) (.var z)) (.lit (.int (k:Int)))) vs N=U (v,N):=
 dS (FE h hi) λls e1=>fD (fD (aV g) (aV gz) e1) cB (hv ls)
noncomputable abbrev rC:List Lake.S:=sA (hS fg.body 4)
theorem Gy(hp:p.Ok)(h:PE p q e N)(g:Rv vs q e aa ab)(ag:vs.get 44=U (cT i))(hi:i < 5):ev Γ C 60 (sE (hS rC 0)) vs N=U (.str (fX (!(Nat.beq (p.X i).2.2 0)) i),N):=by
 have em:hJ (ev Γ C 56) (.cmp .eq (.sub (.sub (.var 53) (.var 44)) (.lit (.int 3))) (.lit (.str []))) vs N=U (Nat.beq (p.X i).2.2 0,N):=by
  have:=GI (n:=51) nV h hp g (aV (C:=C) (Γ:=Γ) ag) hi (by decide:oq []=zG);rw[BC _ (hp.x i hi)] at this;exact fm this
 have e1:ev Γ C 57 (.ite (.cmp .eq (.sub (.sub (.var 53) (.var 44)) (.lit (.int 3))) (.lit (.str []))) (.lit (.str [])) (.lit (.str [42,59,32]))) vs N=U (.str (if Nat.beq (p.X i).2.2 0 then [] else [42,59,32]),N):=by
  cases hq:Nat.beq (p.X i).2.2 0 with
  |true=>rw[hq] at em;exact lO em cB
  |false=>rw[hq] at em;exact mX em cB
 have hl:∀b:Bool,(if b then ([]:Txt) else [42,59,32]).length<=3:=λb=>by
  cases b
  ·exact aJ _
  ·exact cK _
 have e2:=hI e1 (cB (v:= .str [97,116,45,61,34])) ((nY _ _ _).trans (tQ _ (by rw[aF];exact aA (bS (hl _) _) (by decide))));have e3:=hI e2 (vk ag hi) ((nY _ _ _).trans (tQ _ (by rw[aF,aF];exact aA (bS (bS (hl _) _) _) (by decide:3+5+1<=1000000))));refine hI e3 (cB) ((nY _ _ _).trans ((tQ _ (by rw[aF,aF,aF];exact aA (bS (bS (bS (hl _) _) _) _) (by decide:3+5+1+6<=1000000))).trans ?_));cases Nat.beq (p.X i).2.2 0<;>rfl
theorem SG.len(h:SG Y a ls N):∃I,N[a]? =U (.list I)/\I.length=ls.length:=cJ h λvs h1 h2=>(cU vs h1 h2.length.symm)
theorem pK:∀i,(kE p i).length<=2+i:=by
 intro i;induction i with
 |zero=>exact aJ _
 |succ i ag=>
  show(kE p i++hP p i).length<=_;have h1:=uY (p:=p) (i:=i);have h2:=ag;rw[aF];exact(bY h2 h1:_<=2+i+1)
theorem Gx(hp:p.Ok)(l0:Le B N)(ha:B.length<=a)(a4:Y=B.length)(h:RS p q e aa ab (jy p 5) (wb p 5) B)(g:Ru vs q e aa ab Y a)(al:vs.get 44=U (cT i))(hi:i < 5)(hs:SG Y a (kE p i) N):∃am J,ic Γ C 60 (m+4) rC vs N=U (.next,am,J)/\Ru am q e aa ab Y a/\SG Y a (kE p (i+1)) J/\f8 (λav=>av=a) N J:=by
 have aw:=h.le l0;let ah:=vs.set 97 (.str (fX (!(Nat.beq (p.X i).2.2 0)) i));have g1:Ru ah q e aa ab Y a:=g.set rfl;have aj:ah.get 44=U (cT i):=gn rfl al;refine fZ (h.s.all (xW hi) (by rw[mj];decide)) λr ax er hz=>?_;have ao:=aZ er;have ap: ¬Zd Y r/\r≠a:=⟨λz=>absurd ao (bP.mpr (a4▸z.1)),bT (aT ao ha)⟩;have hx:=hp.x i hi;let c:=gR (p.X i).1;let t1:V:= .tup [.str c,.str (rq i),.ref r];let t2:V:= .tup [.str c,.str (fX (!(Nat.beq (p.X i).2.2 0)) i),.ref r];have vh:∀ {n ag} (v:V) (k:Nat),Le N ag->(∀l,g9 Γ (BJ l (p.X i)) (.int (k:Int)) ag=U v)->ev Γ C (n+3) (.sub (.sub (.var 53) (.var 44)) (.lit (.int (k:Int)))) ah ag=U (v,ag):=λv k l hv=>wL (h.pe.lee (l0.trans l)) g1.v.q aj hi hv;have aq:∀ {n ag},Le N ag->ev Γ C (n+2) (.sub (.var 94) (.var 44)) ah ag=U (.ref r,ag):=λl=>fD (aV g1.v.s) (aV aj) (ax _ (l0.trans l));let ai:=N++ [O.list [t1]];let σb:=ai++ [O.list [t2]];let ak:=σb++ [O.list []];have la:Le N ai:= .app _ _;have lb:Le N σb:=la.snoc _;have lc:Le N ak:=lb.snoc _;have e1:ev Γ C 58 (.list [.tup [.sub (.sub (.var 53) (.var 44)) (.lit (.int 1)),.call (.lit (.cst (.type "str"))) [.var 44],.sub (.var 94) (.var 44)]]) ah N=U (.ref N.length,ai):=
  fr (cL (hQ (cQ (vh (.str c) 1 (.refl _) λl=>rfl) (cQ (vk aj hi) (cL (aq (.refl _))))) (by decide:3<=1000000))) (by decide:1<=1000000)
 have e2:ev Γ C 58 (.list [.tup [.sub (.sub (.var 53) (.var 44)) (.lit (.int 1)),.var 97,.sub (.var 94) (.var 44)]]) ah ai=U (.ref ai.length,σb):=
  fr (cL (hQ (cQ (vh (.str c) 1 la λl=>rfl) (cQ (aV (bH _ _ _)) (cL (aq la)))) (by decide:3<=1000000))) (by decide:1<=1000000)
 have e3:=cQ e1 (cQ e2 (cL (fr (Γ:=Γ) (N:=σb) iZ (by decide:0<=1000000))));have e4:=vh (n:=55) (.str (z8 (p.X i).2.1)) 2 lc λl=>rfl;obtain⟨j,ys,e5,e6,e7⟩:∃j ys,vg [[61],[43,61],[45,61]] [.ref N.length,.ref ai.length,.ref σb.length] (.str (z8 (p.X i).2.1))=U (.ref j)/\ak[j]? =U (.list ys)/\eZ (λv (s:SS)=>∃r,v= .tup [.str s.1,.str s.2.1,.ref r]/\(¬Zd Y r/\r≠a)/\ak[r]? =U (.list (dF s.2.2))) ys (hP p i):=by
  have hd:=(rg hx).2.1;have ar:=lc _ _ (l0 _ _ er);unfold hP;generalize (p.X i).2.1=d at hd⊢;rcases La hd with rfl| rfl| rfl
  ·exact(iS _ _ rfl (fC _ _ (fC _ _ (bC N _))) (.cons (g8 r rfl ap ar) .nil))
  ·exact(iS _ _ rfl (fC _ _ (bC ai _)) (.cons (g8 r rfl ap ar) .nil))
  ·exact(iS _ _ rfl (bC σb _) .nil)
 have e8:=DX e3 e4 e5;have hb:=uY (p:=p) (i:=i);refine cJ hs λay au av=>fZ ((hs.le lc).app (aA (pK i) (Nat.add_le_add_left (bA hi) 2)) hb e7) λI e9 az a0=>?_;have ic:ay=I:=by
  have:=(lc _ _ au).symm.trans e9;exact congrArg Lh (aC this)
 have a3:=vl g1.s (ic▸au) e8 e9 e6 az;exact(tY ah _ (bR (eU (Gy hp aw.pe g.v al hi)) (bR (gl a3) eF)) g1 a0 ((f8.of lc).trans (.set _ _ rfl)))
theorem DE(hp:p.Ok)(l0:Le B N)(ha:B.length<=a)(ak:Y=B.length)(h:RS p q e aa ab (jy p 5) (wb p 5) B)(g:Ru vs q e aa ab Y a)(hs:SG Y a (kE p 0) N):∃ag J,ex Γ C 60 (m+5) (hS fg.body 4) vs N=U (.next,ag,J)/\Ru ag q e aa ab Y a/\SG Y a (kE p 5) J/\f8 (λai=>ai=a) N J:=by
 refine je (hV (Γ:=Γ) (N:=N) (σb:=N) (itr:=λj=>.one (.vs ((dF (List.range 5)).drop j))) (FQ (h.le l0).pe g.v.q) rfl (by rw[eR,aQ];decide)
  (zE:=λj vs ah=>Ru vs q e aa ab Y a/\SG Y a (kE p j) ah/\f8 (λai=>ai=a) N ah) ⟨g,hs,.of (.refl _)⟩ (λj v vs ah hv zE=>mf hv) (λvs ah zE=>mh) (λj v vs ah hv zE=>?_)) λag J ef zE=>(rO ag J ef (by rw[eR,aQ] at zE;exact zE))
 refine f7 (pL hv) λhi e'=>?_;clear hv;subst e';have aj:Le B ah:=λi o e=>zE.2.2.2 i o (bT (aT (aZ e) ha)) (l0 _ _ e);exact(cU (vs.set 44 (cT j)) rfl (pb (Gx hp aj ha ak h (zE.1.set rfl) (bH _ _ _) hi zE.2.1) λag J e1 g1 h1 l1=>(tY ag J e1 g1 h1 (zE.2.2.trans l1))))
end
def qI(p:Pg)(B:Txt)(t:Nat):Bool:=Nat.blt t 5&&(Nat.beq (p.X t).2.1 1 || !(jK (gR (p.X t).1) B))
def uZ(p:Pg)(c:P)(f:List Nat->List (List P)->Option (List (List P)))(q:List Nat)(B:List (List P)):Option (List (List P)):=match q.getLast? with
 |.none=>U B
 |some t=>if t<=5/\q.length<=1000/\(B.getD t []).length<=1000 then
   (if c∈B.getD t [] then f q.dropLast B else f (q.dropLast++(if qI p c.1 t then f9 p t else [])) (B.set t (B.getD t []++ [c])))
  else .none
noncomputable def pw(p:Pg)(c:P):Nat->List Nat->List (List P)->Option (List (List P))
 | 0,_,_=>.none
 |k+1,q,B=>uZ p c (pw p c k) q B
def Zq(B J i:Nat):Prop:=Zd B i\/i=J
structure SQ(p:Pg)(q e lr sr zC a qa:Nat)(c:P)(σ₁:H)(Q:List Nat)(due:List (List P))(vs:aW)(N:H):Prop where
 l:Le σ₁ N
 g:Ru vs q e lr sr zC a
 qv:vs.get 99=U (.ref qa)
 nv:vs.get 11=U (.str c.1)/\vs.get 2=U (.str c.2)
 qh:N[qa]? =U (.list (dF Q))
 qd:zC+7<=qa
 d:DU zC due N
 ok:∀l∈due,∀x∈l,x∈PL
section
variable{p:Pg}{q e ae af Y a ab:Nat}{c:P}{N J ag aa:H}{C:Cf}{n m r i b t:Nat}{vs:aW}{x y:E}{B:List (List P)}{Q:List Nat}{v w:V}
theorem DU.at(h:DU Y B N)(ht:t < 6):g9 Γ (.ref (Y+6)) (cT t) N=U (.ref (Y+t)):=
 io h.1 (by rw[bD,cM ht];rfl) (by rw[aD,aQ];decide)
theorem Cz(h:∀l∈B,∀x∈l,x∈PL)(t:Nat):∀x∈B.getD t [],x∈PL:=by
 rw[aI];cases ht:B[t]? with
 |none=>exact λx hx=>nomatch hx
 |some l=>exact h l (bF ht)
theorem Gz(hp:p.Ok)(h:PE p q e N)(ai:vs.get 53=U (.ref q))(gt:vs.get 103=U (cT t))(gn:vs.get 11=U (.str c.1))(hc:c∈PL)(ht:t<=5):
  hJ (ev Γ C 60) (.and (.cmp .lt (.var 103) (.call (.lit (.cst (.builtin "len"))) [.var 53])) (.or (.cmp .eq (.sub (.sub (.var 53) (.var 103)) (.lit (.int 2))) (.lit (.str [43,61]))) (.cmp .ne (.callM (.sub (.sub (.var 53) (.var 103)) (.lit (.int 1))) 19 [] []) (.callM (.var 11) 19 [] [])))) vs N=U (qI p c.1 t,N):=by
 have e1:ev Γ C 60 (.cmp .lt (.var 103) (.call (.lit (.cst (.builtin "len"))) [.var 53])) vs N=U (.bool (Nat.blt t 5),N):=
  dS h.q λls e1=>by
   have e2:=ql (C:=C) (n:=57) (aV ai) e1;rw[aD,aQ] at e2;exact fE (aV gt) e2 (congrArg U (mA t 5))
 refine r5 (fm e1) (λah=>?_) λaj=>rfl;have ah:t < 5:=Nat.blt_eq▸ah;have hx:=hp.x t ah;have hn:=(sf hx (show 0 < 5 by decide)).1;refine Gj (fm ?_) (λaj=>fm ?_) λaj=>rfl
 ·rw[<-(by decide+kernel:∀x∈lm,cW (z8 x.2.1) [43,61]=Nat.beq x.2.1 1) _ hx];exact fE (wL h ai gt ah λl=>rfl) cB (nV ((by decide+kernel:∀x∈lm,oq (z8 x.2.1)=zG) _ hx) (by decide) rfl)
 ·exact fE (sg hn (wL h ai gt ah λl=>rfl)) (sg (nK c hc).1 (aV gn)) (ue (kc hn).2.2.1 (kc (nK c hc).1).2.2.1 rfl)
noncomputable abbrev rD:List Lake.S:=sA (hS fg.body 5)
noncomputable abbrev rE:List Lake.S:=sA (hS rD 1)
noncomputable abbrev rT:E:= .cmp .ne (.var 99) (.list [])
theorem DU.put(h:DU Y B N)(ht:t < 6):DU Y (B.set t l) (N.set (Y+t) (.list (l.map pV))):=by
 refine⟨(bU (aN (bT ht))).trans h.1,by rw[i7];exact h.2.1,λk hk=>?_⟩;by_cases e:t=k
 ·clear hk;subst e;rw[jU (h.2.2 t ht),aI,eY (by rw[h.2.1];exact ht)];rfl
 ·rw[bU (aN e),aI,bU e,<-aI];exact h.2.2 k hk
theorem SQ.le(h:SQ p q e ae af Y a ab c J Q B vs N)(l:Le N aa):SQ p q e ae af Y a ab c J Q B vs aa:=⟨h.l.trans l,h.g,h.qv,h.nv,l _ _ h.qh,h.qd,h.d.lex (Z:=λah=>False) (f8.of l) λah ah=>id,h.ok⟩
theorem SQ.queue(h:SQ p q e ae af Y a ab c J Q B vs N)(ah:J.length<=Y):SQ p q e ae af Y a ab c J Q' B vs (N.set ab (.list (dF Q'))):=by
 have hq:=h.qd;exact⟨Le.setHi h.l (aA ah (Nat.le_of_add_right_le hq)) _,h.g,h.qv,h.nv,jU h.qh,h.qd,h.d.lex (Z:=(λai=>ai=ab)) (.set _ _ rfl) λk hk=>bT (aT (Nat.add_lt_add_left (eN hk) Y) hq),h.ok⟩
theorem SQ.mark(h:SQ p q e ae af Y a ab c J Q B vs N)(ah:J.length<=Y)(ht:t < 6)(hc:c∈PL):SQ p q e ae af Y a ab c J Q (B.set t (B.getD t []++ [c])) vs (N.set (Y+t) (.list ((B.getD t []++ [c]).map pV))):=by
 have hq:=h.qd;refine⟨Le.setHi h.l (Nat.le_add_right_of_le ah) _,h.g,h.qv,h.nv,(bU (bT (aT (Nat.add_lt_add_left (cO ht (by decide)) Y) hq))).trans h.qh,h.qd,h.d.put ht,λl hl x hx=>?_⟩;refine(List.mem_or_eq_of_mem_set hl).elim (λhl=>h.ok l hl x hx) λe=>?_;rw[e] at hx;exact(aO.mp hx).elim (Cz h.ok t x) λhx=>aH.mp hx▸hc
theorem SQ.var(h:SQ p q e ae af Y a ab c J Q B vs N)(hz: [53,90,93,94,91,92,99,11,2].all (λy=>!(z==y))=zG):SQ p q e ae af Y a ab c J Q B (vs.set z v) N:=by
 have ah:∀y∈ [53,90,93,94,91,92,99,11,2],(z==y)=zH:=λy hy=>fW (aR.mp hz y hy);exact⟨h.l,h.g.set (aR.mpr λy hy=>aR.mp hz y (aP [99,11,2] hy)),gn (ah _ (by decide)) h.qv,⟨gn (ah _ (by decide)) h.nv.1,gn (ah _ (by decide)) h.nv.2⟩,h.qh,h.qd,h.d,h.ok⟩
theorem Gu(hp:p.Ok)(ak:J.length<=Y)(R:RS p q e ae af (jy p 5) (wb p 5) J)(hc:c∈PL)(h:SQ p q e ae af Y a ab c J (Q++ [t]) B vs N)(ht:t<=5)(ao:Q.length<=1000)(hd:(B.getD t []).length<=1000):
  ∃aj aa,ic Γ C 60 (m+10) rE vs N=U (.next,aj,aa)/\f8 (Zq Y ab) N aa/\
   (if c∈B.getD t [] then SQ p q e ae af Y a ab c J Q B aj aa else SQ p q e ae af Y a ab c J (Q++(if qI p c.1 t then f9 p t else [])) (B.set t (B.getD t []++ [c])) aj aa):=by
 have ah:t < 6:=eN ht;have hq:=h.qd;have e0:=IN (C:=C) (n:=58) h.qv (by rw[h.qh,ki];rfl) (by rw[eR];exact aA (by assumption) (by decide));have h1:=(h.queue (Q':=Q) ak).var (z:=103) (v:=cT t) rfl;have ai:(vs.set 103 (cT t)).get 103=U (cT t):=bH _ _ _;have l1:f8 (Zq Y ab) N (N.set ab (.list (dF Q))):= .set _ _ (.inr rfl);have es:∀ {n aa},DU Y B aa->ev Γ C (n+2) (.sub (.var 91) (.var 103)) (vs.set 103 (cT t)) aa=U (.ref (Y+t),aa):=λd=>fD (aV h1.g.d) (aV ai) (d.at ah);have ep:∀ {n aa},ev Γ C (n+2) (.tup [.var 11,.var 2]) (vs.set 103 (cT t)) aa=U (pV c,aa):=hQ (cQ (aV h1.nv.1) (cL (aV h1.nv.2))) (by decide:2<=1000000);have et:hJ (ev Γ C 60) (sE (hS rE 1)) (vs.set 103 (cT t)) (N.set ab (.list (dF Q)))=U (!decide (c∈B.getD t []),N.set ab (.list (dF Q))):=
  fm (fE (ep) (es h1.d) (B8 (h1.d.2.2 t ah) (Cz h1.ok t) hc))
 by_cases hm:c∈B.getD t []
 ·rw[decide_eq_true hm] at et;exact(iS _ _ (bR (eU e0) (bR (Jf rfl et eF) eF)) l1 ((if_pos hm).symm▸h1))
 ·rw[decide_eq_false hm] at et;have e2:=kg (es (n:=57) h1.d) (h1.d.2.2 t ah) (ep) (h1.d.2.2 t ah) (by rw[aD];exact aK (by assumption) (by decide));have h2:=h1.mark ak ah hc;rw[show(B.getD t []++ [c]).map pV=(B.getD t []).map pV++ [pV c] from dP ..] at h2;have l2:=l1.trans (f8.set (N.set ab (.list (dF Q))) (.list ((B.getD t []).map pV++ [pV c])) (.inl ⟨bL _ _,Nat.add_lt_add_left ah _⟩));have e3:=Gz (C:=C) hp (R.le h2.l).pe h2.g.v.q ai h2.nv.1 hc ht;have go:∀ {r},ex Γ C 60 (m+6) (hS (sA (hS rE 1)) 1) (vs.set 103 (cT t)) ((N.set ab (.list (dF Q))).set (Y+t) (.list ((B.getD t []).map pV++ [pV c])))=U (.next,vs.set 103 (cT t),r)->ic Γ C 60 (m+10) rE vs N=U (.next,vs.set 103 (cT t),r):=λe=>
   bR (eU e0) (bR (KH rfl et (bR (gl e2) (bR e eF))) eF)
  cases hg:qI p c.1 t with
  |false=>
   rw[hg] at e3;refine(iS _ _ (go (Jf rfl e3 eF)) l2 ?_);rw[if_neg hm,if_neg aU,cF];exact h2
  |true=>
   rw[hg] at e3;have al:t < 5:=Nat.blt_eq▸(hY hg).1;refine fZ (R.s.all (xW al) (by rw[mj];decide)) λr am er hz=>?_;have e4:=vl (C:=C) (n:=58) (ys:=dF (f9 p t)) h2.qv h2.qh (fD (aV h2.g.v.s) (aV ai) (am _ h2.l)) h2.qh (h2.l _ _ er) (by
    have h1:=qx (p:=p) (i:=t) (qw (p:=p) t);have h2:=tW p t;have h3:(f9 p t).length<=t+3:=by
     unfold f9 Du;split
     ·rw[aF];exact aA (bY h2 h1) (bJ (iB 1 (t+2)))
     ·exact aA h2 (eH 1 (t+2))
    rw[aF,eR,eR];exact aA (bY ao (aA h3 (bS (bA al) 3))) (by decide))
   rw[<-ki] at e4;refine(iS _ _ (go (KH rfl e3 (bR (gl e4) eF))) (l2.trans (.set _ _ (.inr rfl))) ?_);rw[if_neg hm,if_pos rfl];exact h2.queue ak
end
def EV(p:Pg)(B:List (List P))(s:SS):List (List P):=(pw p (s.1,s.2.1) 1000 s.2.2 B).getD B
def ix(p:Pg)(j:Nat):List (List P):=((kE p 5).take j).foldl (EV p) (List.replicate 6 [])
section
variable{p:Pg}{q e ab ae Y a af:Nat}{c:P}{N B ag J:H}{C:Cf}{n m r i b t:Nat}{vs:aW}{x y:E}{aa:List (List P)}{Q:List Nat}{v w:V}
theorem A9(hp:p.Ok)(av:B.length<=Y)(R:RS p q e ab ae (jy p 5) (wb p 5) B)(hc:c∈PL):∀(k:Nat) {Q:List Nat} {aa F:List (List P)} {vs:aW} {N:H},pw p c k Q aa=U F->SQ p q e ab ae Y a af c B Q aa vs N->
  ∃ah J,(∀K,kl (λM N=>hJ (ev Γ C 60) rT M N) (λM N=>ic Γ C 60 (m+10) rE M N) (K+k) vs N=U (.next,ah,J))/\f8 (Zq Y af) N J/\SQ p q e ab ae Y a af c B [] F ah J:=by
 intro k;induction k with
 |zero=>exact λh=>ns h
 |succ k ih=>
  intro Q aa F vs N hs h;have et:hJ (ev Γ C 60) rT vs N=U (!Q.isEmpty,N++ [O.list []]):=fm (wM (λal al al=>rfl) (aV h.qv) h.qh);have l1:Le N (N++ [O.list []]):= .app _ _;have h1:=h.le l1;replace hs:uZ p c (pw p c k) Q aa=U F:=hs;unfold uZ at hs;cases ai:Q.getLast? with
  |none=>
   have e0:=List.getLast?_eq_none_iff.mp ai;rw[ai] at hs;rw[e0] at et h1;obtain rfl:=aC hs;exact(iS vs _ (λK=>kj et) (.of l1) h1)
  |some t=>
   rw[ai] at hs;dsimp only at hs;obtain⟨Q',rfl⟩:∃Q',Q=Q'++ [t]:=List.getLast?_eq_some_iff.mp ai;have ao:(Q'++ [t]).isEmpty=zH:=by clear h et h1 hs ai;cases Q'<;>rfl
   rw[ao] at et;by_cases hg:t<=5/\(Q'++ [t]).length<=1000/\(aa.getD t []).length<=1000
   ·rw[if_pos hg] at hs;refine ga (Gu (C:=C) (m:=m) hp av R hc h1 hg.1 (by rw[aF] at hg;exact Nat.le_of_add_right_le hg.2.1) hg.2.2) λap aq e2 l2 h2=>?_;have aj:∀ {am ak},pw p c k am ak=U F->SQ p q e ab ae Y a af c B am ak ap aq->∃ah J,(∀K,kl (λM N=>hJ (ev Γ C 60) rT M N) (λM N=>ic Γ C 60 (m+10) rE M N) (K+(k+1)) vs N=U (.next,ah,J))/\f8 (Zq Y af) N J/\SQ p q e ab ae Y a af c B [] F ah J:=λa b=>
     ga (ih a b) λar au e3 l3 h3=>(iS ar au (λK=>(mZ et e2).trans (e3 K)) (((f8.of l1).trans l2).trans l3) h3)
    by_cases hm:c∈aa.getD t []
    ·rw[if_pos hm] at hs h2;rw[kZ] at hs;exact aj hs h2
    ·rw[if_neg hm] at hs h2;rw[kZ] at hs;exact aj hs h2
   ·rw[if_neg hg] at hs;exact ns hs
theorem AR(hp:p.Ok):∀ {i},i<=5->∀s∈kE p i,(s.1,s.2.1)∈PL:=by
 intro i;induction i with
 |zero=>
  intro _ s h;have:∀s∈([([65],[45],[0]),([98],[45],[0])]:List SS),(s.1,s.2.1)∈PL:=by decide+kernel
  exact this s h
 |succ i ah=>
  exact λhi s h=>(aO.mp h).elim (ah (bW hi) s) λh=>by
   have hx:=sf (hp.x i hi) hi;exact tm h (λe=>e▸hx.2.1) λe=>e▸hx.2.2 _
theorem sP(h:(kE p 5)[j]? =U s):ix p (j+1)=EV p (ix p j) s:=by
 unfold ix
 (refine Eq.symm (fT)▸?_;refine h.symm▸?_)
 exact xQ
theorem AU:∀ {i},i<=5->∀s∈kE p i,s.2.2.length<=10:=by
 intro i;induction i with
 |zero=>
  intro _ s h;have:∀s∈([([65],[45],[0]),([98],[45],[0])]:List SS),s.2.2.length<=10:=by decide
  exact this s h
 |succ i ah=>
  exact λhi s h=>(aO.mp h).elim (ah (bW hi) s) λh=>by
   have h1:=qx (p:=p) (i:=i) (qw (p:=p) i);have h2:=tW p i;have h3:(f9 p i).length<=i+3:=by
    unfold f9 Du;split
    ·rw[aF];exact aA (bY h2 h1) (bJ (iB 1 (i+2)))
    ·exact aA h2 (eH 1 (i+2))
   have h4:(f9 p i).length<=10:=aA h3 (aA (bS (bW hi) 3) (by decide));exact tm h (λe=>e▸h4) λe=>e▸h4
theorem DD(hp:p.Ok)(ak:Y=B.length)(R:RS p q e ab ae (jy p 5) (wb p 5) B)(l0:Le B N)(g:Ru vs q e ab ae Y a)(hs:SG Y a (kE p 5) N)(ha:Y+7<=a)(hd:DU Y (List.replicate 6 []) N)(H:∀j s,(kE p 5)[j]? =U s->∃F,pw p (s.1,s.2.1) 1000 s.2.2 (ix p j)=U F):
  ∃ai J,ex Γ C 60 (m+15) (hS fg.body 5) vs N=U (.next,ai,J)/\Ru ai q e ab ae Y a/\DU Y (ix p (kE p 5).length) J/\Le B J/\∀l∈ix p (kE p 5).length,∀x∈l,x∈PL:=by
 refine cJ hs λus hu al=>?_;have am:=al.length;have ao:=aZ hu;refine je (hV (Γ:=Γ) (C:=C) (fe:=60) (n:=m+14) (t:= .tup [.name 11,.name 2,.name 98]) (b:=rD) (N:=N) (itr:=λj=>.one (.ls a j)) (hC (aV g.s) hu) rfl (by refine am▸?_;have:=pK (p:=p) 5;exact aK (by assumption) (by decide))
  (zE:=λj vs ah=>Ru vs q e ab ae Y a/\DU Y (ix p j) ah/\f8 (λi=>Zd Y i\/N.length<=i) N ah/\∀l∈ix p j,∀x∈l,x∈PL) ⟨g,hd,.of (.refl _),λl hl x hx=>by replace hx:=(List.eq_of_mem_replicate hl)▸hx;exact nomatch hx⟩ (λj v vs ah hv zE=>mu (zE.2.2.1.2 _ _ (λz=>?_) hu) hv) (λvs ah zE=>mw (zE.2.2.1.2 _ _ (λz=>?_) hu) (cI (aJ _))) (λj v vs ah hv zE=>?_)) λai J ef zE=>?_
 ·exact z.elim (λz=>absurd z.2 (bP.mpr (bW ha))) λz=>absurd ao (bP.mpr z)
 ·exact z.elim (λz=>absurd z.2 (bP.mpr (bW ha))) λz=>absurd ao (bP.mpr z)
 ·refine Ie zE λg0 d0 lx au=>?_;clear zE;refine cJ (al.get hv) λs aj q0=>fZ q0 λr ev hz er=>?_;clear hv q0;subst ev;have ar:=lx.2 r _ (λz=>z.elim hz.1 λz=>absurd (aZ er) (bP.mpr z)) er;have av:Le B ah:=λi o e=>lx.2 i o (λz=>z.elim (λz=>absurd (aZ e) (bP.mpr (ak▸z.1))) λz=>absurd (aZ (l0 _ _ e)) (bP.mpr z)) (l0 _ _ e);refine(cU (((vs.set 11 (.str s.1)).set 2 (.str s.2.1)).set 98 (.ref r)) rfl ?_);have e1:ev Γ C 60 (.call (.lit (.cst (.type "list"))) [.var 98]) (((vs.set 11 (.str s.1)).set 2 (.str s.2.1)).set 98 (.ref r)) ah=U (.ref ah.length,ah++ [.list (dF s.2.2)]):=by
   refine hR (cL (aV (bH _ _ _))) ((m9 Γ C ah "list" _).trans ?_);show((dX ah (.ref r)).bind λI=>iP I ah)=_;rw[dC _ ar,bO];refine g6 _ ?_;rw[eR];exact aA (AU (aJ 5) s (bF aj)) (by decide)
  have la:Le ah (ah++ [O.list (dF s.2.2)]):= .app _ _;have aw:=aZ d0.1;have a0:SQ p q e ab ae Y a ah.length (s.1,s.2.1) B s.2.2 (ix p j) ((((vs.set 11 (.str s.1)).set 2 (.str s.2.1)).set 98 (.ref r)).set 99 (.ref ah.length)) (ah++ [O.list (dF s.2.2)]):=
   ⟨av.trans la,(((g0.set rfl).set rfl).set rfl).set rfl,bH _ _ _,⟨gn rfl (gn rfl (gn rfl (bH _ _ _))),gn rfl (gn rfl (bH _ _ _))⟩,bC _ _,aw,d0.lex (Z:=λap=>False) (f8.of la) λap ap=>id,au⟩
  refine dS (H j s aj) λF aq=>ga (A9 (C:=C) (m:=m+1) hp (bJ ak.symm) R (AR hp (aJ 5) s (bF aj)) 1000 aq a0) λax ay e3 l3 h3=>?_;have az:ix p (j+1)=F:=by refine Eq.symm (sP aj)▸?_;unfold EV;refine aq.symm▸?_;rfl
  refine az.symm▸?_;refine(Lq ax ay (bR (eU e1) (bR ((e3 1000:):ex Γ C 60 (m+12) (.whil rT rE) _ _=_) eF)) h3.g h3.d ((lx.trans (.of la)).trans (l3.imp λi hi z=>z.elim .inl λz=>.inr (z▸lx.1))) h3.ok)
 ·replace zE:=am.symm▸zE;exact(Lq ai J ef zE.1 zE.2.1 (λi o e=>zE.2.2.1.2 i o (λz=>z.elim (λz=>absurd (aZ e) (bP.mpr (ak▸z.1))) λz=>absurd (aZ (l0 _ _ e)) (bP.mpr z)) (l0 _ _ e)) zE.2.2.2)
end
def rh(L B:List P):Prop:=∀N,v4 (L.map pV) N=iP (B.map pV) N
noncomputable def rI:V->Nat
 |.ref i=>i
 |_=>0
section
variable{p:Pg}{q e ae af J a ag:Nat}{c:P}{N aa ab B:H}{C:Cf}{n m r i b t:Nat}{vs:aW}{x y:E}{Y:List (List P)}{Q:List Nat}{v w:V}
theorem xh{f:V->List P}(h:eZ (λv w=>∃r,w= .ref r/\N[r]? =U (.list ((f v).map pV))) I ws)(hf:∀v∈I,∀x∈f v,x∈PL):gP (flat N 11) ws=U (I.map λv=>.flist ((f v).map pV)):=by
 induction h with
 |nil=>rfl
 |@cons a b l m q _ ih=>
  refine cJ q λr ew er=>?_;clear q;subst ew;show(match flat N 11 (.ref r) with
   |some y=>match gP (flat N 11) m with
    |some ys=>U (y::ys)
    |.none=>.none
   |.none=>.none)=_
  have e1:flat N 11 (.ref r)=U (.flist ((f a).map pV)):=by
   show(match N[r]? with
   |some (.list vs)=>match gP (flat N 10) vs with
    |some ds=>U (V.flist ds)
    |.none=>.none
   |_=>.none)=_
   rw[er];dsimp only;rw[qL (hf _ (.head _))]
  rw[e1,ih λv hv=>hf v (.tail _ hv)];rfl
theorem IG(g:Ru vs q e ae af J a)(hd:DU J Y N)(ok:∀l∈Y,∀x∈l,x∈PL){S:Nat->List P}(aj:∀k < 6,rh (Y.getD k []) (S k)/\(S k).length<=1000):
  ∃B ws,ev Γ C 60 (sE (hS fg.body 6)) vs N=U (.ref B.length,B++ [.list ws])/\Le N B/\eZ (λv w=>∃r,w= .ref r/\B[r]? =U (.list ((S (rI v - J)).map pV))) ((List.range 6).map λk=>V.ref (J+k)) ws:=by
 refine ga (mz (Γ:=Γ) (I:=(List.range 6).map λk=>V.ref (J+k)) (hC (aV g.d) hd.1) rfl (by decide:6 < 1999) (fu hd.1) (λah=>True) (λv vs=>vs.set 72 v) (λah=>zG)
  (λv w N=>∃r,w= .ref r/\N[r]? =U (.list ((S (rI v - J)).map pV))) (λah ah ah ah=>rfl) (λah ah ah ah=>trivial) trivial (λv hv vs ai l ah=>(g8 ai rfl (.refl _) (λah=>?_))) λv w N B l h=>cJ h λr e1 e2=>(cU r e1 (l _ _ e2))) λws B e1 l1 A=>(iS B ws e1 l1 (by rw[cS.mpr λah ah=>rfl] at A;exact A))
 refine mm hv λk hk ek=>?_;clear hv;subst ek;have hk:=bN.mp hk;refine⟨.ref ai.length,ai++ [.list ((S k).map pV)],?_,.app _ _,_,rfl,?_⟩
 ·refine hR (cL (aV (bH _ _ _))) ((fK Γ C ai "sorted" _).trans ?_);show((dX ai (.ref (J+k))).bind λI=>v4 I ai)=_;rw[dC _ (l _ _ (hd.2.2 k hk)),bO,(aj k hk).1];exact g6 _ (by rw[aD];exact aA (aj k hk).2 (by decide))
 ·rw[bC,show rI (V.ref (J+k)) - J=k from cY _ _]
theorem zh(hp:p.Ok)(h:PE p q e N)(H:∀j s,(kE p 5)[j]? =U s->∃F,pw p (s.1,s.2.1) 1000 s.2.2 (ix p j)=U F){S:Nat->List P}(ay:∀k < 6,rh ((ix p (kE p 5).length).getD k []) (S k)/\(S k).length<=1000)(au:∀k < 6,∀x∈S k,x∈PL):
  ∃r B,eG (n+1) 320 [.ref q,.ref e] [] N=U (.ref r,B)/\Le N B/\flat B 12 (.ref r)=U (.flist ((List.range 6).map λk=>.flist ((S k).map pV))):=by
 have lq:=dS h.q λal=>aZ;have le:=aZ h.e;let ai:=N++ [O.list []];let σb:=ai++ [O.list []];have l0:Le N σb:=(Le.app _ _).snoc _;have la:ai.length=N.length+1:=aF;let ak:aW:= [(53,U (.ref q)),(90,U (.ref e))];have e1:ex Γ (eG n) 60 59 (hS fg.body 0) ak N=U (.next,(ak.set 93 (.ref N.length)).set 94 (.ref ai.length),σb):=
  nI (hQ (cQ (fr iZ (by decide:0<=1000000)) (cL (fr iZ (by decide:0<=1000000)))) (by decide:2<=1000000)) rfl
 have az:RS p q e N.length ai.length [] [] σb:=⟨h.lee l0,⟨⟨λz=>z.elim (bT (by assumption)) (bT (Nat.lt_of_lt_of_eq (cX lq) la.symm)),λz=>z.elim (bT (by assumption)) (bT (Nat.lt_of_lt_of_eq (cX le) la.symm))⟩,bT (Nat.lt_of_lt_of_eq (bQ _) la.symm)⟩,⟨by decide,by decide⟩,⟨[],fC _ _ (bC _ _),.nil⟩,⟨[],bC _ _,.nil⟩⟩;have g0:Rv ((ak.set 93 (.ref N.length)).set 94 (.ref ai.length)) q e N.length ai.length:=⟨rfl,rfl,rfl,rfl⟩;refine pb (DF (C:=eG n) (m:=47) hp az g0) λao ah e2 g1 am l1=>Hh (II (C:=eG n) am.pe g1.q) λap e3 l2 d2 aj=>fZ (IF (p:=p) (C:=eG n) (vs:=ao.set 91 (.ref (ah.length+6))) (bJ aj.symm)) λa0 e4 l3 s3=>?_;have g3:Ru ((ao.set 91 (.ref (ah.length+6))).set 92 (.ref (ap.length+2))) q e N.length ai.length ah.length (ap.length+2):=⟨(g1.set rfl).set rfl,gn rfl (bH _ _ _),bH _ _ _⟩;refine pb (DE (C:=eG n) (m:=50) hp (l2.trans l3) (Nat.le_add_right_of_le (aj▸bL ..)) rfl am g3 s3) λa3 aq e5 g4 s4 l4=>?_;have av:Le ah aq:=λi o e=>l4.2 i o (bT (aT (aZ e) (Nat.le_add_right_of_le (aj▸bL ..)))) ((l2.trans l3) _ _ e);have d4:DU ah.length (List.replicate 6 []) aq:=(d2.lex (Z:=λal=>False) (f8.of l3) λal al=>id).lex l4 λk hk=>bT (Nat.lt_add_right 2 (Nat.lt_of_lt_of_eq (Nat.add_lt_add_left (eN hk) _) aj.symm));refine KA (DD (C:=eG n) (m:=39) hp rfl am av g4 s4 (aj▸bL ..) d4 H) λa4 a5 e6 g5 d5 l5 aw=>ga (IG (C:=eG n) g5 d5 aw ay) λar ws e7 l6 A=>(iS ar.length _ (mQ rfl rfl rfl (bR e1 (bR e2 (bR (eU e3) (bR (eU e4) (bR e5 (bR e6 (k3 (lJ e7))))))))) ?_ ?_)
 ·have ax:Le N ah:=λi o e=>l1.2 i o (λz=>z.elim (λz=>absurd (aZ e) (z▸cD _)) λz=>absurd (aZ e) (bP.mpr (bA (Nat.lt_of_lt_of_eq (bQ _) (la.symm.trans z.symm))))) (l0 _ _ e);exact((ax.trans l5).trans l6).snoc _
 ·refine oE (bC ar _) ((xh (A.imp λv w h=>cJ h λr e1 e2=>(cU r e1 (fC _ _ e2))) λv hv x hx=>?_).trans ?_)
  ·refine mm hv λk hk ek=>?_;clear hv;subst ek;rw[show rI (V.ref (ah.length+k)) - ah.length=k from cY _ _] at hx;exact au k (bN.mp hk) x hx
  ·rw[eC];refine congrArg U (fF λk hk=>?_);show V.flist ((S (ah.length+k - ah.length)).map pV)=_;rw[cY]
end
end MI.Lake.L1
namespace MI.Lake
section
variable{Γ:G}{C:Cf}{n:Nat}{t:T}{iter it2:It}{M:aW}{N σb:H}{itr:Nat->gx}{I:List V}{z:Nat}
theorem B7{P:aW->Prop}(ab:∀v M,P M->P (M.set z v)):∀(k j:Nat) {M:aW} {acc:List V} {N:H},N[r]? =U (.list ys)->P M->j+k=ys.length->acc.length+k<=1000000->∃J,P J/\∀Y,gr (λN it=>it.next N) (iK (ev Γ C (n+1)) (.var z) (.name z) []) (Y+k+1) (.one (.ls r j)) M acc N=U (J,acc++ys.drop j,N):=by
 intro k;induction k with
 |zero=>
  intro j M acc N hr p B ha;refine(cU M p (λY=>?_));rw[jm,mw hr (cI (bJ (Nat.add_zero j▸B.symm)))];rw[List.drop_eq_nil_of_le (bJ (Nat.add_zero j▸B.symm)),cF]
 |succ k ih=>
  intro j M acc N hr p B ha;have aa:j < ys.length:=jL B;have hg:ys[j]? =U ys[j]:=aM aa;refine cJ (ih (j+1) (M:=M.set z ys[j]) (acc:=acc++ [ys[j]]) hr (ab _ _ p) (jS B) (by rw[aF];show acc.length+1+k<=_;exact aA (bJ (Nat.add_right_comm _ 1 k)) ha)) λJ p' e=>(cU J p' (λY=>?_));rw[jm,mu hr hg];have ht:iK (ev Γ C (n+1)) (.var z) (.name z) [] ys[j] M acc N=U (M.set z ys[j],acc++ [ys[j]],N):=by
   show(match ev Γ C (n+1) (.var z) (M.set z ys[j]) N with
      |some (v,N)=>if iM acc.length then U (M.set z ys[j],acc++ [v],N) else .none
      |.none=>.none)=_
   rw[aV (bH _ _ _)];exact if_pos (gT (Nat.le_of_add_right_le ha))
  dsimp only;rw[ht];have:=e Y;rw[cN,show[ys[j]]++ys.drop (j+1)=ys.drop j from(iI aa).symm] at this;exact this
noncomputable abbrev Ft(Γ:G)(C:Cf)(n:Nat)(t:T)(it2:It)(z:Nat):V->aW->List V->H->Option (aW×List V×H):=λv M acc N=>match gc t v N M with
       |some M=>match gG (ev Γ C n) it2 M N with
        |some (B,N)=>if lM (.name z) B then j4 (ev Γ C n) (.var z) (.name z) [] B M acc N else .none
        |.none=>.none
       |.none=>.none
theorem CG(elt:E)(B:T)(J:List E)(own:List Nat):ev Γ C (n+1) (.comp elt [.mk t iter [],.mk B it2 J] own) M N=(match gG (ev Γ C n) iter M N with
     |some (itr,N)=>if lM t itr then match gr (λN it=>it.next N) (λv M acc N=>match gc t v N M with
       |some M=>match gG (ev Γ C n) it2 M N with
        |some (Y,N)=>if lM B Y then j4 (ev Γ C n) elt B J Y M acc N else .none
        |.none=>.none
       |.none=>.none) dW itr (own.map (λaa=>(aa,.none))++M) [] N with
      |some (_,acc,N)=>iP acc N
      |.none=>.none else .none
     |.none=>.none):=rfl
theorem CF(h0:gG (ev Γ C (n+1)) iter M N=U (itr 0,σb))(am:lM (.name w) (itr 0)=zG)(hx:I.length < 1000)(al:oO σb itr I)(P:aW->Prop)(f:V->List V)
  (ao:∀v M,P M->P (M.set z v)) (ap:∀v M,P M->P (M.set w v)) (hp:P (own.map (λah=>(ah,.none))++M)) (hf:∀v∈I,(f v).length<=1000)
  (step:∀v∈I,∀M N,Le σb N->P M->∃r J,gG (ev Γ C (n+1)) it2 (M.set w v) N=U (.one (.ls r 0),J)/\Le N J/\J[r]? =U (.list (f v))):
  ∃B,ev Γ C (n+2) (.comp (.var z) [.mk (.name w) iter [],.mk (.name z) it2 []] own) M N=U (.ref B.length,B++ [.list (I.flatMap f)])/\Le σb B:=by
 have go:∀(m j:Nat) (M:aW) (acc:List V) (N:H),P M->Le σb N->j+m=I.length->acc.length<=1000*j->
   ∃ab B,(∀aa,gr (λN it=>it.next N) (Ft Γ C (n+1) (.name w) it2 z) (aa+m+1) (itr j) M acc N=U (ab,acc++(I.drop j).flatMap f,B))/\Le σb B/\(acc++(I.drop j).flatMap f).length<=1000*I.length:=by
  intro m;induction m with
  |zero=>
   intro j M acc N af Y hj ha;obtain rfl:=(show j=I.length from hj);refine(iS M N (λaa=>?_) Y (by rw[oX,List.flatMap_nil,cF];exact ha));rw[jm,al.done N Y,oX,List.flatMap_nil,cF]
  |succ m ih=>
   intro j M acc N af Y hj ha;have ae:j < I.length:=jL hj;have hg:I[j]? =U I[j]:=aM ae;have aj:=gY ae;refine ga (step _ aj M N Y af) λr J e1 l1 e2=>?_;have ag:=hf _ aj;refine cJ (B7 (Γ:=Γ) (C:=C) (n:=n) ao (f I[j]).length 0 e2 (ap I[j] _ af) (eW _) (aA (bY ha ag) (f4 1000 (aA ae (bA hx))))) λai p1 e3=>je (ih (j+1) ai (acc++f I[j]) J p1 (Y.trans l1) (jS hj) (by rw[aF];exact bY ha ag)) λab B e4 h4=>?_;have hd:acc++(I.drop j).flatMap f=acc++f I[j]++(I.drop (j+1)).flatMap f:=by
    rw[iI ae,List.flatMap_cons,cN]
   refine(iS ab B (λaa=>?_) h4.1 (hd▸h4.2));rw[hd,show aa+(m+1)+1=(aa+m+1)+1 from rfl,jm,al.item j _ N Y hg];have ht:Ft Γ C (n+1) (.name w) it2 z I[j] M acc N=U (ai,acc++f I[j],J):=by
    show(match gG (ev Γ C (n+1)) it2 (M.set w I[j]) N with
        |some (ak,N)=>if lM (.name z) ak then j4 (ev Γ C (n+1)) (.var z) (.name z) [] ak (M.set w I[j]) acc N else .none
        |.none=>.none)=_
    rw[e1];dsimp only;rw[if_pos (by rfl),qX];have:=e3 (1999 - (f I[j]).length);rw[show 1999 - (f I[j]).length+(f I[j]).length+1=dW by show _=2000;exact congrArg Nat.succ (Nat.sub_add_cancel (aA ag (by decide)))] at this;exact this
   dsimp only;rw[ht];exact e4 aa
 refine je (go I.length 0 (own.map (λah=>(ah,.none))++M) [] σb hp (.refl _) (eW _) (cK _)) λab B H h=>(cU B ?_ h.1);rw[CG,h0];dsimp only;rw[if_pos am];have hh:=H (1999 - I.length);rw[show 1999 - I.length+I.length+1=dW by show _=2000;exact congrArg Nat.succ (Nat.sub_add_cancel (aA (bA hx) (by decide)))] at hh;rw[hh,List.drop_zero,List.nil_append];rw[List.drop_zero,List.nil_append] at h;exact g6 _ (aA h.2 (f4 1000 (bA hx)))
end
end MI.Lake
namespace MI.Lake.L1
noncomputable def sO(Ld:Nat->Txt)(i:Nat):Nat->Nat->Nat
 | 0,j=>j
 |f+1,j=>if fN (Ld i) (Ld j) then sO Ld i f (j+1) else j
def hA(Ld:Nat->Txt)(i:Nat):Nat:=sO Ld i (4 - i) (i+1)
def Fp(Ld:Nat->Txt)(i:Nat):List V:=(List.range' (i+1) (min (hA Ld i+1) 5 - (i+1))).flatMap λj=>(uM (Ld i) (Ld j)).map jz
structure nw(X:Nat->Nat×Nat×Nat)(Ld:Nat->Txt):Prop where
 x:∀i < 5,X i∈lm
 l:∀i < 5,Ld i∈kz
structure WH(X:Nat->Nat×Nat×Nat)(Ld:Nat->Txt)(W q:Nat)(N:H):Prop where
 w:∀k < 5,Ws N (W+k) (Ld k)
 l:N[W+5]? =U (.list ((List.range 5).map λk=>V.ref (W+k)))
 q:N[q]? =U (.list ((List.range 5).map λk=>V.str (mN (Ld k) (X k))))
noncomputable def ry:V->Txt
 |.str s=>s
 |_=>[]
theorem I4:ig (λl=>ig (λx=>n5 (mN l x)) lm) kz=kz.map λB=>lm.map λB=>zG:=by kernel_rfl
theorem G9:ig (λl=>ig (λx=>o4 (mN l x) (U (l.length:Int)) (U (-2)) .none) lm) kz=kz.map λB=>lm.map λx=>At x:=by kernel_rfl
theorem F5:∀W:Nat,ig (λi:Nat=>ig (λe:Nat=>js ((List.range 5).map λk=>V.ref (W+k)) (U ((i:Int)+1)) (U ((e:Int)+1)) .none) (List.range 6)) (List.range 5)=(List.range 5).map λi=>(List.range 6).map λe=>(List.range' (i+1) (min (e+1) 5 - (i+1))).map λk=>V.ref (W+k):=by
 intro W;kernel_rfl
section
variable{X:Nat->Nat×Nat×Nat}{Ld:Nat->Txt}{W q Y i e n m:Nat}{N B J:H}{vs:aW}{l:Txt}{x:Nat×Nat×Nat}
theorem Ws.le(h:Ws N i l)(l1:Le N B):Ws B i l:=⟨h.hl,cJ h.w λaa e1 e2=>(cU aa (l1 _ _ e1) e2)⟩
theorem WH.le(h:WH X Ld W q N)(l1:Le N B):WH X Ld W q B:=⟨λk hk=>(h.w k hk).le l1,l1 _ _ h.l,l1 _ _ h.q⟩
theorem CK(hl:l∈kz)(hx:x∈lm):nX Γ (eG n) (.cst (.ref 248)) [.str (mN l x)] N=U (.ref N.length,N++ [wO l (mN l x)])/\hU (mN l x)=l:=by
 refine je ((by
   have ae:=(rg hx).1;refine(rO ([97,65,98,66].getD x.1 0) (z8 x.2.1++zx x.2.2++ [32,9]) ?_ (λaa=>?_))
   ·exact j0 (P:=λk=>[97,65,98,66].getD k 0∈ [97,65,98,66]) (j0 (j0 (j0 Ec (by decide)) (by decide)) (by decide)) (by decide) _ ae
   ·unfold mN At gR;rw[cN,cN,cN];show aa++(_::(z8 x.2.1++(zx x.2.2++ [32,9])))=_;rw[cN]:∃c r,c∈ [97,65,98,66]/\∀aa,mN aa x=aa++c::r)) λc r hc e=>?_
 have ha:=td I4 hl hx;have ab:=(by
   have af:∀l∈kz,(l.all λc=>c==32 || c==9)=zG:=by decide+kernel
   have ag:∀c∈ [97,65,98,66],(c==32 || c==9)=zH:=by decide
   unfold hU;rw[List.takeWhile_append_of_pos (aR.mp (af l hl)),List.takeWhile_cons_of_neg (by rw[ag c hc];exact aU),cF]:hU (_++_::r)=_)
 rw[e l] at ha⊢;refine⟨?_,ab⟩;have e1:eG n 203 [.ref N.length,.str (l++c::r)] [] (N++ [O.inst 248 []])=U (.none,(N++ [O.inst 248 []]).set N.length (wO l (l++c::r))):=by
  refine iy ?_ (y0 hl hc ha (bC N _));show U (V.none,(N++ [O.inst 248 []]).set N.length (wO (hU (l++c::r)) (l++c::r)))=_;rw[ab]
 show Bs 248 N (eG n 203 [.ref N.length,.str (l++c::r)] [] (N++ [.inst 248 []]))=_;rw[e1,u6];rfl
theorem Bj(hs:nw X Ld)(g:vs.get 64=U (.ref q))(hq:N[q]? =U (.list ((List.range 5).map λk=>V.str (mN (Ld k) (X k))))):∃B,ev Γ (eG n) 59 (.comp (.call (.lit (.cst (.ref 248))) [.var 70]) [.mk (.name 70) (.plain (.var 64)) []] [70]) vs N=U (.ref (N.length+5),B)/\Le N B/\WH X Ld N.length q B:=by
 have e3:=uc (Γ:=Γ) (t:= .name 70) (ifs:= []) (own:= [70]) (I:=(List.range 5).map λk=>V.str (mN (Ld k) (X k))) (hC (aV g) hq) rfl (by decide:5 < 1999) (vF hq) (λaa=>True) (λv vs=>vs.set 70 v) (λaa=>zG) (λaa ab=>.ref (N.length+ab.length)) (λaa aa=>[]) (λv aa=>[wO (hU (ry v)) (ry v)])
  (λv aa N vs=>rfl) (λaa aa aa aa=>trivial) trivial (λv aa vs ab aa=>by rw[cF];rfl) (λv hv vs ab aa aa=>by
   refine mm hv λk hk ek=>?_;clear hv;subst ek;have hk:=bN.mp hk;have:=CK (n:=n) (N:=N++ab) (hs.l k hk) (hs.x k hk);show ev Γ (eG n) 58 _ _ _=U (_,N++(ab++ []++ [wO (hU (mN (Ld k) (X k))) (mN (Ld k) (X k))]));rw[this.2,cF,<-cN,<-aF];exact hR (cL (aV (bH _ _ _))) this.1)
 have e4:k9 (λaa=>zG) (λaa ab=>V.ref (N.length+ab.length)) (λaa aa=>[]) (λv aa=>[wO (hU (ry v)) (ry v)]) ((List.range 5).map λk=>V.str (mN (Ld k) (X k))) [] []=((List.range 5).map λk=>V.ref (N.length+k),(List.range 5).map λk=>wO (hU (mN (Ld k) (X k))) (mN (Ld k) (X k))):=rfl;rw[e4] at e3;have lw:(N++(List.range 5).map λk=>wO (hU (mN (Ld k) (X k))) (mN (Ld k) (X k))).length=N.length+5:=by rw[aF,aD,aQ]
 have l1:Le N (N++((List.range 5).map λk=>wO (hU (mN (Ld k) (X k))) (mN (Ld k) (X k)))++ [O.list ((List.range 5).map λk=>V.ref (N.length+k))]):=(Le.app _ _).snoc _;refine(g8 _ (e3.trans ?_) l1 ⟨λk hk=>⟨hs.l k hk,mN (Ld k) (X k),?_,(CK (n:=n) (N:=N) (hs.l k hk) (hs.x k hk)).2⟩,?_,l1 _ _ hq⟩)
 ·rw[g6 _ (by rw[aD,aQ];decide),lw]
 ·refine fC _ _ ?_;rw[bG (bL _ _),cY,bD,cM hk,lp,(CK (n:=n) (N:=N) (hs.l k hk) (hs.x k hk)).2]
 ·have:=bC (N++(List.range 5).map λk=>wO (hU (mN (Ld k) (X k))) (mN (Ld k) (X k))) (O.list ((List.range 5).map λk=>V.ref (N.length+k)));rwa [lw] at this
end
noncomputable abbrev dB:List Lake.S:=sA (hS kW.body 1)
structure Rd(vs:aW)(q W rr i:Nat):Prop where
 q:vs.get 64=U (.ref q)
 w:vs.get 66=U (.ref (W+5))
 r:vs.get 65=U (.ref rr)
 i:vs.get 60=U (cT i)
section
variable{X:Nat->Nat×Nat×Nat}{Ld:Nat->Txt}{W q J i j e n m f:Nat}{N B Y:H}{vs:aW}{l:Txt}{x:Nat×Nat×Nat}
theorem Rd.set(g:Rd vs q W J i)(hz: [64,66,65,60].all (λy=>!(z==y))=zG):Rd (vs.set z v) q W J i:=by
 have aa:∀y∈ [64,66,65,60],(z==y)=zH:=λy hy=>fW (aR.mp hz y hy);exact⟨gn (aa _ (by decide)) g.q,gn (aa _ (by decide)) g.w,gn (aa _ (by decide)) g.r,gn (aa _ (by decide)) g.i⟩
theorem WH.at(h:WH X Ld W q N)(hi:i < 5):g9 Γ (.ref (W+5)) (cT i) N=U (.ref (W+i)):=
 io h.l (by rw[bD,cM hi];rfl) (by rw[aD,aQ];decide)
theorem Ei{x:Nat}(h:∀y∈fs.map (λaa=>aa.1),(y==x)=zH):look x fs= .none:=by
 induction fs with
 |nil=>rfl
 |cons p r ih=>exact(if_neg (by rw[h _ (.head _)];exact aU)).trans (ih λy hy=>h y (.tail _ hy))
theorem I1{z g:Nat}(h:Ws N j l)(hm:gO Γ 248 z=U g)(hz:([30,33,34,36,37].any λy=>y==z)=zH):fJ Γ (.ref j) z N=U (.fn g (.ref j)):=
 cJ h.w λaa e1 ab=>yj Γ N e1 (Ei (show∀y∈ [30,33,34,36,37],(y==z)=zH from λy hy=>gK.mpr (List.any_eq_false.mp hz y hy))) hm
noncomputable abbrev eQ:E:= .and (.cmp .lt (.var 67) (.call (.lit (.cst (.builtin "len"))) [.var 64])) (.callM (.sub (.var 66) (.var 60)) 48 [.sub (.var 66) (.var 67)] [])
theorem Cy(h:WH X Ld W q N)(g:Rd vs q W J i)(gj:vs.get 67=U (cT j))(ae:i < j)(hj:j<=5):hJ (ev Γ (eG n) 60) eQ vs N=U (Nat.blt j 5&&fN (Ld i) (Ld j),N):=by
 have e2:=ql (C:=eG n) (n:=57) (aV g.q) h.q
 (rw[aD] at e2;replace e2:=(aQ)▸e2)
 refine r5 (fm (fE (aV gj) e2 (congrArg U (mA j 5)))) (λaa=>?_) λaf=>rfl;have aa:j < 5:=Nat.blt_eq▸aa;have ab:i < 5:=cO ae aa;exact(Dr rfl (gm (fD (aV g.w) (aV g.i) (h.at ab)) (I1 (h.w i ab) rfl rfl) (cL (fD (aV g.w) (aV gj) (h.at aa))) gS (HR (aN (bT ae)) (h.w i ab) (h.w j aa))))
theorem EU(h:WH X Ld W q N):∀(f:Nat) {j:Nat} {vs:aW},j+f=5->i < j->Rd vs q W J i->vs.get 67=U (cT j)->
  ∃aa,(∀K,kl (λM N=>hJ (ev Γ (eG n) 60) eQ M N) (λM N=>ic Γ (eG n) 60 (m+2) (sA (hS dB 1)) M N) (K+f+1) vs N=U (.next,aa,N))/\Rd aa q W J i/\aa.get 67=U (cT (sO Ld i f j)):=by
 intro f;induction f with
 |zero=>
  intro j vs hj ab g gj;have et:=Cy (n:=n) h g gj ab (bJ (by assumption));clear ab;obtain rfl:=(show j=5 from hj);exact(g8 vs (λK=>kj et) g gj)
 |succ f ih=>
  intro j vs hj ab g gj;have et:=Cy (n:=n) h g gj ab (Nat.le.intro hj)
  (replace et:=(show Nat.blt j 5=zG from Nat.blt_eq.mpr (jL hj))▸et;rw[fQ] at et)
  have eu:sO Ld i (f+1) j=if fN (Ld i) (Ld j) then sO Ld i f (j+1) else j:=rfl
  refine eu.symm▸?_;cases hl:fN (Ld i) (Ld j) with
  |false=>
   replace et:=hl▸et;exact(g8 vs (λK=>kj et) g gj)
  |true=>
   replace et:=hl▸et;refine fZ (ih (jS hj) (cX ab) (g.set rfl) (bH _ _ _)) λaa e1 g1 e2=>(g8 aa (λK=>(mZ et (bR (eU (ke gj (jL hj))) eF)).trans (e1 K)) g1 e2)
theorem HF:∀(f:Nat) {j:Nat},j<=sO Ld i f j/\sO Ld i f j<=j+f:=by
 intro f;induction f with
 |zero=>
  intro j;exact⟨aJ _,aJ _⟩
 |succ f aa=>
  intro j;have eu:sO Ld i (f+1) j=if fN (Ld i) (Ld j) then sO Ld i f (j+1) else j:=rfl
  refine eu.symm▸?_;cases fN (Ld i) (Ld j) with
  |false=>exact⟨aJ _,bL _ _⟩
  |true=>
   have:=aa (j:=j+1);refine Eq.symm (if_pos rfl)▸?_;exact⟨bW this.1,aA this.2 (bJ (Nat.add_right_comm j 1 f))⟩
theorem oJ(hi:i < 5):i+1<=hA Ld i/\hA Ld i<=5:=by
 have:=HF (Ld:=Ld) (i:=i) (4 - i) (j:=i+1);unfold hA;exact⟨this.1,aA this.2 (bJ (i4 hi))⟩
theorem oA:∀l∈kz,oh l 0<=4:=by decide+kernel
theorem Dh(ha:a∈kz)(hb:b∈kz):(uM a b).length<=5:=by
 unfold uM;refine aA (gi _ _) ?_
 (rw[aD];refine Eq.symm (aQ)▸?_)
 exact cH (Nat.max_le.mpr ⟨oA a ha,oA b hb⟩)
theorem GF(hs:nw X Ld)(h:WH X Ld W q N)(g:Rd vs q W J i)(af:vs.get 67=U (cT (hA Ld i)))(hi:i < 5):∃B,ev Γ (eG n) 60 (sE (hS dB 2)) vs N=U (.ref B.length,B++ [.list (Fp Ld i)])/\Le N B:=by
 have ab:=oJ (Ld:=Ld) hi;let I:=(List.range' (i+1) (min (hA Ld i+1) 5 - (i+1))).map λk=>V.ref (W+k);have l1:Le N (N++ [O.list I]):= .app _ _;have ag:I.length<=5:=by
  skip
  (rw[aD];refine Eq.symm (List.length_range')▸?_)
  exact aA (Nat.sub_le _ _) (gW _ _)
 have es:ev Γ (eG n) 59 (.slice (.var 66) (U (.bin .add (.var 60) (.lit (.int 1)))) (U (.bin .add (.var 67) (.lit (.int 1)))) .none) vs N=U (.ref N.length,N++ [O.list I]):=by
  refine kn (aV g.w) (ke g.i hi) (?_:_=U (cT (hA Ld i+1),N)) (rfl:_=U (V.none,N)) ?_
  ·exact hI (aV af) cB (by rw[cT,mB,iQ (gF (by exact nL (hA Ld i+1)) (by exact nH (aA (cH ab.2) (by decide))))];rfl)
  ·show(match N[W+5]? with
    |some (.list I)=>iP (js I (U ((i+1:Nat):Int)) (U ((hA Ld i+1:Nat):Int)) .none) N
    |_=>.none)=_
   refine Eq.symm (h.l)▸?_;dsimp only;refine Eq.symm (show js ((List.range 5).map λk=>V.ref (W+k)) (U ((i+1:Nat):Int)) (U ((hA Ld i+1:Nat):Int)) .none=I from td (F5 W) (bN.mpr hi) (bN.mpr (eN ab.2)))▸?_;exact g6 _ (aA (by assumption) (by decide))
 have hj:∀v∈I,∃j,i < j/\j < 5/\v= .ref (W+j):=λv hv=>by
  refine mm hv λj hj e=>(g8 j ?_ ?_ e.symm)
  ·exact(List.mem_range'_1.mp hj).1
  ·have:=(List.mem_range'_1.mp hj).2;exact aT this (aA (bJ (Nat.add_sub_cancel' (Nat.le_min.mpr ⟨dT ab.1,hi⟩))) (gW ..))
 refine cJ (CF (Γ:=Γ) (z:=69) (w:=46) (own:= [46,69]) (hC es (bC _ _)) rfl (aK (by assumption) (by decide)) (fu (bC _ _)) (λvs=>Rd vs q W J i) (λv=>(uM (Ld i) (Ld (rI v - W))).map jz) (λv M P=>P.set rfl) (λv M P=>P.set rfl) ⟨g.q,g.w,g.r,g.i⟩
  (λv hv=>?_) (it2:= .plain (.callM (.sub (.var 66) (.var 60)) 50 [.var 46] [])) (λv hv M ah l P=>?_)) λB e1 l2=>(cU B ?_ (l1.trans l2))
 ·refine fZ (hj v hv) λj h1 h2 e=>?_;clear hv;subst e
  (refine Eq.symm (show rI (V.ref (W+j)) - W=j from cY _ _)▸?_;rw[aD])
  exact aA (Dh (hs.l i hi) (hs.l j h2)) (by decide)
 ·refine fZ (hj v hv) λj h1 h2 e=>?_;clear hv;subst e;refine Eq.symm (show rI (V.ref (W+j)) - W=j from cY _ _)▸?_;have aa:=h.le (l1.trans l);have ae:Rd (M.set 46 (.ref (W+j))) q W J i:=P.set rfl;have e2:=gm (Γ:=Γ) (C:=eG n) (n:=58) (fD (aV ae.w) (aV ae.i) (aa.at hi)) (I1 (z:=50) (aa.w i hi) rfl rfl) (cL (aV (bH _ _ _))) gS (Jt (aN (bT h1)) (aa.w i hi) (aa.w j h2));exact(iS _ _ (hC e2 (bC _ _)) (.app _ _) (bC _ _))
 ·have:I.flatMap (λv=>(uM (Ld i) (Ld (rI v - W))).map jz)=Fp Ld i:=by
   skip;rw[List.flatMap_map];unfold Fp;refine congrArg List.flatten (fF λj ai=>?_);exact Eq.symm (show rI (V.ref (W+j)) - W=j from cY _ _)▸rfl
  refine this▸?_;exact e1
end
def RW(X:Nat->Nat×Nat×Nat)(Ld:Nat->Txt)(B k:Nat)(N:H):Prop:=∃vs,N[B]? =U (.list vs)/\eZ (λi v=>∃r w,v= .tup [.ref r,cT (hA Ld i),.ref w]/\(r≠B/\w≠B)/\N[r]? =U (.list ((r4 (X i)).map .int))/\N[w]? =U (.list (Fp Ld i))) (List.range k) vs
section
variable{X:Nat->Nat×Nat×Nat}{Ld:Nat->Txt}{W q J i j e n m f k:Nat}{N B Y:H}{vs:aW}{l:Txt}{x:Nat×Nat×Nat}
theorem RW.le(h:RW X Ld J k N)(l:Le N B):RW X Ld J k B:=cJ h λvs h1 h2=>⟨vs,l _ _ h1,h2.imp λi v q=>pb q λr w a b c d=>(tY r w a b (l _ _ c) (l _ _ d))⟩
theorem IS(hs:nw X Ld)(h:WH X Ld W q N)(g:Rd vs q W J i)(hi:i < 5):ev Γ (eG n) 58 (.call (.lit (.cst (.ref 286))) [.slice (.sub (.var 64) (.var 60)) (U (.attr (.sub (.var 66) (.var 60)) 33)) (U (.neg (.lit (.int 2)))) .none]) vs N=U (.ref N.length,N++ [.list ((r4 (X i)).map .int)]):=by
 have hw:=h.w i hi;have hx:=hs.x i hi;have e1:ev Γ (eG n) 56 (.sub (.var 64) (.var 60)) vs N=U (.str (mN (Ld i) (X i)),N):=
  fD (aV g.q) (aV g.i) (io h.q (by rw[bD,cM hi];rfl) (by rw[aD,aQ];decide))
 have e2:ev Γ (eG n) 56 (.attr (.sub (.var 66) (.var 60)) 33) vs N=U (.int ((Ld i).length:Int),N):=
  wN (fD (aV g.w) (aV g.i) (h.at hi)) (cJ hw.w λaa e ab=>sL Γ N e rfl rfl rfl)
 have en:ev Γ (eG n) 56 (.neg (.lit (.int 2))) vs N=U (.int (-2),N):=FF cB rfl;have e3:ev Γ (eG n) 57 (.slice (.sub (.var 64) (.var 60)) (U (.attr (.sub (.var 66) (.var 60)) 33)) (U (.neg (.lit (.int 2)))) .none) vs N=U (.str (At (X i)),N):=by
  refine kn e1 e2 en (rfl:_=U (V.none,N)) ?_;show(if Nat.ble (o4 (mN (Ld i) (X i)) (U ((Ld i).length:Int)) (U (-2)) .none).length 1000000 then U (V.str (o4 (mN (Ld i) (X i)) (U ((Ld i).length:Int)) (U (-2)) .none),N) else .none)=_;rw[td G9 (hs.l i hi) hx];have:∀x∈lm,(At x).length<=10:=by decide+kernel
  exact if_pos (dJ (aA (this _ hx) (by decide)))
 exact hR (cL e3) (Jv hx)
theorem HK(hs:nw X Ld)(h:WH X Ld W q N)(g:Rd vs q W J i)(hi:i < 5)(hr:RW X Ld J i N):∃ah B,ic Γ (eG n) 60 (m+6) dB vs N=U (.next,ah,B)/\Rd ah q W J i/\RW X Ld J (i+1) B/\f8 (λao=>ao=J) N B:=by
 have g1:Rd (vs.set 67 (cT (i+1))) q W J i:=g.set rfl;refine fZ (EU (n:=n) (m:=m) h (4 - i) (i4 hi) (bQ i) g1 (bH _ _ _)) λai e2 g2 aj=>?_;have am:ex Γ (eG n) 60 (m+4) (hS dB 1) (vs.set 67 (cT (i+1))) N=U (.next,ai,N):=by
  have:=e2 (1999 - (4 - i));rw[show 1999 - (4 - i)+(4 - i)+1=dW by show _=2000;exact congrArg Nat.succ (Nat.sub_add_cancel (aA (Nat.sub_le 4 i) (by decide)))] at this;exact this
 refine cJ (GF (n:=n) hs h g2 aj hi) λab e3 l3=>?_;let aa:=ab++ [O.list (Fp Ld i)];have l4:Le N aa:=l3.snoc _;have g4:Rd (ai.set 68 (.ref ab.length)) q W J i:=g2.set rfl;have e4:=IS (n:=n) hs (h.le l4) g4 hi;have l5:Le aa (aa++ [O.list ((r4 (X i)).map .int)]):= .app _ _;refine cJ (hr.le (l4.trans l5)) λus eu A=>cJ hr λak af ap=>?_;have al:=aZ af;have ic:ak=us:=congrArg Lh (aC (((l4.trans l5) _ _ af).symm.trans eu));subst ic;have ag:=A.length;rw[aQ] at ag;have e6:=kg (aV g4.r) (l4 _ _ af) (hQ (cQ e4 (cQ (aV (gn rfl aj)) (cL (aV (bH _ _ _))))) (by decide:3<=1000000)) eu (cO (aK (bJ ag) hi) (by decide));refine(tY _ _ (bR (eU (ke g.i hi)) (bR am (bR (eU e3) (bR (gl e6) eF)))) g4 ⟨_,jU eu,?_⟩ ((f8.of (l4.trans l5)).trans (.set _ _ rfl)));have ae:∀ {r o},r≠J->(aa++ [O.list ((r4 (X i)).map .int)])[r]? =U o->((aa++ [O.list ((r4 (X i)).map .int)]).set J (.list (ak++ [.tup [.ref aa.length,cT (hA Ld i),.ref ab.length]])))[r]? =U o:=λh e=>(bU (Ne.symm h)).trans e;rw[List.range_succ];have n3:ab.length≠J:=eB (aT al (Le.len l3));have n4:aa.length≠J:=eB (aT al (Le.len l4));exact(A.imp λi v q=>pb q λr w a b c d=>(tY r w a b (ae b.1 c) (ae b.2 d))).snoc (tY aa.length ab.length rfl ⟨n4,n3⟩ (ae n4 (bC _ _)) (ae n3 (l5 _ _ (bC _ _))))
theorem B2(g:vs.get z=U (.ref q))(hq:N[q]? =U (.list I))(hl:I.length < 1000):gG (ev Γ (eG n) (m+4)) (.plain (.call (.lit (.cst (.type "range"))) [.call (.lit (.cst (.builtin "len"))) [.var z]])) vs N=U (.one (.vs ((dF (List.range I.length)).drop 0)),N):=
 tV (ql (aV g) hq) hl
theorem A8(hs:nw X Ld)(hq:N[q]? =U (.list ((List.range 5).map λk=>V.str (mN (Ld k) (X k))))):∃J B,eG (n+1) 291 [.ref q] [] N=U (.ref J,B)/\Le N B/\RW X Ld J 5 B:=by
 refine fZ (Bj (n:=n) (vs:= [(64,U (.ref q))]) hs rfl hq) λaa e1 l1 h1=>?_;have l2:Le aa (aa++ [O.list []]):= .app _ _;have h2:=h1.le l2;let ae:aW:=([(64,U (.ref q))]:aW);let af:=(ae.set 66 (.ref (N.length+5))).set 65 (.ref aa.length);have x1:ex Γ (eG n) 60 59 (hS kW.body 0) ae N=U (.next,af,aa++ [O.list []]):=
  nI (hQ (cQ e1 (cL (fr iZ (by decide:0<=1000000)))) (by decide:2<=1000000)) rfl
 refine je (hV (Γ:=Γ) (n:=57) (t:= .name 60) (b:=dB) (N:=aa++ [O.list []]) (σb:=aa++ [O.list []]) (itr:=λj=>.one (.vs ((dF (List.range 5)).drop j))) (by
   have:=B2 (n:=n) (m:=56) (vs:=af) (z:=64) rfl h2.q (by rw[aD,aQ];decide);rwa [aD,aQ] at this) rfl (by rw[eR,aQ];decide)
  (zE:=λj vs ab=>(vs.get 64=U (.ref q)/\vs.get 66=U (.ref (N.length+5))/\vs.get 65=U (.ref aa.length))/\RW X Ld aa.length j ab/\f8 (λaj=>aj=aa.length) (aa++ [O.list []]) ab) ⟨⟨rfl,rfl,rfl⟩,⟨[],bC _ _,.nil⟩,.of (.refl _)⟩ (λj v vs ab hv zE=>mf hv) (λvs ab zE=>mh) (λj v vs ab hv zE=>?_)) λag B ef zE=>?_
 ·refine f7 (pL hv) λhi e'=>?_;clear hv;subst e';refine pc zE.1 λg1 g2 g3=>?_;have ah:WH X Ld N.length q ab:=by
   have ai:Le aa ab:=λi o e=>zE.2.2.2 i o (bT (aZ e)) (l2 _ _ e);exact h1.le ai
  exact(cU (vs.set 60 (cT j)) rfl (pb (HK hs ah ⟨gn rfl g1,gn rfl g2,gn rfl g3,bH _ _ _⟩ hi zE.2.1) λag B e2 g' r' l'=>(tY ag B e2 ⟨g'.q,g'.w,g'.r⟩ r' (zE.2.2.trans l'))))
 ·rw[eR,aQ] at zE;exact(iS aa.length B (mQ rfl rfl rfl (bR x1 (bR ef (k3 (lJ (aV zE.1.2.2)))))) (λi o e=>zE.2.2.2 i o (bT (aT (aZ e) (Le.len l1))) (l2 _ _ (l1 _ _ e))) zE.2.1)
end
def oL(l:Txt):List V:=(List.range 5).map λ(k:Nat)=>V.int (mG l ((k:Int)+1) 0)
noncomputable def FM:V->Txt
 |.tup (.str l::_)=>l
 |_=>[]
def Fy(l:Txt):List Txt:=(PySem.Txt.split (gM l) (gM [9])).map rv
def Lf:List Int->Option Int
 |[]=>.none
 |a::r=>U (ot a r)
theorem Go:ig (λl=>Lf ((Fy l).map λt=>(t.length:Int))) kz=kz.map λl=>U (oh l 0:Int):=by kernel_rfl
theorem Gp:∀l∈kz,(Fy l).length<=5/\∀t∈Fy l,t.length<=4:=by
 have h:(kz.all λl=>Nat.ble (Fy l).length 5&&(Fy l).all λt=>Nat.ble t.length 4)=zG:=by kernel_rfl
 intro l B;refine an (aR.mp h l B) λJ Y=>⟨aY J,λt ht=>aY (aR.mp Y t ht)⟩
section
variable{X:Nat->Nat×Nat×Nat}{Ld:Nat->Txt}{W q Y i j n m f k a b:Nat}{N B J:H}{vs:aW}{l:Txt}{x y:E}{C:Cf}
theorem yF(ha:ev Γ C (n+1) x vs N=U (cT a,N))(hb:ev Γ C (n+1) y vs N=U (cT b,N))(h1:a<=1000)(h2:b<=1000):ev Γ C (n+2) (.call (.lit (.cst (.type "range"))) [x,y]) vs N=U (.rng (a:Int) (b:Int),N):=by
 refine hR (cQ ha (cL hb)) ((m9 Γ C N "range" _).trans ?_);show Ds "range" (.int (a:Int)) (.int (b:Int)) N=_;unfold Ds;dsimp only;rw[if_pos rfl,gF (nL a) (nH (aA h1 (by decide))),gF (nL b) (nH (aA h2 (by decide)))];rfl
theorem yx(ha:ev Γ C (n+1) x vs N=U (cT a,N))(hb:ev Γ C (n+1) y vs N=U (cT b,N))(h1:a<=b)(h2:b < 1000):gG (ev Γ C (n+2)) (.plain (.call (.lit (.cst (.type "range"))) [x,y])) vs N=U (.one (.vs ((dF (List.range' a (b - a))).drop 0)),N):=by
 show(match ev Γ C (n+2) (.call (.lit (.cst (.type "range"))) [x,y]) vs N with
   |some (v,B)=>(s7 v B).map λz=>(gx.one z,B)
   |.none=>.none)=_
 rw[yF ha hb (aA (by assumption) (bA (by assumption))) (bA (by assumption))];dsimp only;rw[Aw,if_pos (by rw[gF (nL a) (nH (aA (aA h1 (bA h2)) (by decide))),gF (nL b) (nH (aA (bA h2) (by decide))),decide_eq_true (by exact Int.lt_of_le_of_lt (Int.sub_le_self _ (fM a)) (Int.ofNat_lt.mpr h2))];rfl)];show U (gx.one (.vs (kK (a:Int) ((b:Int) - (a:Int)).toNat)),N)=_;rw[show((b:Int) - (a:Int)).toNat=b - a by exact Int.toNat_sub b a,FC];rfl
noncomputable abbrev cE:E:= .comp (.call (.lit (.cst (.ref 310))) [.sub (.var 70) (.lit (.int 0)),.var 61]) [.mk (.name 61) (.plain (.call (.lit (.cst (.type "range"))) [.lit (.int 1),.lit (.int 6)])) []] [61]
theorem IT(hl:l∈kz)(g:vs.get 70=U (BJ l c)):∃B,ev Γ (eG n) (m+5) cE vs N=U (.ref B.length,B++ [.list (oL l)])/\Le N B:=by
 refine cJ (hB (Γ:=Γ) (C:=eG n) (n:=m+4) (t:= .name 61) (elt:= .call (.lit (.cst (.ref 310))) [.sub (.var 70) (.lit (.int 0)),.var 61]) (ifs:= []) (own:= [61]) (I:=dF (List.range' 1 5)) (yx (b:=6) (N:=N) cB cB (by decide) (by decide)) rfl (by decide:5 < 1999) (jg _) (λvs=>vs.get 70=U (BJ l c)) (λv vs=>vs.set 61 v) (λaa=>zG) (λv=>.int (mG l (g7 v) 0)) (λaa aa aa aa=>rfl) (λv aa vs P=>gn rfl P) g (λv hv vs ab l1 P=>(g8 ab rfl (.refl _) (λaa=>(cU ab ?_ (.refl _)))))) λB e1 l1=>(cU B ?_ l1)
 ·refine mm hv λk hk ek=>?_;clear hv;subst ek;have af:(k:Int)∈T5:=by
   have:∀k∈List.range' 1 5,((k:Nat):Int)∈T5:=by decide
   exact this k hk
  exact hR (cQ (fD (aV (gn rfl P)) cB rfl) (cL (aV (bH _ _ _)))) ((iy rfl (y4 (td E3 hl af) (λae=>rfl) λae=>rfl)))
 ·rw[cS.mpr λaa aa=>rfl] at e1;exact e1
noncomputable abbrev lE:E:= .call (.lit (.cst (.builtin "max"))) [.comp (.call (.lit (.cst (.builtin "len"))) [.var 86]) [.mk (.name 86) (.plain (.callM (.sub (.var 70) (.lit (.int 0))) 89 [.lit (.str [9])] [])) []] [86]]
theorem qG:∀l:List Int,ir (l.map V.int)=U l:=by
 intro l;induction l with
 |nil=>exact rfl
 |cons i l aa=>exact congrArg (Option.map (λab=>i::ab)) (aa)
theorem FG(hx:ev Γ C (n+1) x vs N=U (.ref i,J))(hi:J[i]? =U (.list (is.map V.int)))(hm:Lf is=U v):ev Γ C (n+2) (.call (.lit (.cst (.builtin "max"))) [x]) vs N=U (.int v,J):=by
 refine hR (cL hx) ((fK Γ C J "max" _).trans ?_);show((dX J (.ref i)).bind λI=>HZ I J)=_;rw[dC _ hi,bO];unfold HZ;rw[qG,bO];cases is with
 |nil=>exact ns hm
 |cons a r=>exact congrArg (λz=>U (V.int z,J)) (aC hm)
theorem IQ(hl:l∈kz)(g:vs.get 70=U (BJ l c)):∃B,ev Γ (eG n) (m+6) lE vs N=U (cT (oh l 0),B)/\Le N B:=by
 have ae:=Gp l hl;have es:ev Γ (eG n) (m+4) (.callM (.sub (.var 70) (.lit (.int 0))) 89 [.lit (.str [9])] []) vs N=U (.ref N.length,N++ [.list ((Fy l).map V.str)]):=by
  refine gm (fD (aV g) cB rfl:_=U (V.str l,N)) (rfl:fJ Γ (.str l) 89 N=U (.str l [115,112,108,105,116])) (cL cB) gS ?_;show(if iM l.length then iP ((PySem.Txt.split (gM l) (gM [9])).map λx=>.str (rv x)) N else .none)=_;rw[if_pos (gT (aA ((by decide+kernel:∀l∈kz,l.length<=4) l hl) (by decide)))];rw[show((PySem.Txt.split (gM l) (gM [9])).map λx=>V.str (rv x))=(Fy l).map V.str from(eC ..).symm];exact g6 _ (by rw[aD];exact aA ae.1 (by decide))
 refine cJ (hB (Γ:=Γ) (t:= .name 86) (elt:= .call (.lit (.cst (.builtin "len"))) [.var 86]) (ifs:= []) (own:= [86]) (hC es (bC _ _)) rfl (by rw[aD];exact aK ae.1 (by decide)) (fu (bC _ _)) (λaa=>True) (λv vs=>vs.set 86 v) (λaa=>zG) (λv=>.int ((ry v).length:Int)) (λaa aa aa aa=>rfl) (λv aa vs P=>trivial) trivial (λv hv vs ab l1 P=>(g8 ab rfl (.refl _) (λaa=>(cU ab ?_ (.refl _)))))) λB e1 l1=>?_
 ·refine mm hv λt ht et=>?_;clear hv;subst et;exact hR (cL (aV (bH _ _ _))) ((fK Γ (eG n) ab "len" _).trans ((Ai ab t).trans (if_pos (gT (aA (ae.2 t ht) (by decide))))))
 ·rw[cS.mpr λaa aa=>rfl,eC] at e1;have e2:=bC B (O.list (List.map ((λv=>V.int ((ry v).length:Int))∘V.str) (Fy l)));exact(cU _ (FG e1 (by rw[eC];exact e2) (hN Go l hl)) (((Le.app _ _).trans l1).snoc _))
end
def HH(a b:Txt):List Int:=(List.range 5).map λ(k:Nat)=>mG a ((k:Int)+1) 0 - mG b ((k:Int)+1) 0
theorem sS:∀a∈kz,∀t∈T5,(decide (0<=mG a t 0)&&decide (mG a t 0<=100))=zG:=by
 have e:kz.all (λa=>T5.all λt=>decide (0<=mG a t 0)&&decide (mG a t 0<=100))=zG:=by kernel_rfl
 exact λa B t J=>aR.mp (aR.mp e a B) t J
theorem G2:∀(l:List Int) (m:Int),0<=ot m l↔0<=m\/∃x∈l,0<=x:=by
 intro l;induction l with
 |nil=>exact λm=>⟨.inl,λh=>h.elim id λh=>cJ h λx Y aa=>absurd Y gX⟩
 |cons x l J=>
  intro m;have e:ot m (x::l)=ot (if decide (m < x) then x else m) l:=rfl;rw[e,J];by_cases hq:m < x
  ·refine Eq.symm (if_pos (decide_eq_true hq))▸?_;constructor
   ·rintro (h| ⟨y,B,h⟩)
    ·exact .inr (cU x (.head _) h)
    ·exact .inr (cU y (.tail _ B) h)
   ·rintro (h| ⟨y,B,h⟩)
    ·exact .inl (Int.le_trans h (Int.le_of_lt hq))
    ·rcases aX.mp B with rfl| B
     ·exact .inl h
     ·exact .inr (cU y B h)
  ·refine Eq.symm (decide_eq_false hq)▸?_;constructor
   ·rintro (h| ⟨y,B,h⟩)
    ·exact .inl h
    ·exact .inr (cU y (.tail _ B) h)
   ·rintro (h| ⟨y,B,h⟩)
    ·exact .inl h
    ·rcases aX.mp B with rfl| B
     ·exact .inl (show 0<=m by exact Int.le_trans h (jc.mp hq))
     ·exact .inr (cU y B h)
theorem HG(a b:Txt):∃d l,HH a b=d::l/\decide (0<=ot d l)= !fN a b:=by
 refine⟨_,_,rfl,?_⟩;rw[eI,decide_eq_true_iff,G2];have e:∀P:Int->Prop,(P (mG a ((0:Nat)+1) 0 - mG b ((0:Nat)+1) 0)\/∃x∈(List.range 5).tail.map λ(k:Nat)=>mG a ((k:Int)+1) 0 - mG b ((k:Int)+1) 0,P x)↔ ∃x∈HH a b,P x:=λP=>
  ⟨λh=>h.elim (λh=>⟨_,.head _,h⟩) λ⟨x,B,h⟩=>⟨x,.tail _ B,h⟩,λ⟨x,B,h⟩=>by
   rcases aX.mp B with rfl| B
   ·exact .inl h
   ·exact .inr (cU x B h)⟩
 refine(e λx=>0<=x).trans ?_;unfold fN;constructor
 ·intro Y;refine cJ Y λx B h=>?_;clear Y;refine mm B λk J e=>?_;cases hq:(List.range 5).all λ(k:Nat)=>decide (mG a ((k:Int)+1) 0 < mG b ((k:Int)+1) 0) with
  |false=>rfl
  |true=>
   have:=of_decide_eq_true (aR.mp hq k J);exact absurd (Int.sub_nonneg.mp (e.symm▸h)) (Int.not_le.mpr this)
 ·intro h;have hq:((List.range 5).all λ(k:Nat)=>decide (mG a ((k:Int)+1) 0 < mG b ((k:Int)+1) 0))=zH:=by
   cases hq:(List.range 5).all λ(k:Nat)=>decide (mG a ((k:Int)+1) 0 < mG b ((k:Int)+1) 0) with
   |false=>rfl
   |true=>replace h:=hq▸h;exact ft h
  rw[List.all_eq_false] at hq;refine cJ hq λk J h=>(cU _ (cC.mpr (cU k J rfl)) ?_);have: ¬(mG a ((k:Int)+1) 0 < mG b ((k:Int)+1) 0):=λh'=>h (decide_eq_true h');exact Int.sub_nonneg.mpr (jc.mp this)
theorem By:∀ {l:List Int} {a:Int},(∀x∈l,a<=x)->pA a l=a:=by
 intro l;induction l with
 |nil=>
  intro a h;exact rfl
 |cons x l B=>
  intro a h;have e:pA a (x::l)=pA (if decide (x < a) then x else a) l:=rfl;rw[e,decide_eq_false (by have:=h x (.head _);exact jc.mpr this)];exact B λy J=>h y (.tail _ J)
theorem Hj(Y:ev Γ C n a M N=U (.ref i,N))(hb:ev Γ C n b M N=U (.ref j,N))(hi:N[i]? =U (.list I))(hj:N[j]? =U (.list ys)):gG (ev Γ C n) (.zip a b) M N=U (.zip i j 0,N):=by
 show(match ev Γ C n a M N with
  |some (v,J)=>match ev Γ C n b M J with
   |some (w,B)=>xT v w B
   |.none=>.none
  |.none=>.none)=_
 refine Y.symm▸?_;dsimp only;refine hb.symm▸?_;show((dX N (.ref i)).bind λaa=>(dX N (.ref j)).map λaa=>(gx.zip i j 0,N))=_
 (refine Eq.symm (dC _ hi)▸?_;refine Eq.symm (dC _ hj)▸?_);rfl
noncomputable def kG:V->List V
 |.tup l=>l
 |_=>[]
theorem eZ.ofMap{R:J->Y->Prop}{f:aa->J}:∀ {l:List aa} {m:List Y},eZ R (l.map f) m->eZ (λa c=>R (f a) c) l m:=by
 intro l;induction l with
 |nil=>
  intro _ h;generalize e:List.map f []=k at h;cases h with
  |nil=>exact .nil
  |cons _ _=>exact nomatch e
 |cons a l B=>
  intro _ h;generalize e:List.map f (a::l)=k at h;cases h with
  |nil=>exact nomatch e
  |cons q h=>
   have e1:=(List.cons.inj e).1;have e2:=(List.cons.inj e).2;clear e;subst e1 e2;exact .cons q (B h)
def CL(Ld:Nat->Txt)(zD:Nat)(N:H):Prop:=∃vs,N[zD]? =U (.list vs)/\eZ (λk w=>∃r,w= .ref r/\N[r]? =U (.list (oL (Ld k)))) (List.range 5) vs
def uA(X:Nat->Nat×Nat×Nat)(Ld:Nat->Txt):List V:=(List.range 5).map λk=>BJ (Ld k) (X k)
def Ic(Ld:Nat->Txt):List V:=(List.range 5).map λk=>cT (oh (Ld k) 0)
theorem ER:∀(f:Nat) {j:Nat},j+f=5->∃r,((List.range' j f).filter λj=>!fN (Ld i) (Ld j))++ [5]=sO Ld i f j::r/\∀x∈r,sO Ld i f j<=x:=by
 intro f;induction f with
 |zero=>
  intro j h;exact(cU [] (by refine Eq.symm (show j=5 from h)▸?_;rfl) (λx B=>nomatch B))
 |succ f Y=>
  intro j h;have eu:sO Ld i (f+1) j=if fN (Ld i) (Ld j) then sO Ld i f (j+1) else j:=rfl
  have er:List.range' j (f+1)=j::List.range' (j+1) f:=rfl
  (refine eu.symm▸?_;refine er.symm▸?_)
  cases J:fN (Ld i) (Ld j) with
  |true=>
   rw[fB (by rw[J];exact aU),if_pos rfl];exact Y (jS h)
  |false=>
   rw[dK (by rw[J];rfl),if_neg aU];refine(cU _ rfl (λx B=>(aO.mp B).elim (λB=>?_) λB=>?_))
   ·have:=(List.mem_range'_1.mp (dO.mp B).1).1;exact bA (by assumption)
   ·refine Eq.symm (aH.mp B)▸?_;exact Nat.le.intro h
section
variable{X:Nat->Nat×Nat×Nat}{Ld:Nat->Txt}{q zD i j n m:Nat}{N B J:H}{vs:aW}{x y:E}{C:Cf}
theorem CL.le(h:CL Ld zD N)(l:Le N B):CL Ld zD B:=cJ h λvs Y h2=>⟨vs,l _ _ Y,h2.imp λk w q=>cJ q λr a b=>(cU r a (l _ _ b))⟩
theorem CL.at(h:CL Ld zD N)(hi:i < 5):∃r,g9 Γ (.ref zD) (cT i) N=U (.ref r)/\N[r]? =U (.list (oL (Ld i))):=
 cJ h λvs h1 h2=>by
  have Y:=h2.length;rw[aQ] at Y;refine cJ (h2.get (cM hi)) λw e1 e2=>cJ e2 λr a b=>(cU r ?_ b);clear e2;subst a;exact io h1 e1 (aA (bJ Y) (by decide))
theorem GO(hs:nw X Ld)(g:vs.get 53=U (.ref q))(hq:N[q]? =U (.list (uA X Ld))):∃zD B,ev Γ (eG n) 60 (sE (hS hZ.body 0)) vs N=U (.ref zD,B)/\Le N B/\CL Ld zD B:=by
 refine ga (mz (Γ:=Γ) (C:=eG n) (n:=59) (elt:=cE) (t:= .name 70) (ifs:= []) (own:= [70]) (I:=uA X Ld) (hC (aV g) hq) rfl (by decide:5 < 1999) (fu hq) (λY=>True) (λv vs=>vs.set 70 v) (λY=>zG)
  (λv w N=>∃r,w= .ref r/\N[r]? =U (.list (oL (FM v)))) (λY Y Y Y=>rfl) (λY Y Y Y=>trivial) trivial (λv hv vs aa l Y=>(g8 aa rfl (.refl _) (λY=>?_))) λv w N B l h=>cJ h λr e1 e2=>(cU r e1 (l _ _ e2))) λws B e1 l1 A=>?_
 ·refine mm hv λk hk ek=>?_;clear hv;subst ek;exact cJ (IT (hs.l k (bN.mp hk)) (bH _ _ _)) λB e2 l2=>⟨_,_,e2,l2.snoc _,_,rfl,bC _ _⟩
 ·replace A:=(cS.mpr λY Y=>rfl)▸A;have l2:Le B (B++ [O.list ws]):= .app _ _;exact⟨_,_,e1,l1.trans l2,ws,bC _ _,(eZ.ofMap A).imp λk w h=>cJ h λr a b=>(cU r a (l2 _ _ b))⟩
theorem GK(hs:nw X Ld)(g:vs.get 53=U (.ref q))(hq:N[q]? =U (.list (uA X Ld))):∃B,ev Γ (eG n) 60 (sE (hS hZ.body 1)) vs N=U (.ref B.length,B++ [.list (Ic Ld)])/\Le N B:=by
 refine cJ (hB (Γ:=Γ) (C:=eG n) (n:=59) (elt:=lE) (t:= .name 70) (ifs:= []) (own:= [70]) (I:=uA X Ld) (hC (aV g) hq) rfl (by decide:5 < 1999) (fu hq) (λY=>True) (λv vs=>vs.set 70 v) (λY=>zG)
  (λv=>cT (oh (FM v) 0)) (λY Y Y Y=>rfl) (λY Y Y Y=>trivial) trivial (λv hv vs aa l Y=>(g8 aa rfl (.refl _) (λY=>?_)))) λB e1 l1=>?_
 ·refine mm hv λk hk ek=>?_;clear hv;subst ek;exact cJ (IQ (hs.l k (bN.mp hk)) (bH _ _ _)) λB e2 l2=>(cU _ e2 l2)
 ·replace e1:=(cS.mpr λY Y=>rfl)▸e1;exact(cU _ e1 l1)
end
noncomputable abbrev bB:List Lake.S:=sA (hS hZ.body 3)
noncomputable abbrev Ik:E:= .comp (.bin .sub (.var 49) (.var 32)) [.mk (.tup [.name 49,.name 32]) (.zip (.sub (.var 83) (.var 44)) (.sub (.var 83) (.var 87))) []] [49,32]
noncomputable abbrev Jo:E:= .cmp .ge (.call (.lit (.cst (.builtin "max"))) [Ik]) (.lit (.int 0))
def LL:List Int->Option Int
 |[]=>.none
 |a::r=>U (pA a r)
section
variable{X:Nat->Nat×Nat×Nat}{Ld:Nat->Txt}{q zD i j n m:Nat}{N J B:H}{vs:aW}{x y:E}{C:Cf}
theorem IP(hx:ev Γ C (n+1) x vs N=U (.ref i,B))(hi:B[i]? =U (.list (is.map V.int)))(Y:LL is=U v):ev Γ C (n+2) (.call (.lit (.cst (.builtin "min"))) [x]) vs N=U (.int v,B):=by
 refine hR (cL hx) ((fK Γ C B "min" _).trans ?_);show((dX B (.ref i)).bind λI=>HY I B)=_;rw[dC _ hi,bO];unfold HY;rw[qG,bO];cases is with
 |nil=>exact ns Y
 |cons a r=>exact congrArg (λz=>U (V.int z,B)) (aC Y)
theorem pM(h:CL Ld zD N)(hi:i < 5){z y:Nat}(Y:vs.get z=U (.ref zD))(gy:vs.get y=U (cT i)):∃r,ev Γ C (n+2) (.sub (.var z) (.var y)) vs N=U (.ref r,N)/\N[r]? =U (.list (oL (Ld i))):=
 cJ (h.at hi) λr a b=>(cU r (fD (aV Y) (aV gy) a) b)
theorem IM(hs:nw X Ld)(h:CL Ld zD N)(hi:i < 5)(hj:j < 5)(af:vs.get 83=U (.ref zD))(ai:vs.get 44=U (cT i))(aj:vs.get 87=U (cT j)):∃J,ev Γ C (n+4) Ik vs N=U (.ref J.length,J++ [O.list ((HH (Ld i) (Ld j)).map V.int)])/\Le N J:=by
 have aa:(oL (Ld i)).length=(oL (Ld j)).length:=rfl;refine cJ (pM (C:=C) (n:=n+1) h hi af ai) λr a1 b1=>cJ (pM (C:=C) (n:=n+1) h hj af aj) λr' a2 b2=>?_;refine cJ (hB (Γ:=Γ) (t:= .tup [.name 49,.name 32]) (elt:= .bin .sub (.var 49) (.var 32)) (ifs:= []) (own:= [49,32]) (N:=N) (σb:=N) (Hj a1 a2 b1 b2) rfl (by rw[o3 aa];exact(by decide:5 < 1999)) (xc b1 b2 aa)
  (λvs=>True) (λv vs=>(vs.set 49 ((kG v).getD 0 .none)).set 32 ((kG v).getD 1 .none)) (λab=>zG) (λv=>.int (g7 ((kG v).getD 0 .none) - g7 ((kG v).getD 1 .none))) (λv hv N vs=>?_) (λv ab vs h=>trivial) trivial λv hv vs ah l P=>(g8 ah rfl (.refl _) (λab=>(cU ah ?_ (.refl _))))) λB e1 l1=>?_
 ·refine dS (hM.mp hv) λq Y=>ga (pR aa Y) λx y hx hy e=>?_;clear hv Y;subst e;rfl
 ·refine dS (hM.mp hv) λq Y=>ga (pR aa Y) λx y hx hy e=>?_;subst e;have ag:((List.range 5)[q]?).map (λ(k:Nat)=>V.int (mG (Ld i) ((k:Int)+1) 0))=U x:=(bD ..).symm.trans hx;have ae:((List.range 5)[q]?).map (λ(k:Nat)=>V.int (mG (Ld j) ((k:Int)+1) 0))=U y:=(bD ..).symm.trans hy;refine mi ag λk hk ex=>?_;rw[hk] at ae;have ey:=aC ae;clear hx ag;subst ex;clear hy ae hv Y;subst ey;have ht:((k:Int)+1)∈T5:=(by decide:∀k∈List.range 5,((k:Int)+1)∈T5) k (bF hk);have s1:=gL.mp (sS (Ld i) (hs.l i hi) _ ht);have s2:=gL.mp (sS (Ld j) (hs.l j hj) _ ht);have q1:=of_decide_eq_true s1.1;have q2:=of_decide_eq_true s1.2;have q3:=of_decide_eq_true s2.1;have q4:=of_decide_eq_true s2.2;refine hI (aV (gn rfl (bH _ _ _))) (aV (bH _ _ _)) ((E7 ..).trans ?_);rw[iQ (gF (Int.lt_of_lt_of_le (by decide:(-4611686018427387904:Int) < 0 - 100) (Int.sub_le_sub (of_decide_eq_true s1.1) (of_decide_eq_true s2.2))) (Int.lt_of_le_of_lt (Int.sub_le_sub (of_decide_eq_true s1.2) (of_decide_eq_true s2.1)) (by decide:(100 - 0:Int) < 4611686018427387904)))];rfl
 ·rw[cS.mpr λab ab=>rfl] at e1;exact(cU B e1 l1)
theorem tH(g:vs.get 53=U (.ref q))(hq:N[q]? =U (.list (uA X Ld))):ev Γ C (n+2) (.call (.lit (.cst (.builtin "len"))) [.var 53]) vs N=U (cT 5,N):=ql (aV g) hq
theorem IR(hs:nw X Ld)(hq:N[q]? =U (.list (uA X Ld)))(h:CL Ld zD N)(hi:i < 5)(aa:vs.get 53=U (.ref q))(ag:vs.get 83=U (.ref zD))(ab:vs.get 44=U (cT i)):∃J,ev Γ C 60 (sE (hS bB 0)) vs N=U (cT (hA Ld i),J)/\Le N J:=by
 refine cJ (hB (Γ:=Γ) (C:=C) (n:=57) (t:= .name 87) (elt:= .var 87) (ifs:= [Jo]) (own:= [87]) (N:=N) (σb:=N) (yx (ke ab hi) (tH aa hq) hi (by decide)) rfl (by rw[eR,List.length_range'];exact aK (Nat.sub_le ..) (by decide)) (jg _)
  (λvs=>vs.get 83=U (.ref zD)/\vs.get 44=U (cT i)) (λv vs=>vs.set 87 v) (λv=>!fN (Ld i) (Ld (g7 v).toNat)) id (λv af N vs=>rfl) (λv af vs h=>⟨gn rfl h.1,gn rfl h.2⟩) ⟨ag,ab⟩ λv hv vs aj l P=>?_) λB Y l1=>?_
 ·refine mm hv λj hj e=>?_;clear hv;subst e;have ah:j < 5:=by have:=(List.mem_range'_1.mp hj).2;exact Nat.lt_of_lt_of_eq this (Nat.add_sub_cancel' hi)
  refine cJ (IM (C:=C) (n:=51) hs (h.le l) hi ah (gn rfl P.1) (gn rfl P.2) (bH _ _ _)) λB Y l1=>je (HG (Ld i) (Ld j)) λd dl h1 h2=>?_;have e2:=FG Y (bC _ _) (by rw[h1];rfl);exact(g8 _ (kN (fm (fE e2 cB ((CH ..).trans (congrArg U h2))))) (l1.snoc _) (λaf=>(cU _ (aV (bH _ _ _)) (.refl _))))
 ·have ai:ev Γ C 58 (.comp (.var 87) [.mk (.name 87) (.plain (.call (.lit (.cst (.type "range"))) [.bin .add (.var 44) (.lit (.int 1)),.call (.lit (.cst (.builtin "len"))) [.var 53]])) [Jo]] [87]) vs N=U (.ref B.length,B++ [O.list (dF ((List.range' (i+1) (5 - (i+1))).filter λj=>!fN (Ld i) (Ld j)))]):=by
   rw[nB] at Y;unfold dF at Y;rw[ly] at Y;exact Y
  have ae:=gi (λj=>!fN (Ld i) (Ld j)) (List.range' (i+1) (5 - (i+1)));rw[List.length_range'] at ae;have l2:Le N (B++ [O.list (dF ((List.range' (i+1) (5 - (i+1))).filter λj=>!fN (Ld i) (Ld j)))]):=l1.snoc _;have e2:=tI ai (fr (cL (tH aa (l2 _ _ hq))) (by decide:1<=1000000)) (fC _ _ (bC _ _)) (bC _ _) (by
   rw[aF,eR];exact aA (cH (aA ae (Nat.sub_le ..))) (by decide))
  refine cJ (ER (Ld:=Ld) (i:=i) (5 - (i+1)) (Nat.add_sub_of_le (by assumption))) λr h1 h2=>?_;have h3:dF ((List.range' (i+1) (5 - (i+1))).filter λj=>!fN (Ld i) (Ld j))++ [cT 5]=(((hA Ld i:Nat):Int)::r.map λ(x:Nat)=>(x:Int)).map V.int:=by
   rw[show([cT 5]:List V)=dF [5] from rfl,<-ki,h1,su];rw[show sO Ld i (5 - (i+1)) (i+1)=hA Ld i by unfold hA;rw[show 5 - (i+1)=4 - i by exact Nat.succ_sub_succ 4 i]];rfl
  rw[h3] at e2;have e3:=IP e2 (bC _ _) (congrArg U (By λx hx=>mm hx λy hy e=>by
   rw[<-e];have:=h2 y hy;rw[show sO Ld i (5 - (i+1)) (i+1)=hA Ld i by unfold hA;rw[show 5 - (i+1)=4 - i by exact Nat.succ_sub_succ 4 i]] at this;exact Int.ofNat_le.mpr (by assumption)))
  exact(cU _ e3 ((l2.snoc _).snoc _))
end
def H8(a b:Txt):Nat:=Nat.max (oh a 0) (oh b 0)+1
def C2(Ld:Nat->Txt)(i:Nat):List V:=if hA Ld i < 5 then pS 1 (H8 (Ld i) (Ld (hA Ld i))) (oL (Ld i)) (oL (Ld (hA Ld i))) else []
def Ls(v:V):Bool:=decide (g7 ((kG v).getD 2 .none)<=g7 ((kG v).getD 1 .none))
def C3(Ld:Nat->Txt)(i:Nat):List V:=if hA Ld i < 5 then (uM (Ld i) (Ld (hA Ld i))).map jz else []
theorem pH(h:n<=5):pS 1 n (oL a) (oL b)=((List.range n).map λ(k:Nat)=>((k:Int)+1,mG a ((k:Int)+1) 0,mG b ((k:Int)+1) 0)).map jz:=
 j0 (P:=λn=>pS 1 n (oL a) (oL b)=((List.range n).map λ(k:Nat)=>((k:Int)+1,mG a ((k:Int)+1) 0,mG b ((k:Int)+1) 0)).map jz) (j0 (j0 (j0 (j0 (j0 Ec rfl) rfl) rfl) rfl) rfl) rfl n (eN h)
theorem pQ(B:a∈kz)(J:b∈kz):H8 a b<=5:=cH (Nat.max_le.mpr ⟨oA a B,oA b J⟩)
def BW(Ld:Nat->Txt)(B k:Nat)(N:H):Prop:=∃vs,N[B]? =U (.list vs)/\eZ (λi v=>∃w,v= .tup [cT (hA Ld i),.ref w]/\w≠B/\N[w]? =U (.list (C3 Ld i))) (List.range k) vs
structure Rb(vs:aW)(q zD L B i:Nat):Prop where
 q:vs.get 53=U (.ref q)
 c:vs.get 83=U (.ref zD)
 l:vs.get 84=U (.ref L)
 b:vs.get 85=U (.ref B)
 i:vs.get 44=U (cT i)
theorem GJ(Y:dY (ev Γ C n) es vs N=U ([.rng a b,.ref i,.ref j],B))(hi:B[i]? =U (.list I))(hj:B[j]? =U (.list ys))(hm:(b - a).toNat=m)(J:b - a < 1000/\a < b/\jh a=zG/\jh b=zG)(h2:m<=I.length)(h3:m<=ys.length)(hl:(pS a m I ys).length<=1000000):
  ev Γ C (n+1) (.listZip es) vs N=U (.ref B.length,B++ [.list (pS a m I ys)]):=by
 subst hm;exact Gb Y (bd (dC _ hi) (bd (dC _ hj) ((if_pos (by rw[decide_eq_true J.1,decide_eq_true J.2.1,J.2.2.1,J.2.2.2,dJ h2,dJ h3];rfl)).trans (g6 _ hl))))
section
variable{X:Nat->Nat×Nat×Nat}{Ld:Nat->Txt}{q zD L J i j n m k:Nat}{N Y B:H}{vs:aW}{x y:E}{C:Cf}
theorem Rb.set(g:Rb vs q zD L J i)(hz: [53,83,84,85,44].all (λy=>!(z==y))=zG):Rb (vs.set z v) q zD L J i:=by
 have aa:∀y∈ [53,83,84,85,44],(z==y)=zH:=λy hy=>fW (aR.mp hz y hy);exact⟨gn (aa _ (by decide)) g.q,gn (aa _ (by decide)) g.c,gn (aa _ (by decide)) g.l,gn (aa _ (by decide)) g.b,gn (aa _ (by decide)) g.i⟩
theorem FK(aa:N[L]? =U (.list (Ic Ld)))(hi:i < 5):g9 Γ (.ref L) (cT i) N=U (cT (oh (Ld i) 0)):=
 io aa (by unfold Ic;rw[bD,cM hi];rfl) (by decide:5<=1000000)
theorem DQ(hs:nw X Ld)(hq:N[q]? =U (.list (uA X Ld)))(h:CL Ld zD N)(af:N[L]? =U (.list (Ic Ld)))(hi:i < 5)(g:Rb vs q zD L J i)(ab:vs.get 67=U (cT (hA Ld i))):ev Γ C 60 (sE (hS bB 1)) vs N=U (.ref N.length,N++ [.list (C2 Ld i)]):=by
 have et:hJ (ev Γ C 59) (.cmp .lt (.var 67) (.call (.lit (.cst (.builtin "len"))) [.var 53])) vs N=U (Nat.blt (hA Ld i) 5,N):=
  fm (fE (aV ab) (tH g.q hq) (congrArg U (mA _ 5)))
 unfold C2;by_cases aa:hA Ld i < 5
 ·rw[show Nat.blt (hA Ld i) 5=zG from Nat.blt_eq.mpr aa] at et;rw[if_pos aa];have h1:=oA _ (hs.l i hi);have h2:=oA _ (hs.l _ aa);have em:ev Γ C 56 (.call (.lit (.cst (.builtin "max"))) [.sub (.var 84) (.var 44),.sub (.var 84) (.var 67)]) vs N=U (cT (Nat.max (oh (Ld i) 0) (oh (Ld (hA Ld i)) 0)),N):=by
   refine hR (cQ (fD (aV g.l) (aV g.i) (FK af hi)) (cL (fD (aV g.l) (aV ab) (FK af aa)))) ((fK Γ C N "max" _).trans ?_);show U (V.int (if decide (((oh (Ld i) 0:Nat):Int) < ((oh (Ld (hA Ld i)) 0:Nat):Int)) then ((oh (Ld (hA Ld i)) 0:Nat):Int) else ((oh (Ld i) 0:Nat):Int)),N)=_;rw[mA];cases hb:Nat.blt (oh (Ld i) 0) (oh (Ld (hA Ld i)) 0) with
   |true=>rw[if_pos rfl];unfold cT;rw[show Nat.max (oh (Ld i) 0) (oh (Ld (hA Ld i)) 0)=oh (Ld (hA Ld i)) 0 from Nat.max_eq_right (bA (Nat.blt_eq▸hb))]
   |false=>
    have: ¬(oh (Ld i) 0 < oh (Ld (hA Ld i)) 0):=λq=>by rw[Nat.blt_eq.mpr q] at hb;exact nomatch hb
    rw[if_neg aU];unfold cT;rw[show Nat.max (oh (Ld i) 0) (oh (Ld (hA Ld i)) 0)=oh (Ld i) 0 from Nat.max_eq_left (bK this)]
  have hz:=pQ (hs.l i hi) (hs.l _ aa);have er:ev Γ C 58 (.call (.lit (.cst (.type "range"))) [.lit (.int 1),.bin .add (.call (.lit (.cst (.builtin "max"))) [.sub (.var 84) (.var 44),.sub (.var 84) (.var 67)]) (.lit (.int 2))]) vs N=U (.rng ((1:Nat):Int) ((H8 (Ld i) (Ld (hA Ld i))+1:Nat):Int),N):=
   yF cB (hI em cB (by rw[cT,mB,iQ (gF (Int.lt_of_lt_of_le (by decide) (Int.add_nonneg (fM _) (by decide))) (Int.lt_of_le_of_lt (Int.add_le_add_right (Int.ofNat_le.mpr (bW hz)) 2) (by decide)))];rfl)) (by decide) (aK (by assumption) (by decide))
  refine cJ (pM (C:=C) (n:=56) h hi g.c g.i) λr a1 b1=>cJ (pM (C:=C) (n:=56) h aa g.c ab) λr' a2 b2=>lO et ?_;have e3:=cQ er (cQ a1 (cL a2));have ae:=congrArg List.length (pH (a:=Ld i) (b:=Ld (hA Ld i)) hz);rw[aD,aD,aQ] at ae;exact GJ e3 b1 b2 (congrArg Int.toNat (Int.add_sub_cancel (H8 (Ld i) (Ld (hA Ld i)):Int) 1)) ⟨Int.lt_of_le_of_lt (Int.le_of_eq (Int.add_sub_cancel (H8 (Ld i) (Ld (hA Ld i)):Int) 1)) (Int.ofNat_lt.mpr (aK hz (by decide))),Int.ofNat_lt.mpr (Nat.succ_lt_succ (by unfold H8;exact jD _)),gF (by decide) (by decide),gF (nL _) (nH (aA (cH hz) (by decide)))⟩ hz hz (by show(pS 1 _ _ _).length<=_;rw[ae];exact aA (by assumption) (by decide))
 ·rw[show Nat.blt (hA Ld i) 5=zH from gK.mpr λq=>aa (Nat.blt_eq▸q)] at et;rw[if_neg aa];exact mX et (fr iZ (by decide:0<=1000000))
end
section
variable{X:Nat->Nat×Nat×Nat}{Ld:Nat->Txt}{q zD L Y i j n m k z:Nat}{N B J:H}{vs:aW}{x y:E}{C:Cf}
theorem Dc(hs:nw X Ld)(hi:i < 5):∀v∈C2 Ld i,∃p,v=jz p:=λv hv=>by
 unfold C2 at hv;by_cases h:hA Ld i < 5
 ·rw[if_pos h,pH (pQ (hs.l i hi) (hs.l _ h))] at hv;exact mm hv λp aa e=>⟨p,e.symm⟩
 ·rw[if_neg h] at hv;exact nomatch hv
theorem Dd(hs:nw X Ld)(hi:i < 5):(C2 Ld i).length<=5:=by
 unfold C2;by_cases h:hA Ld i < 5
 ·have hz:=pQ (hs.l i hi) (hs.l _ h);rw[if_pos h,pH hz,aD,aD,aQ];exact hz
 ·rw[if_neg h];exact cK _
theorem GL(hs:nw X Ld)(hi:i < 5)(g:vs.get 72=U (.ref z))(hz:N[z]? =U (.list (C2 Ld i))):∃B,ev Γ C 58 (.comp (.var 88) [.mk (.name 88) (.plain (.var 72)) [.cmp .ge (.sub (.var 88) (.lit (.int 1))) (.sub (.var 88) (.lit (.int 2)))]] [88]) vs N=U (.ref B.length,B++ [.list (C3 Ld i)])/\Le N B:=by
 refine cJ (hB (Γ:=Γ) (C:=C) (n:=57) (t:= .name 88) (elt:= .var 88) (ifs:= [.cmp .ge (.sub (.var 88) (.lit (.int 1))) (.sub (.var 88) (.lit (.int 2)))]) (own:= [88]) (hC (aV g) hz) rfl (by have:=Dd hs hi;exact aK this (by decide)) (fu hz)
  (λaa=>True) (λv vs=>vs.set 88 v) Ls id (λv aa N vs=>rfl) (λv aa vs h=>trivial) trivial λv hv vs ab l P=>?_) λJ e1 l1=>(cU J ?_ l1)
 ·refine dS (Dc hs hi v hv) λp e=>?_;clear hv;subst e;exact(g8 ab (kN (fm (fE (fD (aV (bH _ _ _)) cB rfl) (fD (aV (bH _ _ _)) cB rfl) (CH ..)))) (.refl _) (λaa=>(cU ab (aV (bH _ _ _)) (.refl _))))
 ·rw[nB,(by
   unfold C2 C3;by_cases h:hA Ld i < 5
   ·rw[if_pos h,if_pos h,pH (pQ (hs.l i hi) (hs.l _ h)),ly];rfl
   ·rw[if_neg h,if_neg h];rfl:(C2 _ _).filter Ls=C3 _ _)] at e1
  exact e1
theorem HX(hs:nw X Ld)(hq:N[q]? =U (.list (uA X Ld)))(h:CL Ld zD N)(ag:N[L]? =U (.list (Ic Ld)))(hi:i < 5)(g:Rb vs q zD L Y i)(hb:BW Ld Y i N):∃af B,ic Γ C 60 (m+4) bB vs N=U (.next,af,B)/\Rb af q zD L Y i/\BW Ld Y (i+1) B/\f8 (λah=>ah=Y) N B:=by
 refine cJ (IR (C:=C) hs hq h hi g.q g.c g.i) λaa e1 l1=>?_;have g1:Rb (vs.set 67 (cT (hA Ld i))) q zD L Y i:=g.set rfl;have e2:=DQ (C:=C) hs (l1 _ _ hq) (h.le l1) (l1 _ _ ag) hi g1 (bH _ _ _);have l2:Le aa (aa++ [O.list (C2 Ld i)]):= .app _ _;have g2:Rb ((vs.set 67 (cT (hA Ld i))).set 72 (.ref aa.length)) q zD L Y i:=g1.set rfl;refine cJ (GL (C:=C) hs hi (bH _ _ _:aW.get 72 ((vs.set 67 (cT (hA Ld i))).set 72 (.ref aa.length))=_) (bC aa _)) λab e3 l3=>?_;have l4:Le N (ab++ [O.list (C3 Ld i)]):=((l1.trans l2).trans l3).snoc _;refine cJ hb λus eu A=>?_;have ae:=A.length;rw[aQ] at ae;have ai:=aZ eu;have e4:=kg (aV g2.b) ((l1.trans l2) _ _ eu) (hQ (cQ (aV (gn rfl (bH _ _ _))) (cL e3)) (by decide:2<=1000000)) (l4 _ _ eu) (cO (aK (bJ ae) hi) (by decide));refine(tY _ _ (bR (eU e1) (bR (eU e2) (bR (gl e4) eF))) g2 ⟨_,jU (l4 _ _ eu),?_⟩ ((f8.of l4).trans (.set _ _ rfl)));have n3:ab.length≠Y:=eB (aT ai (Le.len ((l1.trans l2).trans l3)));rw[List.range_succ];exact(A.imp λi v q=>fZ q λw a b c=>(g8 w a b ((bU (Ne.symm b)).trans (l4 _ _ c)))).snoc (g8 ab.length rfl n3 ((bU (Ne.symm n3)).trans (bC _ _)))
theorem xB(hs:nw X Ld)(hq:N[q]? =U (.list (uA X Ld))):∃Y B,eG (n+1) 315 [.ref q] [] N=U (.ref Y,B)/\Le N B/\BW Ld Y 5 B:=by
 let af:aW:= [(53,U (.ref q))];refine ga (GO (n:=n) (vs:=af) hs rfl hq) λzD aj e1 l1 h1=>cJ (GK (n:=n) (vs:=af.set 83 (.ref zD)) hs rfl (l1 _ _ hq)) λag e2 l2=>?_;let aa:=ag++ [O.list (Ic Ld)];have l3:Le aj aa:=l2.snoc _;let ae:=aa++ [O.list []];have l4:Le aa ae:= .app _ _;let ak:=((af.set 83 (.ref zD)).set 84 (.ref ag.length)).set 85 (.ref aa.length);refine je (hV (Γ:=Γ) (C:=eG n) (fe:=60) (n:=55) (t:= .name 44) (b:=bB) (M:=ak) (N:=ae) (σb:=ae) (itr:=λj=>.one (.vs ((dF (List.range 5)).drop j))) (B2 (z:=53) rfl (l4 _ _ (l3 _ _ (l1 _ _ hq))) (by unfold uA;rw[aD,aQ];decide)) rfl (by rw[eR,aQ];decide)
  (zE:=λj vs ab=>(vs.get 53=U (.ref q)/\vs.get 83=U (.ref zD)/\vs.get 84=U (.ref ag.length)/\vs.get 85=U (.ref aa.length))/\BW Ld aa.length j ab/\f8 (λal=>al=aa.length) ae ab) ⟨⟨rfl,rfl,rfl,rfl⟩,⟨[],bC _ _,.nil⟩,.of (.refl _)⟩ (λj v vs ab hv zE=>mf hv) (λvs ab zE=>mh) (λj v vs ab hv zE=>?_)) λai B ef zE=>?_
 ·refine f7 (pL hv) λhi e'=>?_;clear hv;subst e';refine Ie zE.1 λg1 g2 g3 g4=>?_;have ah:Le aa ab:=λi o e=>zE.2.2.2 i o (bT (aZ e)) (l4 _ _ e);exact(cU (vs.set 44 (cT j)) rfl (pb (HX hs (ah _ _ (l3 _ _ (l1 _ _ hq))) (h1.le (l3.trans ah)) (ah _ _ (bC _ _)) hi ⟨gn rfl g1,gn rfl g2,gn rfl g3,gn rfl g4,bH _ _ _⟩ zE.2.1) λai B e2 g' r' l'=>(tY ai B e2 ⟨g'.q,g'.c,g'.l,g'.b⟩ r' (zE.2.2.trans l'))))
 ·rw[eR,aQ] at zE;exact(iS aa.length B (mQ rfl rfl rfl (bR (eU e1) (bR (eU e2) (bR (eU (fr iZ (by decide:0<=1000000))) (bR ef (k3 (lJ (aV zE.1.2.2.2)))))))) (λi o e=>zE.2.2.2 i o (bT (aT (aZ e) (Le.len (l1.trans l3)))) (l4 _ _ (l3 _ _ (l1 _ _ e)))) zE.2.1)
end
def mF(ns:List Int)(k:Int):List V:=js (ns.map V.int) (U k) (U 60) (U 5)
theorem K9(a n:Int):a+2916+2916*n=a+2916*(n+1):=by rw[Int.mul_add,Int.mul_one,uH,Int.add_comm 2916]
theorem LI{a q n:Int}(B:a+2916*(n+1)<=1000000)(J:q < 2916):a+q+2916*n<=1000000:=Int.le_trans (Int.add_le_add_right (Int.add_le_add_left (Int.le_of_lt J) a) _) (K9 a n▸B)
theorem LH{a q n r:Int}(h:r<=a+q+2916*n)(B:q < 2916):r<=a+2916*(n+1):=K9 a n▸Int.le_trans h (Int.add_le_add_right (Int.add_le_add_left (Int.le_of_lt B) a) _)
theorem kO(B:0<=i)(J:i<=2000000):jh i=zG:=gF (Int.lt_of_lt_of_le (by decide) B) (Int.lt_of_le_of_lt J (by decide))
theorem y6:∀(I:List V) (a:Int),0<=a->a+2916*I.length<=1000000->∃r,uU a (I.map λv=>Int.fmod (g7 v) 2916)=U r/\a<=r/\r<=a+2916*I.length:=by
 intro I;induction I with
 |nil=>exact λa Y h1=>(g8 a rfl (Int.le_refl _) (Int.le_add_of_nonneg_right (by decide)))
 |cons v r aa=>
  intro a Y h1;have B:0<=Int.fmod (g7 v) 2916:=eD _ (by decide);have J:Int.fmod (g7 v) 2916 < 2916:=fq _ (by decide);have h2:=LI (n:=r.length) h1 J;have h3:=Int.add_nonneg Y B;refine fZ (aa (a+Int.fmod (g7 v) 2916) h3 h2) λq e2 e3 e4=>(g8 q ?_ (Int.le_trans (Int.le_add_of_nonneg_right B) e3) (LH e4 J));show(if (jh (Int.fmod (g7 v) 2916)&&jh (a+Int.fmod (g7 v) 2916))=zG then uU (a+Int.fmod (g7 v) 2916) (r.map λv=>Int.fmod (g7 v) 2916) else .none)=_;rw[kO B (Int.le_trans (Int.le_of_lt J) (by decide)),kO h3 (Int.le_trans ((Int.le_trans (Int.le_add_of_nonneg_right (Int.mul_nonneg (by decide) (fM _))) h2)) (by decide))];exact e2
theorem w8{x:Int}{m:Nat}(J:0<=x)(Y:x < m):∃k:Nat,k < m/\x=k:=(oZ J).elim λk B=>(cU k (Int.ofNat_lt.mp (B▸Y)) B)
theorem Hv{x:Int}(B:0<=x)(J:x < 3):x=0\/x=1\/x=2:=cJ (w8 (m:=3) B J) λk Y e=>
 ((by decide:∀k < 3,k=0\/k=1\/k=2) k Y).imp (λq=>e.trans (congrArg Nat.cast q)) (Or.imp (λq=>e.trans (congrArg Nat.cast q)) λq=>e.trans (congrArg Nat.cast q))
noncomputable def ka(y s:Int):Txt:=([[],[32],[9]]:List Txt).getD (Int.fmod (Int.fdiv y s) 3).toNat []
def BY(B:List Txt):Txt:=rv (PySem.Txt.join (gM []) (B.map gM))
def sD(y:Int):Txt:=BY ([1,108,324,972].map (ka y))
theorem tE(y s:Int):ka y s∈P3:=by
 unfold ka;generalize (Int.fmod (Int.fdiv y s) 3).toNat=m;cases m with
 |zero=>exact .head _
 |succ m=>cases m with
  |zero=>exact .tail _ (.head _)
  |succ m=>cases m with
   |zero=>exact .tail _ (.tail _ (.head _))
   |succ m=>exact .head _
theorem BQ(y:Int):sD y∈kz/\j2 [] ([1,108,324,972].map (ka y))=zG:=(by decide+kernel:∀a∈P3,∀b∈P3,∀c∈P3,∀d∈P3,BY [a,b,c,d]∈kz/\j2 [] [a,b,c,d]=zG) _ (tE ..) _ (tE ..) _ (tE ..) _ (tE ..)
noncomputable def xY(y:Int):Nat×Nat×Nat:=((Int.fmod (Int.fdiv y 27) 4).toNat,(Int.fmod (Int.fdiv y 9) 3).toNat,(Int.fmod (Int.fdiv y 3) 3).toNat)
theorem H4(k:Nat)(B:k < 4)(d:Nat)(hd:d < 3)(m:Nat)(J:m < 3):(k,d,m)∈lm:=eJ.mpr (cU k (bN.mpr B) (eJ.mpr (cU d (bN.mpr hd) (cC.mpr (cU m (bN.mpr J) rfl)))))
theorem wt{x:Int}{m:Nat}(B:0<=x)(J:x < m):x.toNat < m:=cJ (w8 B J) λk Y e=>by rw[e];exact Y
section
variable{C:Cf}{n:Nat}{N:H}{M:aW}{ns:List Int}{y s d m:Int}
theorem yG(Y:0<=y/\y<=1000000)(B:0 < s/\s<=1000)(J:0 < m/\m<=100)(aa:M.get 55=U (.int y))(he:ev Γ C (n+1) e M N=U (.int s,N)):ev Γ C (n+3) (.bin .mod (.bin .fdiv (.var 55) e) (.lit (.int m))) M N=U (.int (Int.fmod (Int.fdiv y s) m),N):=by
 have hd:Int.fdiv y s=y / s:=Int.fdiv_eq_ediv_of_nonneg _ (Int.le_of_lt B.1);have h0:0<=y / s:=Int.ediv_nonneg Y.1 (Int.le_of_lt B.1);have h1:y / s<=y:=Int.ediv_le_self _ Y.1;have b0:0<=Int.fmod (Int.fdiv y s) m:=eD _ J.1;have b1:Int.fmod (Int.fdiv y s) m < m:=fq _ J.1;have e1:ev Γ C (n+2) (.bin .fdiv (.var 55) e) M N=U (.int (Int.fdiv y s),N):=by
  refine hI (aV aa) he ((CM N y s).trans ?_);rw[decide_eq_true B.1,decide_eq_true (Int.lt_of_le_of_lt B.2 (by decide)),iQ (kO (hd▸h0) (hd▸Int.le_trans (Int.le_trans h1 Y.2) (by decide)))];rfl
 refine hI e1 cB ((uj N (Int.fdiv y s) m).trans ?_);rw[decide_eq_true J.1,iQ (kO b0 (Int.le_trans (Int.le_of_lt b1) (Int.le_trans J.2 (by decide))))];rfl
end
noncomputable abbrev yE:E:= .bin .mod (.bin .add (.var 54) (.call (.lit (.cst (.builtin "sum"))) [.comp (.bin .mod (.var 51) (.lit (.int 2916))) [.mk (.name 51) (.plain (.slice (.var 52) (U (.var 8)) (U (.lit (.int 60))) (U (.lit (.int 5))))) []] [51]])) (.lit (.int 2916))
noncomputable abbrev FL:E:= .callM (.lit (.str [])) 27 [.comp (.sub (.tup [.lit (.str []),.lit (.str [32]),.lit (.str [9])]) (.bin .mod (.bin .fdiv (.var 55) (.var 57)) (.lit (.int 3)))) [.mk (.name 57) (.plain (.tup [.lit (.int 1),.lit (.int 108),.lit (.int 324),.lit (.int 972)])) []] [57]] []
noncomputable abbrev FJ:E:= .tup [.var 56,.sub (.lit (.str [97,65,98,66])) (.bin .mod (.bin .fdiv (.var 55) (.lit (.int 27))) (.lit (.int 4))),.sub (.tup [.lit (.str [61]),.lit (.str [43,61]),.lit (.str [45,61])]) (.bin .mod (.bin .fdiv (.var 55) (.lit (.int 9))) (.lit (.int 3))),.sub (.tup [.lit (.str []),.lit (.str [124]),.lit (.str [42])]) (.bin .mod (.bin .fdiv (.var 55) (.lit (.int 3))) (.lit (.int 3)))]
noncomputable abbrev Bd:List S:= [.names [55] yE,.names [56] FL,.expr (.callM (.var 53) 16 [FJ] [])]
noncomputable def oM:List Int:= [6,64,41,197,883]
noncomputable abbrev Fb:E:= .list [.lit (.int 6),.lit (.int 64),.lit (.int 41),.lit (.int 197),.lit (.int 883)]
theorem zl:nj.body= [.names [53] (.list []),.for_ (.tup [.name 8,.name 54]) (.enum Fb) Bd,.ret (U (.var 53))]:=rfl
noncomputable def k6(l:List Int):List V:=l.map V.int
def FI(y:Int):V:=BJ (sD y) (xY y)
section
variable{C:Cf}{n k pg b:Nat}{N:H}{M:aW}{ns:List Int}{y:Int}{ls:List V}
theorem KP(hk:k < 5)(hb:0<=y/\y<=5000)(am:M.get 52=U (.flist (ns.map .int)))(ao:M.get 8=U (cT k))(ap:M.get 54=U (.int y)):∃z ag,ev Γ C 60 yE M N=U (.int z,ag)/\(0<=z/\z<=1000000)/\Le N ag:=by
 have hl:=(by
   have af:=(fM k);unfold mF js;refine aA (List.length_filterMap_le _ _) ?_;unfold sliceRange sliceBounds;simp only[aD,aQ,Option.getD_some];have Y:(5:Int)>0:=by decide
   rw[if_pos Y,if_pos Y,if_pos Y];rw[if_neg (jc.mpr af),if_neg (by decide: ¬(60:Int) < 0)];have ai:0<=max 0 (min (k:Int) (ns.length:Int)):=Int.le_max_left _ _;have aj:max 0 (min 60 (ns.length:Int))<=60:=Int.max_le.mpr ⟨by decide,Int.min_le_left _ _⟩;generalize max 0 (min (k:Int) (ns.length:Int))=lo at*;generalize max 0 (min 60 (ns.length:Int))=ak at*;by_cases h:lo < ak
   ·rw[if_pos h];refine Int.toNat_le.mpr (Int.ediv_le_of_le_mul (by decide) ?_);clear Y h af;exact Int.le_trans (Int.sub_le_sub_right (Int.add_le_add_right (Int.sub_le_sub aj ai) 5) 1) (by decide)
   ·rw[if_neg h];exact cK _:(mF ns (k:Int)).length<=100)
 have e0:ev Γ C 56 (.slice (.var 52) (U (.var 8)) (U (.lit (.int 60))) (U (.lit (.int 5)))) M N=U (.ref N.length,N++ [O.list (mF ns k)]):=by
  refine kn (aV am) (aV ao:ev Γ C 55 (.var 8) M N=U (cT k,N)) (rfl:jr (ev Γ C 55) (U (.lit (.int 60))) M N=U (.int 60,N)) (rfl:jr (ev Γ C 55) (U (.lit (.int 5))) M N=U (.int 5,N)) ?_;skip;exact g6 N (aA hl (by decide))
 refine cJ (hB (Γ:=Γ) (t:= .name 51) (elt:= .bin .mod (.var 51) (.lit (.int 2916))) (ifs:= []) (own:= [51]) (N:=N) (σb:=N++ [O.list (mF ns k)]) (hC e0 (bC _ _)) rfl (aK hl (by decide)) (fu (bC _ _))
  (λvs=>True) (λv vs=>vs.set 51 v) (λJ=>zG) (λv=>.int (Int.fmod (g7 v) 2916)) (λv J N vs=>rfl) (λv J vs h=>trivial) trivial λv hv vs ae l P=>(g8 ae rfl (.refl _) (λJ=>(cU ae ?_ (.refl _))))) λB e1 l1=>?_
 ·refine dS ((by
   intro v aa;unfold mF js at aa;refine cJ (v9.mp aa) λaq J ab=>?_;rw[bD] at ab;refine mi ab λi J al=>?_;clear aa ab;subst al;exact⟨i,rfl⟩:∀v∈mF ns k,∃i,v= .int i) v hv) λi e=>?_
  clear hv;subst e;have b0:0<=Int.fmod i 2916:=eD _ (by decide);have b1:Int.fmod i 2916 < 2916:=fq _ (by decide);refine hI (aV (bH _ _ _)) cB ((uj ae i 2916).trans ?_);rw[decide_eq_true (show(0:Int) < 2916 by decide),iQ (kO b0 (Int.le_trans (Int.le_of_lt b1) (by decide)))];rfl
 ·rw[cS.mpr λJ J=>rfl] at e1;have ah:2916*((mF ns k).length:Int)<=291600:=Int.mul_le_mul_of_nonneg_left (Int.ofNat_le.mpr hl) (by decide);refine fZ (y6 (mF ns k) 0 (Int.le_refl _) ((xS _).symm▸Int.le_trans ah (by decide))) λq e2 e3 e4=>?_;have q2:q<=291600:=Int.le_trans (by rwa [xS] at e4) ah;have hm:(mF ns k).map (λv=>V.int (Int.fmod (g7 v) 2916))=k6 ((mF ns k).map λv=>Int.fmod (g7 v) 2916):=(eC ..).symm;rw[hm] at e1;have sm:builtin (.builtin "sum") [.ref B.length] (B++ [O.list (k6 ((mF ns k).map λv=>Int.fmod (g7 v) 2916))])=U (.int q,B++ [O.list (k6 ((mF ns k).map λv=>Int.fmod (g7 v) 2916))]):=by
   show((dX (B++ [O.list (k6 ((mF ns k).map λv=>Int.fmod (g7 v) 2916))]) (.ref B.length)).bind λI=>(ir I).bind λl=>(uU 0 l).map λr=>(V.int r,B++ [O.list (k6 ((mF ns k).map λv=>Int.fmod (g7 v) 2916))]))=_;rw[dC _ (bC _ _),bO,(show∀l,ir (k6 l)=U l from qG),bO,e2];rfl
  have e5:=hR (cL e1) ((fK Γ C _ "sum" _).trans sm);have e6:ev Γ C 59 (.bin .add (.var 54) (.call (.lit (.cst (.builtin "sum"))) [.comp (.bin .mod (.var 51) (.lit (.int 2916))) [.mk (.name 51) (.plain (.slice (.var 52) (U (.var 8)) (U (.lit (.int 60))) (U (.lit (.int 5))))) []] [51]])) M N=U (.int (y+q),B++ [O.list (k6 ((mF ns k).map λv=>Int.fmod (g7 v) 2916))]):=by
   refine hI (aV ap) e5 ((mB _ y q).trans ?_);rw[iQ (kO (Int.add_nonneg hb.1 e3) (Int.le_trans (Int.add_le_add hb.2 q2) (by decide)))];rfl
  have b0:0<=Int.fmod (y+q) 2916:=eD _ (by decide);have b1:Int.fmod (y+q) 2916 < 2916:=fq _ (by decide);refine(iS (Int.fmod (y+q) 2916) (B++ [O.list (k6 ((mF ns k).map λv=>Int.fmod (g7 v) 2916))]) (hI e6 cB ((uj _ (y+q) 2916).trans ?_)) ⟨b0,Int.le_trans (Int.le_of_lt b1) (by decide)⟩ (((Le.refl N).snoc _).trans (l1.snoc _)));rw[decide_eq_true (show(0:Int) < 2916 by decide),iQ (kO b0 (Int.le_trans (Int.le_of_lt b1) (by decide)))];rfl
theorem EL(hy:0<=y/\y<=1000000)(ag:M.get 55=U (.int y)):∃ae,ev Γ C 60 FL M N=U (.str (sD y),ae)/\Le N ae:=by
 refine cJ (hB (Γ:=Γ) (C:=C) (n:=58) (t:= .name 57) (iter:= .plain (.tup [.lit (.int 1),.lit (.int 108),.lit (.int 324),.lit (.int 972)])) (elt:= .sub (.tup [.lit (.str []),.lit (.str [32]),.lit (.str [9])]) (.bin .mod (.bin .fdiv (.var 55) (.var 57)) (.lit (.int 3)))) (ifs:= []) (own:= [57]) (N:=N) (σb:=N) rfl rfl (by decide) (jg _)
  (λvs=>vs.get 55=U (.int y)) (λv vs=>vs.set 57 v) (λJ=>zG) (λv=>.str (ka y (g7 v))) (λv J N vs=>rfl) (λv J vs h=>(ph rfl _ _).trans h) ag λv B vs ab l P=>(g8 ab rfl (.refl _) (λJ=>(cU ab ?_ (.refl _))))) λaa Y l1=>?_
 ·have af:∃s,v= .int s/\0 < s/\s<=1000:=by
   rcases aX.mp B with e| B
   ·exact(g8 _ e (by decide) (by decide))
   rcases aX.mp B with e| B
   ·exact(g8 _ e (by decide) (by decide))
   rcases aX.mp B with e| B
   ·exact(g8 _ e (by decide) (by decide))
   rcases aX.mp B with e| B
   ·exact(g8 _ e (by decide) (by decide))
   ·exact absurd B gX
  refine fZ af λs q1 h1 h2=>?_;clear af;clear B;subst q1;have Y:=yG (C:=C) (n:=54) (N:=ab) (m:=3) hy ⟨h1,h2⟩ (by decide) ((ph (x:=57) rfl (.int s) vs).trans P) (aV (bH _ _ _));refine fD (hQ (cQ cB (cQ cB (cL cB))) (by decide:3<=1000000)) Y ?_;have b0:0<=Int.fmod (Int.fdiv y s) 3:=eD _ (by decide);have b1:Int.fmod (Int.fdiv y s) 3 < 3:=fq _ (by decide);have hp:ka y (g7 (.int s))=ka y s:=rfl;refine hp.symm▸?_;unfold ka;have h:=Hv b0 b1;rcases h with h| h| h<;>refine h.symm▸?_<;>rfl
 ·replace Y:=(cS.mpr λJ J=>rfl)▸Y;have m1:fJ Γ (.str []) 27 N=U (.str [] [106,111,105,110]):=rfl;refine(cU _ (gm cB m1 (cL Y) gS ?_) (l1.snoc (.list ((([1,108,324,972]:List Int).map λs=>V.str (ka y s))))));show((dX (aa++ [O.list ((([1,108,324,972]:List Int).map λs=>V.str (ka y s)))]) (.ref aa.length)).bind λI=>(hO I).bind λl=>if j2 [] l then U (V.str (rv (PySem.Txt.join (gM []) (l.map gM))),aa++ [O.list ((([1,108,324,972]:List Int).map λs=>V.str (ka y s)))]) else .none)=_;rw[dC _ (bC _ _),bO];show(if j2 [] (([1,108,324,972]:List Int).map (ka y)) then U (V.str (BY (([1,108,324,972]:List Int).map (ka y))),_) else .none)=_;refine Eq.symm ((BQ y).2)▸?_;rfl
theorem EK(J:0<=y/\y<=1000000)(B:M.get 55=U (.int y))(aa:M.get 56=U (.str (sD y))):ev Γ C 59 FJ M N=U (FI y,N):=by
 have pk:∀ {s m:Int},0 < m->0<=Int.fmod (Int.fdiv y s) m/\Int.fmod (Int.fdiv y s) m < m:=λh=>⟨eD _ h,fq _ h⟩;have e1:=yG (C:=C) (n:=54) (N:=N) (s:=27) (m:=4) J (by decide) (by decide) B cB;have e2:=yG (C:=C) (n:=54) (N:=N) (s:=9) (m:=3) J (by decide) (by decide) B cB;have e3:=yG (C:=C) (n:=54) (N:=N) (s:=3) (m:=3) J (by decide) (by decide) B cB;have s1:ev Γ C 58 (.sub (.lit (.str [97,65,98,66])) (.bin .mod (.bin .fdiv (.var 55) (.lit (.int 27))) (.lit (.int 4)))) M N=U (.str (gR (xY y).1),N):=by
  refine fD cB e1 ?_;have q:=pk (s:=27) (m:=4) (by decide);have h:=(cJ (w8 q.1 q.2) λk Y e=>
    ((by decide:∀k < 4,k=0\/k=1\/k=2\/k=3) k Y).imp (λq=>e.trans (congrArg Nat.cast q)) (Or.imp (λq=>e.trans (congrArg Nat.cast q)) (Or.imp (λq=>e.trans (congrArg Nat.cast q)) λq=>e.trans (congrArg Nat.cast q))))
  unfold xY;rcases h with h| h| h| h<;>refine h.symm▸?_<;>rfl
 have s2:ev Γ C 58 (.sub (.tup [.lit (.str [61]),.lit (.str [43,61]),.lit (.str [45,61])]) (.bin .mod (.bin .fdiv (.var 55) (.lit (.int 9))) (.lit (.int 3)))) M N=U (.str (z8 (xY y).2.1),N):=by
  refine fD (hQ (cQ cB (cQ cB (cL cB))) (by decide:3<=1000000)) e2 ?_;have q:=pk (s:=9) (m:=3) (by decide);have h:=Hv q.1 q.2;unfold xY;rcases h with h| h| h<;>refine h.symm▸?_<;>rfl
 have s3:ev Γ C 58 (.sub (.tup [.lit (.str []),.lit (.str [124]),.lit (.str [42])]) (.bin .mod (.bin .fdiv (.var 55) (.lit (.int 3))) (.lit (.int 3)))) M N=U (.str (zx (xY y).2.2),N):=by
  refine fD (hQ (cQ cB (cQ cB (cL cB))) (by decide:3<=1000000)) e3 ?_;have q:=pk (s:=3) (m:=3) (by decide);have h:=Hv q.1 q.2;unfold xY;rcases h with h| h| h<;>refine h.symm▸?_<;>rfl
 exact hQ (cQ (aV aa) (cQ s1 (cQ s2 (cL s3)))) (by decide:4<=1000000)
structure CX(ns:List Int)(pg b:Nat)(σ₀:H)(k:Nat)(M:aW)(N:H):Prop where
 le:Le σ₀ N
 g50:M.get 52=U (.flist (ns.map .int))
 g51:M.get 53=U (.ref pg)
 b:N[b]? =U (.list (k6 oM))
 p:∃ys:List Int,ys.length=k/\N[pg]? =U (.list (ys.map FI))
theorem CO:∀k < 5,oM[k]? =U (oM.getD k 0)/\(0<=oM.getD k 0/\oM.getD k 0<=5000):=by decide+kernel
theorem zk(h0:σ₀.length<=pg)(ag:pg≠b)(Y:k < 5)(zE:CX ns pg b σ₀ k M N):∃aa ab,ic Γ C 60 57 Bd ((M.set 8 (cT k)).set 54 (.int (oM.getD k 0))) N=U (.next,aa,ab)/\CX ns pg b σ₀ (k+1) aa ab:=by
 refine cJ (zE.p) λys ae hp=>?_;generalize hv:(M.set 8 (cT k)).set 54 (.int (oM.getD k 0))=vs;have B:∀ {x:Nat} {u:V},(8==x)=zH->(54==x)=zH->M.get x=U u->vs.get x=U u:=λh h' e=>by rw[<-hv,ph h',ph h];exact e
 refine ga (KP (C:=C) (N:=N) Y (CO k Y).2 (B rfl rfl zE.g50) (by rw[<-hv,ph rfl,bH]) (by rw[<-hv,bH])) λz ah e1 hz l1=>cJ (EL (C:=C) (N:=ah) (M:=vs.set 55 (.int z)) hz (bH _ _ _)) λai e2 l2=>?_;have J:=l2 _ _ (l1 _ _ hp);have e3:=EK (C:=C) (N:=ai) (M:=(vs.set 55 (.int z)).set 56 (.str (sD z))) hz (gn rfl (bH _ _ _)) (bH _ _ _);have e4:=kg (aV (gn rfl (gn rfl (B rfl rfl zE.g51)))) J e3 J (by rw[aD];exact cO (aK (bJ ae) Y) (by decide));have af:=l1.trans l2;refine⟨_,_,bR (eU e1) (bR (eU e2) (bR (gl e4) eF)),Le.setHi (zE.le.trans af) h0 _,?_,?_,(bU ag).trans (af _ _ zE.b),ys++ [z],by rw[aF,ae];rfl,?_⟩
 ·exact gn rfl (gn rfl (B rfl rfl zE.g50))
 ·exact gn rfl (gn rfl (B rfl rfl zE.g51))
 ·rw[jU J,dP];rfl
end
section
variable{C:Cf}{n k pg b:Nat}{N:H}{M:aW}{ns:List Int}{y:Int}{ls:List V}
theorem I5{ys:List Int}(h:ys.length=5):ys=(List.range 5).map λi=>ys.getD i 0:=by
 refine List.ext_getElem? λi=>?_;rw[bD];by_cases B:i < 5
 ·rw[cM B,lp,aI,aM (by rw[h];exact B)];rfl
 ·rw[cI (by rw[h];exact bK B),cI (by rw[aQ];exact bK B)];rfl
theorem Bc(ns:List Int)(N:H):∃X Ld q J,eG (n+1) 281 [.flist (ns.map .int)] [] N=U (.ref q,J)/\nw X Ld/\J[q]? =U (.list (uA X Ld))/\Le N J:=by
 let v0:aW:= [(52,U (.flist (ns.map .int)))];let v1:aW:= [(52,U (.flist (ns.map .int))),(53,U (.ref N.length))];let B:=N++ [O.list []];let ab:=B++ [O.list (k6 oM)];have af:B.length=N.length+1:=aF ..;have x1:ex Γ (eG n) 60 59 (.names [53] (.list [])) v0 N=U (.next,v1,B):=eU (fr iZ (by decide));have e0:ev Γ (eG n) 60 Fb v1 B=U (.ref B.length,ab):=fr (cQ cB (cQ cB (cQ cB (cQ cB (cL cB))))) (by decide:5<=1000000);have ag:gG (ev Γ (eG n) 60) (.enum Fb) v1 B=U (.enum B.length 0,ab):=by
  show(match ev Γ (eG n) 60 Fb v1 B with
  |some (.ref i,J)=>match J[i]? with
   |some (.list _)=>U (gx.enum i 0,J)
   |_=>.none
  |_=>.none)=_
  rw[e0];dsimp only;rw[show ab[B.length]? =U (O.list (k6 oM)) from bC _ _]
 have ai:CX ns N.length B.length N 0 v1 ab:=⟨((Le.refl N).snoc _).snoc _,rfl,rfl,bC _ _,[],rfl,fC _ _ (bC _ _)⟩;refine je (hV (Γ:=Γ) (n:=57) (t:= .tup [.name 8,.name 54]) (b:=Bd) (N:=B) (σb:=ab) (I:=(List.range 5).map λ(k:Nat)=>V.tup [cT k,.int (oM.getD k 0)]) ag rfl (by rw[aD,aQ];decide)
  (zE:=λj vs aa=>CX ns N.length B.length N j vs aa) ai (λj v vs aa Y zE=>?_) (λvs aa zE=>?_) λj v vs aa Y zE=>?_) λae J x2 zE=>?_
 ·rw[bD] at Y;refine mi Y λk hk e=>?_;have hj:j < 5:=by have:=aZ hk;rw[aQ] at this;exact this
  rw[cM hj] at hk;obtain rfl:=aC hk;clear Y;subst e;show(match aa[B.length]? with
  |some (.list I)=>match I[j]? with
   |some v=>U (U (V.tup [.int (j:Int),v],gx.enum B.length (j+1)))
   |.none=>U .none
  |_=>.none)=_
  have hb:(k6 oM)[j]? =U (.int (oM.getD j 0)):=by
   show(List.map V.int oM)[j]? =_;rw[bD,(CO j hj).1];rfl
  rw[zE.b];dsimp only;rw[hb];rfl
 ·show(match aa[B.length]? with
  |some (.list I)=>match I[5]? with
   |some v=>U (U (V.tup [.int ((5:Nat):Int),v],gx.enum B.length (5+1)))
   |.none=>U .none
  |_=>.none)=_
  rw[zE.b];rfl
 ·rw[bD] at Y;refine mi Y λk hk e=>?_;have hj:j < 5:=by have:=aZ hk;rw[aQ] at this;exact this
  rw[cM hj] at hk;obtain rfl:=aC hk;clear Y;subst e;exact(cU _ rfl (zk (aJ _) (bT (Nat.lt_of_lt_of_eq (bQ _) af.symm)) hj zE))
 ·have zE:CX ns N.length B.length N 5 ae J:=zE;refine cJ (zE.p) λys ah hp=>(KJ (λi=>xY (ys.getD i 0)) (λi=>sD (ys.getD i 0)) _ _ (mQ rfl rfl rfl (by rw[zl];exact bR x1 (bR x2 (k3 (lJ (aV zE.g51)))))) ⟨λi aj=>(λak=>H4 _ (wt (eD _ (by decide)) (fq _ (by decide))) _ (wt (eD _ (by decide)) (fq _ (by decide))) _ (wt (eD _ (by decide)) (fq _ (by decide)))) _,λi aj=>(BQ _).1⟩ ?_ zE.le);rw[hp];refine congrArg (λl=>U (O.list l)) ?_
  conv=>lhs;rw[I5 ah]
  rw[eC];rfl
end
section
variable{X:Nat->Nat×Nat×Nat}{Ld:Nat->Txt}{i j k n:Nat}{a b c:Txt}
theorem lt_trans(J:fN a b=zG)(Y:fN b c=zG):fN a c=zG:=
 aR.mpr λk B=>decide_eq_true (Int.lt_trans (of_decide_eq_true (aR.mp J k B)) (of_decide_eq_true (aR.mp Y k B)))
theorem vN:∀(f:Nat) {j:Nat},(∀k,j<=k->k < sO Ld i f j->fN (Ld i) (Ld k)=zG)/\(sO Ld i f j < j+f->fN (Ld i) (Ld (sO Ld i f j))=zH):=by
 intro f;induction f with
 |zero=>
  intro j;exact⟨λk B J=>absurd J (bP.mpr B),λh=>absurd h (cD _)⟩
 |succ f aa=>
  intro j;have eu:sO Ld i (f+1) j=if fN (Ld i) (Ld j) then sO Ld i f (j+1) else j:=rfl
  refine eu.symm▸?_;cases Y:fN (Ld i) (Ld j) with
  |false=>
   refine Eq.symm (if_neg aU)▸?_;exact⟨λk B J=>absurd J (bP.mpr B),λab=>Y⟩
  |true=>
   refine Eq.symm (if_pos rfl)▸?_;have ih:=aa (j:=j+1);refine⟨λk B J=>(gf B).elim (λh=>ih.1 k h J) λe=>e▸Y,λh=>ih.2 (Nat.lt_of_lt_of_eq h (Nat.add_right_comm j 1 f).symm)⟩
theorem Cw(B:i < 5):∀k,i < k->k < hA Ld i->fN (Ld i) (Ld k)=zG:=(vN (4 - i)).1
theorem HE(B:i < 5)(h:hA Ld i < 5):fN (Ld i) (Ld (hA Ld i))=zH:=(vN (4 - i)).2 (by unfold hA at h;exact Nat.lt_of_lt_of_eq h (i4 B).symm)
def pz(X:Nat->Nat×Nat×Nat)(Ld:Nat->Txt):Pg:=⟨X,hA Ld⟩
theorem jX(hs:nw X Ld):(pz X Ld).Ok where
 x:=hs.x
 lt:=λi B=>(oJ B).1
 le:=λi B=>(oJ B).2
 nest:=λi B j aa J=>by
  have h5:=(oJ (Ld:=Ld) B).2;have Y:j < 5:=aT J h5;refine bK λh=>?_;have h:hA Ld i < hA Ld j:=h;have h2:=(oJ (Ld:=Ld) Y).2;have h3:=Cw Y (hA Ld i) J h;have h4:=HE B (aT h h2);rw[lt_trans (Cw B j aa J) h3] at h4;exact nomatch h4
theorem Dg(Y:a∈kz)(hb:b∈kz)(h:fN a b=zG):uM a b= []:=by
 unfold uM;refine pF.mpr λp J q=>mm J λk B e=>?_;clear J;subst e;have B:k < 5:=aT (bN.mp B) (pQ Y hb);have h1:=of_decide_eq_true (aR.mp h k (bN.mpr B));have h2:=of_decide_eq_true q;exact absurd h1 (jc.mpr h2)
end
def Fx:V->List Txt
 |.tup vs=>vs.map ry
 |_=>[]
noncomputable def L0:List P:= [([65],[45]),([98],[45])]
theorem yq:(∀p∈L0,p∈PL)/\L0.Nodup:=⟨by decide+kernel,by decide⟩
section
variable{X:Nat->Nat×Nat×Nat}{Ld:Nat->Txt}{q zD L Y i j n m k z R S:Nat}{N B J:H}{vs:aW}{x y:E}{C:Cf}
theorem DV{l:List Txt}(he:ev Γ C (n+1) x vs N=U (.tup (l.map V.str),J))(h:∀v∈l,v.length<=1000)(hl:l.length<=100):ev Γ C (n+2) (.callM (.lit (.str [])) 27 [x] []) vs N=U (.str l.flatten,J):=by
 refine gm cB (rfl:fJ Γ (.str []) 27 N=U (.str [] [106,111,105,110])) (cL he) gS ?_;show((hO (l.map V.str)).bind λl=>if j2 [] l then U (V.str (rv (PySem.Txt.join (gM []) (l.map gM))),J) else .none)=_;rw[uV,bO,if_pos (yv h hl),sF]
theorem yp(l:Txt)(x:Nat×Nat×Nat): [l,gR x.1,z8 x.2.1,zx x.2.2].flatten++ [32,9]=mN l x:=by
 unfold mN At;simp only[gJ,List.flatten_nil,cF,cN]
theorem DT(hs:nw X Ld)(g:vs.get 53=U (.ref q))(hq:N[q]? =U (.list (uA X Ld))):∃B,ev Γ C 59 (.comp (.bin .add (.callM (.lit (.str [])) 27 [.var 70] []) (.lit (.str [32,9]))) [.mk (.name 70) (.plain (.var 53)) []] [70]) vs N=U (.ref B.length,B++ [.list ((List.range 5).map λk=>V.str (mN (Ld k) (X k)))])/\Le N B:=by
 refine cJ (hB (Γ:=Γ) (C:=C) (n:=58) (elt:= .bin .add (.callM (.lit (.str [])) 27 [.var 70] []) (.lit (.str [32,9]))) (t:= .name 70) (ifs:= []) (own:= [70]) (hC (aV g) hq) rfl (by unfold uA;rw[aD,aQ];decide) (fu hq) (λaa=>True) (λv vs=>vs.set 70 v) (λaa=>zG)
  (λv=>.str ((Fx v).flatten++ [32,9])) (λaa aa aa aa=>rfl) (λaa aa aa aa=>trivial) trivial (λv hv vs ab l aa=>(g8 ab rfl (.refl _) (λaa=>?_)))) λB e1 l1=>(cU B ?_ l1)
 ·refine mm hv λk hk ek=>?_;clear hv;subst ek;have hk:=bN.mp hk;have hx:=(by
    have h:(lm.all λx=>Nat.ble (gR x.1).length 10&&(Nat.ble (z8 x.2.1).length 10&&Nat.ble (zx x.2.2).length 10))=zG:=by decide+kernel
    exact λx af=>an (aR.mp h x af) λag ae=>an ae λae ah=>⟨aY ag,aY ae,aY ah⟩:∀x∈lm,(gR x.1).length<=10/\(z8 x.2.1).length<=10/\(zx x.2.2).length<=10) _ (hs.x k hk)
  have hl:=(by decide+kernel:∀l∈kz,l.length<=10) _ (hs.l k hk);have e2:=DV (C:=C) (n:=55) (N:=ab) (vs:=vs.set 70 (BJ (Ld k) (X k))) (l:= [Ld k,gR (X k).1,z8 (X k).2.1,zx (X k).2.2]) (aV (bH _ _ _)) (λv hv=>by
   simp only[aX,gX,or_false] at hv;exact hv.elim (λh=>h▸aA hl (by decide)) λhv=>hv.elim (λh=>h▸aA hx.1 (by decide)) λhv=>hv.elim (λh=>h▸aA hx.2.1 (by decide)) λh=>h▸aA hx.2.2 (by decide)) (by decide:4<=100)
  refine(cU ab ?_ (.refl _));refine hI e2 cB ((nY ab _ _).trans (tQ ab ?_));rw[yp];unfold mN At;simp only[aF,fy,i8];exact aA (bS (bY hl (bY (bY hx.1 hx.2.1) hx.2.2)) 2) (by decide)
 ·rw[cS.mpr λaa aa=>rfl] at e1;unfold uA at e1;rw[eC] at e1;refine e1.trans ?_;rw[show(List.range 5).map ((λv=>V.str ((Fx v).flatten++ [32,9]))∘λk=>BJ (Ld k) (X k))=(List.range 5).map λk=>V.str (mN (Ld k) (X k)) from fF λk aa=>congrArg V.str (yp _ _)]
theorem GG(g:vs.get 53=U (.ref q))(hq:N[q]? =U (.list (uA X Ld))):∃B,ev Γ C 59 (.comp (.list []) [.mk (.name 70) (.plain (.var 53)) []] [70]) vs N=U (.ref (N.length+5),B)/\Le N B/\B[N.length+5]? =U (.list (((List.range 5).map (λaa=>N.length+aa)).map V.ref))/\∀k < 5,B[N.length+k]? =U (.list []):=by
 have e3:=uc (Γ:=Γ) (C:=C) (n:=58) (t:= .name 70) (ifs:= []) (own:= [70]) (hC (aV g) hq) rfl (by unfold uA;rw[aD,aQ];decide) (vF hq) (λaa=>True) (λv vs=>vs.set 70 v) (λaa=>zG) (λaa ab=>.ref (N.length+ab.length)) (λaa aa=>[]) (λaa aa=>[O.list []])
  (λv aa N vs=>rfl) (λaa aa aa aa=>trivial) trivial (λv aa vs ab aa=>by rw[cF];rfl) (λv aa vs ab aa aa=>by
   rw[cF,<-cN,<-aF];exact fr iZ (by decide:0<=1000000))
 have e4:k9 (λaa=>zG) (λaa ab=>V.ref (N.length+ab.length)) (λaa aa=>[]) (λaa aa=>[O.list []]) (uA X Ld) [] []=(((List.range 5).map (λaa=>N.length+aa)).map V.ref,List.replicate 5 (O.list [])):=rfl;rw[e4] at e3;refine(Ig (N++List.replicate 5 (O.list [])++ [O.list (((List.range 5).map (λaa=>N.length+aa)).map V.ref)]) (e3.trans ?_) ((Le.app N (List.replicate 5 (O.list []))).snoc _) ?_ (λk hk=>?_))
 ·rw[g6 _ (by rw[aD,aD,aQ];decide),aF];rfl
 ·have:=bC (N++List.replicate 5 (O.list [])) (O.list (((List.range 5).map (λaa=>N.length+aa)).map V.ref));rwa [aF] at this
 ·refine fC _ _ ?_;rw[bG (bL _ _),cY,List.getElem?_replicate,if_pos hk]
end
def qM(X:Nat->Nat×Nat×Nat)(Ld:Nat->Txt):WT:=wl (pz X Ld) 5 zG 0 5 (L0,List.replicate 5 [])
structure LW(X:Nat->Nat×Nat×Nat)(Ld:Nat->Txt)(q R t s:Nat)(vs:aW)(N:H):Prop where
 src:nw X Ld
 g53:vs.get 53=U (.ref q)
 g65:vs.get 65=U (.ref R)
 g71:vs.get 71=U (.ref t)
 g74:vs.get 74=U (.ref s)
 q:N[q]? =U (.list (uA X Ld))
 r:RW X Ld R 5 N
 t:∃h,HT t h (qM X Ld).1 N
 s:∃rs:List Nat,N[s]? =U (.list (rs.map .ref))/\eZ (λr L=>N[r]? =U (.list (L.map pV))) rs (qM X Ld).2
theorem w4(ns:List Int):∃X Ld q R t s vs N,LW X Ld q R t s vs N/\∀r,ic Γ (eG 18) 60 56 (jx.body.drop 4) vs N=r->ic Γ (eG 18) 60 60 jx.body [(52,U (.flist (ns.map .int)))] []=r:=by
 let al:aW:= [(52,U (.flist (ns.map .int)))];refine(Bc (n:=17) ns []).elim λX h=>h.elim λLd h=>pb h λq aj e1 hs hq l1=>?_;let ah:=al.set 53 (.ref q);have x1:ex Γ (eG 18) 60 59 (hS jx.body 0) al []=U (.next,ah,aj):=eU (hR (cL (aV rfl)) e1);refine cJ (DT (C:=eG 18) (vs:=ah) hs rfl hq) λar e2 l2=>?_;have am:=l2.snoc (O.list ((List.range 5).map λk=>V.str (mN (Ld k) (X k))));refine ga (A8 (n:=17) hs (bC ar _)) λR B e3 l3 r3=>?_;let ae:=ah.set 65 (.ref R);have x2:ex Γ (eG 18) 60 58 (hS jx.body 1) ah aj=U (.next,ae,B):=eU (hR (cL e2) e3);let aa:=B++ [O.list (L0.map pV)];have l4:Le B aa:= .app _ _;refine fZ (ye (k:=16) (bC B _) yq.1 yq.2) λJ e5 T5 l5=>?_;have e4:ev Γ (eG 18) 59 (.call (.lit (.cst (.ref 182))) [.list [.tup [.lit (.str [65]),.lit (.str [45])],.tup [.lit (.str [98]),.lit (.str [45])]]]) ae B=U (.ref aa.length,J):=
  hR (cL (fr (cQ (hQ (cQ cB (cL cB)) (by decide:2<=1000000)) (cL (hQ (cQ cB (cL cB)) (by decide:2<=1000000)))) (by decide:2<=1000000))) e5
 have au:Le aj J:=((am.trans l3).trans l4).trans l5;refine Hh (GG (C:=eG 18) (vs:=ae) rfl (au _ _ hq)) λY e6 l6 av aw=>?_;let ab:=(ae.set 71 (.ref aa.length)).set 74 (.ref (J.length+5));have x3:ex Γ (eG 18) 60 57 (hS jx.body 2) ae B=U (.next,ab,Y):=nI (hQ (cQ e4 (cL e6)) (by decide:2<=1000000)) rfl;have ai:Le B Y:=(l4.trans l5).trans l6;have r6:=r3.le ai;have af:aa.length=B.length+1:=aF;have ag:aa.length < J.length:=aZ T5.t;have W:WS B.length aa.length B.length (U (J.length+5)) ((List.range 5).map (λap=>J.length+ap)) (L0,List.replicate 5 []) Y:=⟨T5.le l6,aJ _,λs e=>by
  obtain rfl:=aC e;refine⟨⟨Nat.le_add_right_of_le (bA (cO (Nat.lt_of_lt_of_eq (bQ _) af.symm) ag)),eB (Nat.lt_add_right 5 (cO (Nat.lt_of_lt_of_eq (bQ _) af.symm) ag)),by rw[aD,aQ]⟩,av,?_⟩;have one:∀k < 5,(J.length+k≠J.length+5/\J.length+k≠B.length)/\Y[J.length+k]? =U (O.list (([]:List P).map pV)):=λk hk=>⟨⟨aN (bT hk),eB (Nat.lt_add_right k (cO (Nat.lt_of_lt_of_eq (bQ _) af.symm) ag))⟩,aw k hk⟩;exact .cons (one 0 (by decide)) (.cons (one 1 (by decide)) (.cons (one 2 (by decide)) (.cons (one 3 (by decide)) (.cons (one 4 (by decide)) .nil))))⟩
 have ax:rY (pz X Ld) B.length R Y:=cJ r3 λus eu A=>⟨aZ eu,us,ai _ _ eu,by rw[A.length,aQ],λi hi=>cJ (A.get (cM hi)) λv ev q=>pb q λr w a ap c d=>(iS r (.ref w) (by rw[ev,a];rfl) (aZ c) (ai _ _ c))⟩;refine ga (Ay (n:=18) (jX hs) (by decide) ax W) λak rs e7 aq l7=>?_;have ao:Le B ak:=λi o e=>l7.2 i o (λz=>z.elim (λz=>absurd (aZ e) (z▸cD _)) λz=>by
  have:=aC z;exact absurd (aZ e) (aC z▸bP.mpr (Nat.le_add_right_of_le (bA (cO (Nat.lt_of_lt_of_eq (bQ _) af.symm) ag))))) (ai _ _ e)
 have el:ev Γ (eG 18) 59 (.call (.lit (.cst (.builtin "len"))) [.var 65]) ab Y=U (.int 5,Y):=cJ r6 λus eu A=>by
  have:=ql (C:=eG 18) (n:=57) (a:= .var 65) (vs:=ab) (N:=Y) (aV rfl) eu;rw[A.length,aQ] at this;exact this
 have x4:ex Γ (eG 18) 60 56 (hS jx.body 3) ab Y=U (.next,ab,ak):=gl (hR (cQ (aV rfl) (cQ cB (cQ el (cQ (aV rfl) (cL (aV rfl)))))) e7);refine((⟨X,Ld,q,R,aa.length,(J.length+5),ab,ak,⟨hs,rfl,rfl,rfl,rfl,ao _ _ ((am.trans l3) _ _ hq),r3.le ao,⟨_,aq.T⟩,?_⟩,(λr h=>bR x1 (bR x2 (bR x3 (bR x4 h))))⟩));refine pc (aq.sn _ rfl) λh1 h2 h3=>(cU rs h2 (h3.imp λr L q=>q.2))
end MI.Lake.L1
namespace MI.Lake
theorem sN:∀ {I:List V},(∀v∈I,uB v v=zG)->z6 I I=zG:=by
 intro I;induction I with
 |nil=>exact λY=>rfl
 |cons x I B=>
  intro h;show(uB x x&&z6 I I)=zG;rw[h x (.head _),B λv J=>h v (.tail _ J)];rfl
theorem Cv{a:V}(h:uC a):uB a a=zG:=by
 induction h with
 |none=>rfl
 |bool b=>exact beq_self_eq_true b
 |int i=>exact beq_self_eq_true i
 |str s _=>exact dA.mpr rfl
 |tup vs _ B=>exact sN B
 |flist vs _ B=>exact sN B
theorem qQ{N:H}{a b x:V}(B:flat N 12 a=U x)(J:flat N 12 b=U x):yJ N a b=U zG:=by
 unfold yJ;rw[B,J];exact congrArg U (Cv (jq _ B))
theorem qu(B:f x=U y)(J:gP f r=U ys):gP f (x::r)=U (y::ys):=by
 show(match f x with
  |some y=>match gP f r with
   |some ys=>U (y::ys)
   |.none=>.none
  |.none=>.none)=_
 rw[B,J]
theorem nP{g:B->V}{l:List B}{vs:List V}(h:eZ (λa v=>f v=U (g a)) l vs):gP f vs=U (l.map g):=by
 induction h with
 |nil=>rfl
 |cons q _ J=>exact qu q J
theorem Cj(h:gP (flat N n) vs=U ds):flat N (n+1) (.tup vs)=U (.tup ds):=by
 show(match gP (flat N n) vs with
   |some ds=>U (V.tup ds)
   |.none=>.none)=_
 rw[h]
theorem iJ(B:N[i]? =U (.list vs))(h:gP (flat N n) vs=U ds):flat N (n+1) (.ref i)=U (.flist ds):=by
 show(match N[i]? with
   |some (.list vs)=>match gP (flat N n) vs with
    |some ds=>U (V.flist ds)
    |.none=>.none
   |_=>.none)=_
 rw[B];dsimp only;rw[h]
theorem eZ.mapR{R:B->J->Prop}{S:B->Y->Prop}{g:J->Y}{l:List B}{m:List J}(h:eZ R l m)(f:∀a b,R a b->S a (g b)):eZ S l (m.map g):=by
 induction h with
 |nil=>exact .nil
 |cons q _ ih=>exact .cons (f _ _ q) ih
end MI.Lake
namespace MI.Lake.L1
section
variable{X:Nat->Nat×Nat×Nat}{Ld:Nat->Txt}{q zD L Y i j n m k z R s t:Nat}{N B J:H}{vs:aW}{x y:E}{C:Cf}
theorem zW(aa:List (Int×Int×Int)):gP (flat N (n+2)) (aa.map jz)=U (aa.map jz):=by
 induction aa with
 |nil=>rfl
 |cons p r ih=>exact qu rfl ih
theorem vL{aa:List (Int×Int×Int)}(h:N[w]? =U (.list (aa.map jz))):flat N 11 (.tup [cT e,.ref w])=U (.tup [cT e,.flist (aa.map jz)]):=
 Cj (qu (y:=cT e) rfl (qu (iJ (n:=9) h (zW (n:=7) aa)) rfl))
theorem uL(Ld:Nat->Txt)(i:Nat):∃aa:List (Int×Int×Int),C3 Ld i=aa.map jz:=by
 unfold C3;by_cases h:hA Ld i < 5
 ·rw[if_pos h];exact⟨_,rfl⟩
 ·rw[if_neg h];exact⟨[],rfl⟩
def EQ(Ld:Nat->Txt)(i:Nat):V:= .tup [cT (hA Ld i),.flist (C3 Ld i)]
def vJ(v:V):V:= .tup [(kG v).getD 1 .none,(kG v).getD 2 .none]
theorem GH(hs:nw X Ld)(hr:RW X Ld R 5 N)(hb:BW Ld Y 5 N)(ao:vs.get 65=U (.ref R))(ap:vs.get 85=U (.ref Y)):∃B,ex Γ C 60 (n+2) (hS jx.body 5) vs N=U (.next,vs,B)/\Le N B:=by
 refine cJ hr λus eu A=>?_;have ai:=A.length;rw[aQ] at ai;have am:∀v∈us,∃a b c,v= .tup [a,b,c]:=λv hv=>by
  refine dS (hM.mp hv) λj hj=>?_;have aq:j < 5:=by have:=aZ hj;exact Nat.lt_of_lt_of_eq this ai
  refine cJ (A.get (cM aq)) λv' e1 q=>pb q λr w a aa aa aa=>?_;rw[hj] at e1;clear q;obtain rfl:=aC e1;exact(Jh _ _ _ a)
 refine cJ (hB (Γ:=Γ) (C:=C) (n:=58) (elt:= .tup [.var 67,.var 68]) (t:= .tup [.name 59,.name 67,.name 68]) (ifs:= []) (own:= [59,67,68]) (hC (aV ao) eu) rfl (aK (bJ ai) (by decide)) (fu eu) (λaa=>True) (λv vs=>((vs.set 59 ((kG v).getD 0 .none)).set 67 ((kG v).getD 1 .none)).set 68 ((kG v).getD 2 .none)) (λaa=>zG)
  vJ (λv hv N vs=>?_) (λaa aa aa aa=>trivial) trivial (λv hv vs ak l aa=>(g8 ak rfl (.refl _) (λaa=>(cU ak ?_ (.refl _)))))) λaf e1 l1=>?_
 ·refine(am v hv).elim λa h=>h.elim λb h=>h.elim λc e=>?_;clear hv;subst e;rfl
 ·exact hQ (cQ (aV (gn rfl (bH _ _ _))) (cL (aV (bH _ _ _)))) (by decide:2<=1000000)
 ·rw[cS.mpr λaa aa=>rfl] at e1;have l2:Le N (af++ [O.list (us.map vJ)]):=l1.snoc _;have f1:flat (af++ [O.list (us.map vJ)]) 12 (.ref af.length)=U (.flist ((List.range 5).map (EQ Ld))):=by
   refine iJ (bC _ _) (nP ?_);have A':eZ (λi v=>i < 5/\∃r w,v= .tup [.ref r,cT (hA Ld i),.ref w]/\(r≠R/\w≠R)/\N[r]? =U (.list ((r4 (X i)).map .int))/\N[w]? =U (.list (Fp Ld i))) (List.range 5) us:=A.add λi hi=>bN.mp hi;refine A'.mapR λi v q=>pb q.2 λr w a aa aa d=>?_;subst a;refine dS (uL Ld i) λar ag=>?_;have d':=l2 _ _ d;rw[(by
     have ab:=oJ (Ld:=Ld) q.1;have nil:∀ {s n},i < s->s+n<=hA Ld i->(List.range' s n).flatMap (λah=>(uM (Ld i) (Ld ah)).map jz)= []:=λal aj=>List.flatMap_eq_nil_iff.mpr λah ae=>by
      have ae:=List.mem_range'_1.mp ae;rw[Dg (hs.l i q.1) (hs.l ah (aT ae.2 (aA aj ab.2))) (Cw q.1 ah (aT al ae.1) (aT ae.2 aj))];rfl
     unfold Fp C3;by_cases h:hA Ld i < 5
     ·rw[if_pos h,show min (hA Ld i+1) 5 - (i+1)=(hA Ld i - (i+1))+1 by exact(congrArg (·- (i+1)) (Nat.min_eq_left h)).trans (Nat.succ_sub ab.1),List.range'_concat,List.flatMap_append,nil (bQ i) (bJ (Nat.add_sub_cancel' ab.1)),List.nil_append,show i+1+1*(hA Ld i - (i+1))=hA Ld i by exact(congrArg (λaa=>i+1+aa) (Nat.one_mul _)).trans (Nat.add_sub_cancel' ab.1),List.flatMap_singleton]
     ·rw[if_neg h];exact nil (bQ i) (by exact aA (bJ (Nat.add_sub_cancel' (Nat.le_min.mpr ⟨dT ab.1,q.1⟩))) (aA (gW ..) (bK h))):Fp Ld i=C3 Ld i),ag] at d'
   unfold EQ;rw[ag];exact vL d'
  have f2:flat (af++ [O.list (us.map vJ)]) 12 (.ref Y)=U (.flist ((List.range 5).map (EQ Ld))):=cJ hb λws ew au=>by
   refine iJ (l2 _ _ ew) (nP (au.imp λi v q=>fZ q λw a aa d=>?_));clear q;subst a;refine dS (uL Ld i) λar ag=>?_;have d':=l2 _ _ d;rw[ag] at d';unfold EQ;rw[ag];exact vL d'
  have et:hJ (ev Γ C 60) (sE (hS jx.body 5)) vs N=U (zH,af++ [O.list (us.map vJ)]):=by
   refine fm (fE e1 (aV ap) ?_);show(yJ _ _ _).map (λaa=>!aa)=_;rw[qQ f1 f2];rfl
  exact(cU _ (Jf rfl et eF) l2)
end
noncomputable abbrev gA:E:= .comp (.callM (.var 71) 21 [.var 11] []) [.mk (.name 11) (.plain (.lit (.str [97,66]))) []] [11]
noncomputable abbrev gI:E:= .comp (.var 2) [.mk (.tup [.name 46,.name 2]) (.plain (.var 72)) [.cmp .eq (.callM (.var 46) 19 [] []) (.callM (.var 11) 19 [] [])]] [46,2]
noncomputable abbrev gB:E:= .comp gI [.mk (.name 11) (.plain (.lit (.str [97,66]))) []] [11]
def Az(L:List P)(m:Txt):List V:=(rp L m).map λp=>V.str p.2
section
variable{L:List P}{n m k q t h:Nat}{N B Y:H}{vs:aW}{x y:E}{C:Cf}{J:Txt}
theorem zU(ae:∀p∈L,p∈PL):∀ {zB:List P},(∀p∈zB,p∈PL)->gP (flat N (n+1)) (zB.map λp=>V.str p.2)=U (zB.map λp=>V.str p.2):=by
 intro zB;induction zB with
 |nil=>exact λaf=>rfl
 |cons p zB ab=>exact λaa=>qu (by
  skip;exact if_pos (hY (nK p (aa p (.head _))).2).2) (ab λq hq=>aa q (.tail _ hq))
theorem F1:∀v∈([V.str [97],V.str [66]]:List V),∃m,v= .str m/\m∈NM:=by
 intro v hv;rcases aX.mp hv with e| hv
 ·exact(cU _ e (by decide+kernel))
 ·exact(cU _ (aH.mp hv) (by decide+kernel))
def Gv(L:List P)(v w:V)(N:H):Prop:=∃r,w= .ref r/\N[r]? =U (.list (Az L (ry v)))
theorem Gv.mono(v w:V)(N B:H)(l:Le N B)(h:Gv L v w N):Gv L v w B:=cJ h λr a b=>⟨r,a,l _ _ b⟩
theorem Kf(T:HT t h L N)(g:vs.get 71=U (.ref t)):∃ws B,ev Γ (eG (k+2)) 59 gA vs N=U (.ref B.length,B++ [.list ws])/\Le N B/\eZ (λv w=>Gv L v w B) [V.str [97],V.str [66]] ws:=by
 refine ga (mz (Γ:=Γ) (own:= [11]) (N:=N) (σb:=N) rfl rfl (by decide) (jg _) (λvs=>vs.get 71=U (.ref t)) (λv vs=>vs.set 11 v) (λaa=>zG) (Gv L) (λaa aa aa aa=>rfl) (λv aa vs P=>gn rfl P) g (λv hv vs ab l P=>(g8 ab rfl (.refl _) (λaa=>?_))) Gv.mono) λws B e1 l1 A=>(iS ws B e1 l1 (by rw[cS.mpr λaa aa=>rfl] at A;exact A));refine cJ (F1 v hv) λm e hm=>?_;clear hv;subst e;exact cJ (yR (k:=k) (T.le l) hm) λae e1 l1=>⟨_,_,gm (aV (gn rfl P)) (sy (T.le l) rfl rfl) (cL (aV (bH _ _ _))) gS e1,l1.snoc _,_,rfl,bC _ _⟩
theorem Kd(ag:∀p∈L,p∈PL)(hl:L.length<=64)(hq:N[q]? =U (.list (L.map pV)))(g:vs.get 72=U (.ref q))(ae:vs.get 11=U (.str J))(hm:J∈NM):∃B,ev Γ C 58 gI vs N=U (.ref B.length,B++ [.list (Az L J)])/\Le N B:=by
 refine cJ (hB (Γ:=Γ) (C:=C) (n:=57) (elt:= .var 2) (t:= .tup [.name 46,.name 2]) (ifs:= [.cmp .eq (.callM (.var 46) 19 [] []) (.callM (.var 11) 19 [] [])]) (own:= [46,2]) (hC (aV g) hq) rfl (by rw[aD];exact aK hl (by decide)) (fu hq) (λvs=>vs.get 11=U (.str J)) (λv vs=>(vs.set 46 ((kG v).getD 0 .none)).set 2 ((kG v).getD 1 .none)) (λv=>jK (ry ((kG v).getD 0 .none)) J) (λv=>(kG v).getD 1 .none)
  (λv hv N vs=>?_) (λv aa vs P=>gn rfl (gn rfl P)) ae (λv hv vs ab l P=>?_)) λaf e1 l1=>(cU af ?_ l1)
 ·refine mm hv λp aa e=>?_;clear hv;subst e;rfl
 ·refine mm hv λp hp e=>?_;clear hv;subst e;have hn:=(nK p (ag p hp)).1;refine(g8 ab (kN (fm (fE (sg hn (aV (gn rfl (bH _ _ _)))) (sg hm (aV (gn rfl (gn rfl P)))) (nV (kc hn).2.2.1 (kc hm).2.2.1 rfl)))) (.refl _) (λaa=>(cU ab (aV (bH _ _ _)) (.refl _))))
 ·rw[ly,eC] at e1;exact e1
theorem Ke(ab:∀p∈L,p∈PL)(hl:L.length<=64)(hq:N[q]? =U (.list (L.map pV)))(g:vs.get 72=U (.ref q)):∃ws B,ev Γ C 59 gB vs N=U (.ref B.length,B++ [.list ws])/\Le N B/\eZ (λv w=>Gv L v w B) [V.str [97],V.str [66]] ws:=by
 refine ga (mz (Γ:=Γ) (own:= [11]) (N:=N) (σb:=N) rfl rfl (by decide) (jg _) (λvs=>vs.get 72=U (.ref q)) (λv vs=>vs.set 11 v) (λaa=>zG) (Gv L) (λaa aa aa aa=>rfl) (λv aa vs P=>gn rfl P) g (λv hv vs ae l P=>(g8 ae rfl (.refl _) (λaa=>?_))) Gv.mono) λws B e1 l1 A=>(iS ws B e1 l1 (by rw[cS.mpr λaa aa=>rfl] at A;exact A));refine cJ (F1 v hv) λm e hm=>?_;clear hv;subst e;exact cJ (Kd ab hl (l _ _ hq) (gn rfl P) (bH _ _ _) hm) λaf e1 l1=>⟨_,_,e1,l1.snoc _,_,rfl,bC _ _⟩
theorem Ck(aa:∀p∈L,p∈PL)(A:eZ (λv w=>Gv L v w N) I ws):gP (flat N 11) ws=U (I.map λv=>.flist (Az L (ry v))):=
 nP (A.imp λv w G=>cJ G λr a b=>by
  clear G;subst a;exact iJ b (zU aa λp hp=>aa p (dO.mp hp).1))
theorem IU(T:HT t h L N)(hq:N[q]? =U (.list (L.map pV)))(af:vs.get 71=U (.ref t))(ag:vs.get 72=U (.ref q)):∃B,ex Γ (eG (k+2)) 60 (n+2) (hS jx.body 7) vs N=U (.next,vs,B)/\Le N B:=by
 refine ga (Kf (k:=k) T af) λws ab e1 l1 A=>?_;have l2:Le ab (ab++ [O.list ws]):= .app _ _;refine ga (Ke (C:=eG (k+2)) T.ok T.len (l2 _ _ (l1 _ _ hq)) ag) λae aa e2 l3 A'=>?_;have l4:Le aa (aa++ [O.list ae]):= .app _ _;have ah:=(l2.trans l3).trans l4;have f1:=iJ ((l3.trans l4) _ _ (bC ab (O.list ws))) (Ck T.ok (A.imp λv w G=>Gv.mono v w _ _ ah G));have f2:=iJ (bC aa (O.list ae)) (Ck T.ok (A'.imp λv w G=>Gv.mono v w _ _ l4 G));have et:hJ (ev Γ (eG (k+2)) 60) (sE (hS jx.body 7)) vs N=U (zH,aa++ [O.list ae]):=by
  refine fm (fE e1 e2 ?_);show(yJ _ _ _).map (λai=>!ai)=_;rw[qQ f1 f2];rfl
 exact(cU _ (Jf rfl et eF) (((l1.trans l2).trans l3).trans l4))
end
def jY(X:Nat->Nat×Nat×Nat)(Ld:Nat->Txt):List (List P):=(qM X Ld).2++ [(qM X Ld).1]
def CA(X:Nat->Nat×Nat×Nat)(Ld:Nat->Txt):List (List P):=ix (pz X Ld) (kE (pz X Ld) 5).length
structure JG(X:Nat->Nat×Nat×Nat)(Ld:Nat->Txt):Prop where
 n:(qM X Ld).2.length=5
 f:∀j s,(kE (pz X Ld) 5)[j]? =U s->∃F,pw (pz X Ld) (s.1,s.2.1) 1000 s.2.2 (ix (pz X Ld) j)=U F
 s:∃S:Nat->List P,∀k < 6,rh ((jY X Ld).getD k []) (S k)/\rh ((CA X Ld).getD k []) (S k)/\(S k).length<=1000/\∀x∈S k,x∈PL
def cont(N:H)(v:V):List V:=match N[rI v]? with
 |some (.list I)=>I
 |_=>[]
def Dx(I:List V):List V:=match v4 I [] with
 |some (_,B)=>cont B (.ref 0)
 |.none=>[]
section
variable{X:Nat->Nat×Nat×Nat}{Ld:Nat->Txt}{q zD L J i j n m k z R s t e:Nat}{N B Y:H}{vs:aW}{x y:E}{C:Cf}
noncomputable abbrev aE:E:= .comp (.call (.lit (.cst (.builtin "sorted"))) [.var 105]) [.mk (.name 105) (.plain (.bin .add (.var 74) (.list [.var 72]))) []] [105]
noncomputable abbrev eE:E:= .comp (.var 67) [.mk (.tup [.name 67,.name 68]) (.plain (.var 85)) []] [67,68]
theorem BL(h:l.length=n):l=(List.range n).map λk=>l.getD k 0:=by
 refine List.ext_getElem? λi=>?_;rw[bD];by_cases hi:i < n
 ·rw[cM hi,lp,aI,aM (by rw[h];exact hi)];rfl
 ·rw[cI (by rw[h];exact bK hi),cI (by rw[aQ];exact bK hi)];rfl
theorem DR{S:Nat->List P}(hn:ag.length=6)(ah:∀k < 6,rh (ag.getD k []) (S k)/\(S k).length<=1000)(ap:∀k < 6,∀x∈S k,x∈PL)(ak:vs.get 74=U (.ref s))(al:vs.get 72=U (.ref q))(hs:N[s]? =U (.list (rs.map .ref)))(A:eZ (λr L=>N[r]? =U (.list (L.map pV))) (rs++ [q]) ag):
  ∃ws B,ev Γ C 59 aE vs N=U (.ref B.length,B++ [.list ws])/\Le N B/\∀ab,Le B ab->gP (flat ab 11) ws=U ((List.range 6).map λk=>.flist ((S k).map pV)):=by
 have af:(rs++ [q]).length=6:=A.length▸hn;have l0:Le N (N++ [O.list [V.ref q]]):= .app _ _;have e1:=tI (C:=C) (n:=57) (N:=N) (aV ak) (fr (cL (aV al)) (by decide:1<=1000000)) (l0 _ _ hs) (bC _ _) (by
  rw[aF] at af;rw[aF,aD];have:rs.length+1=6:=af;exact aA (bJ this) (by decide))
 rw[show rs.map V.ref++ [V.ref q]=(rs++ [q]).map V.ref by rw[dP];rfl,BL af,eC] at e1;let ae:=N++ [O.list [V.ref q]]++ [O.list ((List.range 6).map (V.ref∘λk=>(rs++ [q]).getD k 0))];have l1:Le N ae:=l0.snoc _;have at_:∀k < 6,N[(rs++ [q]).getD k 0]? =U (O.list ((ag.getD k []).map pV)):=λk hk=>by
  have ai:k < (rs++ [q]).length:=by rw[af];exact hk
  refine cJ (A.get (aM ai)) λL h1 h2=>?_;rw[aI,aM ai,aI,h1];exact h2
 have aj:∀k < 6,Dx (cont ae (V.ref ((rs++ [q]).getD k 0)))=(S k).map pV:=λk hk=>by
  have:cont ae (V.ref ((rs++ [q]).getD k 0))=(ag.getD k []).map pV:=by
   show(match ae[(rs++ [q]).getD k 0]? with
    |some (.list I)=>I
    |_=>[])=_
   rw[l1 _ _ (at_ k hk)]
  rw[this];unfold Dx;rw[(ah k hk).1 [],g6 [] (by rw[aD];exact aA (ah k hk).2 (by decide))];rfl
 refine ga (mz (Γ:=Γ) (I:=(List.range 6).map (V.ref∘λk=>(rs++ [q]).getD k 0)) (σb:=ae) (hC e1 (bC _ _)) rfl (by decide:6 < 1999) (fu (bC _ _)) (λaa=>True) (λv vs=>vs.set 105 v) (λaa=>zG)
  (λv w N=>∃r,w= .ref r/\N[r]? =U (.list (Dx (cont ae v)))) (λaa aa aa aa=>rfl) (λaa aa aa aa=>trivial) trivial (λv hv vs ab l aa=>(g8 ab rfl (.refl _) (λaa=>?_))) λv w N B l h=>cJ h λr e1 e2=>(cU r e1 (l _ _ e2))) λws B e2 l2 J=>(iS ws B e2 (l1.trans l2) ?_)
 ·refine mm hv λk hk ek=>?_;clear hv;subst ek;have hk:=bN.mp hk;have am:=l _ _ (l1 _ _ (at_ k hk));refine⟨.ref ab.length,ab++ [.list ((S k).map pV)],?_,.app _ _,_,rfl,?_⟩
  ·refine hR (cL (aV (bH _ _ _))) ((fK Γ C ab "sorted" _).trans ?_);show((dX ab (.ref ((rs++ [q]).getD k 0))).bind λI=>v4 I ab)=_;rw[dC _ am,bO,(ah k hk).1];exact g6 _ (by rw[aD];exact aA (ah k hk).2 (by decide))
  ·rw[bC];exact congrArg (λl=>U (O.list l)) (aj k hk).symm
 ·rw[cS.mpr λaa aa=>rfl] at J;refine λab ao=>nP (((eZ.ofMap J).add λk hk=>bN.mp hk).imp λk w h=>cJ h.2 λr a b=>?_);subst a;refine iJ (ao _ _ b) ?_;rw[show Dx (cont ae ((V.ref∘λk=>(rs++ [q]).getD k 0) k))=(S k).map pV from aj k h.1];exact qL (ap k h.1)
theorem GN(hb:BW Ld J 5 N)(ag:vs.get 85=U (.ref J)):∃B,ev Γ C 58 eE vs N=U (.ref B.length,B++ [.list ((List.range 5).map λi=>cT (hA Ld i))])/\Le N B:=by
 refine cJ hb λus eu A=>?_;have ab:=A.length;rw[aQ] at ab;have af:∀v∈us,∃a b,v= .tup [a,b]:=λv hv=>by
  refine dS (hM.mp hv) λj hj=>?_;have ah:j < 5:=by have:=aZ hj;exact Nat.lt_of_lt_of_eq this ab
  refine cJ (A.get (cM ah)) λv' e1 q=>fZ q λw a aa aa=>?_;rw[hj] at e1;clear q;obtain rfl:=aC e1;exact(Ho _ _ a)
 refine cJ (hB (Γ:=Γ) (C:=C) (n:=57) (elt:= .var 67) (t:= .tup [.name 67,.name 68]) (ifs:= []) (own:= [67,68]) (hC (aV ag) eu) rfl (aK (bJ ab) (by decide)) (fu eu) (λaa=>True) (λv vs=>(vs.set 67 ((kG v).getD 0 .none)).set 68 ((kG v).getD 1 .none)) (λaa=>zG)
  (λv=>(kG v).getD 0 .none) (λv hv N vs=>?_) (λaa aa aa aa=>trivial) trivial (λv hv vs ae l aa=>(g8 ae rfl (.refl _) (λaa=>(cU ae ?_ (.refl _)))))) λai e1 l1=>(cU ai ?_ l1)
 ·refine(af v hv).elim λa h=>h.elim λb e=>?_;clear hv h;subst e;rfl
 ·exact aV (gn rfl (bH _ _ _))
 ·rw[cS.mpr λaa aa=>rfl] at e1;rw[show us.map (λv=>(kG v).getD 0 .none)=(List.range 5).map λi=>cT (hA Ld i) from(A.mapR λi v q=>fZ q λw a aa aa=>by rw[a];rfl).map_eq] at e1;exact e1
end
end MI.Lake.L1
namespace MI.Lake.L1
section
variable(B add:Nat->Bool)(Y J:Nat->Nat)
noncomputable def wk(i:Nat)(y:Bool):Bool:=(y&&B i) || add i
noncomputable def tr:Nat->Nat->Nat->Bool->Bool
 | 0,_,_,y=>y
 |f+1,a,e,y=>if a < e then tr f (J a) e ((!(Nat.beq (Y a) 0)&&wk B add a y) || tr f (a+1) (J a) (wk B add a y)) else y
def bk(f a:Nat)(y:Bool):Bool:=tr B add Y J f (a+1) (J a) (wk B add a y)
def CS(f a:Nat)(y:Bool):Bool:=(!(Nat.beq (Y a) 0)&&wk B add a y) || bk B add Y J f a y
def C8(f a:Nat)(y:Bool):Bool:=wk B add a y || (Nat.beq (Y a) 2&&bk B add Y J f a y)
noncomputable def nb:Nat->Nat->Nat->Bool->Nat->Bool
 | 0,_,_,_,_=>zH
 |f+1,a,e,y,t=>if a < e then (if t=a then y else if t < J a then nb f (a+1) (J a) (C8 B add Y J f a y) t else nb f (J a) e (CS B add Y J f a y) t) else zH
end
section
variable{Y add:Nat->Bool}{J B:Nat->Nat}
theorem ol:∀(f:Nat) {a e:Nat} {y:Bool},e<=a->tr Y add J B f a e y=y:=by
 intro f;induction f with
 |zero=>
  intro _ _ _ _;exact rfl
 |succ f aa=>
  intro a e y h;exact if_neg (bP.mpr h)
theorem tc{f a e:Nat}{y:Bool}(h:a < e):tr Y add J B (f+1) a e y=tr Y add J B f (B a) e (CS Y add J B f a y):=if_pos h
theorem kM{f a e t:Nat}{y:Bool}(h:a < e):nb Y add J B (f+1) a e y t=if t=a then y else if t < B a then nb Y add J B f (a+1) (B a) (C8 Y add J B f a y) t else nb Y add J B f (B a) e (CS Y add J B f a y) t:=if_pos h
theorem E6{f:Bool->Bool}{y:Bool}(h:f (y || f y)=zG):(y || f y)=zG:=by
 cases hy:(y || f y) with
 |true=>rfl
 |false=>
  replace h:=hy▸h;have h1:=eT.mp hy
  (replace h1:=(h1.1)▸h1;replace h1:=h▸h1)
  exact nomatch h1.2
end
structure yX(p:Pg)(lv:Nat->List Nat)(lo e:Nat)(Lv:List Nat)(a:Nat):Prop where
 low:∀h,lo<=h->h < a->p.en h<=a
 ge:lo<=a
 par:(lo=0/\e=5/\Lv= [5])\/∃b,lo=b+1/\b < 5/\e=p.en b/\Lv=lv b++if Nat.beq (p.X b).2.2 2 then [b+1] else []
section
variable{p:Pg}{lo e a f:Nat}{Lv:List Nat}{lv:Nat->List Nat}
theorem yX.le5(B:p.Ok)(zD:yX p lv lo e Lv a):e<=5:=zD.par.elim (λh=>bJ h.2.1) λh=>h.elim λb h=>h.2.2.1▸B.le b h.2.1
theorem yX.next(B:p.Ok)(zD:yX p lv lo e Lv a)(h:a < e):yX p lv lo e Lv (p.en a):=by
 have ha:a < 5:=aT h (zD.le5 B);have Y:=B.lt a ha;refine⟨λJ h2 h3=>?_,aA zD.ge (bA Y),zD.par⟩;rcases Nat.lt_or_ge J a with q| q
 ·exact aA (zD.low J h2 q) (bA Y)
 ·rcases Nat.eq_or_lt_of_le q with q| q
  ·refine q▸?_;exact aJ _
  ·exact B.nest a ha J q h3
theorem yX.block(B:p.Ok)(zD:yX p lv lo e Lv a)(h:a < e):yX p lv (a+1) (p.en a) (lv a++if Nat.beq (p.X a).2.2 2 then [a+1] else []) (a+1):=
 ⟨λh1 J Y=>absurd Y (bP.mpr J),aJ _,.inr (Ig a rfl (aT h (zD.le5 B)) rfl rfl)⟩
theorem yX.en_le(B:p.Ok)(zD:yX p lv lo e Lv a)(h:a < e):p.en a<=e:=by
 have Y:a < 5:=aT h (zD.le5 B);refine zD.par.elim (λq=>q.2.1▸B.le a Y) λq=>q.elim λb q=>Eq.symm (q.2.2.1)▸?_;rw[q.2.2.1] at h;have J:=zD.ge;rw[q.1] at J;exact B.nest b q.2.1 a J h
end
theorem sz{e a:Nat}(h:e - a<=0):e<=a:=Nat.sub_eq_zero_iff_le.mp (Nat.le_zero.mp h)
theorem sc{e a t:Nat}{G:Prop}(h:e - a<=0)(B:a<=t)(J:t < e):G:=absurd (aK B J) (bP.mpr (sz h))
theorem s1{e a b f:Nat}(h:e - a<=f+1)(B:a < b):e - b<=f:=Nat.sub_le_iff_le_add.mpr (aA (Nat.sub_le_iff_le_add.mp h) (Nat.add_right_comm f 1 a▸Nat.add_le_add_left B f))
theorem s2{e a b f:Nat}(h:e - a<=f+1)(B:b<=e):b - (a+1)<=f:=Nat.sub_le_iff_le_add.mpr (aA B (Nat.add_right_comm f 1 a▸Nat.sub_le_iff_le_add.mp h))
def Ap(p:Pg)(i:Nat):List Nat:=rL p i (jy p i)
theorem Eb{p:Pg}:∀ {i j:Nat},j < i->(jy p i)[j]? =U (Ap p j):=by
 intro i;induction i with
 |zero=>exact λh=>absurd h (gC _)
 |succ i J=>
  intro j h;show(jy p i++ [rL p i (jy p i)])[j]? =_;by_cases B:j < i
  ·rw[bM (by rw[nQ];exact B)];exact J B
  ·have:j=i:=gD (cG h) (bK B)
   (refine this.symm▸?_;rw[bG (by rw[nQ];exact aJ _),nQ,fh]);rfl
section
variable{p:Pg}{lo e a:Nat}{Lv:List Nat}
theorem qE(hp:p.Ok)(zD:yX p (Ap p) lo e Lv a)(h:a < e):Ap p a=if p.en a=e then Lv else [p.en a]:=by
 unfold Ap rL;rcases zD.par with⟨J,h2,Y⟩| ⟨b,J,h2,Y,h4⟩
 ·have e0:xJ p.en a= []:=pF.mpr λx B q=>by
   have B:=bN.mp B;have:=zD.low x (by exact J▸cK x) B;have q:a < p.en x:=Nat.blt_eq▸q;exact absurd q (bP.mpr this)
  refine e0.symm▸?_;show[p.en a]=_;by_cases q:p.en a=e
  ·(refine Eq.symm (if_pos q)▸?_;refine Y.symm▸?_;refine q.symm▸?_;exact h2.symm▸rfl)
  ·exact Eq.symm (if_neg q)▸rfl
 ·have aa:b < a:=by
   have:=zD.ge;rw[J] at this;exact this
  have e0:(xJ p.en a).getLast? =U b:=by
   unfold xJ;have er:a=(b+1)+(a - (b+1)):=by exact(Nat.add_sub_cancel' aa).symm
   (refine er.symm▸?_;refine Eq.symm (List.range_add)▸?_;rw[mK];refine Eq.symm (List.range_succ)▸?_;rw[mK])
   refine er▸?_;have e2:((List.range (a - (b+1))).map (λab=>b+1+ab)).filter (λh=>Nat.blt a (p.en h))= []:=pF.mpr λx B q=>by
    refine mm B λy hy ey=>?_;have hy:=bN.mp hy;have:=zD.low x (by exact J▸ey▸bL ..) (by exact ey▸Nat.add_lt_of_lt_sub' hy);have q:a < p.en x:=Nat.blt_eq▸q;exact absurd q (bP.mpr this)
   have e3: [b].filter (λh=>Nat.blt a (p.en h))= [b]:=by
    have:Nat.blt a (p.en b)=zG:=Nat.blt_eq.mpr (Y▸h);exact dK this
   (refine e2.symm▸?_;refine e3.symm▸?_;rw[cF];exact Eq.symm (List.getLast?_concat)▸rfl)
  refine e0.symm▸?_;dsimp only
  (refine Eq.symm (aI)▸?_;refine Eq.symm (Eb aa)▸?_;refine Eq.symm (Option.getD_some)▸?_;refine Y▸?_;refine h4▸?_)
  by_cases q:p.en a=e
  ·(refine Eq.symm (if_pos q)▸?_;exact Eq.symm (if_pos (Nat.beq_eq▸q))▸rfl)
  ·(refine Eq.symm (if_neg q)▸?_;exact Eq.symm (if_neg (λz=>q (eL z)))▸rfl)
end
section
variable{J add:Nat->Bool}{B Y:Nat->Nat}
theorem tM(h:a < e)(hf:e - a<=f):nb J add B Y f a e y a=y:=by
 cases f with
 |zero=>exact sc hf (aJ a) h
 |succ f=>rw[kM h,if_pos rfl]
end
noncomputable def nu(p:Pg)(i:Nat):Nat:=(p.X i).2.2
section
variable{p:Pg}{lo e a f t u:Nat}{Lv:List Nat}{B add:Nat->Bool}{y:Bool}
theorem km:u∈f9 p a↔(u=a+1/\a+1 < p.en a)\/((p.en a<=a+1\/Nat.beq (nu p a) 0=zH)/\u∈Ap p a):=by
 have h:f9 p a=if (inn p a).isEmpty || !(Nat.beq (nu p a) 0) then inn p a++Ap p a else inn p a:=rfl
 rw[h];unfold inn;by_cases J:a+1 < p.en a
 ·rw[if_pos (Nat.blt_eq.mpr J)];cases Y:Nat.beq (nu p a) 0 with
  |true=>
   rw[show([a+1].isEmpty || !zG)=zH from rfl,if_neg aU];exact⟨λh=>.inl ⟨aH.mp h,J⟩,λh=>h.elim (λh=>aH.mpr h.1) λh=>h.1.elim (λq=>absurd J (bP.mpr q)) λq=>nomatch q⟩
  |false=>
   rw[if_pos (by rfl),aO];exact⟨λh=>h.elim (λh=>.inl ⟨aH.mp h,J⟩) λh=>.inr ⟨.inr rfl,h⟩,λh=>h.elim (λh=>.inl (aH.mpr h.1)) λh=>.inr h.2⟩
 ·rw[if_neg (λq=>J (Nat.blt_eq▸q)),if_pos (by rfl),List.nil_append];exact⟨λh=>.inr ⟨.inl (bK J),h⟩,λh=>h.elim (λh=>absurd h.2 J) λh=>h.2⟩
theorem vS(hp:p.Ok){n:Nat->Bool}:∀(f:Nat) {lo a e:Nat} {Lv:List Nat} {y:Bool},e - a<=f->yX p (Ap p) lo e Lv a->(∀t,a<=t->t < e->n t=nb B add (nu p) p.en f a e y t)->(tr B add (nu p) p.en f a e y=zG->∀u∈Lv,n u=zG)->
  ∀t,a<=t->t < e->wk B add t (n t)=zG->∀u∈f9 p t,n u=zG:=by
 intro f;induction f with
 |zero=>intro lo a e Lv y hf zD hn hz t h1 h2;exact sc hf h1 h2
 |succ f ih=>
  intro lo a e Lv y hf zD hn hz t h1 h2;have Y:a < e:=aK h1 h2;have ha:a < 5:=aT Y (zD.le5 hp);have ab:=hp.lt a ha;have aa:=zD.en_le hp Y;rw[tc Y] at hz;have ae:∀t,p.en a<=t->t < e->n t=nb B add (nu p) p.en f (p.en a) e (CS B add (nu p) p.en f a y) t:=λt h1 h2=>by
   rw[hn t (aA (bA (by assumption)) (by assumption)) h2,kM Y,if_neg (eB (aT ab h1)),if_neg (bP.mpr h1)]
  have aj:n a=y:=by rw[hn a (aJ _) Y,kM Y,if_pos rfl]
  have ah:CS B add (nu p) p.en f a y=zG->∀u∈Ap p a,n u=zG:=λq u J=>by
   rw[qE hp zD Y] at J;by_cases he:p.en a=e
   ·rw[if_pos he] at J;rw[he,ol f (aJ _)] at hz;exact hz q u J
   ·rw[if_neg he] at J;rw[aH.mp J,ae _ (aJ _) (Nat.lt_of_le_of_ne aa he),tM (Nat.lt_of_le_of_ne aa he) (s1 hf ab)];exact q
  by_cases ht:p.en a<=t
  ·exact ih (s1 hf ab) (zD.next hp Y) ae hz t ht h2
  have ag:a+1 < p.en a->n (a+1)=C8 B add (nu p) p.en f a y:=λhb=>by
   rw[hn (a+1) (fR a) (aT (by assumption) (by assumption)),kM Y,if_neg (oS a),if_pos hb,tM hb (s2 hf aa)]
  by_cases af:t=a
  ·clear hf zD hn hz h1 Y ha ab aa ae ht;subst af;rw[aj];intro q u J;rcases km.mp J with⟨e1,hb⟩| ⟨e1,J⟩
   ·rw[e1,ag hb];unfold C8;rw[q];rfl
   ·refine ah ?_ u J;unfold CS bk;rw[q];rcases e1 with e1| e1
    ·rw[ol f e1,pG]
    ·rw[e1];rfl
  ·have hb:a+1 < p.en a:=aK (Nat.lt_of_le_of_ne h1 (Ne.symm af)) (kD ht);refine ih (y:=C8 B add (nu p) p.en f a y) (s2 hf aa) (zD.block hp Y) (λt h1 h2=>?_) (λq=>?_) t (Nat.lt_of_le_of_ne h1 (Ne.symm af)) (kD ht)
   ·rw[hn t (bA (by assumption)) (aT (by assumption) (by assumption)),kM Y,if_neg (eB (by assumption)),if_pos h2]
   ·have ai:Nat.beq (nu p a) 2=zG->C8 B add (nu p) p.en f a y=zG:=λh2=>by
     unfold C8 at q⊢;rw[h2,fQ] at q⊢;exact E6 q
    have hq:CS B add (nu p) p.en f a y=zG:=by
     cases hm:Nat.beq (nu p a) 2 with
     |true=>
      have h3:=ai hm;unfold C8 at h3;unfold CS;rw[(by rw[eL hm];rfl:Nat.beq _ 0=zH)];rw[hm,fQ] at h3;exact h3
     |false=>
      unfold C8 at q;rw[hm,Bool.false_and,og] at q;unfold CS bk;rw[q,pG]
    intro u J;rcases aO.mp J with J| J
    ·exact ah hq u J
    ·cases hm:Nat.beq (p.X a).2.2 2 with
     |true=>
      rw[hm,if_pos rfl] at J;rw[aH.mp J,ag hb];exact ai hm
     |false=>
      rw[hm,if_neg aU] at J;exact nomatch J
theorem vW(hp:p.Ok){R:Nat->Prop}(am:∀t,t < 5->∀y,(y=zG->R t)->wk B add t y=zG->∀u∈f9 p t,R u):∀(f:Nat) {lo a e:Nat} {Lv:List Nat} {y:Bool},e - a<=f->yX p (Ap p) lo e Lv a->(a < e->y=zG->R a)->(e<=a->y=zG->∀u∈Lv,R u)->
  (∀t,a<=t->t < e->nb B add (nu p) p.en f a e y t=zG->R t)/\(tr B add (nu p) p.en f a e y=zG->∀u∈Lv,R u):=by
 intro f;induction f with
 |zero=>intro lo a e Lv y hf zD h1 h2;exact⟨λt a b=>sc hf a b,λq=>h2 (sz hf) q⟩
 |succ f ih=>
  intro lo a e Lv y hf zD h1 h2;by_cases J:a < e
  ·have ha:a < 5:=aT J (zD.le5 hp);have ak:=hp.lt a ha;have af:=zD.en_le hp J;have ae:=am a ha y (h1 J);have ah:a+1 < p.en a->bk B add (nu p) p.en f a y=zG->∀u∈(Ap p a++if Nat.beq (p.X a).2.2 2 then [a+1] else []),R u:=λY=>
    (ih (s2 hf af) (zD.block hp J) (λao q=>ae q _ (km.mpr (.inl ⟨rfl,Y⟩))) λq=>absurd Y (bP.mpr q)).2
   have aj:CS B add (nu p) p.en f a y=zG->∀u∈Ap p a,R u:=λq u hu=>by
    unfold CS at q;by_cases Y:a+1 < p.en a
    ·rcases dL.mp q with q| q
     ·have q:=hY q;exact ae q.2 u (km.mpr (.inr ⟨.inr (by cases hm:Nat.beq (nu p a) 0 with
       |true=>rw[hm] at q;exact nomatch q.1
       |false=>rfl),hu⟩))
     ·exact ah Y q u (aP _ hu)
    ·refine ae ?_ u (km.mpr (.inr ⟨.inl (bK Y),hu⟩));rcases dL.mp q with q| q
     ·exact(hY q).2
     ·unfold bk at q;rwa [ol f (bK Y)] at q
   have ag:=ih (s1 hf ak) (zD.next hp J) (λh q=>by
     have:=aj q;rw[qE hp zD J,if_neg (bT h)] at this;exact this _ (.head _)) λh q=>by
     have:=aj q;rw[qE hp zD J,if_pos (gD af h)] at this;exact this
   refine⟨λt ai al q=>?_,λq=>ag.2 (tc J▸q)⟩;rw[kM J] at q;by_cases aa:t=a
   ·rw[if_pos aa] at q;rw[aa];exact h1 J q
   ·rw[if_neg aa] at q;by_cases ab:t < p.en a
    ·rw[if_pos ab] at q;have Y:a+1 < p.en a:=aK (Nat.lt_of_le_of_ne ai (Ne.symm aa)) ab;refine(ih (s2 hf af) (zD.block hp J) (λao q=>?_) λq=>absurd Y (bP.mpr q)).1 t (Nat.lt_of_le_of_ne ai (Ne.symm aa)) ab q;unfold C8 at q;rcases dL.mp q with q| q
     ·exact ae q _ (km.mpr (.inl ⟨rfl,Y⟩))
     ·have q:=hY q;exact ah Y q.2 _ (aL _ (by
       have:Nat.beq (p.X a).2.2 2=zG:=q.1;rw[this];exact .head _))
    ·rw[if_neg ab] at q;exact ag.1 t (bK ab) al q
  ·refine⟨λt a b=>absurd (aK a b) J,λq=>h2 (bK J) ?_⟩;rwa [ol _ (bK J)] at q
end
noncomputable def jA(s:SS):P:=(s.1,s.2.1)
def IB(p:Pg):List P:=(kE p 5).map jA
def As(p:Pg)(c:P)(i:Nat):Bool:=Nat.beq (p.X i).2.1 1 || !(jK (gR (p.X i).1) c.1)
def um(p:Pg)(c:P)(i:Nat):Bool:=decide (c∈(hP p i).map jA)
theorem zd(a b:Txt):jK a b=jK b a:=by
 unfold jK;rw[eI,dA,dA];exact⟨Eq.symm,Eq.symm⟩
theorem r9(a:Txt):jK a a=zG:=dA.mpr rfl
theorem vB:∀i < 5,∀j < 5,∀b B:Bool,fX b i=fX B j->i=j/\b=B:=by
 have h:((List.range 5).all λi=>(List.range 5).all λj=>[zH,zG].all λb=>[zH,zG].all λB=>!(cW (fX b i) (fX B j)) || (Nat.beq i j&&(b==B)))=zG:=by kernel_rfl
 intro i Y j hj b B e;have J:∀b:Bool,b∈ [zH,zG]:=λb=>by cases b<;>decide
 have:=aR.mp (aR.mp (aR.mp (aR.mp h i (bN.mpr Y)) j (bN.mpr hj)) b (J b)) B (J B);rw[e,show cW (fX B j) (fX B j)=zG from dA.mpr rfl] at this;have:=hY this;exact⟨eL this.1,eq_of_beq this.2⟩
theorem qS:∀i < 5,∀j < 5,∀b:Bool,rq i≠fX b j:=by
 have h:((List.range 5).all λi=>(List.range 5).all λj=>[zH,zG].all λb=>!(cW (rq i) (fX b j)))=zG:=by kernel_rfl
 intro i B j J b e;have Y:∀b:Bool,b∈ [zH,zG]:=λb=>by cases b<;>decide
 have:=aR.mp (aR.mp (aR.mp h i (bN.mpr B)) j (bN.mpr J)) b (Y b);rw[e,show cW (fX b j) (fX b j)=zG from dA.mpr rfl] at this;exact nomatch this
theorem xF:∀j < 5,([45]:Txt)≠rq j/\∀b:Bool,([45]:Txt)≠fX b j:=by
 intro j B;refine⟨λe=>?_,λb e=>?_⟩
 ·have:=(List.cons.inj e).1;exact absurd this (bT (aT (by decide) (bL 48 j)))
 ·cases b with
  |false=>exact nomatch (List.cons.inj e).1
  |true=>exact nomatch (List.cons.inj e).1
section
variable{p:Pg}{i j:Nat}{c q:P}{L zB:List P}{b:Bool}
theorem lF(h:c∈(hP p i).map jA):c.2=rq i\/∃b,c.2=fX b i:=by
 refine mm h λs B e=>?_;clear h;subst e;exact tm B (λe=>e▸.inl rfl) λe=>e▸.inr ⟨_,rfl⟩
theorem pJ:∀ {n:Nat},c∈(kE p n).map jA↔c∈L0\/∃i < n,c∈(hP p i).map jA:=by
 intro n;induction n with
 |zero=>exact⟨λh=>.inl h,λh=>h.elim id λ⟨i,h,_⟩=>absurd h (gC i)⟩
 |succ n Y=>
  show c∈(kE p n++hP p n).map jA↔_;rw[dP,aO,Y];constructor
  ·rintro ((h| ⟨i,J,B⟩)| h)
   ·exact .inl h
   ·exact .inr (cU i (cX J) B)
   ·exact .inr (cU n (bQ n) h)
  ·rintro (h| ⟨i,J,B⟩)
   ·exact .inl (.inl h)
   ·rcases gf (cG J) with h| h
    ·exact .inl (.inr (cU i h B))
    ·exact .inr (h▸B)
theorem BS(h:c∈L0):c.2= [45]:=by
 rcases aX.mp h with h| h
 ·rw[h]
 ·rw[aH.mp h]
theorem Bf(B:i < 5)(h:q∈IB p)(e:q.2=fX b i):q∈(hP p i).map jA:=by
 rcases pJ.mp h with h| ⟨j,Y,h⟩
 ·exact absurd ((BS h).symm.trans e) ((xF i B).2 b)
 ·rcases lF h with J| ⟨b',J⟩
  ·exact absurd (J.symm.trans e) (qS j Y i B b)
  ·rw[<-(vB j Y i B b' b (J.symm.trans e)).1];exact h
def j6(p:Pg)(L:List P):Prop:=(∀q∈L,q∈IB p)/\L.Nodup
theorem pN:c∈lh L m↔c∈L/\jK m c.1=zH:=by
 unfold lh;rw[dO,zd];exact⟨λh=>⟨h.1,fW h.2⟩,λh=>⟨h.1,by rw[h.2];rfl⟩⟩
theorem Fc(J:i < 5)(Y:j6 p L)(hd:(p.X i).2.1=1):((rp L (gR (p.X i).1)).any λq=>ya i q.2)=decide ((gR (p.X i).1,fX (!(Nat.beq (p.X i).2.2 0)) i)∈L):=by
 have hs:hP p i= [(gR (p.X i).1,fX (!(Nat.beq (p.X i).2.2 0)) i,f9 p i)]:=by unfold hP;rw[hd];rfl
 rw[eI,decide_eq_true_iff,oY];constructor
 ·intro B;refine cJ B λq hq h=>?_;clear B;have hq:=dO.mp hq;have hv:∃b,q.2=fX b i:=by
   rcases dL.mp h with h| h
   ·exact⟨_,dA.mp h⟩
   ·exact⟨_,dA.mp h⟩
  refine dS hv λb e=>?_;have:=Bf J (Y.1 q hq.1) e;rw[hs] at this;have:q=(gR (p.X i).1,fX (!(Nat.beq (p.X i).2.2 0)) i):=aH.mp this;rw[<-this];exact hq.1
 ·intro h;exact(cU _ (dO.mpr ⟨h,r9 _⟩) (vd _))
end
section
variable{p:Pg}{i j:Nat}{c q:P}{L zB:List P}{b:Bool}
theorem Be(B:i < 5)(h:q∈(hP p i).map jA):q∈IB p:=pJ.mpr (.inr (cU i B h))
theorem l8(h:a=zG↔b=zG):a=b:=eI.mpr h
theorem z7(hp:p.Ok)(hi:i < 5)(aa:j6 p L):j6 p (k8 (p.X i) i L)/\∀c,decide (c∈k8 (p.X i) i L)=wk (As p c) (um p c) i (decide (c∈L)):=by
 have hd:=(rg (hp.x i hi)).2.1;have B:hP p i=match (p.X i).2.1 with
  | 0=>[(gR (p.X i).1,rq i,f9 p i)]
  | 1=>[(gR (p.X i).1,fX (!(Nat.beq (p.X i).2.2 0)) i,f9 p i)]
  |_=>[]:=rfl
 have J:k8 (p.X i) i L=match (p.X i).2.1 with
  | 0=>lh L (gR (p.X i).1)++ [(gR (p.X i).1,rq i)]
  | 1=>if (rp L (gR (p.X i).1)).any (λq=>ya i q.2) then L else L++ [(gR (p.X i).1,fX (!(Nat.beq (p.X i).2.2 0)) i)]
  |_=>lh L (gR (p.X i).1):=rfl
 have ab:j6 p (lh L (gR (p.X i).1)):=⟨λq hq=>aa.1 q (pN.mp hq).1,aa.2.filter _⟩;have go:∀c,As p c i=(Nat.beq (p.X i).2.1 1 || !(jK (gR (p.X i).1) c.1)):=λae=>rfl;have ad:∀c,um p c i=decide (c∈(hP p i).map jA):=λae=>rfl;rcases La hd with Y| Y| Y
 ·
  rw[Y] at B J;replace B:hP p i= [(gR (p.X i).1,rq i,f9 p i)]:=B;replace J:k8 (p.X i) i L=lh L (gR (p.X i).1)++ [(gR (p.X i).1,rq i)]:=J;have own:(gR (p.X i).1,rq i)∈(hP p i).map jA:=by refine B.symm▸?_;exact .head _
  refine J.symm▸?_;refine⟨⟨λq hq=>(aO.mp hq).elim (ab.1 q) λh=>aH.mp h▸Be hi own,mr ab.2 λh=>?_⟩,λc=>l8 ?_⟩
  ·have:=(pN.mp h).2;rw[r9] at this;exact nomatch this
  ·unfold wk
   (rw[go,ad];refine Y.symm▸?_;refine B.symm▸?_;rw[fj,dR,decide_eq_true_iff,decide_eq_true_iff,decide_eq_true_iff,aO,pN])
   show _↔(_/\(zH || !_)=zG)\/c∈ [(gR (p.X i).1,rq i)];rw[iW];exact or_congr (and_congr_right λae=>⟨λh=>by refine h.symm▸?_;rfl,λh=>fW h⟩) Iff.rfl
 ·
  have ha:=Fc hi aa Y;rw[Y] at B J;replace B:hP p i= [(gR (p.X i).1,fX (!(Nat.beq (p.X i).2.2 0)) i,f9 p i)]:=B;replace J:k8 (p.X i) i L=if (rp L (gR (p.X i).1)).any (λq=>ya i q.2) then L else L++ [(gR (p.X i).1,fX (!(Nat.beq (p.X i).2.2 0)) i)]:=J
  have own:(gR (p.X i).1,fX (!(Nat.beq (p.X i).2.2 0)) i)∈(hP p i).map jA:=by refine B.symm▸?_;exact .head _
  (refine J.symm▸?_;refine ha.symm▸?_)
  have hw:∀c,wk (As p c) (um p c) i (decide (c∈L))=(decide (c∈L) || decide (c∈ [(gR (p.X i).1,fX (!(Nat.beq (p.X i).2.2 0)) i)])):=λc=>by
   unfold wk
   (rw[go,ad];refine Y.symm▸?_;refine B.symm▸?_)
   show(decide (c∈L)&&zG || _)=_;rw[Bool.and_true];rfl
  by_cases hm:(gR (p.X i).1,fX (!(Nat.beq (p.X i).2.2 0)) i)∈L
  ·(refine Eq.symm (decide_eq_true hm)▸?_;refine Eq.symm (if_pos rfl)▸?_)
   refine⟨aa,λc=>?_⟩;rw[hw];refine l8 ?_;rw[fj,decide_eq_true_iff,decide_eq_true_iff];exact⟨λh=>.inl h,λh=>h.elim id λh=>aH.mp h▸hm⟩
  ·(refine Eq.symm (decide_eq_false hm)▸?_;refine Eq.symm (if_neg aU)▸?_)
   refine⟨⟨λq hq=>(aO.mp hq).elim (aa.1 q) λh=>aH.mp h▸Be hi own,mr aa.2 hm⟩,λc=>?_⟩;rw[hw];refine l8 ?_;rw[fj,decide_eq_true_iff,decide_eq_true_iff,decide_eq_true_iff,aO]
 ·
  rw[Y] at B J;replace B:hP p i= []:=B;replace J:k8 (p.X i) i L=lh L (gR (p.X i).1):=J;refine J.symm▸?_;refine⟨ab,λc=>l8 ?_⟩;unfold wk
  (rw[go,ad];refine Y.symm▸?_;refine B.symm▸?_;rw[fj,dR,decide_eq_true_iff,decide_eq_true_iff,decide_eq_true_iff,pN])
  show _↔(_/\(zH || !_)=zG)\/c∈ [];rw[iW];exact⟨λh=>.inl ⟨h.1,by refine Eq.symm (h.2)▸?_;rfl⟩,λh=>h.elim (λh=>⟨h.1,fW h.2⟩) λh=>nomatch h⟩
theorem wV:∀ {zB L:List P},j6 p L->j6 p zB->j6 p (iq L zB)/\∀c,decide (c∈iq L zB)=(decide (c∈L) || decide (c∈zB)):=by
 intro zB;induction zB with
 |nil=>
  intro L B _;exact⟨B,λc=>by(refine Eq.symm (show decide (c∈([]:List P))=zH from decide_eq_false λh=>(nomatch h))▸?_;rw[og]);rfl⟩
 |cons q zB aa=>
  intro L B J;have ab:j6 p zB:=⟨λx Y=>J.1 x (.tail _ Y),(lu.mp J.2).2⟩;have h1:j6 p (Ak L q)/\∀c,c∈Ak L q↔c∈L\/c=q:=by
   unfold Ak;by_cases h:q∈L
   ·refine Eq.symm (if_pos h)▸?_;exact⟨B,λc=>⟨.inl,λh'=>h'.elim id λe=>e▸h⟩⟩
   ·refine Eq.symm (if_neg h)▸?_;exact⟨⟨λx Y=>(aO.mp Y).elim (B.1 x) λh=>aH.mp h▸J.1 q (.head _),mr B.2 h⟩,λc=>by rw[aO,aH]⟩
  have h2:=aa h1.1 ab;refine⟨h2.1,λc=>(h2.2 c).trans (l8 ?_)⟩;rw[fj,fj,decide_eq_true_iff,decide_eq_true_iff,decide_eq_true_iff,decide_eq_true_iff,h1.2,aX,or_assoc]
end
structure WR(p:Pg)(s:Bool)(a e:Nat)(zA:List (List P))(Z:P->Bool)(B:P->Nat->Bool)(r:WT):Prop where
 g:j6 p r.1
 n:∀l∈r.2,j6 p l
 len:r.2.length=5
 z:∀c,decide (c∈r.1)=Z c
 off:∀t,¬(a<=t/\t < e)->r.2[t]? =zA[t]?
 no:s=zH->r.2=zA
 nb:s=zG->∀t,a<=t->t < e->∀c,decide (c∈r.2.getD t [])=B c t
section
variable{p:Pg}{s s':Bool}{a e f:Nat}{B:List (List P)}{Z J:P->Bool}{aa Y:P->Nat->Bool}{r st:WT}
theorem WR.conv(h:WR p s a e B Z aa r)(hz:∀c,Z c=J c)(hb:s=zG->∀c t,a<=t->t < e->aa c t=Y c t):WR p s a e B J Y r:=
 ⟨h.g,h.n,h.len,λc=>(h.z c).trans (hz c),h.off,h.no,λq t h1 h2 c=>(h.nb q t h1 h2 c).trans (hb q c t h1 h2)⟩
noncomputable abbrev Fu(p:Pg)(c:P)(f a e:Nat)(y:Bool):Bool:=tr (As p c) (um p c) (nu p) p.en f a e y
noncomputable abbrev IW(p:Pg)(c:P)(f a e:Nat)(y:Bool)(t:Nat):Bool:=nb (As p c) (um p c) (nu p) p.en f a e y t
def H5(p:Pg)(f:Nat):Prop:=∀ {s:Bool} {a e:Nat} {st:WT},e - a<=f->e<=5->(∀j,a<=j->j < e->p.en j<=e)->j6 p st.1->(∀l∈st.2,j6 p l)->st.2.length=5->
 WR p s a e st.2 (λc=>Fu p c f a e (decide (c∈st.1))) (λc t=>IW p c f a e (decide (c∈st.1)) t) (wl p f s a e st)
theorem uX(ab:H5 p f)(hf:p.en a - (a+1)<=f)(h5:p.en a<=5)(hn:∀j,a+1<=j->j < p.en a->p.en j<=p.en a)(g:j6 p st.1)(n:∀l∈st.2,j6 p l)(len:st.2.length=5):
  WR p s' (a+1) (p.en a) st.2 (λc=>decide (c∈st.1) || Fu p c f (a+1) (p.en a) (decide (c∈st.1))) (λc t=>IW p c f (a+1) (p.en a) (decide (c∈st.1)) t) (C5 p f a st s'):=by
 have h:=ab (s:=s') hf h5 hn g n len;have hm:=wV g h.g;unfold C5;cases s' with
 |true=>exact⟨hm.1,h.n,h.len,λc=>(hm.2 c).trans (by rw[h.z]),h.off,λq=>(nomatch q),h.nb⟩
 |false=>exact⟨hm.1,n,len,λc=>(hm.2 c).trans (by rw[h.z]),λt ae=>rfl,λae=>rfl,λq=>nomatch q⟩
theorem xC(ah:H5 p f)(hp:p.Ok)(ha:a < 5)(hf:p.en a - (a+1)<=f)(g:j6 p st.1)(n:∀l∈st.2,j6 p l)(len:st.2.length=5):
  WR p s (a+1) (p.en a) st.2 (λc=>(!(Nat.beq (nu p a) 0)&&decide (c∈st.1)) || Fu p c f (a+1) (p.en a) (decide (c∈st.1))) (λc t=>IW p c f (a+1) (p.en a) (decide (c∈st.1) || (Nat.beq (nu p a) 2&&Fu p c f (a+1) (p.en a) (decide (c∈st.1)))) t)
   (if Nat.beq (p.X a).2.2 0 || Nat.beq (p.en a) (a+1) then wl p f s (a+1) (p.en a) st else (wF s (p.X a).2.2).foldl (C5 p f a) st):=by
 have h5:=hp.le a ha;have hn:∀j,a+1<=j->j < p.en a->p.en j<=p.en a:=hp.nest a ha;have h1:=ah (s:=s) hf h5 hn g n len;have al:nu p a < 3:=(rg (hp.x a ha)).2.2;cases af:Nat.beq (nu p a) 0 with
 |true=>
  have ae:Nat.beq (nu p a) 2=zH:=by rw[eL af];rfl
  rw[show Nat.beq (p.X a).2.2 0=zG from af,Bool.true_or,if_pos rfl];exact h1.conv (λc=>by rw[Bool.not_true,Bool.false_and,iW]) λab c t ab ab=>by rw[ae,Bool.false_and,og]
 |false=>
  cases he:Nat.beq (p.en a) (a+1) with
  |true=>
   have aj:=eL he;rw[pG,if_pos rfl];exact h1.conv (λc=>by rw[aj];unfold Fu;rw[ol f (aJ _)];exact(by cases decide (c∈st.1)<;>rfl)) λab c t h1 h2=>absurd (aj▸h2) (bP.mpr h1)
  |false=>
   rw[show Nat.beq (p.X a).2.2 0=zH from af,iW,if_neg aU];have ai:∀s',_:=λs'=>uX (s':=s') ah hf h5 hn g n len;cases s with
   |false=>exact(ai zH).conv (λc=>by rw[Bool.not_false,fQ]) λq=>nomatch q
   |true=>
    cases ag:Nat.beq (p.X a).2.2 1 with
    |true=>
     have ae:Nat.beq (nu p a) 2=zH:=by
      show Nat.beq (p.X a).2.2 2=zH;rw[eL ag];rfl
     rw[show wF zG (p.X a).2.2= [zG] by unfold wF;rw[ag];rfl];exact(ai zG).conv (λc=>by rw[Bool.not_false,fQ]) λab c t ab ab=>by rw[ae,Bool.false_and,og]
    |false=>
     have ae:Nat.beq (nu p a) 2=zG:=by
      have ak:Nat.beq (nu p a) 1=zH:=ag;exact j0 (P:=λm=>Nat.beq m 0=zH->Nat.beq m 1=zH->Nat.beq m 2=zG) (j0 (j0 Ec λh ab=>tf h) λab h=>tf h) (λab ab=>rfl) _ al af ak
     rw[show wF zG (p.X a).2.2= [zH,zG] by unfold wF;rw[ag];rfl];have r1:=ai zH;have r2:=uX (s':=zG) ah hf h5 hn r1.g r1.n r1.len;have en:(C5 p f a st zH).2=st.2:=rfl;rw[en] at r2;refine r2.conv (λc=>?_) λab c t ab ab=>?_
     ·rw[r1.z,Bool.not_false,fQ];generalize decide (c∈st.1)=y;cases hy:(y || Fu p c f (a+1) (p.en a) y) with
      |true=>rfl
      |false=>
       have h2:=eT.mp hy;rw[iW];rw[h2.1] at h2;exact h2.2
     ·rw[r1.z,ae,fQ]
end
section
variable{p:Pg}{s s':Bool}{a e f:Nat}{st:WT}
theorem Ce{l m:List (List B)}(h:l[t]? =m[t]?):l.getD t []=m.getD t []:=by
 rw[aI,aI,h]
theorem Df(hp:p.Ok):∀f,H5 p f:=by
 intro f;induction f with
 |zero=>
  intro s a e st hf h5 hn g n len;exact⟨g,n,len,λY=>rfl,λY Y=>rfl,λY=>rfl,λY t h1 h2=>sc hf h1 h2⟩
 |succ f ih=>
  intro s a e st hf h5 hn g n len;by_cases B:a < e
  ·have ha:a < 5:=aT B h5;have ag:=hp.lt a ha;have ah:=hn a (aJ _) B;let aa:WT:=(k8 (p.X a) a st.1,if s then st.2.set a st.1 else st.2);have hd:=z7 hp ha g;have n1:∀l∈aa.2,j6 p l:=λl hl=>by
    have hl:l∈(if s then st.2.set a st.1 else st.2):=hl;cases s with
    |true=>exact(List.mem_or_eq_of_mem_set hl).elim (n l) λe=>e▸g
    |false=>exact n l hl
   have aj:aa.2.length=5:=by
    show(if s then st.2.set a st.1 else st.2).length=5;cases s with
    |true=>(refine Eq.symm (if_pos rfl)▸?_;refine Eq.symm (i7)▸?_);exact len
    |false=>exact len
   have ak:∀t,t≠a->aa.2[t]? =st.2[t]? :=λt ht=>by
    show(if s then st.2.set a st.1 else st.2)[t]? =_;cases s with
    |true=>refine Eq.symm (if_pos rfl)▸?_;exact bU (Ne.symm ht)
    |false=>rfl
   have bl:=xC (s:=s) ih hp ha (s2 hf ah) hd.1 n1 aj;have ae:wl p (f+1) s a e st=wl p f s (p.en a) e (if Nat.beq (p.X a).2.2 0 || Nat.beq (p.en a) (a+1) then wl p f s (a+1) (p.en a) aa else (wF s (p.X a).2.2).foldl (C5 p f a) aa):=if_pos B;refine ae.symm▸?_;have zb:=bl.z;have J:=ih (s:=s) (s1 hf ag) h5 (λj h1 h2=>hn j (aA (bA (by assumption)) (by assumption)) h2) bl.g bl.n bl.len;have af:∀c,decide (c∈aa.1)=wk (As p c) (um p c) a (decide (c∈st.1)):=hd.2;refine⟨J.g,J.n,J.len,λc=>?_,λt ht=>?_,λq=>?_,λq t h1 h2 c=>?_⟩
   ·rw[J.z,zb,af];exact(tc B).symm
   ·(refine Eq.symm (J.off t λq=>ht ⟨aA (bA ag) q.1,q.2⟩)▸?_;refine Eq.symm (bl.off t λq=>ht ⟨bW q.1,aT q.2 ah⟩)▸?_;refine Eq.symm (ak t λq=>ht ⟨bJ q.symm,q▸B⟩)▸?_;with_reducible rfl)
   ·(refine Eq.symm (J.no q)▸?_;refine Eq.symm (bl.no q)▸?_)
    show(if s then st.2.set a st.1 else st.2)=st.2;refine q.symm▸?_;rfl
   ·show _=nb (As p c) (um p c) (nu p) p.en (f+1) a e (decide (c∈st.1)) t;refine Eq.symm (kM B)▸?_;by_cases ai:t=a
    ·clear hf hn B ah hd n1 aj ak ae zb af h1;subst ai
     (refine Eq.symm (if_pos rfl)▸?_;refine Eq.symm (Ce ((J.off t λq=>kC.mpr ag q.1).trans (bl.off t λq=>Nat.not_succ_le_self t q.1)))▸?_)
     have:aa.2.getD t []=st.1:=by
      show(if s then st.2.set t st.1 else st.2).getD t []=_
      (refine q.symm▸?_;refine Eq.symm (if_pos rfl)▸?_;refine Eq.symm (aI)▸?_;refine Eq.symm (eY (by rw[len];exact ha))▸?_);rfl
     (refine this.symm▸?_;with_reducible rfl)
    ·refine Eq.symm (if_neg ai)▸?_;by_cases ab:t < p.en a
     ·rw[if_pos ab,Ce (J.off t λq=>kC.mpr ab q.1),bl.nb q t (Nat.lt_of_le_of_ne h1 (Ne.symm ai)) ab c,af];rfl
     ·rw[if_neg ab,J.nb q t (bK ab) h2 c,zb,af];rfl
  ·have ae:wl p (f+1) s a e st=st:=if_neg B;refine ae.symm▸?_;exact⟨g,n,len,λc=>(ol _ (bK B)).symm,λY Y=>rfl,λY=>rfl,λY t h1 h2=>absurd (aK h1 h2) B⟩
end
structure Cl(p:Pg)(c:P)(R:Nat->Prop):Prop where
 i:c∈L0->R 0
 w:∀t,t < 5->(R t/\As p c t=zG)\/um p c t=zG->∀u∈f9 p t,R u
section
variable{X:Nat->Nat×Nat×Nat}{Ld:Nat->Txt}{c:P}{t k:Nat}
theorem Eo(p:Pg):j6 p L0:=⟨λq hq=>pJ.mpr (.inl hq),yq.2⟩
theorem kP(B:nw X Ld):WR (pz X Ld) zG 0 5 (List.replicate 5 []) (λc=>Fu (pz X Ld) c 5 0 5 (decide (c∈L0))) (λc t=>IW (pz X Ld) c 5 0 5 (decide (c∈L0)) t) (qM X Ld):=
 Df (jX B) 5 (st:=(L0,List.replicate 5 [])) (aJ _) (aJ _) (λj aa J=>(jX B).le j J) (Eo _) (λl Y=>by rw[List.eq_of_mem_replicate Y];exact⟨λq hq=>(nomatch hq),List.nodup_nil⟩) rfl
theorem AG(p:Pg):yX p (Ap p) 0 5 [5] 0:=⟨λh J B=>absurd B (gC h),aJ _,.inl ⟨rfl,rfl,rfl⟩⟩
theorem vp(B:nw X Ld)(J:k < 5):(jY X Ld).getD k []=(qM X Ld).2.getD k []:=by
 unfold jY;rw[aI,bM (by rw[(kP B).len];exact J),<-aI]
theorem sj(B:nw X Ld):(jY X Ld).getD 5 []=(qM X Ld).1:=by
 unfold jY;rw[aI,bG (by rw[(kP B).len];exact aJ _),(kP B).len];rfl
theorem qo(B:nw X Ld)(Y:k < 6):j6 (pz X Ld) ((jY X Ld).getD k []):=by
 rcases gf (cG Y) with h| h
 ·rw[vp B h,aI];have J:k < (qM X Ld).2.length:=by rw[(kP B).len];exact h
  rw[aM J];exact(kP B).n _ (gY J)
 ·rw[h,sj B];exact(kP B).g
def vv(p:Pg)(c:P)(t:Nat):Bool:=if t < 5 then IW p c 5 0 5 (decide (c∈L0)) t else Fu p c 5 0 5 (decide (c∈L0))
theorem sk(B:nw X Ld)(J:k < 6):c∈(jY X Ld).getD k []↔vv (pz X Ld) c k=zG:=by
 unfold vv;rcases gf (cG J) with h| h
 ·rw[vp B h,if_pos h,<-(kP B).nb rfl k (cK _) h c,decide_eq_true_iff]
 ·rw[h,sj B,if_neg (cD 5),<-(kP B).z c,decide_eq_true_iff]
theorem tK(B:nw X Ld):Cl (pz X Ld) c (λt=>vv (pz X Ld) c t=zG) where
 i:=λh=>by
  unfold vv;rw[if_pos (by decide),decide_eq_true h];exact tM (by decide) (aJ _)
 w:=λt J h=>vS (jX B) (n:=vv (pz X Ld) c) 5 (aJ _) (AG _) (λt aa Y=>if_pos Y) (λq u hu=>by
   rw[aH.mp hu];exact(if_neg (cD 5)).trans q) t (cK _) J (by
   unfold wk;exact h.elim (λh=>by rw[h.1,h.2];rfl) λh=>by rw[h,pG])
theorem vn(hs:nw X Ld)(J:Cl (pz X Ld) c R)(hk:k < 6)(h:vv (pz X Ld) c k=zG):R k:=by
 have Y:=vW (jX hs) (λt ht y hy hw u hu=>by
  unfold wk at hw;refine J.w t ht ?_ u hu;exact(dL.mp hw).elim (λh=>.inl ⟨hy (hY h).1,(hY h).2⟩) .inr) 5 (aJ _) (AG _) (λaa q=>J.i (of_decide_eq_true q)) λq=>absurd q (by decide)
 unfold vv at h;rcases gf (cG hk) with B| B
 ·rw[if_pos B] at h;exact Y.1 k (cK _) B h
 ·rw[B] at h⊢;rw[if_neg (cD 5)] at h;exact Y.2 h 5 (.head _)
end
theorem Cm(h:∀x,q x=zG->p x=zG):∀l:List Nat,(l.filter q).length<=(l.filter p).length:=by
 intro l;induction l with
 |nil=>exact aJ _
 |cons a l B=>
  cases hq:q a with
  |true=>
   rw[dK hq,dK (h a hq)];exact cH (B)
  |false=>
   rw[fB (by rw[hq];exact aU)];cases J:p a with
   |true=>rw[dK J];exact dT (B)
   |false=>rw[fB (by rw[J];exact aU)];exact B
theorem xj(h:∀x,q x=zG->p x=zG)(hp:p x=zG)(hq:q x=zH):∀ {l:List Nat},x∈l->(l.filter q).length < (l.filter p).length:=by
 intro l;induction l with
 |nil=>exact λh=>nomatch h
 |cons a l B=>
  intro Y;rcases aX.mp Y with e| Y
  ·rw[<-e,dK hp,fB (by rw[hq];exact aU)];exact eN (Cm h l)
  ·replace B:=B Y;cases J:q a with
   |true=>
    rw[dK J,dK (h a J)];exact Nat.succ_lt_succ B
   |false=>
    rw[fB (by rw[J];exact aU)];cases aa:p a with
    |true=>rw[dK aa];exact cX B
    |false=>rw[fB (by rw[aa];exact aU)];exact B
noncomputable def H9(c:P)(B:List (List P)):Nat:=((List.range 6).filter λt=>decide (c ∉ B.getD t [])).length
section
variable{p:Pg}{c:P}{B J:List (List P)}{Q first:List Nat}{t u:Nat}
theorem Gl(Y:t < 5):(f9 p t).length<=8:=by
 have h1:=qx (p:=p) (i:=t) (qw (p:=p) t);have h2:=tW p t;unfold f9 Du;split
 ·rw[aF];exact aA (bY h2 h1) (aA (Nat.add_le_add_left (bS (cG Y) 2) 1) (by decide))
 ·exact aA (by assumption) (by decide)
theorem LM(hp:p.Ok):∀ {i},i<=5->∀l∈jy p i,∀u∈l,u<=5:=by
 intro i;induction i with
 |zero=>exact λab l h=>nomatch h
 |succ i aa=>
  exact λhi l h=>(aO.mp h).elim (aa (bW hi) l) λh=>by
   rw[aH.mp h];have ih:=aa (bW hi);have he:=hp.le i hi;unfold rL;cases hk:(xJ p.en i).getLast? with
   |none=>exact λu Y=>by rw[aH.mp Y];exact he
   |some b=>
    dsimp only;have hb:=F0 hk;cases Nat.beq (p.en i) (p.en b) with
    |false=>
     rw[if_neg aU];exact λu Y=>by rw[aH.mp Y];exact he
    |true=>
     rw[if_pos rfl];intro u Y;rcases aO.mp Y with Y| Y
     ·rw[aI] at Y;cases hl:(jy p i)[b]? with
      |none=>rw[hl] at Y;exact nomatch Y
      |some l=>rw[hl] at Y;exact ih l (bF hl) u Y
     ·cases hm:Nat.beq (p.X b).2.2 2 with
      |true=>rw[hm,if_pos rfl] at Y;rw[aH.mp Y];exact aA hb.1 (bW hi)
      |false=>rw[hm,if_neg aU] at Y;exact nomatch Y
theorem Gm(hp:p.Ok)(ht:t < 5):∀u∈f9 p t,u<=5:=λu Y=>by
 rcases km.mp Y with⟨e,_⟩| ⟨_,Y⟩
 ·exact e▸ht
 ·exact LM hp (show t+1<=5 from ht) _ (aL _ (.head _)) u Y
def SR(p:Pg)(c:P)(first:List Nat)(R:Nat->Prop):Prop:=(∀u∈first,R u)/\∀t,t < 5->R t->As p c t=zG->∀u∈f9 p t,R u
structure SI(p:Pg)(c:P)(first:List Nat)(D0:List (List P))(Q:List Nat)(due:List (List P)):Prop where
 len:due.length=6
 e:∀t,t < 6->due.getD t []=D0.getD t []\/due.getD t []=D0.getD t []++ [c]
 q5:∀u∈Q,u<=5
 inn:∀R,SR p c first R->(∀u∈Q,R u)/\∀t,t < 6->c∈due.getD t []->R t
 fst:∀u∈first,c∈due.getD u []\/u∈Q
 cl:∀t,t < 5->c∈due.getD t []->As p c t=zG->∀u∈f9 p t,c∈due.getD u []\/u∈Q
theorem yA(Y:t < 5):qI p c.1 t=As p c t:=by
 unfold qI;rw[show Nat.blt t 5=zG from Nat.blt_eq.mpr Y,fQ];rfl
theorem Im(h:q+1+9*u < k+1)(Y:v < u)(h2:l<=8):q+l+9*v < k:=
 cO (aK (bJ (gQ q l (9*v))) (Nat.add_lt_add_left (aT (Nat.add_lt_add_right (eN h2) (9*v)) (aA (bJ (iB 9 (9*v))) (f4 9 Y))) q)) (Nat.lt_of_succ_lt_succ (aK (bJ (Nat.add_right_comm q (9*u) 1)) h))
theorem Dy(hp:p.Ok)(hc:∀t,t < 6->c ∉ J.getD t [])(hl:∀t,t < 6->(J.getD t []).length<=100):∀(k:Nat) {Q:List Nat} {B:List (List P)},Q.length+9*H9 c B < k->k<=1000->SI p c first J Q B->∃F,pw p c k Q B=U F/\SI p c first J [] F:=by
 intro k;induction k with
 |zero=>intro Q B h;exact absurd h (gC _)
 |succ k ih=>
  intro Q B hm hk zE;show∃F,uZ p c (pw p c k) Q B=U F/\_;unfold uZ;cases ak:Q.getLast? with
  |none=>
   have e0:=List.getLast?_eq_none_iff.mp ak;rw[e0] at zE;exact(cU B rfl zE)
  |some t=>
   obtain⟨Q',rfl⟩:∃Q',Q=Q'++ [t]:=List.getLast?_eq_some_iff.mp ak;rw[aF] at hm;have ah:t<=5:=zE.q5 t (aL _ (.head _));have ae:t < 6:=eN ah;have al:(B.getD t []).length<=1000:=by
    have:=hl t ae;rcases zE.e t ae with e| e
    ·rw[e];exact aA (by assumption) (by decide)
    ·rw[e,aF];show _+1<=_;exact aK (by assumption) (by decide)
   have ai:Q'.length+1+9*H9 c B < k+1:=hm;dsimp only;rw[if_pos ⟨ah,by rw[aF];show Q'.length+1<=1000;exact aA (cG (aK (bL _ _) ai)) (bW hk),al⟩,kZ];by_cases aa:c∈B.getD t []
   ·rw[if_pos aa];have drop:∀u,c∈B.getD u []\/u∈Q'++ [t]->c∈B.getD u []\/u∈Q':=λu h=>h.elim .inl λh=>(aO.mp h).elim .inr λh=>.inl (aH.mp h▸aa);exact ih (Nat.lt_of_succ_lt_succ (Nat.succ_add .. ▸ai)) (bW hk) ⟨zE.len,zE.e,λu Y=>zE.q5 u (aP _ Y),λR af=>⟨λu Y=>(zE.inn R af).1 u (aP _ Y),(zE.inn R af).2⟩,λu Y=>drop u (zE.fst u Y),λt h1 h2 h3 u Y=>drop u (zE.cl t h1 h2 h3 u Y)⟩
   ·rw[if_neg aa];have ag:∀u,(B.set t (B.getD t []++ [c])).getD u []=if u=t then B.getD t []++ [c] else B.getD u []:=λu=>by
     by_cases h:u=t
     ·rw[if_pos h,h,aI,eY (by rw[zE.len];exact ae)];rfl
     ·rw[if_neg h,aI,bU (Ne.symm h),<-aI]
    have ab:∀u,c∈(B.set t (B.getD t []++ [c])).getD u []↔c∈B.getD u []\/u=t:=λu=>by
     rw[ag];by_cases h:u=t
     ·rw[if_pos h];exact⟨λaq=>.inr h,λaq=>aL _ (.head _)⟩
     ·rw[if_neg h];exact⟨.inl,λq=>q.elim id λq=>absurd q h⟩
    have am:H9 c (B.set t (B.getD t []++ [c])) < H9 c B:=by
     unfold H9;refine xj (λx hx=>?_) (decide_eq_true aa) (decide_eq_false λh=>h ((ab t).mpr (.inr rfl))) (bN.mpr ae);have hx:=of_decide_eq_true hx;exact decide_eq_true λh=>hx ((ab x).mpr (.inl h))
    have aj:∀u∈(if qI p c.1 t then f9 p t else []),t < 5/\As p c t=zG/\u∈f9 p t:=λu Y=>by
     cases hg:qI p c.1 t with
     |false=>rw[hg,if_neg aU] at Y;exact nomatch Y
     |true=>
      rw[hg,if_pos rfl] at Y;have ht:t < 5:=Nat.blt_eq▸(hY hg).1;exact⟨ht,yA ht▸hg,Y⟩
    have ao:(if qI p c.1 t then f9 p t else []).length<=8:=by
     cases hg:qI p c.1 t with
     |false=>rw[if_neg aU];exact cK _
     |true=>
      rw[if_pos rfl];exact Gl (Nat.blt_eq▸(hY hg).1)
    have up:∀u,c∈B.getD u []\/u∈Q'++ [t]->c∈(B.set t (B.getD t []++ [c])).getD u []\/u∈Q'++(if qI p c.1 t then f9 p t else []):=λu h=>by
     rw[ab];exact h.elim (λh=>.inl (.inl h)) λh=>(aO.mp h).elim (λh=>.inr (aP _ h)) λh=>.inl (.inr (aH.mp h))
    refine ih (by rw[aF];exact Im ai am ao) (bW hk) ⟨by rw[i7];exact zE.len,λu Y=>?_,λu Y=>?_,λR af=>?_,λu Y=>up u (zE.fst u Y),λs h1 h2 h3 u Y=>?_⟩
    ·rw[ag];by_cases h:u=t
     ·rw[if_pos h,h];refine .inr ?_;rcases zE.e t ae with e| e
      ·rw[e]
      ·exact absurd (e▸aL _ (.head _)) aa
     ·rw[if_neg h];exact zE.e u Y
    ·rcases aO.mp Y with Y| Y
     ·exact zE.q5 u (aP _ Y)
     ·exact pc (aj u Y) λh1 aq h3=>Gm hp h1 u h3
    ·have h1:=zE.inn R af;have ap:R t:=h1.1 t (aL _ (.head _));refine⟨λu Y=>?_,λu Y ar=>?_⟩
     ·rcases aO.mp Y with Y| Y
      ·exact h1.1 u (aP _ Y)
      ·exact pc (aj u Y) λa b d=>af.2 t a ap b u d
     ·exact((ab u).mp ar).elim (h1.2 u Y) λe=>e▸ap
    ·rcases(ab s).mp h2 with h| h
     ·exact up u (zE.cl s h1 h h3 u Y)
     ·clear hm zE ak ah ae al aa ag ab am aj ao up h2;subst h;refine .inr (aL _ ?_);rw[yA h1,h3,if_pos rfl];exact Y
end
section
variable{p:Pg}{c:P}{i j t u k n:Nat}{s:SS}
theorem AA(Y:i < 5)(hj:j < 5)(h1:c∈(hP p i).map jA)(h2:c∈(hP p j).map jA):i=j:=by
 rcases lF h1 with J| ⟨b,J⟩
 ·rcases lF h2 with B| ⟨b',B⟩
  ·have:=(List.cons.inj (J.symm.trans B)).1;exact lz this
  ·exact absurd (J.symm.trans B) (qS i Y j hj b')
 ·rcases lF h2 with B| ⟨b',B⟩
  ·exact absurd (B.symm.trans J) (qS j hj i Y b)
  ·exact(vB i Y j hj b b' (J.symm.trans B)).1
theorem w5(B:i < 5)(Y:c∈L0)(h2:c∈(hP p i).map jA):False:=by
 have J:=BS Y;rcases lF h2 with e| ⟨b,e⟩
 ·exact(xF i B).1 (J.symm.trans e)
 ·exact(xF i B).2 b (J.symm.trans e)
theorem Gn:∀ {n:Nat},n<=5->((kE p n).map jA).Nodup:=by
 intro n;induction n with
 |zero=>exact λab=>yq.2
 |succ n aa=>
  intro h;show((kE p n++hP p n).map jA).Nodup;rw[dP];refine List.nodup_append.mpr ⟨aa (bW h),?_,λa ha b J e=>?_⟩
  ·exact wx (zB:=λl=>(l.map jA).Nodup) (jl _ _) (jl _ _) List.nodup_nil
  ·subst e;rcases pJ.mp ha with B| ⟨i,Y,B⟩
   ·exact w5 h B J
   ·exact bT Y (AA (cO Y h) h B J)
theorem nD:∀ {n:Nat},s∈kE p n->(jA s∈L0/\s.2.2= [0])\/∃i,i < n/\jA s∈(hP p i).map jA/\s.2.2=f9 p i:=by
 intro n;induction n with
 |zero=>
  intro h;rcases aX.mp h with h| h
  ·rw[h];exact .inl ⟨.head _,rfl⟩
  ·rw[aH.mp h];exact .inl ⟨.tail _ (.head _),rfl⟩
 |succ n B=>exact λh=>(aO.mp h).elim (λh=>(B h).imp id λ⟨i,J,Y⟩=>⟨i,cX J,Y⟩) λh=>.inr ⟨n,bQ n,cC.mpr ⟨s,h,rfl⟩,tm h (λe=>e▸rfl) λe=>e▸rfl⟩
structure DI(p:Pg)(j:Nat)(zC:List (List P)):Prop where
 len:zC.length=6
 nd:∀t,t < 6->(zC.getD t []).Nodup/\∀q∈zC.getD t [],q∈((kE p 5).take j).map jA
 cl:∀i s,i < j->(kE p 5)[i]? =U s->SR p (jA s) s.2.2 (λt=>jA s∈zC.getD t [])/\∀R,SR p (jA s) s.2.2 R->∀t,t < 6->jA s∈zC.getD t []->R t
theorem EW:DI p 0 (ix p 0) where
 len:=rfl
 nd:=λt B=>by
  have:(ix p 0).getD t []= []:=by
   show(List.replicate 6 ([]:List P)).getD t []= [];rw[aI,List.getElem?_replicate,if_pos B];rfl
  rw[this];exact⟨List.nodup_nil,λq hq=>nomatch hq⟩
 cl:=λi s h=>absurd h (gC i)
theorem HI(h:DI p j Y)(B:t < 6):(Y.getD t []).length<=7:=by
 have J:=(h.nd t B).1.length_le_of_subset (h.nd t B).2;rw[aD,List.length_take] at J;exact aA J (aA (gW ..) (pK 5))
theorem vM(B:p.Ok)(h:s∈kE p 5):s.2.2.length<=10/\∀u∈s.2.2,u<=5:=by
 refine⟨AU (aJ 5) s h,?_⟩;rcases nD h with⟨_,e⟩| ⟨i,J,_,e⟩
 ·rw[e];intro u Y;rw[aH.mp Y];exact cK _
 ·rw[e];exact Gm B J
theorem yL(hp:p.Ok)(hs:(kE p 5)[j]? =U s)(zE:DI p j (ix p j)):(∃F,pw p (s.1,s.2.1) 1000 s.2.2 (ix p j)=U F)/\DI p (j+1) (ix p (j+1)):=by
 have hj:=aZ hs;have ak:=bF hs;have tk:((kE p 5).take (j+1)).map jA=((kE p 5).take j).map jA++ [jA s]:=by rw[fT,hs,dP];rfl
 have ag:jA s ∉ ((kE p 5).take j).map jA:=λh=>by
  have:=(Gn (aJ 5)).sublist ((List.take_sublist (j+1) (kE p 5)).map jA);rw[tk] at this;exact(List.nodup_append.mp this).2.2 _ h _ (.head _) rfl
 have hc:∀t,t < 6->jA s ∉ (ix p j).getD t []:=λt B h=>ag ((zE.nd t B).2 _ h);have hf:=vM hp ak;have aj:SI p (jA s) s.2.2 (ix p j) s.2.2 (ix p j):=⟨zE.len,λt ao=>.inl rfl,hf.2,λR ab=>⟨ab.1,λt B h=>absurd h (hc t B)⟩,λu J=>.inr J,λt B h=>absurd h (hc t (cX B))⟩;have ai:H9 (jA s) (ix p j)<=6:=aA (gi _ _) (by rw[aQ];exact aJ _);refine cJ (Dy hp hc (λt B=>aA (HI zE B) (by decide)) 1000 (aK (bY hf.1 (f4 9 ai)) (by decide)) (aJ _) aj) λF ah Y=>⟨⟨F,ah⟩,?_⟩;have e1:ix p (j+1)=F:=by
  rw[sP hs];unfold EV;rw[show pw p (s.1,s.2.1) 1000 s.2.2 (ix p j)=U F from ah];rfl
 rw[e1];refine⟨Y.len,λt B=>?_,λi s' hi aa=>?_⟩
 ·rw[tk];rcases Y.e t B with e| e
  ·rw[e];exact⟨(zE.nd t B).1,λq hq=>aP _ ((zE.nd t B).2 q hq)⟩
  ·rw[e];exact⟨mr (zE.nd t B).1 (hc t B),λq hq=>(aO.mp hq).elim (λh=>aP _ ((zE.nd t B).2 q h)) λh=>aL _ h⟩
 ·rcases gf (cG hi) with h| h
  ·have al:jA s'≠jA s:=λe=>ag (e▸cC.mpr ⟨s',bF (by rw[List.getElem?_take,if_pos h];exact aa),rfl⟩);have ae:∀t,t < 6->(jA s'∈F.getD t []↔jA s'∈(ix p j).getD t []):=λt B=>by
    rcases Y.e t B with e| e
    ·rw[e]
    ·rw[e,aO];exact⟨λq=>q.elim id λq=>absurd (aH.mp q) al,.inl⟩
   have af:=zE.cl i s' h aa;have am:=vM hp (bF aa);refine⟨⟨λu J=>(ae u (eN (am.2 u J))).mpr (af.1.1 u J),λt B hm hg u J=>(ae u (eN (Gm hp B u J))).mpr (af.1.2 t B ((ae t (cX B)).mp hm) hg u J)⟩,λR ab t B hm=>af.2 R ab t B ((ae t B).mp hm)⟩
  ·clear zE hj tk ag hc aj ai ah e1 hi;subst h;rw[hs] at aa;obtain rfl:=aC aa;exact⟨⟨λu J=>(Y.fst u J).elim id λq=>(nomatch q),λt B hm hg u J=>(Y.cl t B hm hg u J).elim id λq=>(nomatch q)⟩,λR ab=>(Y.inn R ab).2⟩
theorem CB(J:p.Ok):∀j,j<=(kE p 5).length->DI p j (ix p j):=by
 intro j;induction j with
 |zero=>exact λY=>EW
 |succ j B=>exact λh=>(yL J (aM h) (B (bW h))).2
end
section
variable{X:Nat->Nat×Nat×Nat}{Ld:Nat->Txt}{p:Pg}{c:P}{i j t u k n:Nat}{s:SS}
theorem yT(B:t < 5):um p c t=zG↔c∈(hP p t).map jA:=decide_eq_true_iff
theorem IA(h:s∈kE p 5)(J:SR p (jA s) s.2.2 R):Cl p (jA s) R where
 i:=λY=>by
  rcases nD h with⟨_,e⟩| ⟨i,hi,h1,_⟩
  ·exact J.1 0 (e▸.head _)
  ·exact(w5 hi Y h1).elim
 w:=λt B q u hu=>by
  rcases q with q| q
  ·exact J.2 t B q.1 q.2 u hu
  ·have q:=(yT B).mp q;rcases nD h with⟨Y,_⟩| ⟨i,hi,h1,e⟩
   ·exact(w5 B Y q).elim
   ·rw[AA B hi q h1] at hu;exact J.1 u (e▸hu)
theorem Jq(h:s∈kE p 5)(J:Cl p (jA s) R):SR p (jA s) s.2.2 R:=by
 refine⟨λu B=>?_,λt ht hr hg u B=>J.w t ht (.inl ⟨hr,hg⟩) u B⟩;rcases nD h with⟨h0,e⟩| ⟨i,Y,h1,e⟩
 ·rw[e] at B;rw[aH.mp B];exact J.i h0
 ·rw[e] at B;exact J.w i Y (.inr ((yT Y).mpr h1)) u B
theorem xm(B:nw X Ld):DI (pz X Ld) (kE (pz X Ld) 5).length (CA X Ld):=CB (jX B) _ (aJ _)
theorem A2(J:nw X Ld)(Y:k < 6)(c:P):c∈(jY X Ld).getD k []↔c∈(CA X Ld).getD k []:=by
 have aa:=xm J;have at_:∀ {c},c∈IB (pz X Ld)->∃i s,(kE (pz X Ld) 5)[i]? =U s/\jA s=c:=λh=>mm h λs h1 h2=>dS (hM.mp h1) λi B=>(rO i s B h2);constructor
 ·intro h;refine je (at_ ((qo J Y).1 c h)) λi s B e=>?_;subst e;have hc:=aa.cl i s (aZ B) B;exact vn J (IA (bF B) hc.1) Y ((sk J Y).mp h)
 ·intro h;have h':=(aa.nd k Y).2 c h;rw[gd] at h';refine je (at_ h') λi s B e=>?_;clear h';subst e;have hc:=aa.cl i s (aZ B) B;exact(sk J Y).mpr (hc.2 (λt=>vv (pz X Ld) (jA s) t=zG) (Jq (bF B) (tK J)) k Y h)
end
noncomputable def w9(a:Nat):List Nat->List (List Nat)
 |[]=>[[a]]
 |b::l=>(a::b::l)::(w9 a l).map (λB=>b::B)
noncomputable def lK:Nat->List (List Nat)
 | 0=>[[]]
 |n+1=>(lK n).flatMap (w9 n)
noncomputable def gE(l:List Nat):Nat->Nat:=List.rec (λB=>0) (λa B f i=>Nat.rec a (λj B=>f j) i) l
noncomputable def tN:List Nat->List Nat->Bool
 |[],l=>l.isEmpty
 |a::r,l=>match l with
  |[]=>zH
  |b::q=>Nat.beq a b&&tN r q
noncomputable def o8{B:Type}(l:List B)(f:List B->Bool):Bool:=match l with
 |[]=>zG
 |a::r=>f (a::r)
def wc(n:Nat)(Y:List Nat)(t:PySem.W.KasT (Array Nat)):List (List Nat)->Bool:=
 PySem.W.KasT.rec (motive:=λaa=>List (List Nat)->Bool) (λa B=>Nat.ble a.toList.length 64&&(a.toList.all (λi=>Nat.blt i n)&&B.all λr=>tN (a.toList.map (gE r)) Y))
  (λi j aa J B=>(Nat.blt i n&&Nat.blt j n)&&(o8 (B.filter λr=>Nat.blt (gE r i) (gE r j)) (J zG)&&o8 (B.filter λr=>!Nat.blt (gE r i) (gE r j)) (J zH))) t
theorem c2:wc 2 (List.range 2) (PySem.W.kas_sort 2) (lK 2)=zG:=by kernel_rfl
theorem c3:wc 3 (List.range 3) (PySem.W.kas_sort 3) (lK 3)=zG:=by kernel_rfl
theorem c4:wc 4 (List.range 4) (PySem.W.kas_sort 4) (lK 4)=zG:=by kernel_rfl
theorem c5:wc 5 (List.range 5) (PySem.W.kas_sort 5) (lK 5)=zG:=by kernel_rfl
theorem c6:wc 6 (List.range 6) (PySem.W.kas_sort 6) (lK 6)=zG:=by kernel_rfl
def Jj(b:Bool)(q:PySem.W.KasT (Array Nat)×List (List Nat)):PySem.W.KasT (Array Nat)×List (List Nat):=
 PySem.W.KasT.rec (motive:=λB=>PySem.W.KasT (Array Nat)×List (List Nat)) (λB=>q) (λi j k B=>(k b,q.2.filter λr=>bif b then Nat.blt (gE r i) (gE r j) else !Nat.blt (gE r i) (gE r j))) q.1
def CQ:List Bool->PySem.W.KasT (Array Nat)×List (List Nat)
 |[]=>(PySem.W.kas_sort 7,lK 7)
 |b::p=>Jj b (CQ p)
def KZ(t:PySem.W.KasT (Array Nat)):Bool:=PySem.W.KasT.rec (motive:=λB=>Bool) (λB=>zH) (λi j B B=>Nat.blt i 7&&Nat.blt j 7) t
def C7(p:List Bool):Bool:=wc 7 (List.range 7) (CQ p).1 (CQ p).2
theorem vj{B:Type}{l:List B}{f:List B->Bool}(h:f l=zG):o8 l f=zG:=by
 cases l with
 |nil=>rfl
 |cons a l=>exact h
theorem wo{p:List Bool}(h:KZ (CQ p).1=zG)(a:C7 (zG::p)=zG)(b:C7 (zH::p)=zG):C7 p=zG:=by
 have a:wc 7 (List.range 7) (Jj zG (CQ p)).1 (Jj zG (CQ p)).2=zG:=a;have b:wc 7 (List.range 7) (Jj zH (CQ p)).1 (Jj zH (CQ p)).2=zG:=b;show wc 7 (List.range 7) (CQ p).1 (CQ p).2=zG;generalize CQ p=q at h a b⊢;obtain⟨t,B⟩:=q;cases t with
 |ret _=>exact ft h
 |ask i j k=>
  show((Nat.blt i 7&&Nat.blt j 7)&&(o8 (B.filter λr=>Nat.blt (gE r i) (gE r j)) (wc 7 (List.range 7) (k zG))&&o8 (B.filter λr=>!Nat.blt (gE r i) (gE r j)) (wc 7 (List.range 7) (k zH))))=zG;exact(dR _ _).mpr ⟨h,(dR _ _).mpr ⟨vj a,vj b⟩⟩
theorem d0:C7 [zG,zG,zG]=zG:=by kernel_rfl
theorem d1:C7 [zG,zG,zH]=zG:=by kernel_rfl
theorem d2:C7 [zG,zH,zG]=zG:=by kernel_rfl
theorem d3:C7 [zG,zH,zH]=zG:=by kernel_rfl
theorem d4:C7 [zH,zG,zG]=zG:=by kernel_rfl
theorem d5:C7 [zH,zG,zH]=zG:=by kernel_rfl
theorem d6:C7 [zH,zH,zG]=zG:=by kernel_rfl
theorem d7:C7 [zH,zH,zH]=zG:=by kernel_rfl
theorem c7:C7 []=zG:=wo rfl
 (wo rfl (wo rfl d0 d4) (wo rfl d2 d6))
 (wo rfl (wo rfl d1 d5) (wo rfl d3 d7))
theorem Bu:∀ {a b:List Nat},tN a b=zG->a=b:=by
 intro a;induction a with
 |nil=>
  intro b h;exact(oV.mp h).symm
 |cons x a B=>
  intro b h;cases b with
  |nil=>exact ft h
  |cons y b=>
   have h:=hY h;rw[eL h.1,B h.2]
theorem yd{B:Type}{l:List B}{f:List B->Bool}(h:o8 l f=zG){r:B}(J:r∈l):f l=zG:=by
 cases l with
 |nil=>exact nomatch J
 |cons a l=>exact h
theorem Js{n:Nat}{J r:List Nat}(t:PySem.W.KasT (Array Nat)):∀ {B:List (List Nat)},wc n J t B=zG->r∈B->∃a,jN n (λi j=>Nat.blt (gE r i) (gE r j)) t=U a/\a.toList.length<=64/\(∀i∈a.toList,i < n)/\a.toList.map (gE r)=J:=by
 induction t with
 |ret a=>
  intro B h hr;have h:(Nat.ble a.toList.length 64&&(a.toList.all (λi=>Nat.blt i n)&&B.all λr=>tN (a.toList.map (gE r)) J))=zG:=h;refine an h λh1 h=>an h λh2 h3=>⟨a,rfl,aY h1,λi hi=>Nat.blt_eq▸aR.mp h2 i hi,Bu (aR.mp h3 r hr)⟩
 |ask i j k ih=>
  intro B h hr;have h:((Nat.blt i n&&Nat.blt j n)&&(o8 (B.filter λr=>Nat.blt (gE r i) (gE r j)) (wc n J (k zG))&&o8 (B.filter λr=>!Nat.blt (gE r i) (gE r j)) (wc n J (k zH))))=zG:=h;refine an h λh1 h=>an h λh2 h3=>?_;have e:jN n (λi j=>Nat.blt (gE r i) (gE r j)) (.ask i j k)=(if (Nat.blt i n&&Nat.blt j n)=zG then jN n (λi j=>Nat.blt (gE r i) (gE r j)) (k (Nat.blt (gE r i) (gE r j))) else .none):=rfl;rw[e,if_pos h1];cases hb:Nat.blt (gE r i) (gE r j) with
  |true=>
   have Y:r∈B.filter λr=>Nat.blt (gE r i) (gE r j):=dO.mpr ⟨hr,hb⟩;exact ih zG (yd h2 Y) Y
  |false=>
   have Y:r∈B.filter λr=>!Nat.blt (gE r i) (gE r j):=dO.mpr ⟨hr,by rw[hb];rfl⟩;exact ih zH (yd h3 Y) Y
theorem zJ{n:Nat}{lt lt':Nat->Nat->Bool}(h:∀i j,i < n->j < n->lt i j=lt' i j)(t:PySem.W.KasT (Array Nat)):jN n lt t=jN n lt' t:=by
 induction t with
 |ret a=>rfl
 |ask i j k Y=>
  show(if (Nat.blt i n&&Nat.blt j n)=zG then jN n lt (k (lt i j)) else .none)=(if (Nat.blt i n&&Nat.blt j n)=zG then jN n lt' (k (lt' i j)) else .none);by_cases B:(Nat.blt i n&&Nat.blt j n)=zG
  ·rw[if_pos B,if_pos B];have J:=hY B;rw[h i j (Nat.blt_eq▸J.1) (Nat.blt_eq▸J.2)];exact Y _
  ·rw[if_neg B,if_neg B]
theorem Eu{a:Nat}{B l2:List Nat}:B++a::l2∈w9 a (B++l2):=by
 induction B with
 |nil=>cases l2<;>exact .head _
 |cons b B J=>exact .tail _ (cC.mpr ⟨_,J,rfl⟩)
theorem Bb:∀ {n:Nat} {r:List Nat},r.length=n->r.Nodup->(∀x∈r,x < n)->r∈lK n:=by
 intro n;induction n with
 |zero=>
  intro r h _ _;rw[fw.mp h];exact .head _
 |succ n ab=>
  intro r h nd lt;have Y:n∈r:=by
   refine Classical.byContradiction λY=>?_;have:=nd.length_le_of_subset (l₂:=List.range n) λx B=>bN.mpr (Nat.lt_of_le_of_ne (cG (lt x B)) λe=>Y (e▸B));rw[aQ] at this;exact absurd this (kC.mpr (Nat.lt_of_lt_of_eq (bQ n) h.symm))
  obtain⟨l1,l2,rfl⟩:=List.append_of_mem Y;have J:=(List.nodup_append.mp nd);have hl:(l1++l2).length=n:=by
   rw[aF,fy] at h;rw[aF];exact fP h
  have aa:=lu.mp J.2.1;refine eJ.mpr ⟨l1++l2,ab hl (List.nodup_append.mpr ⟨J.1,aa.2,λa ha b hb=>J.2.2 a ha b (.tail _ hb)⟩) λx B=>?_,Eu⟩;refine Nat.lt_of_le_of_ne (cG (lt x ?_)) λe=>?_
  ·exact(aO.mp B).elim (λh=>aP _ h) λh=>aL _ (.tail _ h)
  ·subst e;exact(aO.mp B).elim (λh=>J.2.2 _ h _ (.head _) rfl) λh=>aa.1 h
theorem E5{n:Nat}(J:2<=n)(Y:n<=7):wc n (List.range n) (PySem.W.kas_sort n) (lK n)=zG:=by
 exact j0 (P:=λn=>2<=n->wc n (List.range n) (PySem.W.kas_sort n) (lK n)=zG) (j0 (j0 (j0 (j0 (j0 (λk hk h=>absurd h (kC.mpr hk)) λB=>c2) λB=>c3) λB=>c4) λB=>c5) λB=>c6) (λB=>c7) n (eN Y) J
noncomputable def Lr:Txt->Nat
 |[]=>0
 |a::_=>a
def nR(n:Txt):Nat:=match Lr n with
 | 65=>0
 | 66=>1
 | 97=>2
 |_=>3
def vR(v:Txt):Nat:=match Lr v with
 | 42=>gE v 8 - 48
 | 45=>5
 | 97=>11+(gE v 5 - 48)
 |d=>6+(d - 48)
def key(c:P):Nat:=nR c.1*16+vR c.2
theorem yt:ig (λa=>ig (λb=>(G6 a b,cW a.1 b.1&&cW a.2 b.2)) PL) PL=PL.map λa=>PL.map λb=>(Nat.blt (key a) (key b),Nat.beq (key a) (key b)):=by kernel_rfl
theorem Hf(B:a∈PL)(J:b∈PL):G6 a b=Nat.blt (key a) (key b):=congrArg Prod.fst (td yt B J)
theorem yu(B:a∈PL)(J:b∈PL)(h:key a=key b):a=b:=by
 have e:(cW a.1 b.1&&cW a.2 b.2)=Nat.beq (key a) (key b):=congrArg Prod.snd (td yt B J);rw[h,Nat.beq_refl] at e;have e:=hY e;exact Prod.ext (dA.mp e.1) (dA.mp e.2)
noncomputable def rP(B:List Nat)(x:Nat):Nat:=(B.filter λy=>Nat.blt y x).length
theorem ku:Nat.blt a b=zG↔a < b:=by rw[Nat.blt_eq]
theorem xx(J:x∈B)(h:x < y):rP B x < rP B y:=
 xj (p:=λz=>Nat.blt z y) (λz Y=>ku.mpr (cO (ku.mp Y) h)) (ku.mpr h) (gK.mpr λq=>cD x (ku.mp q)) J
theorem HM(h:x<=y):rP B x<=rP B y:=
 Cm (λz J=>ku.mpr (aT (ku.mp J) h)) B
theorem yN(J:x∈B)(Y:y∈B)(h:rP B x=rP B y):x=y:=by
 rcases Nat.lt_trichotomy x y with q| q| q
 ·exact absurd h (bT (xx J q))
 ·exact q
 ·exact absurd h.symm (bT (xx Y q))
theorem E4(Y:x∈B):rP B x < B.length:=by
 have:=xj (q:=λy=>Nat.blt y x) (λz J=>rfl) rfl (gK.mpr λq=>cD x (ku.mp q)) Y;rwa [cS.mpr λJ J=>rfl] at this
theorem DY(l:List Nat):∀i:Nat,gE l i=l.getD i 0:=by
 induction l with
 |nil=>exact λJ=>rfl
 |cons a l B=>
  intro i;cases i with
  |zero=>rfl
  |succ i=>rw[List.getD_cons_succ];exact B i
def Gs(L:List P)(c:P):Nat:=rP (L.map key) (key c)
theorem AW(nd:L.Nodup)(J:∀x∈L,x∈PL)(h2:2<=L.length)(h7:L.length<=7):∃S,rh L S/\(∀x∈S,x∈L)/\S.map (Gs L)=List.range L.length:=by
 let r:=L.map (Gs L);have Y:∀ {c},c∈L->key c∈L.map key:=λh=>cC.mpr (cU _ h rfl);have hr:r∈lK L.length:=by
  refine Bb (aD ..) ?_ λx hx=>?_
  ·refine xP.mpr (oe (λha hb aa e=>?_) nd);exact aa (yu (J _ ha) (J _ hb) (yN (Y ha) (Y hb) e))
  ·refine mm hx λc hc e=>?_;clear hx;subst e;have:=E4 (Y hc);rwa [aD] at this
 refine Hh (Js _ (E5 h2 h7) hr) λa e1 e2 e3 e4=>?_;have at_:∀i,i < L.length->∃c,L[i]? =U c/\c∈L/\L.getD i ([],[])=c/\gE r i=Gs L c/\(L.map pV).getD i .none=pV c:=λi B=>by
  have e:L[i]? =U L[i]:=aM B;refine((⟨(L[i]),e,(gY B),?_,?_,?_⟩))
  ·rw[aI,e];rfl
  ·rw[DY,aI];rw[bD,e];rfl
  ·rw[aI,bD,e];rfl
 refine(g8 (a.toList.map λi=>L.getD i ([],[])) (λN=>?_) (λx hx=>?_) ?_)
 ·have ok:mV (L.map pV)=zG:=by
   show(Nat.blt (L.map pV).length 64&&((L.map pV).all λv=>(iO v).isSome))=zG;rw[aD,ku.mpr (aK (by assumption) (by decide)),fQ,aR];intro v hv;exact mm hv λc ab e=>by rw[<-e];rfl
  have hk:jN L.length (zy (L.map pV)) (PySem.W.kas_sort L.length)=U a:=by
   rw[<-e1];refine zJ (λi j B hj=>?_) _;refine(at_ i B).elim λc1 q1=>(at_ j hj).elim λc2 q2=>?_;show JM ((L.map pV).getD i .none) ((L.map pV).getD j .none)=_;rw[q1.2.2.2.2,q2.2.2.2.2,q1.2.2.2.1,q2.2.2.2.1];show G6 c1 c2=_;rw[Hf (J _ q1.2.1) (J _ q2.2.1)];rw[eI,ku,ku];exact⟨xx (Y q1.2.1),λh=>kD λq=>bP.mpr (HM q) h⟩
  show(if mV (L.map pV) then o5 (L.map pV) N else .none)=_;rw[if_pos ok];unfold o5;rw[aD,if_neg (by rw[ku];exact bP.mpr (by assumption)),hk];dsimp only;have hz:Nat.ble a.size 64=zG:=dJ e2;rw[if_pos hz,eC];refine congrArg (λl=>iP l N) (fF λi B=>?_);refine(at_ i (e3 i B)).elim λc q=>?_;rw[q.2.2.2.2];show _=pV (L.getD i ([],[]));rw[q.2.2.1]
 ·refine mm hx λi B e=>(at_ i (e3 i B)).elim λc q=>?_;rw[<-e,q.2.2.1];exact q.2.1
 ·rw[<-e4,eC];refine fF λi B=>(at_ i (e3 i B)).elim λc q=>?_;show Gs L (L.getD i ([],[]))=_;rw[q.2.2.1,q.2.2.2.1]
theorem D8{f:B->aa}:∀ {l m:List B},l.map f=m.map f->(∀x∈l,∀y∈m,f x=f y->x=y)->l=m:=by
 intro l;induction l with
 |nil=>exact λh ab=>(lB.mp h.symm).symm
 |cons a l J=>
 intro m h g;cases m with
 |nil=>exact lB.mp h
 |cons b m=>
  have Y:=(List.cons.inj h).1;have h2:=(List.cons.inj h).2;rw[g a (.head _) b (.head _) Y,J h2 λx hx y hy=>g x (.tail _ hx) y (.tail _ hy)]
theorem r7(h:L.length < 2):rh L L:=λN=>by
 have ok:mV (L.map pV)=zG:=by
  show(Nat.blt (L.map pV).length 64&&((L.map pV).all λv=>(iO v).isSome))=zG;rw[aD,ku.mpr (aA (by assumption) (by decide)),fQ,aR];intro v B;exact mm B λc J e=>by rw[<-e];rfl
 show(if mV (L.map pV) then o5 (L.map pV) N else .none)=_;rw[if_pos ok];unfold o5;rw[aD,if_pos (ku.mpr h)]
theorem IC{L zB:List P}(q:L.length < 2)(B:L.length=zB.length)(h:∀x,x∈L->x∈zB):L=zB:=by
 cases L with
 |nil=>exact(fw.mp B.symm).symm
 |cons a r=>cases r with
  |nil=>exact dS (List.length_eq_one_iff.mp B.symm) λb e=>e▸congrArg (λx=>[x]) (aH.mp (e▸h a (.head _)))
  |cons=>exact absurd q (bP.mpr (eH 2 _))
theorem AX(aa:L.Nodup)(ab:zB.Nodup)(h:∀x,x∈L↔x∈zB)(J:∀x∈L,x∈PL)(h7:L.length<=7):∃S,rh L S/\rh zB S/\S.length<=1000/\∀x∈S,x∈PL:=by
 have pm:L.Perm zB:=(List.perm_ext_iff_of_nodup aa ab).mpr h;have Y:=pm.length_eq;have ae:∀x∈zB,x∈PL:=λx B=>J x ((h x).mpr B);rcases Nat.lt_or_ge L.length 2 with q| q
 ·have e:L=zB:=IC q Y λx=>(h x).mp;exact(Ig L (r7 q) (e▸r7 q) (aA (by assumption) (by decide)) J)
 ·refine fZ (AW aa J q h7) λS s1 s2 s3=>fZ (AW ab ae (Y▸q) (Y▸h7)) λaf t1 t2 t3=>?_;have rk:∀c,Gs zB c=Gs L c:=λc=>((pm.map key).filter _).length_eq.symm;have e:S=af:=by
   refine D8 (f:=Gs L) ?_ λx B y hy q=>?_
   ·rw[s3,Y,<-t3];exact(fF λc ag=>rk c)
   ·have B:=s2 x B;have hy:=(h y).mpr (t2 y hy);exact yu (J x B) (J y hy) (yN (cC.mpr (cU x B rfl)) (cC.mpr (cU y hy rfl)) q)
  have hl:=congrArg List.length s3;rw[aD,aQ] at hl;exact(Ig S s1 (e▸t1) (aA (bJ hl) (aA h7 (by decide))) (λx B=>J x (s2 x B)))
theorem plain(X:Nat->Nat×Nat×Nat)(Ld:Nat->Txt)(B:nw X Ld):JG X Ld:=by
 have S:∀k,∃S:List P,k < 6->rh ((jY X Ld).getD k []) S/\rh ((CA X Ld).getD k []) S/\S.length<=1000/\∀x∈S,x∈PL:=λk=>by
  by_cases J:k < 6
  ·have g:=qo B J;have g':=(⟨λq hq=>by
     have:=((xm B).nd k J).2 q hq;rwa [gd] at this,((xm B).nd k J).1⟩:j6 (pz X Ld) ((CA X Ld).getD k []))
   refine Hh (AX g.2 g'.2 (A2 B J) (λx hx=>(λc Y=>mm Y λs h e=>e▸AR (jX B) (aJ 5) s h) x (g.1 x hx)) (aA (g.2.length_le_of_subset g.1) (by
     unfold IB;rw[aD];exact pK 5))) λS a b c d=>⟨S,λaa=>⟨a,b,c,d⟩⟩
  ·exact⟨[],λh=>absurd h J⟩
 refine⟨(kP B).len,λj s h=>(yL (jX B) h (CB (jX B) j (bA (aZ h)))).1,λk=>Classical.choose (S k),λk J=>Classical.choose_spec (S k) J⟩
theorem run1:Run:=(by
  intro ns _;refine(w4 ns).elim λX h=>h.elim λJ h=>h.elim λq h=>h.elim λR h=>h.elim λbx h=>h.elim λs h=>h.elim λvs h=>h.elim λax h=>f7 h λW K=>?_;clear h;obtain⟨a8,a9,S,aa⟩:=plain X J W.src;refine dS (W.t) λh T=>cJ (W.s) λa' ba A=>ga (xB (n:=17) W.src W.q) λa3 au bb am ag=>?_;let ah:=vs.set 85 (.ref a3);have bc:ex Γ (eG 18) 60 55 (hS jx.body 4) vs ax=U (.next,ah,au):=eU (hR (cL (aV W.g53)) bb);refine cJ (GH (C:=eG 18) (n:=52) W.src (W.r.le am) ag (gn rfl W.g65) (bH _ _ _)) λY be l2=>?_;have ay:=(T.le am).le l2;have bf:=nO (k:=17) (n:=58) (M:=ah) ay (gn rfl W.g71);let a4:=Y++ [O.list ((qM X J).1.map pV)];have ao:Le Y a4:= .app _ _;let ab:=ah.set 72 (.ref Y.length);have bg:=ay.le ao;refine cJ (IU (k:=16) (n:=50) (vs:=ab) bg (bC Y _) (gn rfl (gn rfl W.g71)) (bH _ _ _)) λae bh ap=>?_;have ai:Le ax ae:=((am.trans l2).trans ao).trans ap;have bj:eZ (λar L=>ae[ar]? =U (.list (L.map pV))) (a'++ [Y.length]) (jY X J):=(A.imp λar L e=>ai _ _ e).snoc (ap _ _ (bC Y _));refine ga (DR (C:=eG 18) (vs:=ab) (by show((qM X J).2++ [_]).length=6;rw[aF,a8];rfl) (λk B=>⟨(aa k B).1,(aa k B).2.2.1⟩) (λk B=>(aa k B).2.2.2) (gn rfl (gn rfl W.g74)) (bH _ _ _) (ai _ _ ba) bj) λbl aj bm bn bo=>?_;let af:=aj++ [O.list bl];have az:Le ae af:=bn.snoc _;have av:Le au af:=((l2.trans ao).trans ap).trans az;have a5:BW J a3 5 af:=cJ ag λbp bq A=>⟨bp,av _ _ bq,A.imp λi v q=>fZ q λw a b c=>(g8 w a b (av _ _ c))⟩;refine cJ (GN (C:=eG 18) (vs:=ab) a5 (gn rfl (bH _ _ _))) λak br bt=>?_;let aw:=ak++ [O.list ((List.range 5).map λi=>cT (hA J i))];have aq:Le af aw:=bt.snoc _;have a6:PE (pz X J) q ak.length aw:=⟨⟨J,aq _ _ (az _ _ (ai _ _ W.q))⟩,bC ak _⟩;refine ga (zh (n:=17) (jX W.src) a6 a9 (λk B=>⟨(aa k B).2.1,(aa k B).2.2.1⟩) (λk B=>(aa k B).2.2.2)) λar al bu a0 bv=>?_;have a7:ev Γ (eG 18) 60 (.cmp .eq aE (.call (.lit (.cst (.ref 320))) [.var 53,eE])) ab ae=U (.bool zG,al):=by
   refine fE bm (hR (cQ (aV (gn rfl (gn rfl W.g53))) (cL br)) bu) ?_;refine qQ (iJ ((aq.trans a0) _ _ (bC aj _)) ?_) bv;exact bo al (((Le.app aj _).trans aq).trans a0)
  refine(Ho i9 al ?_);have bw:=K _ (bR bc (bR be (bR (eU bf) (bR bh (k3 (lJ a7))))));have ag:hX Γ jx [.flist (ns.map .int)] []=U [(52,U (.flist (ns.map .int)))]:=rfl;unfold f6;rw[ag];dsimp only;rw[bw])
end MI.Lake.L1
end T10
section T11
open PySem PySem.W PyProof.Rows PySem.Spec PySem.Calls
set_option maxHeartbeats 8000000
def MI.T:=True
theorem MI.t:MI.T:=⟨⟩
namespace MI.h
theorem tw2795451140116958084:T:=t
theorem tw9951359947512095492:T:=t
theorem tw9439816439147322118:T:=t
theorem tw11810458658519621247:T:=t
theorem tw17199111962232367139:T:=t
theorem tw14761838410509515046:T:=t
theorem tw3619401371934175607:T:=t
theorem tw8799179347520493222:T:=t
theorem tw4940813930370887384:T:=t
theorem tw10213828984628539441:T:=t
theorem tw15518426809193813362:T:=t
theorem tw9452600819013710031:T:=t
theorem tw766289818967804029:T:=t
theorem tw539178212558662056:T:=t
theorem tw9804228408992801345:T:=t
theorem tw5687567928995614284:T:=t
theorem tw1497544561386160366:T:=t
theorem tw6160765673186141399:T:=t
theorem tw16601363134934898558:T:=t
theorem tw87150347279074274:T:=t
theorem tw3139058926019810062:T:=t
theorem tw4153336087164195872:T:=t
theorem tw3272525137371728339:T:=t
theorem tw4831978084266165782:T:=t
theorem tw6602514613345457622:T:=t
theorem tw5196741881762554149:T:=t
theorem tw1272722670343894533:T:=t
theorem tw7303961468275993194:T:=t
theorem tw9154246674622704504:T:=t
theorem tw7924803108308326967:T:=t
theorem tw7967493916900451535:T:=t
theorem tw6427223372128860756:T:=t
theorem tw7553442300937972680:T:=t
theorem tw9659549632043495924:T:=t
theorem tw14178730304663139796:T:=t
theorem tw6495915881525592481:T:=t
theorem tw15039413931412900875:T:=t
theorem tw4478740691137824503:T:=t
theorem tw2032730779810467074:T:=t
theorem tw12966390520774852187:T:=t
theorem tw14498859069917345558:T:=t
theorem tw10533256425262641346:T:=t
theorem tw7904302291012989599:T:=t
theorem tw8124829027990208467:T:=t
theorem tw18337460889229207387:T:=t
theorem tw4218560599628214877:T:=t
theorem tw16952313472956638425:T:=t
theorem tw14272978524557718034:T:=t
theorem tw16913933322612371255:T:=t
theorem tw17669332518147908150:T:=t
theorem tw16869491501255872741:T:=t
theorem tw2324353109478610700:T:=t
theorem tw16307847166070527645:T:=t
theorem tw4159701700605265347:T:=t
theorem tw7263603715724294802:T:=t
theorem tw7480489895175595503:T:=t
theorem tw11773994118044333008:T:=t
theorem tw7998253638370111664:T:=t
theorem tw5869356504264226336:T:=t
theorem tw15848900817771985671:T:=t
theorem tw17409366498172073143:T:=t
theorem tw6114603228386712561:T:=t
theorem tw4516979023474093489:T:=t
theorem tw12800590780280845022:T:=t
theorem tw5931112979532080276:T:=t
theorem tw11315914138417596727:T:=t
theorem tw7641766960571083636:T:=t
theorem tw17885931382179144439:T:=t
theorem tw2738216144895719444:T:=t
theorem tw5214579807418809142:T:=t
theorem tw14987414480971261731:T:=t
theorem tw3827710967132029126:T:=t
theorem tw538147253693522941:T:=t
theorem tw3071127104572998033:T:=t
theorem tw206009008898466244:T:=t
theorem tw812967576963785146:T:=t
theorem tw7800676936146857068:T:=t
theorem tw2231741215466186278:T:=t
theorem tw12211413589333321976:T:=t
theorem tw10296968280439902456:T:=t
theorem tw12942543953657903565:T:=t
theorem tw9832156972132484596:T:=t
theorem tw1136819353846469920:T:=t
theorem tw13645470027985622301:T:=t
theorem tw1950302955785267674:T:=t
theorem tw13278437954273826173:T:=t
theorem tw12251388607221031044:T:=t
theorem tw5919519279708743527:T:=t
theorem tw12655532207739617828:T:=t
theorem tw16566963338729246013:T:=t
theorem tw15688894796723174321:T:=t
theorem tw17080564969476016762:T:=t
theorem tw11319352116400360815:T:=t
theorem tw5375117080292313040:T:=t
theorem tw8490608378110165178:T:=t
theorem tw17161668164672157251:T:=t
theorem tw6011877220226338442:T:=t
theorem tw18225166832547485315:T:=t
theorem tw7681399926316259504:T:=t
theorem tw15977524916459698249:T:=t
theorem tw4950431762049429505:T:=t
theorem tw625218098212169964:T:=t
theorem tw3937343995714221866:T:=t
theorem tw14896291089016517148:T:=t
theorem tw9354508531778793147:T:=t
theorem tw8207155010889364141:T:=t
theorem tw3380358926200389415:T:=t
theorem tw8011645948859850380:T:=t
theorem tw4661283025981170494:T:=t
theorem tw1210544676732491653:T:=t
theorem tw3981059114541383899:T:=t
theorem tw8536874343587781473:T:=t
theorem tw6548398758676780981:T:=t
theorem tw13773517218595335415:T:=t
theorem tw7870666040641496112:T:=t
theorem tw7088010054815574803:T:=t
theorem tw3161834836587384643:T:=t
theorem tw12577359107292032930:T:=t
theorem tw813204308214799660:T:=t
theorem tw15033760526476772922:T:=t
theorem tw4122128705968527996:T:=t
theorem tw7546579135632123976:T:=t
theorem tw10921119382865210741:T:=t
theorem tw3966080628177408820:T:=t
theorem tw10302745570025039340:T:=t
theorem tw6656502547138670488:T:=t
theorem tw17714695483619437618:T:=t
theorem tw4460608152839655614:T:=t
theorem tw2352664224425441106:T:=t
theorem tw10948500800405597411:T:=t
theorem tw8677683001880330203:T:=t
theorem tw16334460989010949702:T:=t
theorem tw8198797409047812523:T:=t
theorem tw991004918015138083:T:=t
theorem tw3837337973570899588:T:=t
theorem tw10855135569718635205:T:=t
theorem tw18216914705577498077:T:=t
theorem tw7100738004203007421:T:=t
theorem tw13057381404365639533:T:=t
theorem tw13677308830866057740:T:=t
theorem tw7107581686104465207:T:=t
theorem tw114510246371067246:T:=t
theorem tw13851942085726376235:T:=t
theorem tw1011401019241278401:T:=t
theorem tw902872540755378891:T:=t
theorem tw17539384037570849043:T:=t
theorem tw13445576390976031255:T:=t
theorem tw10481418801263579724:T:=t
theorem tw17211049344591354308:T:=t
theorem tw3132309389487929210:T:=t
theorem tw10501476238546904848:T:=t
theorem tw6727002536562721803:T:=t
theorem tw6343393122817937344:T:=t
theorem tw10808186131409962348:T:=t
theorem tw2842837978048837443:T:=t
theorem tw9634381440452309246:T:=t
theorem tw8067738784363068479:T:=t
theorem tw5323191896587985366:T:=t
theorem tw15684202523030328441:T:=t
theorem tw12423088567891511871:T:=t
theorem tw8077316033505046224:T:=t
theorem tw16244459961323036834:T:=t
theorem tw1871648838159589198:T:=t
theorem tw370486610177827933:T:=t
theorem tw3768299158841506722:T:=t
theorem tw2320342661452870951:T:=t
theorem tw753668035967892403:T:=t
theorem tw3240273648757554595:T:=t
theorem tw16042956550787363070:T:=t
theorem tw16449938280688742634:T:=t
theorem tw9316221774349399208:T:=t
theorem tw4175635528654030736:T:=t
theorem tw10962900301135661596:T:=t
theorem tw14147428429185372798:T:=t
theorem tw6485761855128319986:T:=t
theorem tw14484715720456187214:T:=t
theorem tw5537404773867497337:T:=t
theorem tw9049118314869179981:T:=t
theorem tw6783122765002947681:T:=t
theorem tw13988465935683623887:T:=t
theorem tw16886600850880474653:T:=t
theorem tw5246251078495356716:T:=t
theorem tw5589252267870633807:T:=t
theorem tw13330356579083021911:T:=t
theorem tw5314566795722963905:T:=t
theorem tw1983132538374988060:T:=t
theorem tw3986155751930733341:T:=t
theorem tw9023574322776181932:T:=t
theorem tw8661057138561124247:T:=t
theorem tw15872365230317915800:T:=t
theorem tw14862232780646705150:T:=t
theorem tw8646851385467070121:T:=t
theorem tw15742709927082142385:T:=t
theorem tw7221810974446901544:T:=t
theorem tw426085996160716512:T:=t
theorem tw13034281736522886310:T:=t
theorem tw15486162244592415344:T:=t
theorem tw16430788894663736166:T:=t
theorem tw15511962089348322606:T:=t
theorem tw3517108978226615445:T:=t
theorem tw1095467022140598918:T:=t
theorem tw9527089709778875979:T:=t
theorem tw4264699509428024130:T:=t
theorem tw514553002989383474:T:=t
theorem tw4824695741619331758:T:=t
theorem tw9768646008864867001:T:=t
theorem tw992739158974513426:T:=t
theorem tw4508145012739512669:T:=t
theorem tw7432086079278873464:T:=t
theorem tw2771089971701820042:T:=t
theorem tw13421285455648993846:T:=t
theorem tw10152126285143538658:T:=t
theorem tw10367772768431701326:T:=t
theorem tw3704819932992107776:T:=t
theorem tw12658707888644272507:T:=t
theorem tw5916170978455927623:T:=t
theorem tw16693541028615365652:T:=t
theorem tw3106658715387719538:T:=t
theorem tw8581084621192821530:T:=t
theorem tw17889544996163584383:T:=t
theorem tw1526144053155649391:T:=t
theorem tw15435418164422044991:T:=t
theorem tw8857350650673035650:T:=t
theorem tw13100315616137742069:T:=t
theorem tw16859974148811455229:T:=t
theorem tw15648966159094655416:T:=t
theorem tw11932229315479172871:T:=t
theorem tw8969304045824136619:T:=t
theorem tw7620464205643298623:T:=t
theorem tw7064160539918490211:T:=t
theorem tw8718744058142206370:T:=t
theorem tw11770680376634959612:T:=t
theorem tw6265707403724225191:T:=t
theorem tw2469350617910780499:T:=t
theorem tw14421689785484679103:T:=t
theorem tw5661011148375472301:T:=t
theorem tw16628996363424324551:T:=t
theorem tw13990226573354266164:T:=t
theorem tw83513294253863543:T:=t
theorem tw10140631252787427454:T:=t
theorem tw5379924368777260876:T:=t
theorem tw6644484245101163537:T:=t
theorem tw18200766526759720736:T:=t
theorem tw17258946263271846096:T:=t
theorem tw3472378606323182240:T:=t
theorem tw15827858010391249805:T:=t
theorem tw9217741735534582453:T:=t
theorem tw4728874304907124226:T:=t
theorem tw6489207939541828725:T:=t
theorem tw4708334375690927784:T:=t
theorem tw6015733226306215183:T:=t
theorem tw12724077181990310255:T:=t
theorem tw10311521697816829955:T:=t
theorem tw2414144455822743273:T:=t
theorem tw6997614866125203533:T:=t
theorem tw13097933743953152682:T:=t
theorem tw14340888981568083504:T:=t
theorem tw13671855548259790361:T:=t
theorem tw15915658796540520126:T:=t
theorem tw13897511692132896382:T:=t
theorem tw2602126109314521962:T:=t
theorem tw13677402378465924144:T:=t
theorem tw5417291620777594990:T:=t
theorem tw13592363017136002932:T:=t
theorem tw15214153668272595618:T:=t
theorem tw16725526306397335112:T:=t
theorem tw17628621764814861129:T:=t
theorem tw12742899803413528685:T:=t
theorem tw4615654357030040772:T:=t
theorem tw5008913158937488491:T:=t
theorem tw17876999132001950919:T:=t
theorem tw6125136503171780391:T:=t
theorem tw10963810800604537746:T:=t
theorem tw15308433096326148809:T:=t
theorem tw16075062268427103804:T:=t
theorem tw14742216871288018075:T:=t
theorem tw4613590217950729492:T:=t
theorem tw13880557926402700379:T:=t
theorem tw14836327735372181211:T:=t
theorem tw14332421562885214225:T:=t
theorem tw16624235299039253062:T:=t
theorem tw652245384290873:T:=t
theorem tw1810673153998328641:T:=t
theorem tw17800021823864527915:T:=t
theorem tw17975192936954780389:T:=t
theorem tw4909637155564228187:T:=t
theorem tw6839784654149236029:T:=t
theorem tw5677497221591460749:T:=t
theorem tw17714907532840276008:T:=t
theorem tw9316117972322802984:T:=t
theorem tw4792485389547669108:T:=t
theorem tw265565092057873650:T:=t
theorem tw7632130217693167122:T:=t
theorem tw8536642597009991246:T:=t
theorem tw5461476594853440071:T:=t
theorem tw9329557545102064387:T:=t
theorem tw7563853393758430005:T:=t
theorem tw7000492927792607597:T:=t
theorem tw11337244951021135948:T:=t
theorem tw1056561638026204726:T:=t
theorem tw2699145595296155233:T:=t
theorem tw11618706214042298135:T:=t
theorem tw14817459586996669845:T:=t
theorem tw4983908431591995766:T:=t
theorem tw16957767084515704992:T:=t
theorem tw12687896187690058388:T:=t
theorem tw17042767742041209403:T:=t
theorem tw3295529927913010347:T:=t
theorem tw12729618529089208383:T:=t
theorem tw7204743496073134794:T:=t
theorem tw14243120384066314776:T:=t
theorem tw7752242572922343914:T:=t
theorem tw4268080235658287135:T:=t
theorem tw14776929148192491822:T:=t
theorem tw18121622643058177375:T:=t
theorem tw2930694151340655931:T:=t
theorem tw14583957384638252810:T:=t
theorem tw10680460800738331518:T:=t
theorem tw301181026051444518:T:=t
theorem tw6351320645044075760:T:=t
theorem tw3934631138387515321:T:=t
theorem tw6855272717762293095:T:=t
theorem tw4505156838063484682:T:=t
theorem tw8449015683340604661:T:=t
theorem tw9542647219696440825:T:=t
theorem tw10565250394946491377:T:=t
theorem tw34953183428155932:T:=t
theorem tw10814310366305385824:T:=t
theorem tw5914214391831917083:T:=t
theorem tw12955775429086202908:T:=t
theorem tw10902536218424964520:T:=t
theorem tw3811599927407082460:T:=t
theorem tw8848646254694538664:T:=t
theorem tw9714682225893775351:T:=t
theorem tw5925361152004488874:T:=t
theorem tw13333077242376610015:T:=t
theorem tw7120252543364587837:T:=t
theorem tw13132226787595575145:T:=t
theorem tw5434136935987173547:T:=t
theorem tw10516128174349651892:T:=t
theorem tw7052511106545228294:T:=t
theorem tw11904312023369303029:T:=t
theorem tw11890821517517841010:T:=t
theorem tw1110427974676150573:T:=t
theorem tw17694018401417051796:T:=t
theorem tw8751917010681672251:T:=t
theorem tw15824136379771664824:T:=t
theorem tw4795870215232361891:T:=t
theorem tw12054067824850594281:T:=t
theorem tw2067688860793099544:T:=t
theorem tw18080781134424121486:T:=t
theorem tw966088218002447128:T:=t
theorem tw8006520539369802256:T:=t
theorem tw13980075197151722576:T:=t
theorem tw15295403838277694350:T:=t
theorem tw8922250187614510260:T:=t
theorem tw7227253917192531135:T:=t
theorem tw172622257404836054:T:=t
theorem tw895507107005011551:T:=t
theorem tw347492410655238935:T:=t
theorem tw6331589515471783081:T:=t
theorem tw334643224279122657:T:=t
theorem tw15170690850536292380:T:=t
theorem tw12373893316805541126:T:=t
theorem tw13476481588198473386:T:=t
theorem tw12355317211224975114:T:=t
theorem tw9579371860814772686:T:=t
theorem tw11656204951095333773:T:=t
theorem tw6343567892298353387:T:=t
theorem tw10763406742421372075:T:=t
theorem tw1480027724376643235:T:=t
theorem tw6292553275617203558:T:=t
theorem tw12234821664463507689:T:=t
theorem tw12460367361980150388:T:=t
theorem tw17959723380430996057:T:=t
theorem tw6275787247463614820:T:=t
theorem tw4439866237008585008:T:=t
theorem tw16290064214260412899:T:=t
theorem tw18196503021868084175:T:=t
theorem tw14468109376427299653:T:=t
theorem tw13587792088082880262:T:=t
theorem tw3533334344974105687:T:=t
theorem tw203656455634883904:T:=t
theorem tw7608684988862854739:T:=t
theorem tw7574851862118131482:T:=t
theorem tw3383608237210831627:T:=t
theorem tw3743837394386260688:T:=t
theorem tw10419502692379743783:T:=t
theorem tw648068997301114173:T:=t
theorem tw7289835552884774911:T:=t
theorem tw18395909863104184607:T:=t
theorem tw17918522705804183637:T:=t
theorem tw5616044094081230683:T:=t
theorem tw6605655135836831259:T:=t
theorem tw7630035162684332457:T:=t
theorem tw7539725197088427410:T:=t
theorem tw1528604539003403546:T:=t
theorem tw12147817962618378108:T:=t
theorem tw1076032422457175805:T:=t
theorem tw18235093220256922412:T:=t
theorem tw14375145176995258806:T:=t
theorem tw7660853879643921842:T:=t
theorem tw6164916216506472562:T:=t
theorem tw10843076970805042449:T:=t
theorem tw1624409481461443461:T:=t
theorem tw17799721791662994663:T:=t
theorem tw13482035217508805444:T:=t
theorem tw17504483304878806325:T:=t
theorem tw13612431139875084487:T:=t
theorem tw10586408445335202245:T:=t
theorem tw7145592805755954929:T:=t
theorem tw13940115688040379787:T:=t
theorem tw6640494949327562702:T:=t
theorem tw15420072408978152962:T:=t
theorem tw8160855493187839060:T:=t
theorem tw6880285942476779878:T:=t
theorem tw3567783193084311961:T:=t
theorem tw16287994594222739754:T:=t
theorem tw16684693490178677285:T:=t
theorem tw8207850306311870169:T:=t
theorem tw14647779844744032869:T:=t
theorem tw16953185341875957715:T:=t
theorem tw14513202867052359148:T:=t
theorem tw15888834720048044444:T:=t
theorem tw16774227940792997295:T:=t
theorem tw5650492471373900725:T:=t
theorem tw4211905736105490719:T:=t
theorem tw17218139650694851480:T:=t
theorem tw9344278814265342737:T:=t
theorem tw7912078809233970155:T:=t
theorem tw5523734026757050999:T:=t
theorem tw14171035495164681720:T:=t
theorem tw9506952214323141020:T:=t
theorem tw11413000264567781255:T:=t
theorem tw14462352401270376480:T:=t
theorem tw4956202815408069519:T:=t
theorem tw11641106802727210624:T:=t
theorem tw3632596519376591488:T:=t
theorem tw6226242813739104755:T:=t
theorem tw18352936022105595242:T:=t
theorem tw11269944870141430855:T:=t
theorem tw13583735781255718168:T:=t
theorem tw14291568892626499006:T:=t
theorem tw6353825752783223493:T:=t
theorem tw13125589177819030729:T:=t
theorem tw18068791092708541295:T:=t
theorem tw7612151039156606694:T:=t
theorem tw9392987462732949862:T:=t
theorem tw983117079085739365:T:=t
theorem tw8012070816986593502:T:=t
theorem tw5248434798532375649:T:=t
theorem tw4430606448351942949:T:=t
theorem tw7170332874562651162:T:=t
theorem tw11688029955930547537:T:=t
theorem tw1788229997281612558:T:=t
theorem tw8848366753719205172:T:=t
theorem tw1963568534201772741:T:=t
theorem tw12734330498884920014:T:=t
theorem tw18066238671866490595:T:=t
theorem tw10401585282048921557:T:=t
theorem tw12485018930355531808:T:=t
theorem tw14536765875813188057:T:=t
theorem tw14334642373721317314:T:=t
theorem tw11673832446544817812:T:=t
theorem tw3462770174691879448:T:=t
theorem tw715834273050250981:T:=t
theorem tw16845579001822475114:T:=t
theorem tw729225083993540152:T:=t
theorem tw7977950451457169837:T:=t
theorem tw13432653248351403408:T:=t
theorem tw10251250012747209485:T:=t
theorem tw17398807766748513132:T:=t
theorem tw6443182911234169043:T:=t
theorem tw16830985959230494662:T:=t
theorem tw11225973936706129674:T:=t
theorem tw10971965124743696089:T:=t
theorem tw15387063842527522134:T:=t
theorem tw3695243705979300330:T:=t
theorem tw4329222652369542967:T:=t
theorem tw4768191516409823675:T:=t
theorem tw4029457112048200832:T:=t
theorem tw9172898890816482597:T:=t
theorem tw14376851611392551295:T:=t
theorem tw2047067620395056460:T:=t
theorem tw4523827945173512887:T:=t
theorem tw6816069801127217609:T:=t
theorem tw14033471449464465267:T:=t
theorem tw14173006712167488571:T:=t
theorem tw5434034534479146159:T:=t
theorem tw2359107598205803400:T:=t
theorem tw4805004134235001936:T:=t
theorem tw7767326955497791704:T:=t
theorem tw5505994698530431375:T:=t
theorem tw2714289519214690443:T:=t
end MI.h
namespace MI
open Lake
open Lake.L1
set_option Elab.async true in
theorem h:PySem.Challenge.rw_rs0232_01.Holds:=by
 (w_on;o_law;k_head;(case hw=>w_witness2))
 have aj:Facts h.heap_1_39:= {
  tab:=λP=>by kernel_rfl
  lks:=λP=>by kernel_rfl
  glob:=λP=>by kernel_rfl
  look_F_formatparam:=λP=>
  iA.of (by kernel_rfl) ⟨by kernel_rfl,by kernel_rfl,by kernel_rfl⟩ (by
    intro us aa S J Y h3;obtain rfl:=Hg h3;have B:us.length=1\/us.length=2\/us.length=3:=by
     simp only[fy,i8] at J Y
     omega
    rcases B with B| B| B
    ·obtain⟨a,rfl⟩:=Ek B;kernel_rfl
    ·obtain⟨a,b,rfl⟩:=zI B;kernel_rfl
    ·obtain⟨a,b,d,rfl⟩:=Ej B;kernel_rfl)
  look_F_HeadersU_initU:=λP=>
  iA.of (by kernel_rfl) ⟨by kernel_rfl,by kernel_rfl,by kernel_rfl⟩ (by
    intro us aa S J Y h3;obtain rfl:=Hg h3;have B:us.length=1\/us.length=2:=by
     simp only[fy,i8] at J Y
     omega
    rcases B with B| B
    ·obtain⟨a,rfl⟩:=Ek B;kernel_rfl
    ·obtain⟨a,b,rfl⟩:=zI B;kernel_rfl)
  look_F_HeadersUconvert_string_type:=λP=>
  iA.of (by kernel_rfl) ⟨by kernel_rfl,by kernel_rfl,by kernel_rfl⟩ (by
    intro us aa S J Y h3;obtain⟨k,rfl⟩:=Kw h3;obtain⟨a,b,rfl⟩:=zI (gD J Y);kernel_rfl)
  look_F_Headers_add_header:=λP=>
  ⟨.of (by kernel_rfl) ⟨by kernel_rfl,by kernel_rfl,by kernel_rfl⟩,⟨rfl,rfl,rfl,rfl⟩,λa b d=>by kernel_rfl,λa b d v w=>by kernel_rfl,by decide⟩
  clsH:=λP=>⟨by kernel_rfl,by kernel_rfl,by kernel_rfl,by kernel_rfl,by kernel_rfl,by kernel_rfl,by kernel_rfl,by kernel_rfl,by kernel_rfl,by kernel_rfl,by kernel_rfl⟩
  clsW:=λP=>⟨by kernel_rfl,by kernel_rfl,by kernel_rfl,by kernel_rfl,by kernel_rfl,by kernel_rfl,by kernel_rfl,by kernel_rfl,by kernel_rfl,by kernel_rfl,by kernel_rfl⟩
  pat0:=λP=>by kernel_rfl
  pit0:=λP=>by kernel_rfl
  pat1:=λP=>by kernel_rfl
  pit1:=λP=>by kernel_rfl
  catS:=λP=>⟨by kernel_rfl,by kernel_rfl⟩
  catT:=λP=>⟨by kernel_rfl,by kernel_rfl⟩
  lawl:=λP=>by kernel_rfl
  law:=λP=>by kernel_rfl}
 w_strict (
  k_fill
  intro w s₀ am mg mb G al fa o pm cd ap ar au ho hd aq av af hg args ao as ab ae ag ah ai;have ak:=kIn_of al;refine Ground.open G ?_;intro T az aw ax ay
  wrow_args ab ae ag ah ai
  all_goals exact Lake.L1.KO Lake.L1.run1 aj ak (topRead_of T) af (by assumption) (by assumption) (by assumption) hg)
end MI
end T11
set_option maxRecDepth 100000 in
theorem PySem.Challenge.cw_rs0232_01_holds : PySem.Challenge.rw_rs0232_01.Holds := by
  exact MI.h
