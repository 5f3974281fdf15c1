import PyProof.Rows.All
import Wide.All
import OpenK.AllK
import Wide.FinOn
import KE.KSliceW
import PyProof.ToksMono
import KE.KDictIter
import KE.KDictOf
import PyProof.AttrMissHeap
import PyProof.FactsAll.str_8
import KE.KFromBytes
import Wide.BytesFacts
import KE.KTryMore
import PyProof.ExcBaseAll.ValueError
import Lean
import PySem.Challenge.RW_oc0355_01
open And renaming intro->Jp
open Array renaming all_toList->Pj,append_assoc->QN,empty_append->QO,ext'->QP,forIn_toList->QQ,getElem?_eq_some_iff->LB,getElem?_setIfInBounds_self_of_lt->MB,getElem?_toList->K8,length_toList->Lq,mem_toList_iff->PT,toList->Q4,toList_extract->PU,toList_inj->Rx
open Bool renaming and_eq_true->Kx,and_eq_true_iff->IQ,eq_false_iff->Lk,eq_false_imp_eq_true->OI,eq_iff_iff->R7,false_ne_true->KM,noConfusion->IE,not_eq_true'->Mw,not_inj_iff->Ry,or_eq_true_iff->Qo,or_true->Q5
open Eq renaming refl->Iy,symm->LI
open Except renaming ok->Qj
open Exists renaming elim->PW,intro->Je
open False renaming elim->Mc
open ForInStep renaming yield->LL
open Int renaming add_assoc->Mm,add_le_add_right->MC,add_left_comm->Q7,add_lt_add_left->Qs,add_sub_add_left->PX,add_sub_cancel->QT,add_zero->Lf,eq_natCast_toNat->PY,fdiv->LC,fmod->KV,fmod_lt_of_pos->Md,fmod_nonneg_of_pos->KW,le_add_one->MD,le_antisymm->M5,le_of_lt->Me,le_of_lt_add_one->N8,le_refl->L_,le_sub_left_of_add_le->OK,le_trans->JK,lt_of_le_of_lt->Kt,lt_of_lt_of_le->LE,lt_trans->MO,natCast_add->Ml,natCast_nonneg->KN,negSucc_lt_zero->Qt,neg_add->RV,neg_le_neg->PZ,not_lt->M9,not_lt_of_ge->Pl,not_ofNat_neg->Mx,ofNat_eq_zero->OO,ofNat_inj->QF,ofNat_le->JY,ofNat_lt->KJ,sub_add_cancel->LF,sub_eq_add_neg->QU,sub_eq_iff_eq_add'->Lv,sub_nonneg_of_le->KQ,sub_sub->P0,sub_sub_self->RB,sub_zero->Nx,succ_ofNat_pos->QV,toNat_add->QG,toNat_le->Q8,toNat_lt->Q9,toNat_natCast->OP,toNat_of_nonneg->KC
open List renaming all_cons->LW,all_eq_true->Jj,any_cons->QH,any_eq_false->Q_,any_eq_true->RC,append_assoc->JL,append_ne_nil_of_right_ne_nil->M_,append_nil->Jv,append_of_mem->Ou,append_toArray->Qu,casesOn->J6,cons_append->KR,cons_ne_nil->Jx,contains_iff_mem->K_,count_append->Nz,count_replicate->Ku,drop_drop->P1,drop_eq_getElem_cons->Kf,drop_eq_nil_iff->N9,drop_left->P2,drop_length->RD,drop_zero->P3,eq_nil_iff_forall_not_mem->L6,extract_eq_take_drop->OL,filterMap_cons->Qv,filterMap_map->Ow,filter_append->Lb,filter_cons->JB,filter_eq_nil_iff->NA,filter_eq_self->Qw,filter_sublist->Qx,find?_cons->R_,flatMap_cons->Ra,flatten_append->Oi,flatten_cons->KX,foldl_append->My,foldl_cons->LM,forIn_cons->LN,forIn_nil->Ox,getElem?_append_left->MT,getElem?_append_right->LG,getElem?_drop->Oy,getElem?_eq_getElem->IM,getElem?_eq_none->La,getElem?_eq_none_iff->Ji,getElem?_eq_some_iff->Jm,getElem?_map->I9,getElem?_range->Qy,getElem?_take_of_lt->Pc,getElem?_toArray->Jq,getElem_mem->RF,getElem_of_mem->Qz,getLast?_concat->P4,getLast?_eq_getElem?->LK,getLast?_eq_none_iff->MU,getLast?_eq_some_iff->MV,isEmpty_toArray->P5,length->Kn,length_append->IB,length_cons->Jh,length_drop->LA,length_eq_zero_iff->KS,length_filter_le->Kp,length_map->Iz,length_nil->M6,length_pos_iff->QA,length_range->Kb,length_replicate->Jd,length_reverse->Jw,length_singleton->J5,length_take->JQ,length_take_le'->N_,lookup->P6,map_append->IR,map_congr_left->Ls,map_cons->JA,map_id->RX,map_map->Ky,map_nil->PB,map_take->QI,map_toArray->Pm,mem_append->JD,mem_append_left->Kv,mem_append_right->JT,mem_cons->IJ,mem_cons_of_mem->P7,mem_cons_self->QW,mem_filter->JX,mem_filterMap->QX,mem_flatMap->RG,mem_flatten->Pn,mem_map->IU,mem_of_getElem?->JP,mem_of_getLast?->P8,mem_of_mem_take->Li,mem_replicate->QY,mem_reverse->NU,mem_singleton->KO,mem_toArray->RH,nodup_append->Mz,nodup_cons->I_,nodup_nil->J_,not_mem_nil->IA,pairwise_cons->Mf,pairwise_singleton->Po,push_toArray->OQ,range->JV,range'->OS,range'_succ->NV,range_succ->PJ,rec->Rb,replicate->II,replicate_succ->K5,reverse_cons->Kq,size_toArray->Jk,sum_append->PK,sum_cons->M1,take_add_one->JR,take_append_drop->NQ,take_length->Ka,take_of_length_le->Ju,take_sublist->OT,toArray->Kz
open List.cons renaming inj->KU,injEq->R9
open Nat renaming add_assoc->J2,add_comm->Lw,add_eq_left->Sb,add_le_add->Jr,add_le_add_left->IZ,add_le_add_right->Jf,add_left_cancel->L1,add_left_comm->NB,add_lt_add_left->MX,add_lt_add_right->Qa,add_right_cancel->ME,add_right_comm->Jb,add_sub_cancel'->Oj,add_sub_cancel_left->Pp,add_sub_of_le->Rc,add_sub_self_left->PP,beq->IT,beq_refl->Rd,ble->Qk,ble_eq_true_of_le->Jy,blt->Kd,casesOn->Lj,eq_of_beq_eq_true->IY,eq_sub_of_add_eq->Oa,eq_zero_of_le_zero->NC,eq_zero_or_pos->QZ,exists_eq_add_of_le->Nm,le_add_left->I4,le_add_right->IK,le_add_right_of_le->JH,le_antisymm->LO,le_of_add_right_le->ND,le_of_ble_eq_true->Iv,le_of_eq->I2,le_of_lt->Js,le_of_lt_succ->KY,le_of_not_le->RJ,le_of_not_lt->RK,le_of_succ_le->KZ,le_of_succ_le_succ->Mg,le_refl->IC,le_succ->IL,le_succ_of_le->I3,le_total->PC,le_trans->Iu,lt_add_of_pos_right->Ks,lt_add_right->Pq,lt_irrefl->Ke,lt_of_le_of_lt->I8,lt_of_le_of_ne->Na,lt_of_lt_of_eq->Nb,lt_of_lt_of_le->Jc,lt_of_not_le->Pr,lt_of_succ_lt->OU,lt_of_succ_lt_succ->NE,lt_succ_of_le->LQ,lt_succ_of_lt->Ll,lt_succ_self->I6,lt_trans->Kh,max_le->NW,min_eq_left->J8,min_eq_right->RL,min_le_left->Of,min_le_right->NX,mul_le_mul_left->JF,ne_add_one->Qb,ne_of_beq_eq_false->NF,ne_of_gt->JU,ne_of_lt->KK,not_le_of_lt->Kj,not_lt->KP,not_lt_of_le->L7,not_lt_zero->Lm,not_succ_le_self->Oc,pos_of_ne_zero->Q0,sub_le->MF,sub_self->Rf,succ_add_eq_add_succ->Kk,succ_le_succ->IS,succ_ne_self->Ps,succ_ne_zero->NY,succ_pos->NG,zero_add->JI,zero_le->JG
open Ne renaming symm->Kr
open Option renaming bind->Ma,bind_eq_some_iff->IG,casesOn->KI,getD_some->RM,isNone_iff_eq_none->OM,isSome_iff_exists->LY,map_eq_none_iff->PD,map_eq_some_iff->JJ,map_some->Sc,none->Nn
open Option.some renaming inj->Iw,injEq->OV
open Or renaming elim->OW
open PUnit renaming unit->Nc
open Prod renaming ext->Pt,fst->MG,mk->Si,snd->Qc
open Prod.mk renaming inj->RY
open PyProof.Rows renaming IsTup->RW,get?_update_seq->Se,seqObj->Ph
open PySem renaming Addr->Jn,Arguments->Qi,Around->J0,Builtin->Jl,Comprehension->MZ,Data->Sj,DictEntry->Nl,ExceptHandler->Pb,Expr->JC,Flow->R8,FuncData->N5,Heap->Mk,KeysOf->Oo,Keyword->Ny,Model->P_,NameKind->KB,Operator->Rg,Pairs->Rh,PlainAttrs->Q1,Program->Ql,PyData->L8,Result->PE,Scope->Od,Shared->IP,Stmt->Ld,SubscriptOn->RZ,Value->IF,argsOk->Mi,arm_eval_Call->QK,assign->RO,assignEach->Nd,attributeBase->Mp,backTo->Qe,backToKw->M3,behindInMarks->QL,bindArgs->OC,builtinLookup_eq_fast->IX,builtinType->Nr,builtinType_eq_fast->K6,builtinsNs->MK,callAny->Sg,callType_codes->Qf,callWith->Rl,call_meets->PF,call_meetsIn->Rm,call_type_of->PG,cellOf->Ri,cellsFrom->Kg,checkBoundCall->OD,checkBuiltinCall->MQ,codeAny->LJ,codeAny_builtin->Kw,codeAny_call_builtin->LR,codeAny_of_tree->PM,compareOp->RQ,entryFor->LU,entryFor_of_tree->JN,eval->LH,excClassObj->R2,foldedSetIterable->Ro,getAttr->Rp,getMethod->MR,getMethod_builtin->Rq,holding->Sh,intItems->NI,intItems_at->R3,intKind->NJ,intKind_is->Pv,isSubtype->Os,isSubtype_type->JO,isTrue->MP,keywordEach->Lz,letOwnedTupleGo->K7,mainGlobals->Nt,methodCallForm->Qg,model->J3,newEnv->OE,numAt->OF,opaqueClassAbove->Pw,pushCells->Nv,pushCells_keeps->PN,pyNext->RS,rawInt->L9,relabel->Rr,sizeLine->J4,sizeLine_eq->KH,slicePicked->R4,slot_list_getitem->Rs,spliced->Rt,starEach->ML,stored->Mv,strKind->JE,strKind_is->JM,subscripted->R5,swappedStores->Mq,swapsWith->RT,sysModules->Mj,table->OY,typeIs_str->Nf,typeLookup->K0,typeLookup_type->Ja,typeOf->Oh,valueAt->N4,wpAny->ID,wpAny_Assign_stores->QB,wpAny_Constant_str->OG,wpAny_Name->Q2,wpAny_alloc->OZ,wpAny_assign_Name->NK,wpAny_attempt->Mr,wpAny_bind->Ir,wpAny_call->Ln,wpAny_callSpecial?_slot->Px,wpAny_call_entry->KT,wpAny_dictSetHashed_pairs->MW,wpAny_execs_nil->Sf,wpAny_field->MM,wpAny_fresh'->Ru,wpAny_holding->I1,wpAny_isInstance->MS,wpAny_ite_false->I5,wpAny_ite_true->NL,wpAny_letTemporaryGo->Qh,wpAny_list_append_plain->Py,wpAny_load->Ng,wpAny_loadName_cell->QC,wpAny_loadPart'->Lp,wpAny_mkBytes->Pi,wpAny_mkInt->O9,wpAny_mono->KG,wpAny_newList->QM,wpAny_newObj_type->MA,wpAny_notOrdered_dict->PR,wpAny_of_eq->Jg,wpAny_point->R6,wpAny_pure->Ix,wpAny_pyIter_ascii->Q3,wpAny_pyIter_list->NM,wpAny_pyIter_listiter->PS,wpAny_pyIter_values->QD,wpAny_pyNext_ascii_end->PI,wpAny_pyNext_ascii_item->Pz,wpAny_pyNext_list_end->NR,wpAny_pyNext_list_item->NN,wpAny_rule->MN,wpAny_seqItems->NO,wpAny_setField->OH,wpAny_specialOf->JS,wpAny_specialOf_val->MY,wpAny_standAt->Km,wpAny_truthy_bool->Rv,wpAny_truthy_list->Rw,wpAny_typeOf->LV,wpAny_with_toks->KL
open PySem.Bind renaming madeBy->RU
open PySem.Builtin.Bytes renaming buffer?->PO,bufferQuiet?->Ot,countM->PV,joinLetGo->Nh,joined->Lh,occurrences->OJ,slotIsOwn->Ni,takeBufferQuiet?->NS
open PySem.Builtin.Bytes.Kind renaming bytes->O_
open PySem.Builtin.Int renaming intBits->LZ
open PySem.Builtin.List renaming listExtendWith->Ol
open PySem.Builtin.Range renaming rangeFitsLong->Om,rangeSize->Nj
open PySem.Builtin.Re renaming reLiteralCannotBeTurned->M7,reNoCollectionInside->NP,reRawOf->QR,reRunToEnd->Mt,reSlice->M8,reTextOf->Qp,reTurnSteps->Mb,reWholeTarget->Pa
open PySem.Builtin.Str renaming tableLookup->Nk,tooLong->Lr
open PySem.Challenge renaming pw_oc0355_01->Sd
open PySem.Code renaming builtin->On,quiet_builtin->J1
open PySem.Const renaming casesOn->QE
open PySem.Data renaming casesOn->PA,noConfusion->L5
open PySem.EntryCells renaming newEntry->Qq
open PySem.Expr renaming casesOn->Jo
open PySem.F renaming entry_dict_init->Q6,kt_called_dict->Rz,objNew->Qd,plainAttrs_dict->Pu,plainAttrs_list->No,plainAttrs_str->NH,plainAttrs_str->Pk,slot_dict_delitem->ON,slot_dict_get->PQ,slot_dict_values->Pd,slot_list_getattribute->M0
open PySem.Heap renaming ExtBut->N6,SameBut->Jt,get?_push_cases->N7,get?_push_ne->Nw,get?_push_of_some->IH,get?_push_size->IW,get?_update_self->K9,lt_size->Jz,size_push->I7,size_update->RA
open PySem.Heap.DictOf renaming new->M4
open PySem.Heap.IsCell renaming sameBut->Qr
open PySem.Heap.SameBut renaming update->K4
open PySem.Manifest renaming canonical->OA,isStub->Sa
open PySem.Meets renaming of_wp->P9
open PySem.NameKind renaming cell->Mn,free->Ki
open PySem.Obj renaming data_mapFields->Mh,isFreed_of_fields->Mu,mapFields->Ly,mapSeq->LX
open PySem.PyData renaming canLayAll0->JZ,depthAll->J9,eqv->NZ,keyHash->OB,list->Ko,str->JW,strOk->KA
open PySem.SeqAt renaming shaped->J7
open PySem.Sre renaming Frame->Qm,Seen->Oe
open PySem.Stmt renaming casesOn->Oq
open PySem.Str renaming ofString->Lg
open PySem.Txt renaming join->Rj,mul->Rk,replace->Np
open PySem.Value renaming builtin->Pe,bytes->MI,casesOn->Pf,isStrOf_shape->Lu,none->KD,ref->Nq,type->KE
open PySem.W renaming Frag->QS,Looks->M2,any_some->MJ,copiedNames->R1,emptyDict->Kl,findIn->Pg,findObj->Rn,handed_on->RR,instObj->OX,kms_hi->N1,kms_lo->Og,looks_findIn->PH,plainGet_of->Nu,specialIn->N2,takesIn->Qn
open PySem.W.Looks renaming ld->Oz,of_peek->N3,of_pure->QJ
open Std.Legacy renaming Range->RN
open Std.Legacy.Range renaming forIn_eq_forIn_range'->MH
set_option genSizeOf false
set_option genCtorIdx false
set_option genInjectivity false
set_option bootstrap.genMatcherCode false
set_option Elab.async false
set_option linter.all false
set_option maxRecDepth 100000
open PySem PySem.W PyProof.Rows PySem.Calls
namespace Internal
set_option tactic.hygienic false
theorem cU{p:Prop}(h:(p->False)->False):p:=Classical.byContradiction h
@[elab_as_elim] theorem aa {α:Sort _} {a b:α} (h:a=b) {p:α->Prop} (x:p b):p a:=h▸x
@[elab_as_elim] theorem an {α:Sort _} {a b:α} (h:a=b) {p:α->Prop} (x:p a):p b:=h▸x
theorem jx{α:Type _}{o:Option α}{a:α}{P:Prop}(h:o=none)(k:o=some a):P:=by rw[h]at k;cases k
theorem Iq{α:Type _}{o:Option α}{a b:α}(h:o=some a)(k:o=some b):a=b:=Iw (h.symm.trans k)
theorem ER{P:Prop}(h:b=false)(k:b=true):P:=IE (h▸k)
section
variable {α β:Type}{P:Prop}
theorem ag{o:Option α}{f:α->Option β}{b:β}(h:o.bind f=some b)(k:∀a,o=some a->f a=some b->P):P:=(IG.mp h).elim λa h=>k a h.1 h.2
theorem aH{o:Option α}{f:α->β}{b:β}(h:o.map f=some b)(k:∀a,o=some a->f a=b->P):P:=(JJ.mp h).elim λa h=>k a h.1 h.2
theorem c0{o:Option α}{f:α->β}{b:β}(h:o.map f=some b)(k:∀a,o=some a->b=f a->P):P:=aH h λa x y=>k a x y.symm
theorem bc(h:(a&&b)=true)(k:a=true->b=true->P):P:=k (IQ.mp h).1 (IQ.mp h).2
theorem t_(h:(a||b)=true)(k:a=true->P)(l:b=true->P):P:=(Qo.mp h).elim k l
theorem dJ{l:List α}{f:α->β}{b:β}(h:b∈l.map f)(k:∀a,a∈l->f a=b->P):P:=(IU.mp h).elim λa h=>k a h.1 h.2
theorem av(h:a∈b::l)(k:a=b->P)(m:a∈l->P):P:=(IJ.mp h).elim k m
theorem bg{l m:List α}{a:α}(h:a∈l++m)(k:a∈l->P)(n:a∈m->P):P:=(JD.mp h).elim k n
theorem ma(h:(a::l).Nodup)(k:a∉l->l.Nodup->P):P:=k (I_.mp h).1 (I_.mp h).2
end
section
variable {P:Prop}{α β γ δ ε ζ:Type}
theorem af{p:α->Prop}(h:∃a,p a)(k:∀a,p a->P):P:=h.elim k
theorem bw{p:α->β->Prop}(h:∃a b,p a b)(k:∀a b,p a b->P):P:=h.elim λa h=>af h (k a)
theorem gm{p:α->β->γ->Prop}(h:∃a b c,p a b c)(k:∀a b c,p a b c->P):P:=h.elim λa h=>bw h (k a)
theorem jy{p:α->β->γ->δ->Prop}(h:∃a b c d,p a b c d)(k:∀a b c d,p a b c d->P):P:=h.elim λa h=>gm h (k a)
theorem E5{p:α->β->γ->δ->ε->Prop}(h:∃a b c d e,p a b c d e)(k:∀a b c d e,p a b c d e->P):P:=h.elim λa h=>jy h (k a)
theorem yi{p:α->β->γ->δ->ε->ζ->Prop}(h:∃a b c d e f,p a b c d e f)(k:∀a b c d e f,p a b c d e f->P):P:=h.elim λa h=>E5 h (k a)
theorem ad{A0 A1:Prop}(h:A0/\A1)(k:A0->A1->P):P:=k h.1 h.2
theorem am{A0 A1 A2:Prop}(h:A0/\A1/\A2)(k:A0->A1->A2->P):P:=ad h.2 (k h.1)
theorem cL{A0 A1 A2 A3:Prop}(h:A0/\A1/\A2/\A3)(k:A0->A1->A2->A3->P):P:=am h.2 (k h.1)
theorem iH{A0 A1 A2 A3 A4:Prop}(h:A0/\A1/\A2/\A3/\A4)(k:A0->A1->A2->A3->A4->P):P:=cL h.2 (k h.1)
theorem iI{A0 A1 A2 A3 A4 A5:Prop}(h:A0/\A1/\A2/\A3/\A4/\A5)(k:A0->A1->A2->A3->A4->A5->P):P:=iH h.2 (k h.1)
theorem jF{A0 A1 A2 A3 A4 A5 A6:Prop}(h:A0/\A1/\A2/\A3/\A4/\A5/\A6)(k:A0->A1->A2->A3->A4->A5->A6->P):P:=iI h.2 (k h.1)
theorem jG{A0 A1 A2 A3 A4 A5 A6 A7:Prop}(h:A0/\A1/\A2/\A3/\A4/\A5/\A6/\A7)(k:A0->A1->A2->A3->A4->A5->A6->A7->P):P:=jF h.2 (k h.1)
theorem Cd{A0 A1 A2 A3 A4 A5 A6 A7 A8:Prop}(h:A0/\A1/\A2/\A3/\A4/\A5/\A6/\A7/\A8)(k:A0->A1->A2->A3->A4->A5->A6->A7->A8->P):P:=jG h.2 (k h.1)
theorem CH{A0 A1 A2 A3 A4 A5 A6 A7 A8 A9:Prop}(h:A0/\A1/\A2/\A3/\A4/\A5/\A6/\A7/\A8/\A9)(k:A0->A1->A2->A3->A4->A5->A6->A7->A8->A9->P):P:=Cd h.2 (k h.1)
end
theorem ae{P:Prop}{α:Type}{p0 p1:α->Prop}(h:∃a,p0 a/\p1 a)(k:∀a,p0 a->p1 a->P):P:=af h λa h=>ad h (k a)
theorem cm{P:Prop}{α:Type}{p0 p1 p2:α->Prop}(h:∃a,p0 a/\p1 a/\p2 a)(k:∀a,p0 a->p1 a->p2 a->P):P:=af h λa h=>am h (k a)
theorem kE{P:Prop}{α:Type}{p0 p1 p2 p3:α->Prop}(h:∃a,p0 a/\p1 a/\p2 a/\p3 a)(k:∀a,p0 a->p1 a->p2 a->p3 a->P):P:=af h λa h=>cL h (k a)
theorem CI{P:Prop}{α:Type}{p0 p1 p2 p3 p4:α->Prop}(h:∃a,p0 a/\p1 a/\p2 a/\p3 a/\p4 a)(k:∀a,p0 a->p1 a->p2 a->p3 a->p4 a->P):P:=af h λa h=>iH h (k a)
theorem ua{P:Prop}{α:Type}{p0 p1 p2 p3 p4 p5:α->Prop}(h:∃a,p0 a/\p1 a/\p2 a/\p3 a/\p4 a/\p5 a)(k:∀a,p0 a->p1 a->p2 a->p3 a->p4 a->p5 a->P):P:=af h λa h=>iI h (k a)
theorem be{P:Prop}{α β:Type}{p0 p1:α->β->Prop}(h:∃a b,p0 a b/\p1 a b)(k:∀a b,p0 a b->p1 a b->P):P:=bw h λa b h=>ad h (k a b)
theorem aP{P:Prop}{α β:Type}{p0 p1 p2:α->β->Prop}(h:∃a b,p0 a b/\p1 a b/\p2 a b)(k:∀a b,p0 a b->p1 a b->p2 a b->P):P:=bw h λa b h=>am h (k a b)
theorem bJ{P:Prop}{α β:Type}{p0 p1 p2 p3:α->β->Prop}(h:∃a b,p0 a b/\p1 a b/\p2 a b/\p3 a b)(k:∀a b,p0 a b->p1 a b->p2 a b->p3 a b->P):P:=bw h λa b h=>cL h (k a b)
theorem GZ{P:Prop}{α β:Type}{p0 p1 p2 p3 p4:α->β->Prop}(h:∃a b,p0 a b/\p1 a b/\p2 a b/\p3 a b/\p4 a b)(k:∀a b,p0 a b->p1 a b->p2 a b->p3 a b->p4 a b->P):P:=bw h λa b h=>iH h (k a b)
theorem G0{P:Prop}{α β:Type}{p0 p1 p2 p3 p4 p5:α->β->Prop}(h:∃a b,p0 a b/\p1 a b/\p2 a b/\p3 a b/\p4 a b/\p5 a b)(k:∀a b,p0 a b->p1 a b->p2 a b->p3 a b->p4 a b->p5 a b->P):P:=bw h λa b h=>iI h (k a b)
theorem E6{P:Prop}{α β:Type}{p0 p1 p2 p3 p4 p5 p6 p7:α->β->Prop}(h:∃a b,p0 a b/\p1 a b/\p2 a b/\p3 a b/\p4 a b/\p5 a b/\p6 a b/\p7 a b)(k:∀a b,p0 a b->p1 a b->p2 a b->p3 a b->p4 a b->p5 a b->p6 a b->p7 a b->P):P:=bw h λa b h=>jG h (k a b)
theorem G1{P:Prop}{α β:Type}{p0 p1 p2 p3 p4 p5 p6 p7 p8:α->β->Prop}(h:∃a b,p0 a b/\p1 a b/\p2 a b/\p3 a b/\p4 a b/\p5 a b/\p6 a b/\p7 a b/\p8 a b)(k:∀a b,p0 a b->p1 a b->p2 a b->p3 a b->p4 a b->p5 a b->p6 a b->p7 a b->p8 a b->P):P:=bw h λa b h=>Cd h (k a b)
theorem gp{P:Prop}{α β γ:Type}{p0 p1:α->β->γ->Prop}(h:∃a b c,p0 a b c/\p1 a b c)(k:∀a b c,p0 a b c->p1 a b c->P):P:=gm h λa b c h=>ad h (k a b c)
theorem CJ{P:Prop}{α β γ:Type}{p0 p1 p2:α->β->γ->Prop}(h:∃a b c,p0 a b c/\p1 a b c/\p2 a b c)(k:∀a b c,p0 a b c->p1 a b c->p2 a b c->P):P:=gm h λa b c h=>am h (k a b c)
theorem CM{P:Prop}{α β γ:Type}{p0 p1 p2 p3:α->β->γ->Prop}(h:∃a b c,p0 a b c/\p1 a b c/\p2 a b c/\p3 a b c)(k:∀a b c,p0 a b c->p1 a b c->p2 a b c->p3 a b c->P):P:=gm h λa b c h=>cL h (k a b c)
theorem yj{P:Prop}{α β γ:Type}{p0 p1 p2 p3 p4 p5:α->β->γ->Prop}(h:∃a b c,p0 a b c/\p1 a b c/\p2 a b c/\p3 a b c/\p4 a b c/\p5 a b c)(k:∀a b c,p0 a b c->p1 a b c->p2 a b c->p3 a b c->p4 a b c->p5 a b c->P):P:=gm h λa b c h=>iI h (k a b c)
theorem CN{P:Prop}{α β γ:Type}{p0 p1 p2 p3 p4 p5 p6:α->β->γ->Prop}(h:∃a b c,p0 a b c/\p1 a b c/\p2 a b c/\p3 a b c/\p4 a b c/\p5 a b c/\p6 a b c)(k:∀a b c,p0 a b c->p1 a b c->p2 a b c->p3 a b c->p4 a b c->p5 a b c->p6 a b c->P):P:=gm h λa b c h=>jF h (k a b c)
theorem HU{P:Prop}{α β γ:Type}{p0 p1 p2 p3 p4 p5 p6 p7:α->β->γ->Prop}(h:∃a b c,p0 a b c/\p1 a b c/\p2 a b c/\p3 a b c/\p4 a b c/\p5 a b c/\p6 a b c/\p7 a b c)(k:∀a b c,p0 a b c->p1 a b c->p2 a b c->p3 a b c->p4 a b c->p5 a b c->p6 a b c->p7 a b c->P):P:=gm h λa b c h=>jG h (k a b c)
theorem CO{P:Prop}{α β γ δ:Type}{p0 p1:α->β->γ->δ->Prop}(h:∃a b c d,p0 a b c d/\p1 a b c d)(k:∀a b c d,p0 a b c d->p1 a b c d->P):P:=jy h λa b c d h=>ad h (k a b c d)
theorem E7{P:Prop}{α β γ δ:Type}{p0 p1 p2:α->β->γ->δ->Prop}(h:∃a b c d,p0 a b c d/\p1 a b c d/\p2 a b c d)(k:∀a b c d,p0 a b c d->p1 a b c d->p2 a b c d->P):P:=jy h λa b c d h=>am h (k a b c d)
theorem CP{P:Prop}{α β γ δ:Type}{p0 p1 p2 p3:α->β->γ->δ->Prop}(h:∃a b c d,p0 a b c d/\p1 a b c d/\p2 a b c d/\p3 a b c d)(k:∀a b c d,p0 a b c d->p1 a b c d->p2 a b c d->p3 a b c d->P):P:=jy h λa b c d h=>cL h (k a b c d)
theorem G3{P:Prop}{α β γ δ:Type}{p0 p1 p2 p3 p4 p5 p6:α->β->γ->δ->Prop}(h:∃a b c d,p0 a b c d/\p1 a b c d/\p2 a b c d/\p3 a b c d/\p4 a b c d/\p5 a b c d/\p6 a b c d)(k:∀a b c d,p0 a b c d->p1 a b c d->p2 a b c d->p3 a b c d->p4 a b c d->p5 a b c d->p6 a b c d->P):P:=jy h λa b c d h=>jF h (k a b c d)
theorem G4{P:Prop}{α β γ δ:Type}{p0 p1 p2 p3 p4 p5 p6 p7:α->β->γ->δ->Prop}(h:∃a b c d,p0 a b c d/\p1 a b c d/\p2 a b c d/\p3 a b c d/\p4 a b c d/\p5 a b c d/\p6 a b c d/\p7 a b c d)(k:∀a b c d,p0 a b c d->p1 a b c d->p2 a b c d->p3 a b c d->p4 a b c d->p5 a b c d->p6 a b c d->p7 a b c d->P):P:=jy h λa b c d h=>jG h (k a b c d)
theorem Hy{P:Prop}{α β γ δ ε:Type}{p0 p1 p2 p3 p4 p5 p6 p7 p8 p9:α->β->γ->δ->ε->Prop}(h:∃a b c d e,p0 a b c d e/\p1 a b c d e/\p2 a b c d e/\p3 a b c d e/\p4 a b c d e/\p5 a b c d e/\p6 a b c d e/\p7 a b c d e/\p8 a b c d e/\p9 a b c d e)(k:∀a b c d e,p0 a b c d e->p1 a b c d e->p2 a b c d e->p3 a b c d e->p4 a b c d e->p5 a b c d e->p6 a b c d e->p7 a b c d e->p8 a b c d e->p9 a b c d e->P):P:=E5 h λa b c d e h=>CH h (k a b c d e)
theorem HV{P:Prop}{α β γ δ ε ζ:Type}{p0 p1 p2 p3 p4 p5 p6:α->β->γ->δ->ε->ζ->Prop}(h:∃a b c d e f,p0 a b c d e f/\p1 a b c d e f/\p2 a b c d e f/\p3 a b c d e f/\p4 a b c d e f/\p5 a b c d e f/\p6 a b c d e f)(k:∀a b c d e f,p0 a b c d e f->p1 a b c d e f->p2 a b c d e f->p3 a b c d e f->p4 a b c d e f->p5 a b c d e f->p6 a b c d e f->P):P:=yi h λa b c d e f h=>jF h (k a b c d e f)
@[elab_as_elim] theorem ub {α η:Type} {g:α->η} {p0 p1 p2 p3:α->Prop} {u:η} {motive:η->Prop} (h:∃a,u=g a/\p0 a/\p1 a/\p2 a/\p3 a) (k:∀a,p0 a->p1 a->p2 a->p3 a->motive (g a)):motive u:=PW h λa h=>h.1▸k a h.2.1 h.2.2.1 h.2.2.2.1 h.2.2.2.2
@[elab_as_elim] theorem E8 {α β η:Type} {g:α->β->η} {p0 p1 p2 p3 p4:α->β->Prop} {u:η} {motive:η->Prop} (h:∃a b,u=g a b/\p0 a b/\p1 a b/\p2 a b/\p3 a b/\p4 a b) (k:∀a b,p0 a b->p1 a b->p2 a b->p3 a b->p4 a b->motive (g a b)):motive u:=PW h λa h=>h.elim λb h=>h.1▸k a b h.2.1 h.2.2.1 h.2.2.2.1 h.2.2.2.2.1 h.2.2.2.2.2
@[elab_as_elim] theorem HW {α β γ δ η:Type} {g:α->β->γ->δ->η} {p0 p1 p2:α->β->γ->δ->Prop} {u:η} {motive:η->Prop} (h:∃a b c d,u=g a b c d/\p0 a b c d/\p1 a b c d/\p2 a b c d) (k:∀a b c d,p0 a b c d->p1 a b c d->p2 a b c d->motive (g a b c d)):motive u:=PW h λa h=>h.elim λb h=>h.elim λc h=>h.elim λd h=>h.1▸k a b c d h.2.1 h.2.2.1 h.2.2.2
theorem aO{α:Type}{o:Option α}{p:α->Prop}{x:α}(k:o.elim True p)(h:o=some x):p x:=by subst h;exact k
section
variable {α:Type}
noncomputable def E9 (t:Sem α):Option Jn:=@Sem.rec α (λZ=>Option Jn) (λZ=>none) (λZ=>none) (λZ=>none) (λZ=>none) (λZ Z Z=>none) (λZ Z Z=>none) (λa Z Z Z=>some a) (λZ Z Z Z Z=>none) (λZ Z Z=>none) (λZ Z Z=>none) (λZ Z Z=>none) (λZ Z Z=>none) (λZ Z=>none) (λZ Z=>none) (λZ Z Z Z=>none) (λZ Z Z Z=>none) (λZ Z Z Z Z Z=>none) (λZ Z Z=>none) (λZ Z Z=>none) (λZ Z Z=>none) (λZ Z Z Z Z=>none) (λZ Z Z Z Z=>none) (λZ Z=>none) (λZ Z Z=>none) (λZ Z=>none) (λZ Z Z Z Z Z=>none) t
noncomputable def iJ (t:Sem α)(o:Obj):Sem α:=@Sem.rec α (λZ=>Sem α) (λZ=>t) (λZ=>t) (λZ=>t) (λZ=>t) (λZ Z Z=>t) (λZ Z Z=>t) (λZ Z k Z=>k o) (λZ Z Z Z Z=>t) (λZ Z Z=>t) (λZ Z Z=>t) (λZ Z Z=>t) (λZ Z Z=>t) (λZ Z=>t) (λZ Z=>t) (λZ Z Z Z=>t) (λZ Z Z Z=>t) (λZ Z Z Z Z Z=>t) (λZ Z Z=>t) (λZ Z Z=>t) (λZ Z Z=>t) (λZ Z Z Z Z=>t) (λZ Z Z Z Z=>t) (λZ Z=>t) (λZ Z Z=>t) (λZ Z=>t) (λZ Z Z Z Z Z=>t) t
theorem nn{a:α}{P:Prop}(h:(none:Option α)=some a):P:=by cases h
theorem CQ(t:Sem α):(E9 t).elim True λa=>∃part,t=.load a part (iJ t):=by
 induction t<;>first|exact trivial|exact⟨_,rfl⟩
theorem CR{t:Sem α}{a:Jn}(h:E9 t=some a):∃part,t=.load a part (iJ t):=aO (p:=λa=>∃part,t=.load a part (iJ t)) (CQ t) h
theorem wL(hi:E9 t=some a)(ho:s.heap.get? a=some o)(h:ID M A (iJ t o) Q E s):ID M A t Q E s:=PW (CR hi) λpart e=>(e).symm▸(Ir (m:=loadPart a part) (f:=iJ t) (wpAny_loadPart ho h))
theorem HX(hi:E9 t=some a)(ho:s.heap.get? a=some o)(e:iJ t o=pure r)(q:Q r s):ID M A t Q E s:=wL hi ho (aa e (Ix q))
end
noncomputable def o0 {α β:Type}(l:List α)(k:Option β):Option β:=@J6 α (λZ=>Option β) l k λZ Z=>.none
noncomputable def o1 {α β:Type}(l:List α)(k:α->Option β):Option β:=@J6 α (λZ=>Option β) l .none λa r=>o0 r (k a)
noncomputable def o2 {α β:Type}(l:List α)(k:α->α->Option β):Option β:=@J6 α (λZ=>Option β) l .none λa r=>o1 r (k a)
theorem ES{α β:Type}{l:List α}{k:Option β}{b:β}{P:Prop}(h:o0 l k=some b)(K:l=[]->k=some b->P):P:=by
 induction l with
 |nil=>exact K rfl h
 |cons a r=>exact nn h
theorem ET{α β:Type}{l:List α}{k:α->Option β}{b:β}{P:Prop}(h:o1 l k=some b)(K:∀x,l=[x]->k x=some b->P):P:=by
 cases l with
 |nil=>exact nn h
 |cons a r=>exact ES h λq=>by subst q;exact K a rfl
theorem EU{α β:Type}{l:List α}{k:α->α->Option β}{b:β}{P:Prop}(h:o2 l k=some b)(K:∀x y,l=[x,y]->k x y=some b->P):P:=by
 cases l with
 |nil=>exact nn h
 |cons a r=>exact ET h λy q=>by subst q;exact K a y rfl
noncomputable def n5 {α:Type}(k:Nat)(a b c d e:α):α:=@Lj (λZ=>α) k a λk=>@Lj (λZ=>α) k b λk=>@Lj (λZ=>α) k c λk=>@Lj (λZ=>α) k d λZ=>e
@[elab_as_elim] theorem cq {P:Nat->Prop} (k:Nat) (h0:P 0) (h1:P 1) (h2:P 2) (h3:P 3) (h4:∀k,P (k+4)):P k:=@Lj P k h0 λk=>@Lj (λk=>P (k+1)) k h1 λk=>@Lj (λk=>P (k+2)) k h2 λk=>@Lj (λk=>P (k+3)) k h3 h4
noncomputable def bQ (e:JC):Bool:=@Jo (λZ=>Bool) e (λZ Z Z=>false) (λZ Z Z=>false) (λZ Z Z Z=>false) (λZ Z Z=>false) (λZ Z Z Z=>false) (λZ Z Z Z=>false) (λZ Z Z=>false) (λZ Z Z=>false) (λZ Z Z Z=>false) (λZ Z Z Z=>false) (λZ Z Z Z Z=>false) (λZ Z Z Z=>false) (λZ Z=>false) (λZ Z=>false) (λZ Z=>false) (λZ Z Z Z=>false) (λZ Z Z Z=>false) (λZ Z Z Z=>false) (λZ Z=>false) (λZ Z Z=>false) (λZ Z Z=>false) (λZ Z Z=>false) (λZ Z=>true) (λZ Z=>false) (λZ Z=>false) (λZ Z Z=>false) (λZ Z Z Z=>false)
noncomputable def e_ (e:JC):Bool:=@Jo (λZ=>Bool) e (λZ Z Z=>false) (λZ Z Z=>false) (λZ Z Z Z=>false) (λZ Z Z=>false) (λZ Z Z Z=>false) (λZ Z Z Z=>false) (λZ Z Z=>false) (λZ Z Z=>true) (λZ Z Z Z=>false) (λZ Z Z Z=>false) (λZ Z Z Z Z=>false) (λZ Z Z Z=>false) (λZ Z=>false) (λZ Z=>false) (λZ Z=>false) (λZ Z Z Z=>false) (λZ Z Z Z=>false) (λZ Z Z Z=>false) (λZ Z=>false) (λZ Z Z=>false) (λZ Z Z=>false) (λZ Z Z=>false) (λZ Z=>false) (λZ Z=>false) (λZ Z=>false) (λZ Z Z=>false) (λZ Z Z Z=>false)
noncomputable def fH (e:JC):Bool:=@Jo (λZ=>Bool) e (λZ Z Z=>false) (λZ Z Z=>false) (λZ Z Z Z=>false) (λZ Z Z=>false) (λZ Z Z Z=>false) (λZ Z Z Z=>false) (λZ Z Z=>false) (λZ Z Z=>false) (λZ Z Z Z=>true) (λZ Z Z Z=>true) (λZ Z Z Z Z=>true) (λZ Z Z Z=>false) (λZ Z=>false) (λZ Z=>false) (λZ Z=>false) (λZ Z Z Z=>false) (λZ Z Z Z=>false) (λZ Z Z Z=>false) (λZ Z=>false) (λZ Z Z=>false) (λZ Z Z=>false) (λZ Z Z=>false) (λZ Z=>false) (λZ Z=>false) (λZ Z=>false) (λZ Z Z=>false) (λZ Z Z Z=>false)
noncomputable def E_ (e:JC):Bool:=@Jo (λZ=>Bool) e (λZ Z Z=>false) (λZ Z Z=>false) (λZ Z Z Z=>false) (λZ Z Z=>false) (λZ Z Z Z=>false) (λZ Z Z Z=>false) (λZ Z Z=>false) (λZ Z Z=>false) (λZ Z Z Z=>true) (λZ Z Z Z=>false) (λZ Z Z Z Z=>false) (λZ Z Z Z=>false) (λZ Z=>false) (λZ Z=>false) (λZ Z=>false) (λZ Z Z Z=>false) (λZ Z Z Z=>false) (λZ Z Z Z=>false) (λZ Z=>false) (λZ Z Z=>false) (λZ Z Z=>false) (λZ Z Z=>false) (λZ Z=>false) (λZ Z=>false) (λZ Z=>false) (λZ Z Z=>false) (λZ Z Z Z=>false)
noncomputable def ip (e:JC):Bool:=@Jo (λZ=>Bool) e (λZ Z Z=>false) (λZ Z Z=>false) (λZ Z Z Z=>false) (λZ Z Z=>false) (λZ Z Z Z=>false) (λZ Z Z Z=>false) (λZ Z Z=>false) (λZ Z Z=>false) (λZ Z Z Z=>false) (λZ Z Z Z=>false) (λZ Z Z Z Z=>false) (λZ Z Z Z=>false) (λZ Z=>false) (λZ Z=>false) (λZ Z=>false) (λZ Z Z Z=>false) (λZ Z Z Z=>true) (λZ Z Z Z=>false) (λZ Z=>false) (λZ Z Z=>false) (λZ Z Z=>false) (λZ Z Z=>false) (λZ Z=>false) (λZ Z=>false) (λZ Z=>false) (λZ Z Z=>false) (λZ Z Z Z=>false)
noncomputable def kF (e:JC):Bool:=@Jo (λZ=>Bool) e (λZ Z Z=>false) (λZ Z Z=>false) (λZ Z Z Z=>false) (λZ Z Z=>false) (λZ Z Z Z=>false) (λZ Z Z Z=>false) (λZ Z Z=>false) (λZ Z Z=>false) (λZ Z Z Z=>false) (λZ Z Z Z=>false) (λZ Z Z Z Z=>false) (λZ Z Z Z=>false) (λZ Z=>false) (λZ Z=>false) (λZ Z=>false) (λZ Z Z Z=>false) (λZ Z Z Z=>false) (λZ Z Z Z=>false) (λZ Z=>false) (λZ Z Z=>false) (λZ Z Z=>false) (λZ Z Z=>false) (λZ Z=>false) (λZ Z=>false) (λZ Z=>true) (λZ Z Z=>true) (λZ Z Z Z=>false)
def yk (e:JC)(nm:Str->Pos->Prop)(at_:JC->Str->Pos->Prop)(sub:JC->JC->Pos->Prop)(tup:List JC->Nat->Pos->Prop)(lc:JC->List MZ->Od->Pos->Prop)(call:JC->List JC->List Ny->Pos->Prop):Prop:=
 @Jo (λZ=>Prop) e (λZ Z Z=>False) (λZ Z Z=>False) (λZ Z Z Z=>False) (λZ Z Z=>False) (λZ Z Z Z=>False) (λZ Z Z Z=>False) (λZ Z Z=>False) (λZ Z Z=>False) lc (λZ Z Z Z=>False) (λZ Z Z Z Z=>False) (λZ Z Z Z=>False) (λZ Z=>False) (λZ Z=>False) (λZ Z=>False) (λZ Z Z Z=>False) call (λZ Z Z Z=>False) (λZ Z=>False) (λZ Z Z=>False) at_ sub (λZ Z=>False) nm (λZ Z=>False) tup (λZ Z Z Z=>False)
inductive HY(e:JC)(nm:Str->Pos->Prop)(at_:JC->Str->Pos->Prop)(sub:JC->JC->Pos->Prop)(tup:List JC->Nat->Pos->Prop)(lc:JC->List MZ->Od->Pos->Prop)(call:JC->List JC->List Ny->Pos->Prop):Prop
 |nm (x:Str) (p:Pos) (h:e=.Name x p) (k:nm x p)
 |at_ (o:JC) (a:Str) (p:Pos) (h:e=.Attribute o a p) (k:at_ o a p)
 |sub (o i:JC) (p:Pos) (h:e=.Subscript o i p) (k:sub o i p)
 |tup (l:List JC) (n:Nat) (p:Pos) (h:e=.Tuple l n p) (k:tup l n p)
 |lc (elt:JC) (g:List MZ) (sc:Od) (p:Pos) (h:e=.ListComp elt g sc p) (k:lc elt g sc p)
 |call (f:JC) (args:List JC) (kws:List Ny) (p:Pos) (h:e=.Call f args kws p) (k:call f args kws p)
theorem dK{e}{nm}{at_}{sub}{tup}{lc:JC->List MZ->Od->Pos->Prop}{call:JC->List JC->List Ny->Pos->Prop}(h:yk e nm at_ sub tup lc call):HY e nm at_ sub tup lc call:=by
 refine cU λhn=>?_;cases e<;>first|exact h|skip
 . exact hn (.lc _ _ _ _ rfl h)
 . exact hn (.call _ _ _ _ rfl h)
 . exact hn (.at_ _ _ _ rfl h)
 . exact hn (.sub _ _ _ rfl h)
 . exact hn (.nm _ _ rfl h)
 . exact hn (.tup _ _ _ rfl h)
def md (e:JC)(K:Str->Pos->Prop):Prop:=yk e K (λZ Z Z=>False) (λZ Z Z=>False) (λZ Z Z=>False) (λZ Z Z Z=>False) (λZ Z Z Z=>False)
inductive HZ(e:JC)(K:Str->Pos->Prop):Prop|mk (x:Str) (p:Pos) (h:e=.Name x p) (k:K x p)
theorem dL{e}{K}(h:md e K):HZ e K:=by
 induction dK h with
 |nm x p h k=>exact⟨x,p,h,k⟩
 |_=>contradiction
theorem gW{p}(k:cond b True p)(h:(!b)=true):p:=by cases b with|true=>exact IE h|false=>exact k
theorem condT{p}(k:cond b p True)(h:b=true):p:=by subst h;exact k
theorem d5(h:(!bQ x)=true):ML (x::r) env=(false,LH x env)::ML r env:=gW (@Jo (λo=>cond (bQ o) True (ML (o::r) env=(false,LH o env)::ML r env)) x (λZ Z Z=>Iy _) (λZ Z Z=>Iy _) (λZ Z Z Z=>Iy _) (λZ Z Z=>Iy _) (λZ Z Z Z=>Iy _) (λZ Z Z Z=>Iy _) (λZ Z Z=>Iy _) (λZ Z Z=>Iy _) (λZ Z Z Z=>Iy _) (λZ Z Z Z=>Iy _) (λZ Z Z Z Z=>Iy _) (λZ Z Z Z=>Iy _) (λZ Z=>Iy _) (λZ Z=>Iy _) (λZ Z=>Iy _) (λZ Z Z Z=>Iy _) (λZ Z Z Z=>Iy _) (λZ Z Z Z=>Iy _) (λZ Z=>Iy _) (λZ Z Z=>Iy _) (λZ Z Z=>Iy _) (λZ Z Z=>Iy _) (λZ Z=>trivial) (λZ Z=>Iy _) (λZ Z=>Iy _) (λZ Z Z=>Iy _) (λZ Z Z Z=>Iy _)) h
theorem iK(h:(!e_ iter)=true)(x):Ro iter env x=pure x:=gW (@Jo (λo=>cond (e_ o) True (Ro o env x=pure x)) iter (λZ Z Z=>Iy (pure x)) (λZ Z Z=>Iy (pure x)) (λZ Z Z Z=>Iy (pure x)) (λZ Z Z=>Iy (pure x)) (λZ Z Z Z=>Iy (pure x)) (λZ Z Z Z=>Iy (pure x)) (λZ Z Z=>Iy (pure x)) (λZ Z Z=>trivial) (λZ Z Z Z=>Iy (pure x)) (λZ Z Z Z=>Iy (pure x)) (λZ Z Z Z Z=>Iy (pure x)) (λZ Z Z Z=>Iy (pure x)) (λZ Z=>Iy (pure x)) (λZ Z=>Iy (pure x)) (λZ Z=>Iy (pure x)) (λZ Z Z Z=>Iy (pure x)) (λZ Z Z Z=>Iy (pure x)) (λZ Z Z Z=>Iy (pure x)) (λZ Z=>Iy (pure x)) (λZ Z Z=>Iy (pure x)) (λZ Z Z=>Iy (pure x)) (λZ Z Z=>Iy (pure x)) (λZ Z=>Iy (pure x)) (λZ Z=>Iy (pure x)) (λZ Z=>Iy (pure x)) (λZ Z Z=>Iy (pure x)) (λZ Z Z Z=>Iy (pure x))) h
theorem si(h:(!e_ r)=true):QL op r=false:=gW (@Jo (λo=>cond (e_ o) True (QL op o=false)) r (λZ Z Z=>Iy false) (λZ Z Z=>Iy false) (λZ Z Z Z=>Iy false) (λZ Z Z=>Iy false) (λZ Z Z Z=>Iy false) (λZ Z Z Z=>Iy false) (λZ Z Z=>Iy false) (λZ Z Z=>trivial) (λZ Z Z Z=>Iy false) (λZ Z Z Z=>Iy false) (λZ Z Z Z Z=>Iy false) (λZ Z Z Z=>Iy false) (λZ Z=>Iy false) (λZ Z=>Iy false) (λZ Z=>Iy false) (λZ Z Z Z=>Iy false) (λZ Z Z Z=>Iy false) (λZ Z Z Z=>Iy false) (λZ Z=>Iy false) (λZ Z Z=>Iy false) (λZ Z Z=>Iy false) (λZ Z Z=>Iy false) (λZ Z=>Iy false) (λZ Z=>Iy false) (λZ Z=>Iy false) (λZ Z Z=>Iy false) (λZ Z Z Z=>Iy false)) h
theorem uc(h:ip v=true):∃f a k p,v=.Call f a k p:=condT (@Jo (λo=>cond (ip o) (∃f a k p,o=.Call f a k p) True) v (λZ Z Z=>trivial) (λZ Z Z=>trivial) (λZ Z Z Z=>trivial) (λZ Z Z=>trivial) (λZ Z Z Z=>trivial) (λZ Z Z Z=>trivial) (λZ Z Z=>trivial) (λZ Z Z=>trivial) (λZ Z Z Z=>trivial) (λZ Z Z Z=>trivial) (λZ Z Z Z Z=>trivial) (λZ Z Z Z=>trivial) (λZ Z=>trivial) (λZ Z=>trivial) (λZ Z=>trivial) (λZ Z Z Z=>trivial) (λf a k p=>⟨f,a,k,p,rfl⟩) (λZ Z Z Z=>trivial) (λZ Z=>trivial) (λZ Z Z=>trivial) (λZ Z Z=>trivial) (λZ Z Z=>trivial) (λZ Z=>trivial) (λZ Z=>trivial) (λZ Z=>trivial) (λZ Z Z=>trivial) (λZ Z Z Z=>trivial)) h
theorem yl{K}{f}(h:fnIn K f=true):∃o,K.lookup f=some o/\∃fd,o.data=.func fd:=by
 unfold fnIn at h;induction q:K.lookup f with
 |none=>rw[q]at h;exact IE h
 |some o=>
  rw[q]at h;obtain⟨c,d,dt,s⟩:=o;cases dt<;>first|exact IE h|exact⟨_,rfl,_,rfl⟩
theorem me{K}{c}{cd:ClassData}(h:clsIn K c=some cd):∃oc od sl,K.lookup c=some ⟨oc,od,.cls cd,sl⟩:=by
 unfold clsIn at h;induction q:K.lookup c with
 |none=>exact nn (q▸h)
 |some o=>
  rw[q]at h;obtain⟨c,d,dt,s⟩:=o;cases dt<;>first|exact nn h|(refine aa (Iw h) ?_;exact⟨_,_,_,rfl⟩)
noncomputable def Fa (e:JC):Bool:=@Jo (λZ=>Bool) e (λZ Z Z=>false) (λZ Z Z=>false) (λZ Z Z Z=>false) (λZ Z Z=>false) (λZ Z Z Z=>false) (λZ Z Z Z=>false) (λZ Z Z=>false) (λZ Z Z=>false) (λZ Z Z Z=>false) (λZ Z Z Z=>false) (λZ Z Z Z Z=>false) (λZ Z Z Z=>false) (λZ Z=>false) (λZ Z=>false) (λZ Z=>false) (λZ Z Z Z=>false) (λZ Z Z Z=>false) (λZ Z Z Z=>false) (λZ Z=>false) (λZ Z Z=>false) (λZ Z Z=>false) (λZ Z Z=>false) (λZ Z=>false) (λZ Z=>true) (λZ Z=>false) (λZ Z Z=>false) (λZ Z Z Z=>false)
noncomputable def bV (o:JC):Bool:=@Jo (λZ=>Bool) o (λZ Z Z=>true) (λZ Z Z=>true) (λZ Z Z Z=>true) (λZ Z Z=>true) (λZ Z Z Z=>true) (λZ Z Z Z=>true) (λZ Z Z=>true) (λZ Z Z=>true) (λZ Z Z Z=>true) (λZ Z Z Z=>true) (λZ Z Z Z Z=>true) (λZ Z Z Z=>true) (λZ Z=>true) (λZ Z=>true) (λZ Z=>true) (λZ Z Z Z=>true) (λf a k Z=>!Fa f|| !a.isEmpty|| !k.isEmpty) (λZ Z Z Z=>true) (λZ Z=>true) (λZ Z Z=>true) (λZ Z Z=>true) (λZ Z Z=>true) (λZ Z=>true) (λZ Z=>true) (λZ Z=>true) (λZ Z Z=>true) (λZ Z Z Z=>true)
theorem og(attr)(env)(t:Sem IF)(o):cond (bV o) (Mp o attr env t=t) True:=
 @Jo (λo=>cond (bV (o)) (Mp (o) attr env t=t) True) o (λZ Z Z=>Iy t) (λZ Z Z=>Iy t) (λZ Z Z Z=>Iy t) (λZ Z Z=>Iy t) (λZ Z Z Z=>Iy t) (λZ Z Z Z=>Iy t) (λZ Z Z=>Iy t) (λZ Z Z=>Iy t) (λZ Z Z Z=>Iy t) (λZ Z Z Z=>Iy t) (λZ Z Z Z Z=>Iy t) (λZ Z Z Z=>Iy t) (λZ Z=>Iy t) (λZ Z=>Iy t) (λZ Z=>Iy t) (λZ Z Z Z=>Iy t) (λf a k p=>@Jo (λo=>cond (bV (.Call o a k p)) (Mp (.Call o a k p) attr env t=t) True) f (λZ Z Z=>Iy t) (λZ Z Z=>Iy t) (λZ Z Z Z=>Iy t) (λZ Z Z=>Iy t) (λZ Z Z Z=>Iy t) (λZ Z Z Z=>Iy t) (λZ Z Z=>Iy t) (λZ Z Z=>Iy t) (λZ Z Z Z=>Iy t) (λZ Z Z Z=>Iy t) (λZ Z Z Z Z=>Iy t) (λZ Z Z Z=>Iy t) (λZ Z=>Iy t) (λZ Z=>Iy t) (λZ Z=>Iy t) (λZ Z Z Z=>Iy t) (λZ Z Z Z=>Iy t) (λZ Z Z Z=>Iy t) (λZ Z=>Iy t) (λZ Z Z=>Iy t) (λZ Z Z=>Iy t) (λZ Z Z=>Iy t) (λZ Z=>Iy t) (λx q=>@J6 _ (λa=>cond (bV (.Call (.Name x q) a k p)) (Mp (.Call (.Name x q) a k p) attr env t=t) True) a (@J6 _ (λk=>cond (bV (.Call (.Name x q) [] k p)) (Mp (.Call (.Name x q) [] k p) attr env t=t) True) k trivial (λZ Z=>Iy t)) (λZ Z=>Iy t)) (λZ Z=>Iy t) (λZ Z Z=>Iy t) (λZ Z Z Z=>Iy t)) (λZ Z Z Z=>Iy t) (λZ Z=>Iy t) (λZ Z Z=>Iy t) (λZ Z Z=>Iy t) (λZ Z Z=>Iy t) (λZ Z=>Iy t) (λZ Z=>Iy t) (λZ Z=>Iy t) (λZ Z Z=>Iy t) (λZ Z Z Z=>Iy t)
theorem dc(h:bV o=true)(attr)(env)(t:Sem IF):Mp o attr env t=t:=
 cast (congrArg (λb=>cond b (Mp o attr env t=t) True) h) (og attr env t o)
noncomputable def slice? (e:JC):Option (Option JC×Option JC×Option JC×Pos):=@Jo (λZ=>Option (Option JC×Option JC×Option JC×Pos)) e (λZ Z Z=>.none) (λZ Z Z=>.none) (λZ Z Z Z=>.none) (λZ Z Z=>.none) (λZ Z Z Z=>.none) (λZ Z Z Z=>.none) (λZ Z Z=>.none) (λZ Z Z=>.none) (λZ Z Z Z=>.none) (λZ Z Z Z=>.none) (λZ Z Z Z Z=>.none) (λZ Z Z Z=>.none) (λZ Z=>.none) (λZ Z=>.none) (λZ Z=>.none) (λZ Z Z Z=>.none) (λZ Z Z Z=>.none) (λZ Z Z Z=>.none) (λZ Z=>.none) (λZ Z Z=>.none) (λZ Z Z=>.none) (λZ Z Z=>.none) (λZ Z=>.none) (λZ Z=>.none) (λZ Z=>.none) (λZ Z Z=>.none) (λa b c p=>some (a,b,c,p))
theorem ud(e):(slice? e).elim True λp=>e=.Slice p.1 p.2.1 p.2.2.1 p.2.2.2:=@Jo (λo=>(slice? o).elim True λp=>o=.Slice p.1 p.2.1 p.2.2.1 p.2.2.2) e (λZ Z Z=>trivial) (λZ Z Z=>trivial) (λZ Z Z Z=>trivial) (λZ Z Z=>trivial) (λZ Z Z Z=>trivial) (λZ Z Z Z=>trivial) (λZ Z Z=>trivial) (λZ Z Z=>trivial) (λZ Z Z Z=>trivial) (λZ Z Z Z=>trivial) (λZ Z Z Z Z=>trivial) (λZ Z Z Z=>trivial) (λZ Z=>trivial) (λZ Z=>trivial) (λZ Z=>trivial) (λZ Z Z Z=>trivial) (λZ Z Z Z=>trivial) (λZ Z Z Z=>trivial) (λZ Z=>trivial) (λZ Z Z=>trivial) (λZ Z Z=>trivial) (λZ Z Z=>trivial) (λZ Z=>trivial) (λZ Z=>trivial) (λZ Z=>trivial) (λZ Z Z=>trivial) (λZ Z Z Z=>rfl)
theorem iL(sl)(P:Sem IF->Prop)(h:∀vs,P (operate vs (getItem o i))):P (R5 sl false o i):=@Jo (λo=>P (R5 o false _ _)) sl (λZ Z Z=>h _) (λZ Z Z=>h _) (λZ Z Z Z=>h _) (λZ Z Z=>h _) (λZ Z Z Z=>h _) (λZ Z Z Z=>h _) (λZ Z Z=>h _) (λZ Z Z=>h _) (λZ Z Z Z=>h _) (λZ Z Z Z=>h _) (λZ Z Z Z Z=>h _) (λZ Z Z Z=>h _) (λZ Z=>h _) (λZ Z=>h _) (λZ Z=>h _) (λZ Z Z Z=>h _) (λZ Z Z Z=>h _) (λZ Z Z Z=>h _) (λZ Z=>h _) (λZ Z Z=>h _) (λZ Z Z=>h _) (λZ Z Z=>h _) (λZ Z=>h _) (λZ Z=>h _) (λZ Z=>h _) (λZ Z Z=>h _) (λZ Z c Z=>@KI _ (λc=>P (R5 (.Slice _ _ c _) false _ _)) c (h _) (λZ=>h _))
noncomputable def oh (e:JC):Option JC:=@Jo (λZ=>Option JC) e (λZ Z Z=>.none) (λZ Z Z=>.none) (λZ Z Z Z=>.none) (λZ Z Z=>.none) (λZ Z Z Z=>.none) (λZ Z Z Z=>.none) (λZ Z Z=>.none) (λZ Z Z=>.none) (λZ Z Z Z=>.none) (λZ Z Z Z=>.none) (λZ Z Z Z Z=>.none) (λZ Z Z Z=>.none) (λZ Z=>.none) (λZ Z=>.none) (λZ Z=>.none) (λZ Z Z Z=>.none) (λZ Z Z Z=>.none) (λZ Z Z Z=>.none) (λZ Z=>.none) (λZ Z Z=>.none) (λZ Z Z=>.none) (λZ Z Z=>.none) (λx Z=>some x) (λZ Z=>.none) (λZ Z=>.none) (λZ Z Z=>.none) (λZ Z Z Z=>.none)
theorem sj(e):(oh e).elim True λx=>∃p,e=.Starred x p:=@Jo (λo=>(oh o).elim True λx=>∃p,o=.Starred x p) e (λZ Z Z=>trivial) (λZ Z Z=>trivial) (λZ Z Z Z=>trivial) (λZ Z Z=>trivial) (λZ Z Z Z=>trivial) (λZ Z Z Z=>trivial) (λZ Z Z=>trivial) (λZ Z Z=>trivial) (λZ Z Z Z=>trivial) (λZ Z Z Z=>trivial) (λZ Z Z Z Z=>trivial) (λZ Z Z Z=>trivial) (λZ Z=>trivial) (λZ Z=>trivial) (λZ Z=>trivial) (λZ Z Z Z=>trivial) (λZ Z Z Z=>trivial) (λZ Z Z Z=>trivial) (λZ Z=>trivial) (λZ Z Z=>trivial) (λZ Z Z=>trivial) (λZ Z Z=>trivial) (λx p=>⟨p,rfl⟩) (λZ Z=>trivial) (λZ Z=>trivial) (λZ Z Z=>trivial) (λZ Z Z Z=>trivial)
noncomputable def strOf (e:JC):Option Str:=@Jo (λZ=>Option Str) e (λZ Z Z=>.none) (λZ Z Z=>.none) (λZ Z Z Z=>.none) (λZ Z Z=>.none) (λZ Z Z Z=>.none) (λZ Z Z Z=>.none) (λZ Z Z=>.none) (λZ Z Z=>.none) (λZ Z Z Z=>.none) (λZ Z Z Z=>.none) (λZ Z Z Z Z=>.none) (λZ Z Z Z=>.none) (λZ Z=>.none) (λZ Z=>.none) (λZ Z=>.none) (λZ Z Z Z=>.none) (λZ Z Z Z=>.none) (λZ Z Z Z=>.none) (λZ Z=>.none) (λc Z Z=>@QE (λZ=>Option Str) c .none (λZ=>.none) (λZ=>.none) (λZ=>.none) (λZ Z=>.none) some (λZ=>.none) .none) (λZ Z Z=>.none) (λZ Z Z=>.none) (λZ Z=>.none) (λZ Z=>.none) (λZ Z=>.none) (λZ Z Z=>.none) (λZ Z Z Z=>.none)
theorem mf(e):(strOf e).elim True λx=>∃k p,e=.Constant (.str x) k p:=@Jo (λo=>(strOf o).elim True λx=>∃k p,o=.Constant (.str x) k p) e (λZ Z Z=>trivial) (λZ Z Z=>trivial) (λZ Z Z Z=>trivial) (λZ Z Z=>trivial) (λZ Z Z Z=>trivial) (λZ Z Z Z=>trivial) (λZ Z Z=>trivial) (λZ Z Z=>trivial) (λZ Z Z Z=>trivial) (λZ Z Z Z=>trivial) (λZ Z Z Z Z=>trivial) (λZ Z Z Z=>trivial) (λZ Z=>trivial) (λZ Z=>trivial) (λZ Z=>trivial) (λZ Z Z Z=>trivial) (λZ Z Z Z=>trivial) (λZ Z Z Z=>trivial) (λZ Z=>trivial) (λc k p=>@QE (λc=>(strOf (.Constant c k p)).elim True λx=>∃k' p',JC.Constant c k p=.Constant (.str x) k' p') c trivial (λZ=>trivial) (λZ=>trivial) (λZ=>trivial) (λZ Z=>trivial) (λZ=>⟨k,p,rfl⟩) (λZ=>trivial) trivial) (λZ Z Z=>trivial) (λZ Z Z=>trivial) (λZ Z=>trivial) (λZ Z=>trivial) (λZ Z=>trivial) (λZ Z Z=>trivial) (λZ Z Z Z=>trivial)
def sm {α:Type}(l:List α)(k:α->Prop):Prop:=@J6 α (λZ=>Prop) l False λx r=>@J6 α (λZ=>Prop) r (k x) λZ Z=>False
theorem mh{α:Type}{l:List α}{k:α->Prop}{P:Prop}(h:sm l k)(K:∀x,l=[x]->k x->P):P:=by
 cases l with
 |nil=>exact Mc h
 |cons x r=>induction r with
  |nil=>exact K x rfl h
  |cons Z Z=>exact Mc h
noncomputable def qH (l:List JC):Option JC:=o1 l oh
theorem ue(h:qH l=some x):∃p,l=[.Starred x p]:=ET h λe q h=>af (aO (p:=λx=>∃p,e=.Starred x p) (sj e) h) λp q'=>⟨p,q'▸q⟩
noncomputable def ym (l:List JC):Option (Str×Str):=o2 l λa b=>(strOf a).bind λy=>(strOf b).map λz=>(y,z)
theorem yn(h:ym l=some q):∃k p k' p',l=[.Constant (.str q.1) k p,.Constant (.str q.2) k' p']:=EU h λa b h0 h=>ag h λy h1 h2=>aH h2 λz h3 q=>bw (aO (p:=λx=>∃k p,a=.Constant (.str x) k p) (mf a) h1) λk p e=>bw (aO (p:=λx=>∃k p,b=.Constant (.str x) k p) (mf b) h3) λk' p' e'=>⟨k,p,k',p',q▸e▸e'▸h0⟩
section
mutual
inductive BI where
 |len|sum|sorted|max|iter|isinstance|lAppend|lPop|lClear|sJoin|sEncode|sMaketrans|sTranslate|dFromkeys|dGet|dValues|bCount|stAdd|qAppend|qPop|pSub|oNew
inductive TY where
 |range|dict|tuple|set|type|int|bool|str|deque|object|stop|none
end
noncomputable def BI.id:BI->String
 |.len=>"len"|.sum=>"sum"|.sorted=>"sorted"|.max=>"max"|.iter=>"iter"|.isinstance=>"isinstance"|.lAppend=>"list.append"|.lPop=>"list.pop"|.lClear=>"list.clear"
 |.sJoin=>"str.join"|.sEncode=>"str.encode"|.sMaketrans=>"str.maketrans"|.sTranslate=>"str.translate"|.dFromkeys=>"dict.fromkeys"|.dGet=>"dict.get"|.dValues=>"dict.values"
 |.bCount=>"bytes.count"|.stAdd=>"set.add"|.qAppend=>"collections.deque.append"|.qPop=>"collections.deque.pop"|.pSub=>"re.Pattern.sub"|.oNew=>"object.__new__"
noncomputable def TY.id:TY->String
 |.range=>"range"|.dict=>"dict"|.tuple=>"tuple"|.set=>"set"|.type=>"type"|.int=>"int"|.bool=>"bool"|.str=>"str"|.deque=>"collections.deque"|.object=>"object"|.stop=>"StopIteration"|.none=>"NoneType"
noncomputable def TY.code:TY->Nat
 |.range=>0|.dict=>1|.tuple=>2|.set=>3|.type=>4|.int=>5|.bool=>6|.str=>7|.deque=>8|.object=>9|.stop=>10|.none=>11
inductive AV where
 |none|bool (b:Bool)|int (i:Int)|str (s:Str)|bytes (b:Array UInt8)
 |tup (xs:List AV)|lst (xs:List AV)|rng (n:Int)|vals (k:Nat)
 |ref (k:Nat)|nx (k:Nat)|bf|tab (xs:List Int)|top (a:Jn)|bi (b:BI)|ty (n:TY)
inductive AO where
 |list (xs:List AV)
 |dict (es:List (Str×AV)) (ver:Nat)
 |inst (C:Jn) (d:Nat)
 |slots (C:Jn) (vs:List (Option AV))
 |deque (xs:List AV)
 |set (xs:List Str)
 |iter (k i:Nat)
 |dead
noncomputable abbrev Hp:=List (Nat×AO)
noncomputable abbrev Lo:=List (Str×AV)
noncomputable def yo:List Nat->List Nat->Bool
 |[],[]=>true
 |a::x,b::y=>match IT a b with|true=>yo x y|false=>false
 |_,_=>false
theorem uf:∀{x y:List Nat},yo x y=true↔x=y:=by
 intro Sl;induction Sl with
 |nil=>
  intro SK;induction SK with
  |nil=>exact⟨λZ=>rfl,λZ=>rfl⟩
  |cons x93 x94=>exact⟨λh=>(by cases h),λh=>nomatch h⟩
 |cons a x SU=>
  intro TB;induction TB with
  |nil=>exact⟨λh=>(by cases h),λh=>nomatch h⟩
  |cons b y=>
   refine(?_:cond (IT a b) (yo x y) false=true↔_);induction h:IT a b with
   |true=>refine aa (IY h) ?_;simp[SU]
   |false=>simp[NF h]
noncomputable def aZ (a b:Str):Bool:=yo a.cps.toList b.cps.toList
theorem aL:aZ a b=true↔a=b:=by unfold aZ;refine aa (propext uf) ?_;cases a;cases b;simp only[Str.mk.injEq];exact Rx
theorem az(a:Str):aZ a a=true:=aL.mpr rfl
theorem bb(h:a≠b):aZ a b=false:=by
 induction q:aZ a b with
 |false=>rfl
 |true=>exact absurd (aL.mp q) h
noncomputable def lk {α:Type}:List (Str×α)->Str->Option α
 |[],_=>.none
 |(y,a)::r,x=>match aZ y x with|true=>some a|false=>lk r x
noncomputable def st {α:Type}:List (Str×α)->Str->α->List (Str×α)
 |[],x,a=>[(x,a)]
 |(y,b)::r,x,a=>match aZ y x with|true=>(y,a)::r|false=>(y,b)::st r x a
section
variable {α:Type}{a b:α}
theorem fK:lk ((y,a)::r) x=cond (aZ y x) (some a) (lk r x):=rfl
theorem fM:st ((y,b)::r) x a=cond (aZ y x) ((y,a)::r) ((y,b)::st r x a):=rfl
theorem yp:st [] x a=[(x,a)]:=rfl
theorem kG:lk ([]:List (Str×α)) x=.none:=rfl
end
theorem qI{α:Type}(l:List (Str×α))(x y:Str)(a:α):lk (st l x a) y=if x=y then some a else lk l y:=by
 induction l with
 |nil=>
  by_cases h:x=y
  . refine aa h ?_;simp[fM,yp,fK,kG,az]
  . simp[fM,yp,fK,kG,bb h,h]
 |cons p r ih=>
  obtain⟨z,b⟩:=p;refine aa fM ?_;by_cases hz:z=x
  . refine an hz (aa (az _) ?_);by_cases h:z=y
    . clear ih;refine aa h ?_;simp[fK,kG,az]
    . simp[fK,kG,bb h,h]
  . refine aa (bb hz) ?_;by_cases h:z=y
    . refine an h ?_;simp[fK,kG,az,Kr hz]
    . simp only[fK,cond_false,bb h,ih]
noncomputable def hg:Hp->Nat->Option AO
 |[],_=>.none
 |(j,o)::r,k=>match IT j k with|true=>some o|false=>hg r k
noncomputable def hs:Hp->Nat->AO->Hp
 |[],_,_=>[]
 |(j,o)::r,k,n=>match IT j k with|true=>(j,n)::r|false=>(j,o)::hs r k n
noncomputable def ks (h:Hp):List Nat:=h.map (·.1)
theorem G5:hg ((j,o)::r) k=cond (IT j k) (some o) (hg r k):=rfl
theorem Fb:hs ((j,o)::r) k n=cond (IT j k) ((j,n)::r) ((j,o)::hs r k n):=rfl
theorem aG(e:hg h k=some o):(k,o)∈h:=by
 induction h with
 |nil=>cases e
 |cons p r ih=>
  obtain⟨j,b⟩:=p;rw[G5]at e;induction q:IT j k with
  |true=>haveI e:=q▸e;(replace e:=Iw e;refine aa e ?_);exact aa (IY q) (.head _)
  |false=>haveI e:=q▸e;exact .tail _ (ih e)
theorem eP(h:Hp)(k:Nat)(n:AO):ks (hs h k n)=ks h:=by
 induction h with
 |nil=>rfl
 |cons p r ih=>
  obtain⟨j,b⟩:=p;refine aa Fb ?_;induction q:IT j k with
  |true=>rfl
  |false=>simp only[ks,cond_false,JA]at ih⊢;exact aa ih rfl
theorem oj(nd:(ks h).Nodup)(m:(j,o)∈hs h k n):(j=k/\o=n)\/(j≠k/\(j,o)∈h):=by
 induction h with
 |nil=>cases m
 |cons p r ih=>
  obtain⟨i,b⟩:=p;refine ad (I_.mp nd) λh1 h2=>?_;rw[Fb]at m;induction q:IT i k with
  |true=>
   rw[q]at m;have:=IY q;clear q;refine an this (av m (λe=>?_) λm=>?_)
   . cases e;exact .inl ⟨rfl,rfl⟩
   . exact .inr ⟨λe=>h1 (IU.mpr ⟨_,m,e⟩),.tail _ m⟩
  |false=>
   rw[q]at m;refine av m (λe=>?_) λm=>?_
   . cases e;exact .inr ⟨NF q,.head _⟩
   . rcases ih h2 m with e|⟨e,m⟩
     . exact .inl e
     . exact .inr ⟨e,.tail _ m⟩
structure Cx where
 prog:Ql
 w:World
 base:Mk
 K:QS
 X:K.In base
 mg:Str->Option IF
 mb:Str->Option IF
 g:base.Ns Nt mg
 b:base.Ns MK mb
 lim:base.NoLimit
 cyc:IF
noncomputable abbrev Cx.M (C:Cx):P_:=J3 C.prog C.w
theorem jH{α:Type}{h:List (Nat×α)}{k:Nat}{o o':α}(nd:(h.map (·.1)).Nodup)(a:(k,o)∈h)(b:(k,o')∈h):o=o':=by
 induction h with
 |nil=>cases a
 |cons p r ih=>
  refine ad (I_.mp nd) λh1 h2=>?_;rcases IJ.mp a with e|a<;>rcases IJ.mp b with e'|b
  . rw[<-e]at e';cases e';rfl
  . exact absurd (IU.mpr ⟨(k,o'),b,by exact an e rfl⟩) h1
  . exact absurd (IU.mpr ⟨(k,o),a,by exact an e' rfl⟩) h1
  . exact ih h2 a b
theorem aB{α:Type}{l:List (Str×α)}{x:Str}{a:α}(e:lk l x=some a):(x,a)∈l:=by
 induction l with
 |nil=>cases e
 |cons p r ih=>
  obtain⟨y,b⟩:=p;rw[fK]at e;induction q:aZ y x with
  |true=>haveI e:=q▸e;(replace e:=Iw e;refine aa e ?_);exact aa (aL.mp q) (.head _)
  |false=>haveI e:=q▸e;exact .tail _ (ih e)
structure Fm where
 L:Jn
 fs:List Jn
 cl:List (Str×Jn)
 ro:List (Str×Jn)
structure Wd where
 s:IP
 ρ:Nat->Jn
 Φ:Jn->Prop
 hp:Hp
 f:Fm
 loc:Lo
noncomputable abbrev Wd.L (W:Wd):Jn:=W.f.L
def Wd.own (W:Wd)(a:Jn):Prop:=a=W.f.L\/a∈W.f.fs\/a∈W.f.cl.map (·.2)
def Wd.mov (W:Wd)(a:Jn):Prop:=W.own a\/∃k o,(k,o)∈W.hp/\a=W.ρ k
def Wd.at (W:Wd)(m:Str->Option IF)(x:Str)(v:IF):Prop:=match lk (W.f.cl++W.f.ro) x with
 |some c=>W.s.heap.IsCell c (some v)
 |.none=>m x=some v
class inductive VR (W:Wd):AV->IF->Prop
 |none:VR W .none .none
 |bool {b:Bool}:VR W (.bool b) (.bool b)
 |int {i:Int} {t:Tok}:VR W (.int i) (.int i t)
 |str {s:Str} {t:Tok}:VR W (.str s) (.str s t)
 |bytes {b:Array UInt8} {t:Tok}:VR W (.bytes b) (.bytes b t)
 |tup {xs:List AV} {a:Jn} {vs:List IF}:W.Φ a->RW W.s.heap a vs.toArray->xs.length=vs.length->(∀(i:Nat) (x:AV) (v:IF),xs[i]? =some x->vs[i]? =some v->VR W x v)->VR W (.tup xs) (.ref a)
 |lst {xs:List AV} {a:Jn} {vs:List IF}:W.Φ a->W.s.heap.PlainList a vs.toArray->xs.length=vs.length->(∀(i:Nat) (x:AV) (v:IF),xs[i]? =some x->vs[i]? =some v->VR W x v)->VR W (.lst xs) (.ref a)
 |rng {n:Int} {a:Jn} {t u v:Tok}:W.Φ a->IsRange W.s.heap a 0 n 1 t u v->VR W (.rng n) (.ref a)
 |vals {k:Nat} {o:AO} {a:Jn}:W.Φ a->(k,o)∈W.hp->W.s.heap.IsValuesView a (W.ρ k)->VR W (.vals k) (.ref a)
 |ref {k:Nat} {o:AO}:(k,o)∈W.hp->VR W (.ref k) (.ref (W.ρ k))
 |nx {k:Nat} {o:AO} {a:Jn}:W.Φ a->(k,o)∈W.hp->W.s.heap.get? a=some {cls:=.type "method-wrapper",data:=.fields #[.builtin "list_iterator.__next__",.ref (W.ρ k)]}->VR W (.nx k) (.ref a)
 |bf {a:Jn}:W.Φ a->W.s.heap.get? a=some {cls:=.type "builtin_function_or_method",data:=.fields #[.builtin "dict.fromkeys",.type "dict"]}->VR W .bf (.ref a)
 |tab {xs:List Int} {a:Jn} {es:Array Nl} {n:Nat}:(a==Mj)=false->W.Φ a->W.s.heap.get? a=some {cls:=.type "dict",data:=.dict es n}->(∀e∈es,∃c t,c∈xs/\e.key=.int c t/\e.hash=hashInt c)->VR W (.tab xs) (.ref a)
 |top {a:Jn}:VR W (.top a) (.ref a)
 |bi {b:BI}:VR W (.bi b) (.builtin b.id)
 |ty {n:TY}:VR W (.ty n) (.type n.id)
def aF (W:Wd)(xs:List AV)(vs:List IF):Prop:=xs.length=vs.length/\∀(i:Nat) (x:AV) (v:IF),xs[i]? =some x->vs[i]? =some v->VR W x v
theorem aF.nil:aF W [] []:=⟨rfl,λi x v h=>by simp at h⟩
theorem aF.cons(h:VR W x v)(t:aF W xs vs):aF W (x::xs) (v::vs):=
 ⟨by simp[t.1],λi y u hy hu=>by
  induction i with
  |zero=>simp only[List.getElem?_cons_zero,OV]at hy hu;subst hy hu;exact h
  |succ i=>simp only[List.getElem?_cons_succ]at hy hu;exact t.2 i y u hy hu⟩
def H1 (W:Wd)(a:AV)(v:IF):Prop:=@AV.casesOn (λZ=>Prop) a
 (v=.none) (λb=>v=.bool b) (λi=>∃t,v=.int i t) (λs=>∃t,v=.str s t) (λb=>∃t,v=.bytes b t)
 (λxs=>∃a vs,v=.ref a/\W.Φ a/\RW W.s.heap a vs.toArray/\aF W xs vs)
 (λxs=>∃a vs,v=.ref a/\W.Φ a/\W.s.heap.PlainList a vs.toArray/\aF W xs vs)
 (λn=>∃a t u w,v=.ref a/\W.Φ a/\IsRange W.s.heap a 0 n 1 t u w)
 (λk=>∃o a,v=.ref a/\W.Φ a/\(k,o)∈W.hp/\W.s.heap.IsValuesView a (W.ρ k))
 (λk=>v=.ref (W.ρ k)/\∃o,(k,o)∈W.hp)
 (λk=>∃o a,v=.ref a/\W.Φ a/\(k,o)∈W.hp/\W.s.heap.get? a=some {cls:=.type "method-wrapper",data:=.fields #[.builtin "list_iterator.__next__",.ref (W.ρ k)]})
 (∃a,v=.ref a/\W.Φ a/\W.s.heap.get? a=some {cls:=.type "builtin_function_or_method",data:=.fields #[.builtin "dict.fromkeys",.type "dict"]})
 (λxs=>∃a es n,v=.ref a/\(a==Mj)=false/\W.Φ a/\W.s.heap.get? a=some {cls:=.type "dict",data:=.dict es n}/\∀e∈es,∃c t,c∈xs/\e.key=.int c t/\e.hash=hashInt c)
 (λa=>v=.ref a) (λb=>v=.builtin b.id) (λn=>v=.type n.id)
set_option tactic.hygienic true in
theorem VR.i(h:VR W a v):H1 W a v:=by
 cases h
 case tup a vs h1 h2 h3 h4=>exact⟨_,_,rfl,h1,h2,h3,h4⟩
 case lst a vs h1 h2 h3 h4=>exact⟨_,_,rfl,h1,h2,h3,h4⟩
 case rng h1 h2=>exact⟨_,_,_,_,rfl,h1,h2⟩
 case vals h1 h2 h3=>exact⟨_,_,rfl,h1,h2,h3⟩
 case ref h=>exact⟨rfl,_,h⟩
 case nx h1 h2 h3=>exact⟨_,_,rfl,h1,h2,h3⟩
 case bf h1 h2=>exact⟨_,rfl,h1,h2⟩
 case tab h1 h2 h3 h4=>exact⟨_,_,_,rfl,h1,h2,h3,h4⟩
 all_goals first|exact rfl|exact⟨_,rfl⟩
theorem aF.inv(h:aF W (x::xs) vs):∃v vs',vs=v::vs'/\VR W x v/\aF W xs vs':=by
 induction vs with
 |nil=>have:=h.1;simp at this
 |cons v vs=>exact⟨v,vs,rfl,h.2 0 x v rfl rfl,by have:=h.1;simpa using this,λi y u hy hu=>h.2 (i+1) y u (by simpa using hy) (by simpa using hu)⟩
theorem aF.inv_nil(h:aF W [] vs):vs=[]:=KS.mp h.1.symm
theorem aF.append(h:aF W xs vs)(t:aF W ys us):aF W (xs++ys) (vs++us):=by
 induction xs generalizing vs with
 |nil=>exact aa h.inv_nil t
 |cons x xs ih=>refine bw h.inv λv vs' Sm=>?_;refine am Sm λSn a b=>?_;refine aa Sn ?_;exact .cons a (ih b)
theorem aF.at{W:Wd}{xs:List AV}{vs:List IF}(h:aF W xs vs){i:Nat}{x:AV}(e:xs[i]? =some x):∃v,vs[i]? =some v/\VR W x v:=by
 have hl:i<vs.length:=by exact an h.1 ((Jm.mp e).1)
 exact⟨vs[i],IM hl,h.2 i x _ e (IM hl)⟩
noncomputable def OR (C:Cx)(W:Wd)(a:Jn):AO->Prop
 |.list xs=>∃vs:List IF,W.s.heap.PlainList a vs.toArray/\aF W xs vs
 |.dict es _=>∃kvs:List (Str×IF),(W.s.heap.DictOf (JE C.prog C.w) a kvs/\(a==Mj)=false)/\kvs.map (·.1)=es.map (·.1)/\aF W (es.map (·.2)) (kvs.map (·.2))
 |.inst K d=>(∃o,(d,o)∈W.hp)/\W.s.heap.get? a=some {cls:=.ref K,dict:=some (W.ρ d),data:=.plain}
 |.slots K vs=>∃(ss:List (Option IF)) (dx:Jn),W.s.heap.get? a=some {cls:=.ref K,dict:=some dx,data:=.plain,slots:=ss.toArray}/\VR W (.tab []) (.ref dx)/\ss.length=vs.length/\
  ∀(i:Nat) (x:Option AV) (v:Option IF),vs[i]? =some x->ss[i]? =some v->(∀y,x=some y->∃u,v=some u/\VR W y u)
 |.deque xs=>∃(n:Int) (vs:List IF),W.s.heap.get? a=some {cls:=.type "collections.deque",data:=.fields (.none::.int n 0::vs).toArray}/\aF W xs vs
 |.set xs=>W.s.heap.SetOf (JE C.prog C.w) a (λk=>decide (k∈xs)) xs.length
 |.iter k i=>(∃o,(k,o)∈W.hp)/\W.s.heap.get? a=some {cls:=.type "list_iterator",data:=.fields #[.ref (W.ρ k),.int i 0]}
 |.dead=>True
theorem OR.mono(ea:a'=a)(hv:∀{x v},VR W x v->VR W' x v)(ha:∀o,W.s.heap.get? a=some o->W'.s.heap.get? a'=some o)
 (ky:∀k o,(k,o)∈W.hp->(∃o',(k,o')∈W'.hp)/\W'.ρ k=W.ρ k) (h:OR C W a o):OR C W' a' o:=by
 have hvs:∀{xs vs},aF W xs vs->aF W' xs vs:=λq=>⟨q.1,λi x v e f=>hv (q.2 i x v e f)⟩
 subst ea;induction o with
 |list xs=>
  refine ae h λvs Sn q=>?_;rcases Sn with⟨n,e⟩
  exact⟨vs,⟨n,ha _ e⟩,hvs q⟩
 |dict es n=>
  refine cm h λkvs Sn hk q=>?_;rcases Sn with⟨⟨o,Sy,ep,e,r⟩,lo⟩
  exact⟨kvs,⟨⟨o,Sy,ep,ha _ e,r⟩,lo⟩,hk,hvs q⟩
 |inst K d=>
  refine ad h λSq e=>?_;rcases Sq with⟨o,hm⟩
  exact ad (ky d o hm) λT2 er=>⟨T2,by exact aa er (ha _ e)⟩
 |slots K vs=>exact bJ h λss dx e hd hl q=>⟨ss,dx,ha _ e,hv hd,hl,λi x v h1 h2 y hy=>(ae (q i x v h1 h2 y hy) λu h3 h4=>⟨u,h3,hv h4⟩)⟩
 |deque xs=>exact be h λn vs e q=>⟨n,vs,ha _ e,hvs q⟩
 |set xs=>exact CO h λo es ep t e r=>⟨o,es,ep,t,ha _ e,r⟩
 |iter k i=>
  refine ad h λSq e=>?_;rcases Sq with⟨o,hm⟩
  exact ad (ky k o hm) λT2 er=>⟨T2,by exact aa er (ha _ e)⟩
 |dead=>trivial
structure Ok(C:Cx)(W:Wd):Prop where
 nd:(ks W.hp).Nodup
 inj:∀k k' o o',(k,o)∈W.hp->(k',o')∈W.hp->W.ρ k=W.ρ k'->k=k'
 cell:∀k o,(k,o)∈W.hp->OR C W (W.ρ k) o
 free:∀k o,(k,o)∈W.hp->¬W.Φ (W.ρ k)/\¬W.own (W.ρ k)/\∃ob,W.s.heap.get? (W.ρ k)=some ob
 fz:∀a,W.Φ a->∃o,W.s.heap.get? a=some o
 nL:∀a,W.own a->¬W.Φ a
 ns:∃m,W.s.heap.Ns W.L m/\∀x a,lk W.loc x=some a->∃v,VR W a v/\W.at m x v
 fr:∀f∈W.f.fs,f≠W.L/\∃m,W.s.heap.Ns f m
 cl:∀x c,(x,c)∈W.f.cl->c≠W.L/\c∉W.f.fs/\∃v,W.s.heap.IsCell c v
 ap:W.f.cl.Pairwise λx y=>x.2≠y.2
 ro:∀x c,(x,c)∈W.f.ro->¬W.mov c/\∃v,W.s.heap.IsCell c v
 old:∀a o,C.base.get? a=some o->W.s.heap.get? a=some o/\W.Φ a
 tk:1<=W.s.toks
 up:C.base.objs.size<=W.L
structure Le(W W':Wd):Prop where
 f:W'.f=W.f
 φ:∀a,W.Φ a->W'.Φ a
 φn:∀a,W'.Φ a->W.Φ a\/W.s.heap.get? a=.none
 ky:∀k o,(k,o)∈W.hp->(∃o',(k,o')∈W'.hp)/\W'.ρ k=W.ρ k
 kp:∀a o,W.s.heap.get? a=some o->¬W.mov a->W'.s.heap.get? a=some o
 fr:∀f∈W.f.fs,∀m,W.s.heap.Ns f m->W'.s.heap.Ns f m
 nw:∀k o,(k,o)∈W'.hp->(∃o',(k,o')∈W.hp)\/W.s.heap.get? (W'.ρ k)=.none
 ver:∀k es n,(k,.dict es n)∈W.hp->∃Sy n',(k,.dict Sy n')∈W'.hp/\n<=n'/\(n'=n->W'.s.heap.get? (W.ρ k)=W.s.heap.get? (W.ρ k))
 gens:W'.s.gens=W.s.gens
 os:W'.s.os=W.s.os
theorem Le.refl(W:Wd):Le W W:=⟨rfl,λZ h=>h,λZ h=>.inl h,λZ o h=>⟨⟨o,h⟩,rfl⟩,λZ Z h Z=>h,λZ Z Z h=>h,λZ o h=>.inl ⟨o,h⟩,λk es n h=>⟨es,n,h,IC _,λZ=>rfl⟩,rfl,rfl⟩
theorem VR.mono(φ:∀a,W.Φ a->W'.Φ a)(hf:∀a o,W.Φ a->W.s.heap.get? a=some o->W'.s.heap.get? a=some o)(ky:∀k o,(k,o)∈W.hp->(∃o',(k,o')∈W'.hp)/\W'.ρ k=W.ρ k)
 (h:VR W a v):VR W' a v:=by
 induction h with
 |none=>exact .none
 |bool=>exact .bool
 |int=>exact .int
 |str=>exact .str
 |bytes=>exact .bytes
 |tup hΦ ht hl Z ih=>exact ae ht λo ho hc=>.tup (φ _ hΦ) ⟨o,hf _ _ hΦ ho,hc⟩ hl ih
 |lst hΦ ht hl Z ih=>exact af ht λn ho=>.lst (φ _ hΦ) ⟨n,hf _ _ hΦ ho⟩ hl ih
 |rng hΦ ht=>exact .rng (φ _ hΦ) (hf _ _ hΦ ht)
 | @vals k o a hΦ hm ho=>
  refine ad (ky k o hm) λSq e=>?_;rcases Sq with⟨o',SA⟩
  exact ae ho λob h1 h2=>.vals (φ _ hΦ) SA ⟨ob,hf _ _ hΦ h1,by exact aa e h2⟩
 | @ref k o hm=>
  refine ad (ky k o hm) λSq e=>?_;rcases Sq with⟨o',SA⟩
  exact an e (.ref SA)
 | @nx k o a hΦ hm ho=>
  refine ad (ky k o hm) λSq e=>?_;rcases Sq with⟨o',SA⟩
  exact .nx (φ _ hΦ) SA (aa e (hf _ _ hΦ ho))
 |bf hΦ ho=>exact .bf (φ _ hΦ) (hf _ _ hΦ ho)
 |tab hl hΦ ho hk=>exact .tab hl (φ _ hΦ) (hf _ _ hΦ ho) hk
 |top=>exact .top
 |bi=>exact .bi
 |ty=>exact .ty
section
variable {C:Cx}{W W':Wd}
theorem Ok.nmov(O:Ok C W)(h:W.Φ a):¬W.mov a:=λq=>q.elim (λq=>O.nL a q h) λq=>bw q λk o q=>(O.free k o q.1).1 (q.2▸h)
theorem Ok.fzKeep(O:Ok C W)(l:Le W W')(a:Jn)(o:Obj)(hΦ:W.Φ a)(e:W.s.heap.get? a=some o):W'.s.heap.get? a=some o:=l.kp a o e (O.nmov hΦ)
theorem Ok.vr(O:Ok C W)(l:Le W W')(h:VR W a v):VR W' a v:=h.mono l.φ (O.fzKeep l) l.ky
theorem Ok.vrs(O:Ok C W)(l:Le W W')(h:aF W xs vs):aF W' xs vs:=⟨h.1,λi x v a b=>O.vr l (h.2 i x v a b)⟩
theorem Ok.stays(O':Ok C W')(x:Le W W')(e:W.s.heap.get? a=some o):∃o',W'.s.heap.get? a=some o':=by
 by_cases hm:W.mov a
 . rcases hm with h|⟨k,o,hm,rfl⟩
   . rcases h with h|h|h
     . refine ae O'.ns λm Sn Z=>?_;rcases Sn with⟨o',Z,Z,q,Z⟩
       exact⟨o',aa h (an x.f q)⟩
     . exact ad (O'.fr a (x.f▸h)) λZ Sm=>CO Sm λm o' Z Z q Z=>⟨o',q⟩
     . refine af (IU.mp h) λSn Sm=>?_;rcases Sn with⟨n,c⟩
       exact ad Sm λh1 Ss=>an Ss (am (O'.cl n c (x.f▸h1)) λZ Z Sm=>be Sm λv o' q Z=>⟨o',q⟩)
   . refine ad (x.ky k o hm) λSq e=>?_;rcases Sq with⟨o',h'⟩
     exact an e ((O'.free k o' h').2.2)
 . exact⟨o,x.kp a o e hm⟩
theorem Le.trans(O':Ok C W')(x:Le W W')(y:Le W' W''):Le W W'':=by
 refine⟨y.f.trans x.f,λa h=>y.φ a (x.φ a h),λa h=>?_,λk o h=>?_,λa o e n1=>?_,λf hf m hm=>y.fr f (x.f▸hf) m (x.fr f hf m hm),λk o h=>?_,λk es n h=>?_,y.gens.trans x.gens,y.os.trans x.os⟩
 . rcases y.φn a h with h|h
   . exact x.φn a h
   . refine .inr ?_;induction q:W.s.heap.get? a with
     |none=>rfl
     |some ob=>refine af (O'.stays x q) λo' e'=>?_;exact jx h e'
 . refine ad (x.ky k o h) λSq e=>?_;rcases Sq with⟨o',h'⟩
   exact ad (y.ky k o' h') λq e'=>⟨q,e'.trans e⟩
 . refine y.kp a o (x.kp a o e n1) λhm=>n1 ?_;rcases hm with h|⟨k,o',hm,q⟩
   . exact .inl (by unfold Wd.own at h⊢;exact an x.f h)
   . rcases x.nw k o' hm with⟨o₁,h₁⟩|h₁
     . exact .inr ⟨k,o₁,h₁,q.trans (x.ky k o₁ h₁).2⟩
     . haveI h₁:=e▸q▸h₁;cases h₁
 . rcases y.nw k o h with⟨o',h'⟩|h'
   . rcases x.nw k o' h' with h₁|h₁
     . exact .inl h₁
     . exact .inr ((y.ky k o' h').2▸h₁)
   . refine .inr ?_;induction q:W.s.heap.get? (W''.ρ k)with
     |none=>rfl
     |some ob=>refine af (O'.stays x q) λo' e'=>?_;exact jx h' e'
 . refine aP (x.ver k es n h) λSy n' h' l' q'=>aP (y.ver k Sy n' h') λUb n'' h'' l'' q''=>⟨Ub,n'',h'',Iu l' l'',λe=>?_⟩
   have q3:=q'' (LO (Iu (I2 e) l') l'');rw[(x.ky k _ h).2]at q3;exact q3.trans (q' (LO (Iu l'' (I2 e)) l'))
theorem Ok.fr'(O:Ok C W):∃m,Fr C.base W.L W.s.heap m/\∀x a,lk W.loc x=some a->∃v,VR W a v/\W.at m x v:=
 (ae O.ns λm h q=>⟨m,⟨h,λb o e=>(O.old b o e).1,O.up⟩,q⟩)
theorem Ok.X(O:Ok C W):C.K.In W.s.heap:=λa o e=>(O.old a o (C.X a o e)).1
theorem Ok.L(O:Ok C W):∃o,W.s.heap.get? W.L=some o:=by obtain⟨Z,⟨o,Z,Z,e,Z⟩,Z⟩:=O.ns;exact⟨o,e⟩
set_option tactic.hygienic true in
theorem Wd.at_to{m:Str->Option IF}{x:Str}{v:IF}(hf:W'.f=W.f)(hc:∀c v,(x,c)∈W.f.cl++W.f.ro->W.s.heap.IsCell c v->W'.s.heap.IsCell c v)(h:W.at m x v):W'.at m x v:=by
 unfold Wd.at at h⊢;refine aa hf ?_
 split at h
 . rename_i c e
   exact hc c _ (aB e) h
 . exact h
def so (C:Cx)(W W':Wd):Prop:=∀k o,(k,o)∈W'.hp->(k,o)∈W.hp/\W'.s.heap.get? (W.ρ k)=W.s.heap.get? (W.ρ k)\/
 (OR C W' (W'.ρ k) o/\(∃ob,W'.s.heap.get? (W'.ρ k)=some ob)/\((∃o₀,(k,o₀)∈W.hp/\∀es n,o₀=.dict es n->∃Sy n',o=.dict Sy n'/\n<n')\/W.s.heap.get? (W'.ρ k)=.none/\¬W'.Φ (W'.ρ k)))
structure Step(C:Cx)(W W':Wd):Prop where
 f:W'.f=W.f
 φ:∀a,W.Φ a->W'.Φ a
 φn:∀a,W'.Φ a->W.Φ a\/(W.s.heap.get? a=.none/\∃o,W'.s.heap.get? a=some o)
 ky:∀k o,(k,o)∈W.hp->(∃o',(k,o')∈W'.hp)/\W'.ρ k=W.ρ k
 nd:(ks W'.hp).Nodup
 in1:∀k k' o o',(k,o)∈W'.hp->(k',o')∈W'.hp->W.s.heap.get? (W'.ρ k)=.none->W'.ρ k=W'.ρ k'->k=k'
 cell:so C W W'
 kp:∀a o,W.s.heap.get? a=some o->¬W.mov a->W'.s.heap.get? a=some o
 ns:∃m,W'.s.heap.Ns W.L m/\∀x a,lk W'.loc x=some a->∃v,VR W' a v/\W'.at m x v
 fr:∀f∈W.f.fs,∀m,W.s.heap.Ns f m->W'.s.heap.Ns f m
 cl:∀x c,(x,c)∈W.f.cl->∃v,W'.s.heap.IsCell c v
 tk:W.s.toks<=W'.s.toks
 gens:W'.s.gens=W.s.gens
 os:W'.s.os=W.s.os
theorem Step.vr(O:Ok C W)(S:Step C W W')(h:VR W a v):VR W' a v:=h.mono S.φ (λa o h e=>S.kp a o e (O.nmov h)) S.ky
theorem Step.ok(O:Ok C W)(S:Step C W W'):Ok C W':=by
 have own:∀a,W'.own a->W.own a:=λa h=>by unfold Wd.own at h⊢;exact an S.f h
 have nown:∀a,W.s.heap.get? a=.none->¬W.own a:=λa e h=>by
  rcases h with h|h|h
  . refine af O.L λo q=>?_;haveI e:=h▸e;exact jx e q
  . refine ad (O.fr a h) λZ Sm=>?_;refine jy Sm λm o' Z Z Sr=>?_;refine ad Sr λq Z=>?_;exact jx e q
  . refine af (IU.mp h) λSn Sm=>?_;rcases Sn with⟨n,c⟩
    refine ad Sm λh1 Ss=>?_;clear h;subst Ss;refine am (O.cl n c h1) λZ Z Sm=>?_;refine bw Sm λv o' Sr=>?_;refine ad Sr λq Z=>?_;exact jx e q
 have back:∀k o,(k,o)∈W'.hp->(∃o₀,(k,o₀)∈W.hp)\/W.s.heap.get? (W'.ρ k)=.none/\¬W'.Φ (W'.ρ k):=λk o h=>by
  rcases S.cell k o h with⟨h,Z⟩|⟨Z,Z,⟨o₀,h,Z⟩|h⟩
  . exact .inl ⟨o,h⟩
  . exact .inl ⟨o₀,h⟩
  . exact .inr h
 refine⟨S.nd,λk k' o o' h h' e=>?_,λk o h=>?_,λk o h=>?_,λa h=>?_,λa h q=>?_,?_,λf hf=>?_,λx c h=>?_,S.f▸O.ap,λx c h=>?_,λa o e=>?_,Iu O.tk S.tk,?_⟩
 . rcases back k o h with⟨q,m⟩|⟨m,Z⟩
   . rcases back k' o' h' with⟨q',m'⟩|⟨m',Z⟩
     . rw[(S.ky k q m).2,(S.ky k' q' m').2]at e;exact O.inj k k' q q' m m' e
     . exact(S.in1 k' k o' o h' h m' e.symm).symm
   . exact S.in1 k k' o o' h h' m e
 . rcases S.cell k o h with⟨m,e⟩|⟨q,Z⟩
   . refine(O.cell k o m).mono (S.ky k o m).2 (S.vr O) (λob q=>?_) S.ky;exact aa ((S.ky k o m).2) (aa e q)
   . exact q
 . rcases S.cell k o h with⟨m,e⟩|⟨Z,x,⟨o₀,m,Z⟩|⟨m,n⟩⟩
   . refine am (O.free k o m) λa b Sm=>af Sm λob q=>aa ((S.ky k o m).2) ⟨λz=>?_,λz=>b (own _ z),ob,by exact aa e q⟩;rcases S.φn _ z with z|⟨z,Z⟩
     . exact a z
     . exact jx z q
   . refine am (O.free k o₀ m) λa b Sm=>af Sm λob q=>⟨λz=>?_,λz=>b (own _ ((S.ky k o₀ m).2▸z)),x⟩
     rw[(S.ky k o₀ m).2]at z;rcases S.φn _ z with z|⟨z,Z⟩
     . exact a z
     . exact jx z q
   . exact⟨n,λz=>nown _ m (own _ z),x⟩
 . rcases S.φn a h with z|⟨Z,z⟩
   . exact af (O.fz a z) λo e=>⟨o,S.kp a o e (O.nmov z)⟩
   . exact z
 . rcases S.φn a q with z|⟨z,Z⟩
   . exact O.nL a (own a h) z
   . exact nown a z (own a h)
 . show ∃m,W'.s.heap.Ns W'.f.L m/\_
   exact aa S.f S.ns
 . rw[S.f]at hf;exact ad (O.fr f hf) λa Sm=>af Sm λm q=>⟨by refine(?_:f≠W'.f.L);refine aa S.f ?_;exact a,m,S.fr f hf m q⟩
 . rw[S.f]at h;exact am (O.cl x c h) λa b Z=>⟨by refine(?_:c≠W'.f.L);refine aa S.f ?_;exact a,S.f▸b,S.cl x c h⟩
 . rw[S.f]at h;refine ad (O.ro x c h) λa Sm=>be Sm λv o q d=>⟨λz=>?_,v,o,S.kp c o q a,d⟩
   rcases z with z|⟨k,o',m,e⟩
   . exact a (.inl (own c z))
   . rcases back k o' m with⟨o₀,m₀⟩|⟨m₀,Z⟩
     . exact a (.inr ⟨k,o₀,m₀,e.trans (S.ky k o₀ m₀).2⟩)
     . haveI m₀:=q▸e▸m₀;exact nn m₀.symm
 . exact ad (O.old a o e) λx y=>⟨S.kp a o x (O.nmov y),S.φ a y⟩
 . refine(?_:_<=W'.f.L);exact aa S.f O.up
theorem Step.le(O:Ok C W)(S:Step C W W'):Le W W':=by
 refine⟨S.f,S.φ,λa h=>(S.φn a h).imp id And.left,S.ky,S.kp,S.fr,λk o h=>?_,λk es n h=>?_,S.gens,S.os⟩
 . rcases S.cell k o h with⟨h,Z⟩|⟨Z,Z,⟨o₀,h,Z⟩|h⟩
   . exact .inl ⟨o,h⟩
   . exact .inl ⟨o₀,h⟩
   . exact .inr h.1
 . refine ad (S.ky k _ h) λSq e=>?_;rcases Sq with⟨o',h'⟩
   have one:∀{o o'},(k,o)∈W.hp->(k,o')∈W.hp->o=o':=λh h'=>jH O.nd h h';rcases S.cell k o' h' with⟨m,q⟩|⟨Z,Z,⟨o₀,m,q⟩|m⟩
   . obtain rfl:=one h m;exact⟨es,n,h',IC _,λZ=>q⟩
   . obtain rfl:=one h m;refine be (q es n rfl) λSy n' Sn l=>?_;clear q;subst Sn;exact⟨Sy,n',h',Js l,λz=>absurd z (by exact Nat.ne_of_lt' l)⟩
   . refine am (O.free k _ h) λZ Z Sm=>?_;refine af Sm λob z=>?_;haveI z:=m.1▸e▸z;cases z
noncomputable def Wd.to (W:Wd)(s:IP):Wd:={W with s:=s}
theorem Ok.grown(O:Ok C W)(kp:∀a o,W.s.heap.get? a=some o->s.heap.get? a=some o)(tk:W.s.toks<=s.toks)(hg:s.gens=W.s.gens)(ho:s.os=W.s.os):Step C W (W.to s):=by
 refine ae O.ns λm n q=>?_;exact⟨rfl,λZ h=>h,λZ h=>.inl h,λk o h=>⟨⟨o,h⟩,rfl⟩,O.nd,λk k' o o' h h' e Z=>(by refine am (O.free k o h) λZ Z Sm=>?_;refine af Sm λob z=>?_;exact absurd (z.symm.trans e) (by simp)),
  λk o h=>.inl ⟨h,let⟨_,_,ob,z⟩:=O.free k o h;(kp _ ob z).trans z.symm⟩,λa o e Z=>kp a o e,⟨m,n.keeps kp,λx a h=>(ae (q x a h) λv h1 h2=>⟨v,(λq=>VR.mono (W:=W) (W':=W.to s) (λZ h=>h) (λa o h e=>kp a o e) (λk o h=>⟨⟨o,h⟩,rfl⟩) q:∀{x v},VR W x v->VR (W.to s) x v) h1,Wd.at_to (W:=W) rfl (λc v Z z=>z.keeps kp) h2⟩)⟩,
  λf Z m z=>z.keeps kp,λx c h=>let⟨_,_,v,z⟩:=O.cl x c h;⟨v,z.keeps kp⟩,tk,hg,ho⟩
theorem Ok.tickS(O:Ok C W)(h:W.s.toks<=k):Step C W (W.to {W.s with toks:=k}):=O.grown (λZ Z e=>e) h rfl rfl
theorem Ok.tick(O:Ok C W)(h:W.s.toks<=k):Ok C (W.to {W.s with toks:=k}):=(O.tickS h).ok O
theorem Ok.ltick(O:Ok C W)(h:W.s.toks<=k):Le W (W.to {W.s with toks:=k}):=(O.tickS h).le O
theorem VR.tick(h:VR W a v):VR (W.to {W.s with toks:=k}) a v:=VR.mono (W:=W) (W':=W.to {W.s with toks:=k}) (λZ h=>h) (λZ Z Z e=>e) (λZ o h=>⟨⟨o,h⟩,rfl⟩) h
noncomputable def Wd.frz (W:Wd)(s:IP)(a:Jn):Wd:={W with s:=s,Φ:=λb=>W.Φ b\/b=a}
theorem Ok.frz(O:Ok C W)(kp:∀a o,W.s.heap.get? a=some o->s.heap.get? a=some o)(hn:W.s.heap.get? a=.none)(ha:s.heap.get? a=some o)(tk:W.s.toks<=s.toks)(hg:s.gens=W.s.gens)(ho:s.os=W.s.os):Step C W (W.frz s a):=by
 have hv:∀{x v},VR W x v->VR (W.frz s a) x v:=λq=>VR.mono (W':=W.frz s a) (λZ h=>.inl h) (λa o h e=>kp a o e) (λk o h=>⟨⟨o,h⟩,rfl⟩) q;refine ae O.ns λm n q=>?_;exact⟨rfl,λZ h=>.inl h,λb h=>h.elim .inl λh=>.inr (aa h ⟨hn,o,ha⟩),λk o h=>⟨⟨o,h⟩,rfl⟩,O.nd,λk k' o o' h h' e Z=>(by refine am (O.free k o h) λZ Z Sm=>?_;refine af Sm λob z=>?_;exact absurd (z.symm.trans e) (by simp)),
  λk o h=>.inl ⟨h,let⟨_,_,ob,z⟩:=O.free k o h;(kp _ ob z).trans z.symm⟩,λa o e Z=>kp a o e,⟨m,n.keeps kp,λx a h=>(ae (q x a h) λv h1 h2=>⟨v,hv h1,Wd.at_to (W:=W) rfl (λc v Z z=>z.keeps kp) h2⟩)⟩,
  λf Z m z=>z.keeps kp,λx c h=>let⟨_,_,v,z⟩:=O.cl x c h;⟨v,z.keeps kp⟩,tk,hg,ho⟩
noncomputable def Wd.new (W:Wd)(s:IP)(k:Nat)(o:AO)(a:Jn):Wd:={W with s:=s,hp:=(k,o)::W.hp,ρ:=λj=>if j=k then a else W.ρ j}
theorem Wd.new_ky{s:IP}{k:Nat}{o:AO}{a:Jn}(hk:k∉ks W.hp)(j:Nat)(o':AO)(h:(j,o')∈W.hp):(∃q,(j,q)∈(W.new s k o a).hp)/\(W.new s k o a).ρ j=W.ρ j:=
 ⟨⟨o',.tail _ h⟩,if_neg λq=>hk (IU.mpr ⟨_,h,q⟩)⟩
theorem Ok.newVR(hk:k∉ks W.hp)(kp:∀a o,W.s.heap.get? a=some o->s.heap.get? a=some o)(q:VR W x v):VR (W.new s k o a) x v:=
 VR.mono (W:=W) (W':=W.new s k o a) (λZ h=>h) (λa o h e=>kp a o e) (λj o' h=>Wd.new_ky hk j o' h) q
theorem Ok.new(O:Ok C W){ob:Obj}(hk:k∉ks W.hp)(kp:∀a o,W.s.heap.get? a=some o->s.heap.get? a=some o)(hn:W.s.heap.get? a=.none)(ha:s.heap.get? a=some ob)
 (hc:OR C (W.new s k o a) a o) (tk:W.s.toks<=s.toks) (hg:s.gens=W.s.gens) (ho:s.os=W.s.os):Step C W (W.new s k o a):=by
 have hv:∀{x v},VR W x v->VR (W.new s k o a) x v:=λq=>Ok.newVR hk kp q;have rk:(W.new s k o a).ρ k=a:=if_pos rfl;have old:∀j o',(j,o')∈W.hp->¬W.s.heap.get? ((W.new s k o a).ρ j)=.none:=λj o' h e=>by
  rw[(Wd.new_ky hk j o' h).2]at e;exact am (O.free j o' h) λZ Z Sm=>af Sm λob z=>jx e z
 refine ae O.ns λm n q=>?_;refine⟨rfl,λZ h=>h,λZ h=>.inl h,Wd.new_ky hk,I_.mpr ⟨hk,O.nd⟩,λi j o1 o2 h1 h2 e1 e2=>?_,λj o' h=>?_,λa o e Z=>kp a o e,
  ⟨m,n.keeps kp,λx a h=>(ae (q x a h) λv h1 h2=>⟨v,hv h1,Wd.at_to (W:=W) rfl (λc v Z z=>z.keeps kp) h2⟩)⟩,λf Z m z=>z.keeps kp,λx c h=>let⟨_,_,v,z⟩:=O.cl x c h;⟨v,z.keeps kp⟩,tk,hg,ho⟩
 . rcases IJ.mp h1 with q1|q1
   . rcases IJ.mp h2 with q2|q2
     . cases q1;cases q2;rfl
     . exact absurd (e2▸e1) (old j o2 q2)
   . exact absurd e1 (old i o1 q1)
 . rcases IJ.mp h with q|q
   . cases q;refine .inr ⟨by refine aa rk ?_;exact hc,⟨ob,aa rk ha⟩,.inr ⟨by refine aa rk ?_;exact hn,λz=>?_⟩⟩;rw[rk]at z;refine af (O.fz a z) λo e=>?_;exact jx hn e
   . exact .inl ⟨q,let⟨_,_,ob,z⟩:=O.free j o' q;(kp _ ob z).trans z.symm⟩
noncomputable def Wd.set (W:Wd)(s:IP)(k:Nat)(o:AO):Wd:={W with s:=s,hp:=hs W.hp k o}
theorem ol(j:Nat)(o':AO)(m:(j,o')∈h):∃q,(j,q)∈hs h k o:=by have:j∈ks (hs h k o):=aa (eP _ _ _) (IU.mpr ⟨_,m,rfl⟩);exact dJ this λp hp e=>⟨p.2,by exact an e hp⟩
structure mi(W:Wd)(d:Jn)(h:Mk):Prop where
 kp:∀a o,W.s.heap.get? a=some o->a≠d->a≠W.L->h.get? a=some o
 nl:∀m,W.s.heap.Ns W.L m->h.Ns W.L m
theorem mi.of(sb:Jt d W.s.heap h)(n:d≠W.L):mi W d h:=⟨λa o e n Z=>(sb.2 a n).trans e,λm q=>q.sameBut sb (Kr n)⟩
theorem mi.ns(c:mi W d h)(n1:f≠d)(n2:f≠W.L)(q:W.s.heap.Ns f m):h.Ns f m:=gp q λo es ep e r=>⟨o,es,ep,c.kp f o e n1 n2,r⟩
theorem mi.ic(c:mi W d h)(n1:f≠d)(n2:f≠W.L)(q:W.s.heap.IsCell f v):h.IsCell f v:=ae q λo e r=>⟨o,c.kp f o e n1 n2,r⟩
noncomputable def Fc:AO->AO->Bool
 |.dict _ n,.dict _ m=>Kd n m
 |.dict _ _,_=>false
 |_,_=>true
theorem Ok.setVR(O:Ok C W)(hk:(k,o₀)∈W.hp)(sb:mi W (W.ρ k) s.heap)(q:VR W x v):VR (W.set s k o) x v:=
 VR.mono (W:=W) (W':=W.set s k o) (λZ h=>h) (λa o h e=>sb.kp a o e (λq=>(O.free k o₀ hk).1 (q▸h)) λq=>O.nL W.L (.inl rfl) (q▸h)) (λj o' h=>⟨ol j o' h,rfl⟩) q
theorem Ok.set(O:Ok C W)(hk:(k,o₀)∈W.hp)(hv:Fc o₀ o=true)(sb:mi W (W.ρ k) s.heap)(ha:s.heap.get? (W.ρ k)=some ob)(hc:OR C (W.set s k o) (W.ρ k) o)(tk:W.s.toks<=s.toks)
 (hg:s.gens=W.s.gens) (ho:s.os=W.s.os):Step C W (W.set s k o):=by
 have nk:∀a,a=W.ρ k->¬W.own a:=λa e h=>(O.free k o₀ hk).2.1 (e▸h);have nm:∀a,¬W.mov a->a≠W.ρ k/\a≠W.L:=λa h=>⟨λe=>h (.inr ⟨k,o₀,hk,e⟩),λe=>h (.inl (.inl e))⟩
 have cn:∀x c,(x,c)∈W.f.cl->c≠W.ρ k/\c≠W.L:=λx c h=>⟨λe=>nk c e (.inr (.inr (IU.mpr ⟨_,h,rfl⟩))),(O.cl x c h).1⟩
 refine ae O.ns λm n q=>?_;refine⟨rfl,λZ h=>h,λZ h=>.inl h,λj o' h=>⟨ol j o' h,rfl⟩,by refine(?_:(ks (hs W.hp k o)).Nodup);refine aa (eP _ _ _) ?_;exact O.nd,λi j o1 o2 h1 Z e Z=>?_,λj o' h=>?_,λa o e h=>sb.kp a o e (nm a h).1 (nm a h).2,
  ⟨m,sb.nl m n,λx a h=>(ae (q x a h) λv h1 h2=>⟨v,O.setVR hk sb h1,Wd.at_to (W:=W) rfl (λc v h z=>?_) h2⟩)⟩,λf h m z=>sb.ns (λe=>nk f e (.inr (.inl h))) (O.fr f h).1 z,λx c h=>let⟨_,_,v,z⟩:=O.cl x c h;⟨v,sb.ic (cn x c h).1 (cn x c h).2 z⟩,tk,hg,ho⟩
 . rcases oj O.nd h1 with⟨rfl,rfl⟩|⟨Z,h1⟩
   . refine am (O.free i o₀ hk) λZ Z Sm=>?_;refine af Sm λob z=>?_;exact absurd (z.symm.trans e) (by simp)
   . refine am (O.free i o1 h1) λZ Z Sm=>?_;refine af Sm λob z=>?_;exact absurd (z.symm.trans e) (by simp)
 . rcases oj O.nd h with⟨rfl,rfl⟩|⟨n,m⟩
   . refine .inr ⟨hc,⟨ob,ha⟩,.inl ⟨o₀,hk,λes n e=>?_⟩⟩;clear hk;subst e;cases o'<;>first|cases hv|exact⟨_,_,rfl,Iv hv⟩
   . exact am (O.free j o' m) λZ y Sm=>af Sm λob z=>.inl ⟨m,(sb.kp _ ob z (λe=>n (O.inj j k _ _ m hk e)) λe=>y (.inl e)).trans z.symm⟩
 . rcases JD.mp h with h|h
   . exact sb.ic (cn x c h).1 (cn x c h).2 z
   . exact sb.ic (nm c (O.ro x c h).1).1 (nm c (O.ro x c h).1).2 z
noncomputable def Wd.lset (W:Wd)(s:IP)(l:Lo):Wd:={W with s:=s,loc:=l}
theorem Ok.lsetVR(O:Ok C W)(hd:W.own d)(sb:Jt d W.s.heap s.heap)(q:VR W x v):VR (W.lset s l) x v:=
 VR.mono (W:=W) (W':=W.lset s l) (λZ h=>h) (λa o h e=>(sb.2 a λq=>O.nL d hd (q▸h)).trans e) (λk o h=>⟨⟨o,h⟩,rfl⟩) q
theorem Ok.lset(O:Ok C W)(hd:W.own d)(hnf:d∉W.f.fs)(sb:Jt d W.s.heap s.heap)(hm:∃m,s.heap.Ns W.L m/\∀x a,lk l x=some a->∃v,VR W a v/\(W.lset s l).at m x v)(hc:∀x,(x,d)∈W.f.cl->∃v,s.heap.IsCell d v)
 (tk:W.s.toks<=s.toks) (hg:s.gens=W.s.gens) (ho:s.os=W.s.os):Step C W (W.lset s l):=by
 refine ae hm λm n q=>?_;refine⟨rfl,λZ h=>h,λZ h=>.inl h,λk o h=>⟨⟨o,h⟩,rfl⟩,O.nd,λk k' o o' h h' e Z=>(by refine am (O.free k o h) λZ Z Sm=>?_;refine af Sm λob z=>?_;exact absurd (z.symm.trans e) (by simp)),
  λk o h=>.inl ⟨h,sb.2 _ λe=>(O.free k o h).2.1 (e▸hd)⟩,λa o e h=>(sb.2 a λq=>h (.inl (q▸hd))).trans e,⟨m,n,λx a h=>(ae (q x a h) λv h1 h2=>⟨v,O.lsetVR hd sb h1,h2⟩)⟩,λf h m z=>z.sameBut sb λe=>hnf (e▸h),λx c h=>?_,tk,hg,ho⟩
 by_cases e:c=d
 . clear hd hnf sb;subst e;exact hc x h
 . exact am (O.cl x c h) λZ Z Sm=>af Sm λv z=>⟨v,z.sameBut sb e⟩
end
noncomputable def sr (base:Mk)(L:Jn)(h:Mk)(a:Nat):Option (Jn×Obj):=cond ((base.get? a).isNone&& !IT a L) ((h.get? a).map (Si a)) .none
noncomputable def qJ (base:Mk)(L:Jn)(h:Mk)(l:List Nat):List (Jn×Obj):=l.filterMap (sr base L h)
theorem qK{base h:Mk}{L:Jn}{a b:Jn}{o:Obj}(e:sr base L h b=some (a,o)):b=a/\h.get? a=some o/\base.get? a=.none/\a≠L:=by
 unfold sr at e;induction z:((base.get? b).isNone&& !IT b L)with
 |false=>rw[z]at e;exact nn e
 |true=>rw[z]at e;refine aH e λo' h1 q=>ad (RY q) λq1 q2=>an q1 ?_;subst q2;exact bc z λh2 h3=>⟨rfl,h1,OM.mp h2,λq=>by rw[q,Rd]at h3;exact IE h3⟩
theorem yq(h1:h.get? a=some o)(h2:base.get? a=.none)(h3:a≠L):sr base L h a=some (a,o):=by
 unfold sr;refine aa h1 (aa h2 ?_);induction z:IT a L with
 |false=>rfl
 |true=>exact absurd (IY z) h3
theorem yr:(a,o)∈qJ base L h l↔a∈l/\h.get? a=some o/\base.get? a=.none/\a≠L:=by refine QX.trans ⟨λq=>?_,λq=>⟨a,q.1,yq q.2.1 q.2.2.1 q.2.2.2⟩⟩;exact ae q λb h1 h2=>ad (qK h2) λh3 h4=>⟨h3▸h1,h4⟩
theorem om(nd:l.Nodup):((qJ base L h l).map (·.1)).Nodup:=by
 refine nd.sublist ?_;induction l with
 |nil=>exact .slnil
 |cons b r ih=>
  refine ma nd λZ nd=>?_;unfold qJ at ih⊢;refine aa Qv ?_;induction z:sr base L h b with
  |none=>exact(ih nd).cons _
  |some p=>exact(qK z).1▸(ih nd).cons₂ _
noncomputable def led (C:Cx)(W:Wd):List (Jn×Obj):=qJ C.base W.L W.s.heap (JV W.s.heap.objs.size)
theorem kH:(a,o)∈led C W↔W.s.heap.get? a=some o/\C.base.get? a=.none/\a≠W.L:=by unfold led;refine aa (propext yr) (aa (propext List.mem_range) ?_);exact⟨λq=>q.2,λq=>⟨Jz q.1,q⟩⟩
theorem mj:News C.base W.L W.s.heap (led C W):=λp hp=>(am (kH.mp hp) λa b c=>⟨a,c,b⟩)
noncomputable def on (d:Jn)(o:Obj)(l:List (Jn×Obj)):List (Jn×Obj):=l.map λp=>if p.1=d then(d,o)else p
theorem yt:∀{l:List (Jn×Obj)},(l.map (·.1)).Nodup->(d,o)∈l->Upd d o o' l (on d o' l):=by
 intro Sl;induction Sl with
 |nil=>
  intro SE SG
  first|exact(IA SG).elim|exact(IA SE).elim|cases SG|cases SE
 |cons p r Sw=>
  intro nd hm;refine ma nd λn1 n2=>av hm (λe=>?_) λhm=>?_
  . clear hm nd;subst e;have:on d o' ((d,o)::r)=(d,o')::r:=by
     refine(?_:(if d=d then(d,o')else(d,o))::on d o' r=_);refine aa (if_pos rfl) ?_
     congr 1
     refine(Ls λq hq=>?_).trans (RX r);exact if_neg λe=>n1 (IU.mpr ⟨q,hq,e⟩)
    exact aa this (.head λq hq e=>n1 (IU.mpr ⟨q,hq,e⟩))
  . have ne:p.1≠d:=λe=>n1 (IU.mpr ⟨(d,o),hm,e.symm⟩);have:on d o' (p::r)=p::on d o' r:=by refine(?_:(if p.1=d then _ else p)::_=_);exact aa (if_neg ne) rfl
    exact aa this (.tail ne (Sw n2 hm))
theorem qM(hd:W.s.heap.get? d=some o)(hb:C.base.get? d=.none)(hL:d≠W.L):Upd d o o' (Internal.led C W) (on d o' (Internal.led C W)):=yt (om List.nodup_range) (kH.mpr ⟨hd,hb,hL⟩)
theorem CS{h:Mk}{a:Jn}{m m':Str->Option IF}(x:h.Ns a m)(y:h.Ns a m'):m=m':=by refine CM x λo es ep e d Z q=>CM y λo' Sy ep' e' d' Z q'=>?_;rw[e]at e';(replace e':=Iw e';subst e');rw[d]at d';cases d';exact funext λn=>(q n).symm.trans (q' n)
theorem Ok.chg(O:Ok C W)(hd:W.s.heap.get? d=some o)(hb:C.base.get? d=.none)(hL:d≠W.L)(hm:W.s.heap.Ns W.L m)(F:Fr C.base W.L h m)
 (N:News C.base W.L h (on d o' (Internal.led C W))):mi W d h/\h.get? d=some o':=by
 refine⟨⟨λa ob e n n'=>?_,λm' q=>CS hm q▸F.ns⟩,(N (d,o') (IU.mpr ⟨(d,o),kH.mpr ⟨hd,hb,hL⟩,if_pos rfl⟩)).1⟩;induction q:C.base.get? a with
 |some ob'=>have:=(O.old a ob' q).1;rw[e]at this;(replace this:=Iw this;subst this);exact F.keep a ob q
 |none=>exact(N (a,ob) (IU.mpr ⟨(a,ob),kH.mpr ⟨e,q,n'⟩,if_neg n⟩)).1
theorem Ok.away(O:Ok C W)(h:(k,o)∈W.hp):C.base.get? (W.ρ k)=.none:=by
 induction q:C.base.get? (W.ρ k)with
 |none=>rfl
 |some ob=>exact absurd (O.old _ _ q).2 (O.free k o h).1
end
noncomputable abbrev St:=Lo×Hp
inductive aD where
 |next|brk|cont|ret (a:AV)
noncomputable abbrev ax (C:Cx)(W:Wd)(a:AV)(st:St)(Q:IF->IP->Prop):Prop:=∀v W',Le W W'->Ok C W'->VR W' a v->st=(W'.loc,W'.hp)->Q v W'.s
noncomputable abbrev dE (C:Cx)(W:Wd)(b:Bool)(st:St)(Q:Bool->IP->Prop):Prop:=∀W',Le W W'->Ok C W'->st=(W'.loc,W'.hp)->Q b W'.s
noncomputable def FR (W:Wd):aD->R8->Prop
 |.next,f=>f=.next
 |.brk,f=>f=.brk
 |.cont,f=>f=.cont
 |.ret a,f=>∃v,f=.ret v/\VR W a v
noncomputable abbrev fb (C:Cx)(W:Wd)(f:aD)(st:St)(Q:R8->IP->Prop):Prop:=∀fl W',Le W W'->Ok C W'->FR W' f fl->st=(W'.loc,W'.hp)->Q fl W'.s
structure fc(A:J0)(n:Nat):Prop where
 depth:A.depth+n<recursionLimit
 units:A.units+40*n<cLine
theorem fc.less(r:fc A n)(h:m<=n):fc A m:=⟨I8 (IZ h _) r.depth,I8 (IZ (JF 40 h) _) r.units⟩
theorem fc.in1(r:fc A (n+1)):fc A.in1 n:=⟨by have:=r.depth;refine(?_:A.depth+n<_);exact Js (by assumption),I8 (Iu (I2 (Jb _ 1 _)) (IZ (IZ (Iv rfl:1<=40) (40*n)) A.units)) r.units⟩
noncomputable def AV.int? (a:AV):Option Int:=@AV.casesOn (λZ=>Option Int) a .none (λZ=>.none) (λi=>some i) (λZ=>.none) (λZ=>.none) (λZ=>.none) (λZ=>.none) (λZ=>.none) (λZ=>.none) (λZ=>.none) (λZ=>.none) .none (λZ=>.none) (λZ=>.none) (λZ=>.none) (λZ=>.none)
noncomputable def AV.str? (a:AV):Option Str:=@AV.casesOn (λZ=>Option Str) a .none (λZ=>.none) (λZ=>.none) (λx=>some x) (λZ=>.none) (λZ=>.none) (λZ=>.none) (λZ=>.none) (λZ=>.none) (λZ=>.none) (λZ=>.none) .none (λZ=>.none) (λZ=>.none) (λZ=>.none) (λZ=>.none)
noncomputable def AV.bytes? (a:AV):Option (Array UInt8):=@AV.casesOn (λZ=>Option (Array UInt8)) a .none (λZ=>.none) (λZ=>.none) (λZ=>.none) (λx=>some x) (λZ=>.none) (λZ=>.none) (λZ=>.none) (λZ=>.none) (λZ=>.none) (λZ=>.none) .none (λZ=>.none) (λZ=>.none) (λZ=>.none) (λZ=>.none)
noncomputable def AV.ref? (a:AV):Option Nat:=@AV.casesOn (λZ=>Option Nat) a .none (λZ=>.none) (λZ=>.none) (λZ=>.none) (λZ=>.none) (λZ=>.none) (λZ=>.none) (λZ=>.none) (λZ=>.none) (λk=>some k) (λZ=>.none) .none (λZ=>.none) (λZ=>.none) (λZ=>.none) (λZ=>.none)
theorem kI(h:AV.ref a=AV.ref b):a=b:=Iw (congrArg AV.ref? h)
noncomputable def AV.tup? (a:AV):Option (List AV):=@AV.casesOn (λZ=>Option (List AV)) a .none (λZ=>.none) (λZ=>.none) (λZ=>.none) (λZ=>.none) (λk=>some k) (λZ=>.none) (λZ=>.none) (λZ=>.none) (λZ=>.none) (λZ=>.none) .none (λZ=>.none) (λZ=>.none) (λZ=>.none) (λZ=>.none)
noncomputable def AV.lst? (a:AV):Option (List AV):=@AV.casesOn (λZ=>Option (List AV)) a .none (λZ=>.none) (λZ=>.none) (λZ=>.none) (λZ=>.none) (λZ=>.none) (λk=>some k) (λZ=>.none) (λZ=>.none) (λZ=>.none) (λZ=>.none) .none (λZ=>.none) (λZ=>.none) (λZ=>.none) (λZ=>.none)
noncomputable def AV.vals? (a:AV):Option Nat:=@AV.casesOn (λZ=>Option Nat) a .none (λZ=>.none) (λZ=>.none) (λZ=>.none) (λZ=>.none) (λZ=>.none) (λZ=>.none) (λZ=>.none) (λk=>some k) (λZ=>.none) (λZ=>.none) .none (λZ=>.none) (λZ=>.none) (λZ=>.none) (λZ=>.none)
noncomputable def AV.tab? (a:AV):Option (List Int):=@AV.casesOn (λZ=>Option (List Int)) a .none (λZ=>.none) (λZ=>.none) (λZ=>.none) (λZ=>.none) (λZ=>.none) (λZ=>.none) (λZ=>.none) (λZ=>.none) (λZ=>.none) (λZ=>.none) .none (λk=>some k) (λZ=>.none) (λZ=>.none) (λZ=>.none)
noncomputable def AV.top? (a:AV):Option Jn:=@AV.casesOn (λZ=>Option Jn) a .none (λZ=>.none) (λZ=>.none) (λZ=>.none) (λZ=>.none) (λZ=>.none) (λZ=>.none) (λZ=>.none) (λZ=>.none) (λZ=>.none) (λZ=>.none) .none (λZ=>.none) (λk=>some k) (λZ=>.none) (λZ=>.none)
noncomputable def AO.dict? (a:AO):Option (List (Str×AV)×Nat):=@AO.casesOn (λZ=>Option (List (Str×AV)×Nat)) a (λZ=>.none) (λes n=>some (es,n)) (λZ Z=>.none) (λZ Z=>.none) (λZ=>.none) (λZ=>.none) (λZ Z=>.none) .none
noncomputable def AO.set? (a:AO):Option (List Str):=@AO.casesOn (λZ=>Option (List Str)) a (λZ=>.none) (λZ Z=>.none) (λZ Z=>.none) (λZ Z=>.none) (λZ=>.none) (λes=>some es) (λZ Z=>.none) .none
noncomputable def AO.list? (a:AO):Option (List AV):=@AO.casesOn (λZ=>Option (List AV)) a (λes=>some es) (λZ Z=>.none) (λZ Z=>.none) (λZ Z=>.none) (λZ=>.none) (λZ=>.none) (λZ Z=>.none) .none
noncomputable def AO.deque? (a:AO):Option (List AV):=@AO.casesOn (λZ=>Option (List AV)) a (λZ=>.none) (λZ Z=>.none) (λZ Z=>.none) (λZ Z=>.none) (λes=>some es) (λZ=>.none) (λZ Z=>.none) .none
theorem int?_is{a:AV}{i:Int}(h:a.int?=some i):a=.int i:=aO (p:=λi=>a=.int i) (by cases a<;>first|exact trivial|rfl) h
theorem str?_is{a:AV}{i:Str}(h:a.str?=some i):a=.str i:=aO (p:=λi=>a=.str i) (by cases a<;>first|exact trivial|rfl) h
theorem bytes?_is{a:AV}{i:Array UInt8}(h:a.bytes?=some i):a=.bytes i:=aO (p:=λi=>a=.bytes i) (by cases a<;>first|exact trivial|rfl) h
theorem vals?_is{a:AV}{i:Nat}(h:a.vals?=some i):a=.vals i:=aO (p:=λi=>a=.vals i) (by cases a<;>first|exact trivial|rfl) h
theorem tab?_is{a:AV}{i:List Int}(h:a.tab?=some i):a=.tab i:=aO (p:=λi=>a=.tab i) (by cases a<;>first|exact trivial|rfl) h
theorem ref?_is{a:AV}{i:Nat}(h:a.ref?=some i):a=.ref i:=aO (p:=λi=>a=.ref i) (by cases a<;>first|exact trivial|rfl) h
theorem tup?_is{a:AV}{i:List AV}(h:a.tup?=some i):a=.tup i:=aO (p:=λi=>a=.tup i) (by cases a<;>first|exact trivial|rfl) h
theorem lst?_is{a:AV}{i:List AV}(h:a.lst?=some i):a=.lst i:=aO (p:=λi=>a=.lst i) (by cases a<;>first|exact trivial|rfl) h
theorem top?_is{a:AV}{i:Jn}(h:a.top?=some i):a=.top i:=aO (p:=λi=>a=.top i) (by cases a<;>first|exact trivial|rfl) h
section
theorem VR.int'{i:Int}(h:VR W (.int i) v):∃t,v=.int i t:=h.i
theorem VR.str'{i:Str}(h:VR W (.str i) v):∃t,v=.str i t:=h.i
theorem VR.bytes'{i:Array UInt8}(h:VR W (.bytes i) v):∃t,v=.bytes i t:=h.i
theorem VR.none'(h:VR W .none v):v=.none:=h.i
theorem VR.bool'(h:VR W (.bool b) v):v=.bool b:=h.i
theorem VR.ref'(h:VR W (.ref k) v):v=.ref (W.ρ k)/\∃o,(k,o)∈W.hp:=h.i
theorem VR.top'(h:VR W (.top a) v):v=.ref a:=h.i
theorem VR.bi'(h:VR W (.bi a) v):v=.builtin a.id:=h.i
theorem VR.ty'(h:VR W (.ty a) v):v=.type a.id:=h.i
theorem VR.tup'(h:VR W (.tup xs) v):∃a vs,v=.ref a/\W.Φ a/\RW W.s.heap a vs.toArray/\aF W xs vs:=h.i
theorem VR.lstP(h:VR W (.lst xs) v):∃a vs,v=.ref a/\W.Φ a/\W.s.heap.PlainList a vs.toArray/\aF W xs vs:=h.i
theorem VR.lst'(h:VR W (.lst xs) v):∃a vs,v=.ref a/\W.Φ a/\W.s.heap.IsList a vs.toArray/\aF W xs vs:=by
 refine cU λg1=>bJ h.lstP λa vs h1 h2 Sn h4=>?_;rcases Sn with⟨n,h3⟩
 exact g1 ⟨a,vs,h1,h2,⟨_,h3,rfl,n,rfl⟩,h4⟩
end
noncomputable def gd {α:Type}(b:Bool)(x:Option α):Option α:=match b with|true=>x|false=>.none
theorem au{α:Type}{b:Bool}{x:Option α}{y:α}(h:gd b x=some y):b=true/\x=some y:=by cases b<;>first|exact⟨rfl,h⟩|cases h
theorem aR{α:Type}{b:Bool}{x:Option α}{y:α}{P:Prop}(h:gd b x=some y)(k:b=true->x=some y->P):P:=(ad (au h) λu v=>k u v)
theorem d6{α:Type}{a b:Option α}{x:α}(h:a.or b=some x):a=some x\/b=some x:=by
 cases a<;>first|exact .inr h|exact .inl h
theorem bt{α:Type}{a b:Option α}{x:α}{P:Prop}(h:a.or b=some x)(k:a=some x->P)(l:b=some x->P):P:=(d6 h).elim k l
noncomputable def ai (n:Nat):Bool:=Qk n 16777216
theorem aq(h:ai n=true):n<=J4:=aa KH (Iv h)
noncomputable def aU (hp:Hp)(a:AV):Option (List AV):=a.lst?.or (a.ref?.bind λk=>(hg hp k).bind AO.list?)
noncomputable def two (a b:AV):Option (Int×Int):=a.int?.bind λi=>b.int?.map λj=>(i,j)
noncomputable def ug (a b:AV):Option (Str×Str):=a.str?.bind λi=>b.str?.map λj=>(i,j)
noncomputable def yu (hp:Hp)(a b:AV):Option AV:=
 ((two a b).map λp=>.int (p.1+p.2)).or (((ug a b).bind λp=>gd (ai (p.1.length+p.2.length)) (some (.str (p.1++p.2)))).or
  ((aU hp a).bind λxs=>(aU hp b).bind λys=>gd (ai (xs.length+ys.length)) (some (.lst (xs++ys)))))
noncomputable def Fd (a b:AV):Option AV:=a.str?.bind λx=>b.int?.bind λn=>gd (decide (n<1000/\-1000<n/\x.length<1000)) (some (.str (Rk x n)))
noncomputable def kJ (hp:Hp)(op:Rg)(a b:AV):Option AV:=match op with
 |.Add=>yu hp a b
 |.Mult=>Fd a b
 |.Sub=>(two a b).map λp=>.int (p.1-p.2)
 |.Mod=>(two a b).bind λp=>gd (decide (p.2≠0)) (some (.int (KV p.1 p.2)))
 |.FloorDiv=>(two a b).bind λp=>gd (decide (p.2≠0/\p.2.natAbs<1073741824)) (some (.int (LC p.1 p.2)))
 |.Pow=>(two a b).bind λp=>gd (decide (0<=p.2/\(LZ p.1:Int)*p.2<=134217728)) (some (.int (p.1^p.2.toNat)))
 |_=>.none
section
variable {C:Cx}{A:J0}{X:IF->IP->Prop}
theorem aX(O:Ok C W){a:AV}{xs:List AV}(e:aU W.hp a=some xs){v:IF}(h:VR W a v):∃l vs,v=.ref l/\W.s.heap.IsList l vs.toArray/\aF W xs vs:=by
 refine bt e (λe=>?_) λe=>?_
 . obtain rfl:=lst?_is e;refine cU λg1=>bJ h.lst' λl vs Sn Z a b=>?_;subst Sn;exact g1 ⟨l,vs,rfl,a,b⟩
 . refine ag e λk e1 e=>ag e λo e2 e=>?_;obtain rfl:=ref?_is e1;rcases h.ref'.1,h.ref'.2 with⟨rfl,Z⟩
   cases o<;>cases e
   exact cU λg3=>ae (O.cell k _ (aG e2)) λvs h1 h2=>g3 ⟨_,vs,rfl,h1.isList,h2⟩
theorem cV(h:Mk):h.get? h.objs.size=.none:=by
 induction q:h.get? h.objs.size with
 |none=>rfl
 |some o=>exact absurd (Jz q) (Ke _)
theorem oo(O:Ok C W)(hx:aF W xs vs)
 (K:ax C W (.lst xs) (W.loc,W.hp) Q):Q (.ref W.s.heap.objs.size) {W.s with heap:=W.s.heap.push {cls:=.type "list",data:=.seq vs.toArray}}:=
 have kp:=λa o e=>IH _ e;have ha:=IW W.s.heap rfl;have l:=O.frz (s:={W.s with heap:=W.s.heap.push {cls:=.type "list",data:=.seq vs.toArray}}) kp (cV _) ha (IC _) rfl rfl
 K _ _ (l.le O) (l.ok O) (.lst (.inr rfl) ⟨0,ha⟩ hx.1 (O.vrs (l.le O) hx).2) rfl
theorem uh(O:Ok C W)(hx:aF W xs vs)
 (K:ax C W (.tup xs) (W.loc,W.hp) Q):Q (.ref W.s.heap.objs.size) {W.s with heap:=W.s.heap.push {cls:=.type "tuple",data:=.seq vs.toArray}}:=
 have kp:=λa o e=>IH _ e;have ha:=IW W.s.heap rfl;have l:=O.frz (s:={W.s with heap:=W.s.heap.push {cls:=.type "tuple",data:=.seq vs.toArray}}) kp (cV _) ha (IC _) rfl rfl
 K _ _ (l.le O) (l.ok O) (.tup (.inr rfl) ⟨_,ha,rfl,_,rfl⟩ hx.1 (O.vrs (l.le O) hx).2) rfl
theorem ax.int{i:Int}{k:Nat}{t:Tok}{Q:IF->IP->Prop}(O:Ok C W)(K:ax C W (.int i) (W.loc,W.hp) Q)(h:W.s.toks<=k):Q (.int i t) {W.s with toks:=k}:=K _ _ (O.ltick h) (O.tick h) .int rfl
theorem ax.str(O:Ok C W)(K:ax C W (.str x) (W.loc,W.hp) Q)(h:W.s.toks<=k):Q (.str x t) {W.s with toks:=k}:=K _ _ (O.ltick h) (O.tick h) .str rfl
theorem ax.bool(O:Ok C W)(K:ax C W (.bool b) (W.loc,W.hp) Q)(h:W.s.toks<=k):Q (.bool b) {W.s with toks:=k}:=K _ _ (O.ltick h) (O.tick h) .bool rfl
theorem ax.same(O:Ok C W)(K:ax C W a (W.loc,W.hp) Q)(h:VR W a v):Q v W.s:=K _ _ (Le.refl W) O h rfl
theorem dE.tick(O:Ok C W)(K:dE C W b (W.loc,W.hp) Q)(h:W.s.toks<=k):Q b {W.s with toks:=k}:=K _ (O.ltick h) (O.tick h) rfl
theorem dE.same(O:Ok C W)(K:dE C W b (W.loc,W.hp) Q):Q b W.s:=K _ (Le.refl W) O rfl
theorem b_{a b:AV}{p:Int×Int}(e:two a b=some p){u v:IF}(hu:VR W a u)(hv:VR W b v):∃t t',u=.int p.1 t/\v=.int p.2 t':=by
 refine ag e λi h1 e=>aH e λj h2 qq=>an qq ?_;obtain rfl:=int?_is h1;clear e;obtain rfl:=int?_is h2;obtain⟨t,rfl⟩:=hu.int'
 (refine af hv.int' λt' Sm=>?_;refine aa Sm ?_)
 exact⟨t,t',rfl,rfl⟩
theorem iq{a b:AV}{p:Str×Str}(e:ug a b=some p){u v:IF}(hu:VR W a u)(hv:VR W b v):∃t t',u=.str p.1 t/\v=.str p.2 t':=by
 refine ag e λi h1 e=>aH e λj h2 qq=>an qq ?_;obtain rfl:=str?_is h1;clear e;obtain rfl:=str?_is h2;obtain⟨t,rfl⟩:=hu.str'
 (refine af hv.str' λt' Sm=>?_;refine aa Sm ?_)
 exact⟨t,t',rfl,rfl⟩
theorem ui(O:Ok C W){x y:Str}{t u:Tok}(hl:ai (x.length+y.length)=true){Q:IF->IP->Prop}(K:ax C W (.str (x++y)) (W.loc,W.hp) Q):
 (if x.length==0 then Made.val (.str y u)else if y.length==0 then Made.val (.str x t)else Made.str (x++y)).post Q W.s:=by
 split
 . rename_i h0
   rw[Str.append_left_empty h0]at K;exact ax.same O K .str
 . split
   . rename_i h0
     rw[Str.append_right_empty h0]at K;exact ax.same O K .str
   . exact⟨by refine aa (Str.length_append _ _) ?_;exact aq hl,ax.str O K (IL _)⟩
theorem CT(O:Ok C W){a b:AV}{xs ys:List AV}(h1:aU W.hp a=some xs)(h2:aU W.hp b=some ys)(hl:ai (xs.length+ys.length)=true){u v:IF}(hu:VR W a u)(hv:VR W b v){Q:IF->IP->Prop}(K:ax C W (.lst (xs++ys)) (W.loc,W.hp) Q):
 ID C.M A (binaryOp .Add u v) Q X W.s:=by
 refine cU λg1=>aP (aX O h1 hu) λl vs Sn il hx=>?_;clear hu;subst Sn;refine bw (aX O h2 hv) λl' us Sm=>am Sm λSn il' hy=>?_;clear hv;subst Sn;obtain⟨⟨cls,dd,data,sl⟩,ho,hc,n,hd⟩:=il;obtain⟨⟨cls2,dd2,data2,sl2⟩,TD,hc2,n2,Td⟩:=il';refine g1 ?_;simp only at hc hd hc2 Td;refine cU λg2=>?_;subst hc hd hc2 Td;obtain hz:=aq hl;haveI hz:=hy.1▸hx.1▸hz;refine g2 (concat_meets ⟨_,ho,rfl⟩ ⟨_,TD,rfl⟩ noFill_list_add seq_list_add PySem.F.slot_list_add PySem.F.entry_list_add (PySem.F.args_list_add_2 _ _) (list_addW l l' vs.toArray us.toArray n n2 dd dd2 sl sl2 (by simpa using hz)) ⟨ho,TD,?_⟩);exact aa (Qu _ _) (oo O (hx.append hy) K)
theorem oq(O:Ok C W){a b r:AV}(e:Fd a b=some r){u v:IF}(hu:VR W a u)(hv:VR W b v){Q:IF->IP->Prop}(K:ax C W r (W.loc,W.hp) Q):ID C.M A (binaryOp .Mult u v) Q X W.s:=by
 refine ag e λx h1 e=>ag e λn h2 e=>?_;refine aR e λhb e=>cU λg1=>?_;obtain rfl:=Iw e;obtain rfl:=str?_is h1;clear e;obtain rfl:=int?_is h2;refine af hu.str' λt Sq=>?_;clear hu;subst Sq;refine af hv.int' λt' Sq=>?_;clear hv;subst Sq;refine am (of_decide_eq_true hb) λh1 h2 h3=>?_;haveI hl:∀m:Nat,m<1000->Lr (Str.length x*m)=false:=λm hm=>by
  have:Str.length x*m<=1000*1000:=Nat.mul_le_mul (Js h3) (Js hm);unfold Lr;exact aa KH (decide_eq_false (L7 (Iu this (Iv rfl))))
 refine g1 (P.mul_str (by simp;exact⟨JK (by decide) (Me h2),MO h1 (by decide)⟩) (λq Z=>?_) (λq Z=>hl _ ((Q9 (JK (by decide) (M9.mp q))).mpr h1)) ?_)
 . haveI:(1000:Int)<=(2^63-1)/n:=(Int.le_ediv_iff_mul_le (LE (by decide) (M9.mp q))).mpr (JK (Int.mul_le_mul_of_nonneg_left (Me h1) (by decide:(0:Int)<=1000)) (by decide));exact M9.mpr (JK (Me (KJ.mpr h3)) this)
 . unfold Rk at K
   split at K
   . rename_i hn;exact aa (if_pos hn) ⟨by decide,ax.str O K (IL _)⟩
   . rename_i hn
     refine aa (if_neg hn) ?_
     split at K
     . rename_i hq;exact aa (if_pos hq) (ax.same O K .str)
     . rename_i hq
       exact aa (if_neg hq) ⟨fits_reps (hl _ ((Q9 (JK (by decide) (M9.mp hn))).mpr h1)),ax.str O K (IL _)⟩
theorem ou(O:Ok C W){op:Rg}{a b r:AV}(e:kJ W.hp op a b=some r){u v:IF}(hu:VR W a u)(hv:VR W b v){Q:IF->IP->Prop}(K:ax C W r (W.loc,W.hp) Q):
 ID C.M A (binaryOp op u v) Q X W.s:=by
 induction op with
 |Add=>
  refine bt e (λe=>?_) λe=>?_
  . refine aH e λp h qq=>?_;subst qq
    (refine be (b_ h hu hv) λt t' Sr SD=>?_;refine aa Sr ?_;refine aa SD ?_)
    with_reducible exact add_int (ax.int O K (IL _))
  . rcases d6 e with e|e
    . refine ag e λp h e=>?_;refine aR e λhl e=>?_;obtain rfl:=Iw e;obtain⟨t,t',rfl,rfl⟩:=iq h hu hv
      with_reducible exact P.add_str (ui O hl K)
    . refine ag e λxs h1 e=>?_;refine ag e λys h2 e=>?_;refine aR e λhl e=>?_;obtain rfl:=Iw e;exact CT O h1 h2 hl hu hv K
 |Mult=>exact oq O e hu hv K
 |Sub=>
  refine aH e λp h qq=>?_;clear e;subst qq
  (refine be (b_ h hu hv) λt t' Sr SD=>?_;refine aa Sr ?_;refine aa SD ?_)
  with_reducible exact sub_int (ax.int O K (IL _))
 |Mod=>
  refine ag e λp h e=>?_
  (refine be (b_ h hu hv) λt t' Sr SD=>?_;refine aa Sr ?_;refine aa SD ?_)
  with_reducible refine aR e λhb e=>?_
  (replace e:=Iw e;subst e);exact mod_int (of_decide_eq_true hb) (ax.int O K (IL _))
 |FloorDiv=>
  refine ag e λp h e=>?_
  (refine be (b_ h hu hv) λt t' Sr SD=>?_;refine aa Sr ?_;refine aa SD ?_)
  with_reducible refine aR e λhb e=>?_
  (replace e:=Iw e;subst e);exact floordiv_int (of_decide_eq_true hb).1 (ax.int O K (IL _)) (.inl (PyProof.noPylong_small (of_decide_eq_true hb).2))
 |Pow=>
  refine ag e λp h e=>?_
  (refine be (b_ h hu hv) λt t' Sr SD=>?_;refine aa Sr ?_;refine aa SD ?_)
  with_reducible refine aR e λhb e=>?_
  (replace e:=Iw e;subst e);exact pow_int (of_decide_eq_true hb).1 (of_decide_eq_true hb).2 (ax.int O K (IL _))
 |_=>cases e
noncomputable def AV.isNone (a:AV):Bool:=@AV.casesOn (λZ=>Bool) a true (λZ=>false) (λZ=>false) (λZ=>false) (λZ=>false) (λZ=>false) (λZ=>false) (λZ=>false) (λZ=>false) (λZ=>false) (λZ=>false) false (λZ=>false) (λZ=>false) (λZ=>false) (λZ=>false)
noncomputable def AV.plain (a:AV):Bool:=@AV.casesOn (λZ=>Bool) a true (λZ=>true) (λZ=>true) (λZ=>true) (λZ=>true) (λZ=>true) (λZ=>true) (λZ=>true) (λZ=>true) (λZ=>true) (λZ=>false) false (λZ=>true) (λZ=>true) (λZ=>false) (λZ=>true)
noncomputable def AV.bool? (a:AV):Option Bool:=@AV.casesOn (λZ=>Option Bool) a .none (λk=>some k) (λZ=>.none) (λZ=>.none) (λZ=>.none) (λZ=>.none) (λZ=>.none) (λZ=>.none) (λZ=>.none) (λZ=>.none) (λZ=>.none) .none (λZ=>.none) (λZ=>.none) (λZ=>.none) (λZ=>.none)
noncomputable def AV.ty? (a:AV):Option TY:=@AV.casesOn (λZ=>Option TY) a .none (λZ=>.none) (λZ=>.none) (λZ=>.none) (λZ=>.none) (λZ=>.none) (λZ=>.none) (λZ=>.none) (λZ=>.none) (λZ=>.none) (λZ=>.none) .none (λZ=>.none) (λZ=>.none) (λZ=>.none) (λk=>some k)
theorem bool?_is{a:AV}{i:Bool}(h:a.bool?=some i):a=.bool i:=aO (p:=λi=>a=.bool i) (by cases a<;>first|exact trivial|rfl) h
noncomputable def TY.all:List TY:=[.range,.dict,.tuple,.set,.type,.int,.bool,.str,.deque,.object,.stop,.none]
theorem TY.mem(a:TY):a∈TY.all:=JP (i:=a.code) (by cases a<;>rfl)
theorem TY.same(a b:TY):(a.id==b.id)=IT a.code b.code:=
 beq_iff_eq.mp (Jj.mp (Jj.mp (show(TY.all.all λa=>TY.all.all λb=>(a.id==b.id)==IT a.code b.code)=true by decide +kernel) a (TY.mem a)) b (TY.mem b))
theorem ty?_is{a:AV}{i:TY}(h:a.ty?=some i):a=.ty i:=aO (p:=λi=>a=.ty i) (by cases a<;>first|exact trivial|rfl) h
theorem cj{a:AV}(h:a.isNone=true):a=.none:=by cases a<;>first|rfl|exact IE h
theorem ml(h:a.plain=true)(hu:VR W a u):PySem.plainIs u .none=true/\(u==.none)=a.isNone:=by
 cases hu<;>first|exact⟨rfl,rfl⟩|cases h
noncomputable def yv (a:AV):Option Bool:=a.bool?.or (a.str?.map λZ=>false)
noncomputable def Ce (nt:Jn->Bool)(m n:Jn):Option Bool:=match IT m n with
 |true=>some true
 |false=>gd (nt m&&nt n) (some false)
def NT (C:Cx)(nt:Jn->Bool):Prop:=∀a,nt a=true->∃o,C.K.lookup a=some o/\o.cls≠.type "tuple"
noncomputable def G6 (nt:Jn->Bool)(a b:AV):Option Bool:=(gd (b.isNone&&a.plain) (some a.isNone)).or ((gd (b.bool?==some true) (yv a)).or
 ((b.ty?.bind λn=>a.ty?.map λm=>IT m.code n.code).or (b.top?.bind λn=>a.top?.bind λm=>Ce nt m n)))
noncomputable def H3 (x y:Str):Option Bool:=o1 x.cps.toList λc=>some (y.cps.toList.any (IT c))
noncomputable def cr:List AV->Option (List Str)
 |[]=>some []
 |a::r=>a.str?.bind λx=>(cr r).map (x:: ·)
noncomputable def dM:List Str->Str->Bool
 |[],_=>false
 |y::r,x=>match aZ y x with|true=>true|false=>dM r x
theorem dict?_is{a:AO}{i:List (Str×AV)×Nat}(h:a.dict?=some i):a=.dict i.1 i.2:=aO (p:=λi=>a=.dict i.1 i.2) (by cases a<;>first|exact trivial|rfl) h
theorem set?_is{a:AO}{i:List Str}(h:a.set?=some i):a=.set i:=aO (p:=λi=>a=.set i) (by cases a<;>first|exact trivial|rfl) h
theorem list?_is{a:AO}{i:List AV}(h:a.list?=some i):a=.list i:=aO (p:=λi=>a=.list i) (by cases a<;>first|exact trivial|rfl) h
theorem deque?_is{a:AO}{i:List AV}(h:a.deque?=some i):a=.deque i:=aO (p:=λi=>a=.deque i) (by cases a<;>first|exact trivial|rfl) h
noncomputable def cellOf (hp:Hp)(a:AV):Option AO:=a.ref?.bind λk=>hg hp k
theorem bG(O:Ok C W)(e:cellOf W.hp a=some o)(h:VR W a v):∃k,a=.ref k/\v=.ref (W.ρ k)/\hg W.hp k=some o/\(k,o)∈W.hp/\OR C W (W.ρ k) o:=by refine ag e λk h1 h2=>?_;clear e;obtain rfl:=ref?_is h1;exact⟨k,rfl,h.ref'.1,h2,aG h2,O.cell k o (aG h2)⟩
noncomputable def cb (hp:Hp)(a:AV):Option (List (Str×AV)×Nat):=(cellOf hp a).bind AO.dict?
theorem cu(O:Ok C W)(e:cb W.hp a=some es){v:IF}(h:VR W a v):
 ∃k kvs,a=.ref k/\v=.ref (W.ρ k)/\(k,.dict es.1 es.2)∈W.hp/\W.s.heap.DictOf (JE C.prog C.w) (W.ρ k) kvs/\kvs.map (·.1)=es.1.map (·.1)/\aF W (es.1.map (·.2)) (kvs.map (·.2)):=by
 refine ag e λo h1 h2=>cU λg1=>?_;obtain⟨k,rfl,rfl,Z,hm,kvs,⟨x,Z⟩,y,z⟩:=dict?_is h2▸bG O h1 h;exact g1 ⟨k,kvs,rfl,rfl,dict?_is h2▸hm,x,y,z⟩
noncomputable def CU (hp:Hp)(a b:AV):Option Bool:=a.str?.bind λx=>
 (b.str?.bind λy=>H3 x y).or ((b.tup?.bind λys=>(cr ys).map λl=>dM l x).or
  (((cb hp b).map λes=>(lk es.1 x).isSome).or ((cellOf hp b).bind λo=>o.set?.map λl=>dM l x)))
noncomputable def H4 (hp:Hp)(a b:AV):Option Bool:=((two a b).map λp=>decide (p.1=p.2)).or (((ug a b).map λp=>aZ p.1 p.2).or
 (gd b.isNone ((a.str?.map λZ=>false).or (gd a.isNone (some true)))))
noncomputable def cI (f:AV->Option L8):List AV->Option (List L8)
 |[]=>some []
 |a::r=>(f a).bind λd=>(cI f r).map (d:: ·)
noncomputable def CV (hp:Hp)(f:Option (AV->Option L8))(a:AV):Option L8:=@AV.casesOn (λZ=>Option L8) a (some .none) (λb=>some (.bool b)) (λi=>some (.int i)) (λx=>some (.str x)) (λZ=>.none)
 (λxs=>f.bind λg=>(cI g xs).map .tuple) (λxs=>f.bind λg=>(cI g xs).map .list) (λZ=>.none) (λZ=>.none)
 (λk=>f.bind λg=>(aU hp (.ref k)).bind λxs=>(cI g xs).map .list) (λZ=>.none) .none (λZ=>.none) (λZ=>.none) (λZ=>.none) (λZ=>.none)
noncomputable def db (hp:Hp)(n:Nat):AV->Option L8:=@Nat.rec (λZ=>AV->Option L8) (CV hp .none) (λZ f=>CV hp (some f)) n
noncomputable def G7 (hp:Hp)(a b:AV):Option Bool:=(aU hp a).bind λZ=>(db hp 8 a).bind λd=>(db hp 8 b).bind λe=>gd (J7 d&&J7 e) (some (NZ d e))
noncomputable def oy (nt:Jn->Bool)(hp:Hp)(op:CmpOp)(a b:AV):Option Bool:=match op with
 |.Is=>G6 nt a b
 |.IsNot=>(G6 nt a b).map not
 |.Eq=>(H4 hp a b).or (G7 hp a b)
 |.NotEq=>(((two a b).map λp=>!decide (p.1=p.2)).or ((ug a b).map λp=>!aZ p.1 p.2)).or ((G7 hp a b).map not)
 |.Lt=>(two a b).map λp=>decide (p.1<p.2)
 |.Gt=>(two a b).map λp=>decide (p.2<p.1)
 |.GtE=>(two a b).map λp=>decide (p.2<=p.1)
 |.In=>CU hp a b
 |.NotIn=>(CU hp a b).map not
 |_=>.none
theorem bB(x y:Str):(x==y)=aZ x y:=by
 by_cases h:x=y
 . subst h;exact aa (az _) (beq_self_eq_true x)
 . exact aa (bb h) (beq_eq_false_iff_ne.mpr h)
noncomputable abbrev yw (C:Cx)(A:J0)(X:IF->IP->Prop)(W:Wd)(o1 o2:CmpOp)(u v:IF)(r:Bool):Prop:=
 (∀{Q:IF->IP->Prop},ax C W (.bool r) (W.loc,W.hp) Q->ID C.M A (RQ o1 u v) Q X W.s)/\(∀{Q:IF->IP->Prop},ax C W (.bool (!r)) (W.loc,W.hp) Q->ID C.M A (RQ o2 u v) Q X W.s)
theorem ir(O:Ok C W)(h1:PySem.plainIs u v=true)(h2:(u==v)=r):yw C A X W .Is .IsNot u v r:=
 ⟨λq=>wpAny_is_plain h1 (aa h2 (ax.same O q .bool)),λq=>wpAny_isNot_plain h1 (aa h2 (ax.same O q .bool))⟩
theorem jI(O:Ok C W){nt:Jn->Bool}(N:NT C nt){a b:AV}{r:Bool}(e:G6 nt a b=some r){u v:IF}(hu:VR W a u)(hv:VR W b v):yw C A X W .Is .IsNot u v r:=by
 refine bt e (λe1=>?_) λe1=>?_
 . refine aR e1 λh e2=>?_;clear e;refine an (Iw e2) (bc h λh1 h2=>?_);obtain rfl:=cj h1;obtain rfl:=hv.none';exact ir O (ml h2 hu).1 (ml h2 hu).2
 refine bt e1 (λe2=>?_) λe2=>?_
 . refine aR e2 λh e3=>?_;clear e;obtain rfl:=bool?_is (beq_iff_eq.mp h);obtain rfl:=hv.bool';refine bt e3 (λe4=>?_) λe4=>?_
   . obtain rfl:=bool?_is e4;obtain rfl:=hu.bool';exact ir O rfl (by cases r<;>rfl)
   . refine aH e4 λx h qq=>an qq ?_;obtain rfl:=str?_is h;refine af hu.str' λt Sq=>?_;clear hu;subst Sq;exact ir O rfl rfl
 refine bt e2 (λe3=>?_) λe3=>?_
 . refine ag e3 λn h e4=>aH e4 λm h' qq=>?_;clear e;refine an qq ?_;obtain rfl:=ty?_is h;obtain rfl:=ty?_is h';obtain rfl:=hu.ty';obtain rfl:=hv.ty';refine ir O rfl ?_;simp only[<-TY.same];by_cases q:m.id=n.id
   . exact aa q (aa (beq_self_eq_true _) (aa (beq_self_eq_true _) rfl))
   . exact aa (beq_eq_false_iff_ne.mpr q) (beq_eq_false_iff_ne.mpr λz=>q (by injection z))
 . refine ag e3 λn h e4=>ag e4 λm h' e5=>?_;clear e e1 e2 e3 e4;obtain rfl:=top?_is h;obtain rfl:=top?_is h';obtain rfl:=hu.top';obtain rfl:=hv.top';unfold Ce at e5;induction q:IT m n with
   |true=>haveI e5:=q▸e5;(replace e5:=Iw e5;refine an e5 ?_);have:=IY q;clear h hv q;subst this;exact⟨λz=>wpAny_is_ref_self (ax.same O z .bool),λz=>wpAny_isNot_ref_self (ax.same O z .bool)⟩
   |false=>rw[q]at e5;refine aR e5 λh3 e8=>?_;clear e5;refine an (Iw e8) ?_;obtain ne:=NF q;exact ae (N m (IQ.mp h3).1) λo h1 nt=>ae (N n (IQ.mp h3).2) λo' h2 Z=>⟨λz=>wpAny_is_ref_other ne (O.X _ _ h1) (O.X _ _ h2) nt (ax.same O z .bool),λz=>wpAny_isNot_ref_other ne (O.X _ _ h1) (O.X _ _ h2) nt (ax.same O z .bool)⟩
theorem gu:∀{ys:List AV} {l:List Str},cr ys=some l->∀{vs:List IF},aF W ys vs->StrsAre vs l:=by
 intro Sl;induction Sl with
 |nil=>
  intro l e vs h
  (replace e:=Iw e;refine an e ?_);exact aa h.inv_nil .nil
 |cons a r Sk=>intro l e vs h;refine ag e λx h1 e=>aH e λl' h2 qq=>an qq ?_;obtain rfl:=str?_is h1;obtain⟨v,vs',rfl,hv,ht⟩:=h.inv;refine af hv.str' λt Sq=>?_;clear h hv;subst Sq;exact .cons x t (Sk h2 ht)
theorem mn(l:List Str)(x:Str):dM l x=l.any (· ==x):=by
 induction l with
 |nil=>rfl
 |cons y r ih=>refine aa QH (aa (bB _ _) ?_);unfold dM;cases aZ y x<;>simp[ih]
theorem c4(l:List Str)(x:Str):dM l x=decide (x∈l):=by refine aa (mn _ _) (aa (propext R7) (aa (propext RC) (aa decide_eq_true_eq ?_)));exact⟨λTi=>ae Ti λy h e=>beq_iff_eq.mp e▸h,λh=>⟨x,h,beq_self_eq_true x⟩⟩
theorem yx(O:Ok C W)(hm:(k,.dict es n)∈W.hp):(W.ρ k==Mj)=false:=by
 refine ae (O.cell k _ hm) λZ Sn Z=>?_;rcases Sn with⟨Z,lo⟩
 exact lo
theorem ff(O:Ok C W):(W.s.heap.objs.size==Mj)=false:=by
 refine cU λg1=>gp C.g λo Z Z h Z=>g1 ?_;exact beq_eq_false_iff_ne.mpr λe=>by
  have:=Jz (O.old _ _ h).1;rw[e]at this;exact absurd this (by decide)
theorem bR:∀{es:List (Str×AV)} {kvs:List (Str×IF)},kvs.map (·.1)=es.map (·.1)->aF W (es.map (·.2)) (kvs.map (·.2))->∀x:Str,
 (lk es x=.none/\N4 kvs x=.none)\/(∃a v,lk es x=some a/\N4 kvs x=some v/\VR W a v):=by
 intro Sl;induction Sl with
 |nil=>
  intro SK;induction SK with
  |nil=>intro Z Z x;exact .inl ⟨rfl,rfl⟩
  |cons x93 x94=>intro hk Z x;simp at hk
 |cons x95 es Sx=>
  obtain⟨y,a⟩:=x95;intro SQ;cases SQ with
  |nil=>intro hk Z x;simp at hk
  |cons x98 kvs=>
   obtain⟨z,v⟩:=x98;intro hk hx x;refine cU λg1=>ad (KU hk) λh1 h2=>?_;haveI h1:z=y:=h1;clear hk;subst h1;refine aP hx.inv λv' vs' e hv ht=>ad (KU e) λSq Sn=>?_;clear e;subst Sq;subst Sn;refine g1 ?_;by_cases q:z=x
   . clear g1;subst q;exact .inr ⟨a,v,by simp[fK,kG,az],by simp[N4],hv⟩
   . haveI e1:lk ((z,a)::es) x=lk es x:=by simp[fK,kG,bb q]
     exact(e1).symm▸((by simp[N4,q]:N4 ((z,v)::kvs) x=N4 kvs x)).symm▸(Sx h2 ht x)
theorem jJ(O:Ok C W)(e:CU W.hp a b=some r)(hu:VR W a u)(hv:VR W b v):yw C A X W .In .NotIn u v r:=by
 refine ag e λx h e=>?_;obtain rfl:=str?_is h;refine af hu.str' λt Sq=>?_;clear hu;refine aa Sq (bt e (λe1=>?_) λe1=>?_)
 . refine ag e1 λy h e2=>?_;clear e e1;obtain rfl:=str?_is h;refine af hv.str' λt' Sq=>?_;clear hv;refine aa Sq (ET e2 λc hc e2=>?_)
   . refine an (Iw e2) ?_;haveI eq:(!(Jl.Str.occurrences y x 0 y.length 1).isEmpty)=y.cps.toList.any (IT c):=by
      refine aa (by obtain⟨⟨l⟩⟩:=x;cases hc;rfl:x=⟨#[c]⟩) (aa (StrLaws.found_one _ _) (aa (propext R7) (aa (propext RC) (aa decide_eq_true_eq ?_))));exact⟨λh=>⟨c,h,Rd c⟩,λTi=>ae Ti λd h e=>IY e▸h⟩
     with_reducible exact⟨λz=>P.in_str (by exact aa eq (ax.same O z .bool)),λz=>P.notIn_str (by exact aa eq (ax.same O z .bool))⟩
 refine bt e1 (λe2=>?_) λe2=>?_
 . refine ag e2 λys h e3=>aH e3 λl h' qq=>cU λg4=>?_;subst qq;clear e e1 e2 e3;clear e;obtain rfl:=tup?_is h;refine bJ hv.tup' λd vs Sn Z ht hx=>?_;clear hv;subst Sn;haveI hs:=gu h' hx;refine g4 ?_;simp only[mn]
   with_reducible exact⟨λz=>in_tuple_strs ht hs (ax.same O z .bool),λz=>notin_tuple_strs ht hs (ax.same O z .bool)⟩
 refine bt e2 (λe3=>?_) λe3=>?_
 . refine aH e3 λes h qq=>cU λg5=>?_;subst qq;clear e e1 e2 e3;refine E8 (cu O h hv) λk kvs Ss hm hd hk hx=>?_;clear e hv;subst Ss;have eq:(N4 kvs x).isSome=(lk es.1 x).isSome:=by
    rcases bR hk hx x with⟨h1,h2⟩|⟨a,v,h1,h2,_⟩<;>refine aa h1 (aa h2 ?_)<;>rfl
   with_reducible exact g5 ⟨λz=>wpAny_in_of (JM C.prog C.w x t) (yx O hm) hd.mapOf (by exact aa eq (ax.bool O z (IL _))),λz=>wpAny_notIn_of (JM C.prog C.w x t) (yx O hm) hd.mapOf (by exact aa eq (ax.bool O z (IL _)))⟩
 . refine ag e3 λo h e4=>aH e4 λl h' qq=>an qq ?_;clear e e1 e2 e3 e4;obtain rfl:=set?_is h';refine ub (bG O h hv) λk Ss Z hm hS=>?_;clear e h hv;subst Ss;simp only[c4];exact⟨λz=>wpAny_inSet_of (JM C.prog C.w x t) rfl hS (ax.bool O z (IL _)),λz=>wpAny_notInSet_of (JM C.prog C.w x t) rfl hS (ax.bool O z (IL _))⟩
theorem kK(hf:∀{a d v},f a=some d->VR W a v->∃as,Reads W.s.heap v d as):∀{xs:List AV} {ds:List L8} {vs:List IF},cI f xs=some ds->aF W xs vs->∃as,ReadsAll W.s.heap vs ds as:=by
 intro Sl;induction Sl with
 |nil=>
  intro ds vs e h
  (replace e:=Iw e;subst e);exact aa h.inv_nil ⟨_,.nil⟩
 |cons a r Sk=>intro ds vs e h;refine ag e λd h1 e=>aH e λds' h2 qq=>cU λg1=>?_;subst qq;refine aP h.inv λv vs' Sn h3 h4=>?_;clear h;subst Sn;exact af (hf h1 h3) λas h5=>af (Sk h2 h4) λbs h6=>g1 ⟨_,.cons h5 h6⟩
theorem qN(O:Ok C W)(hf:∀g,f=some g->∀{a:AV} {d:L8} {v:IF},g a=some d->VR W a v->∃as,Reads W.s.heap v d as)(e:CV W.hp f a=some d)(h:VR W a v):∃as,Reads W.s.heap v d as:=by
 cases a<;>first|exact nn e|skip
 . exact h.none'▸Iw e▸⟨_,.none⟩
 . exact h.bool'▸Iw e▸⟨_,.bool _⟩
 . refine af h.int' λt Sq=>?_;clear h;exact aa Sq (Iw e▸⟨_,.int _ _⟩)
 . refine af h.str' λt Sq=>?_;clear h;exact aa Sq (Iw e▸⟨_,.str _ _⟩)
 . refine ag e λg e0 e=>aH e λds h1 qq=>an qq (bJ h.tup' λl vs Sn Z Ss hx=>?_);clear h;subst Sn;rcases Ss with⟨o,ho,hc,m,hd⟩
   exact af (kK (hf g e0) h1 hx) λas h2=>⟨_,.tuple ho hc hd (by simpa using h2)⟩
 . refine ag e λg e0 e=>aH e λds h1 qq=>an qq (bJ h.lst' λl vs Sn Z Ss hx=>?_);clear h;subst Sn;rcases Ss with⟨o,ho,hc,m,hd⟩
   exact af (kK (hf g e0) h1 hx) λas h2=>⟨_,.list ho hc hd (by simpa using h2)⟩
 . refine ag e λg e0 e=>ag e λxs hs e=>aH e λds h1 qq=>an qq (aP (aX O hs h) λl vs Sn Ss hx=>?_);subst Sn;rcases Ss with⟨o,ho,hc,m,hd⟩
   exact af (kK (hf g e0) h1 hx) λas h2=>⟨_,.list ho hc hd (by simpa using h2)⟩
theorem uj(O:Ok C W):∀(n:Nat) {a:AV} {d:L8} {v:IF},db W.hp n a=some d->VR W a v->∃as,Reads W.s.heap v d as:=by
 intro n;induction n with
 |zero=>exact λe h=>qN O (λg q=>nn q) e h
 |succ n ih=>exact λe h=>qN O (λg q=>Iw q▸ih) e h
theorem jK(O:Ok C W)(hr:A.units+64<cLine){a b:AV}{r:Bool}(e:G7 W.hp a b=some r){u v:IF}(hu:VR W a u)(hv:VR W b v):yw C A X W .Eq .NotEq u v r:=ag e λZ Z e=>ag e λd h1 e=>ag e λd' h2 e=>aR e λhs e=>an (Iw e) (bc hs λs1 s2=>cU λg2=>af (uj O 8 h1 hu) λas r1=>af (uj O 8 h2 hv) λbs r2=>g2 ⟨λK=>eq_dataH r1 r2 s1 s2 hr (ax.same O K .bool),λK=>ne_dataH r1 r2 s1 s2 hr (ax.same O K .bool)⟩)
theorem oz(O:Ok C W)(hr:A.units+64<cLine)(N:NT C nt)(e:oy nt W.hp op a b=some r)(hu:VR W a u)(hv:VR W b v){Q:IF->IP->Prop}(K:ax C W (.bool r) (W.loc,W.hp) Q):
 ID C.M A (RQ op u v) Q X W.s:=by
 have S:Q (.bool r) W.s:=ax.same O K .bool;induction op with
 |Is=>exact(jI O N e hu hv).1 K
 |IsNot=>refine aH e λb h qq=>?_;clear S e;subst qq;exact(jI O N h hu hv).2 K
 |In=>exact(jJ O e hu hv).1 K
 |NotIn=>refine aH e λb h qq=>?_;clear S e;subst qq;exact(jJ O h hu hv).2 K
 |Lt=>
  refine aH e λp h qq=>?_;clear K e;subst qq
  (refine be (b_ h hu hv) λt t' Sr SD=>?_;refine aa Sr ?_;refine aa SD ?_)
  with_reducible exact lt_int S
 |Gt=>
  refine aH e λp h qq=>?_;clear K e;subst qq
  (refine be (b_ h hu hv) λt t' Sr SD=>?_;refine aa Sr ?_;refine aa SD ?_)
  with_reducible exact gt_int S
 |GtE=>
  refine aH e λp h qq=>?_;clear K e;subst qq
  (refine be (b_ h hu hv) λt t' Sr SD=>?_;refine aa Sr ?_;refine aa SD ?_)
  with_reducible exact ge_int S
 |Eq=>
  refine bt e (λe=>?_) λe=>?_
  rotate_left
  . exact(jK O hr e hu hv).1 K
  refine bt e (λe1=>?_) λe1=>?_
  . refine aH e1 λp h qq=>?_;clear K;subst qq
    (refine be (b_ h hu hv) λt t' Sr SD=>?_;refine aa Sr ?_;refine aa SD ?_)
    exact eq_int S
  refine bt e1 (λe2=>?_) λe2=>?_
  . refine aH e2 λp h qq=>?_;clear K;subst qq
    (refine be (iq h hu hv) λt t' Sr SD=>?_;refine aa Sr ?_;refine aa SD ?_)
    with_reducible exact eq_str (by exact aa (bB _ _) S)
  . refine aR e2 λh e3=>?_;obtain rfl:=cj h;obtain rfl:=hv.none';refine bt e3 (λe4=>?_) λe4=>?_
    . refine aH e4 λx h qq=>cU λg9=>?_;clear K e e1 e2;subst qq;obtain rfl:=str?_is h;obtain⟨t,rfl⟩:=hu.str'
      with_reducible exact g9 (EqNone.eq_str_none S)
    . refine aR e4 λh e5=>cU λUc=>?_;clear K e e1 e2;obtain rfl:=Iw e5;obtain rfl:=cj h;obtain rfl:=hu.none';exact Uc (EqNone.eq_none_none S)
 |NotEq=>
  refine bt e (λe=>?_) λe=>?_
  rotate_left
  . refine aH e λb h qq=>cU λUd=>?_;clear S;subst qq;exact Ud ((jK O hr h hu hv).2 K)
  refine bt e (λe1=>?_) λe1=>?_
  . refine aH e1 λp h qq=>?_;clear K;subst qq
    (refine be (b_ h hu hv) λt t' Sr SD=>?_;refine aa Sr ?_;refine aa SD ?_)
    exact ne_int S
  . refine aH e1 λp h qq=>?_;clear K;subst qq
    (refine be (iq h hu hv) λt t' Sr SD=>?_;refine aa Sr ?_;refine aa SD ?_)
    refine ne_str (?_:Q (.bool (!(p.1==p.2))) W.s);exact aa (bB _ _) S
 |_=>cases e
end
theorem dN:Slot "collections.deque" "__len__" "collections.deque.__len__":=
 .of (owner:="collections.deque") (n:="__len__") (by refine aa (Ja _ _) (aa IX ?_);kernel_rfl) (by decide +kernel) (by decide +kernel) (by decide +kernel)
  (by first|exact .inl (by decide +kernel)|exact .inr (by decide +kernel)) (by refine aa (JO _ _) ?_;kernel_rfl)
theorem kL:LU OY "collections.deque.__len__"=some Jl.«collections.deque.__len__»:=JN (by kernel_rfl)
theorem mo(a):Mi "collections.deque.__len__" ⟨[a],[]⟩:=by unfold Mi;kernel_rfl
theorem sv:K0 (.type "collections.deque") "__bool__"=pure none:=by refine aa (Ja _ _) (aa IX ?_);kernel_rfl
noncomputable abbrev bO (n:Int)(vs:List IF):Obj:={cls:=.type "collections.deque",data:=.fields (.none::.int n 0::vs).toArray}
section
variable {s:IP}
theorem d7(ho:s.heap.get? a=some (bO n vs)):s.TypeIs (.ref a) "collections.deque":=⟨_,ho,rfl⟩
theorem gw(ho:s.heap.get? a=some (bO n vs))(h:Q (.none::.int n 0::vs).toArray s):ID (J3 prog w) A (fieldsOf (.ref a)) Q E s:=by
 unfold fieldsOf
 first|exact Ir (Ng ho (Ix h))|(refine Ir (Ng ho ?_);exact Ix h)
theorem sw(ho:s.heap.get? a=some (bO n vs))(hl:vs.length<=J4)(h:Q (!vs.isEmpty) {s with toks:=s.toks+1+1}):ID (J3 prog w) A (truthy (.ref a)) Q E s:=by
 rw[KH]at hl;have hne:((vs.length:Int) !=0)= !vs.isEmpty:=by
  induction vs with
  |nil=>rfl
  |cons v vs=>exact aa (bne_iff_ne.mpr (by simp only[Jh];exact Kr ((λ{x y}=>bi_ine.mp) rfl))) rfl
 have key:ID (J3 prog w) A (runValue (.builtin "len" ⟨[.ref a],[]⟩)) (λr s'=>r=.int vs.length (s.toks+1)/\Q (!vs.isEmpty) s') E s:=by
  refine wpAny_runValue (Kw entry_len ?_);refine aa (J0.under_plainId plain_len _) (KG (Q:=λfin s'=>∃r,fin=.done (.ret r)/\(r=.int vs.length (s.toks+1)/\Q (!vs.isEmpty) s')) ?_ (λfin s' h'=>by(refine ae h' λr Sm hq=>?_;refine aa Sm ?_);exact hq) λZ Z e=>e);unfold Jl.«len»;refine Ir (Ix ?_);refine Ir (Px (d7 ho) dN
   (KT dN (d7 ho) kL ?_ (mo _)))
  unfold Jl.«collections.deque.__len__»;refine Ir (Ix ?_);refine Ir (Ir (gw ho (Ix ?_)));refine aa (by simp:(Kz (.none::.int n 0::vs)).size-2=vs.length) (Ir (O9 (Ix ⟨_,rfl,?_⟩)));refine Ir (I1 (Ix ?_));refine Ir (wpAny_letGo ?_);refine(?_:ID _ _ (if((vs.length:Nat):Int)<0 then _ else _) _ _ _);refine aa (if_neg (by exact Mx vs.length)) (?_:ID _ _ (if((vs.length:Nat):Int)≥2^63 then _ else _) _ _ _);exact aa (if_neg (Int.not_le.mpr (Kt (JY.mpr hl) (by decide)))) (Ir (O9 (Ix ⟨_,rfl,rfl,h⟩)))
 unfold truthy;refine Ir (wpAny_callSpecial?_none (d7 ho) sv ?_);refine Ir (JS (d7 ho) dN.lookup ?_);exact Ir (KG key (λr s' h'=>by(refine ad h' λTh hq=>?_;refine aa Th ?_);exact Ix (hne▸hq)) λZ Z e=>e)
end
theorem kM{α β:Type}:∀{l} {l'} (x) (a:α) (b:β),l.map (·.1)=l'.map (·.1)->(st l x a).map (·.1)=(st l' x b).map (·.1):=by
 intro Sl;induction Sl with
 |nil=>
  intro SK;induction SK with
  |nil=>intro x a b Z;exact rfl
  |cons x93 x94=>intro Z Z Z h;simp at h
 |cons x95 l Sx=>
  obtain⟨y,c⟩:=x95;intro SQ;induction SQ with
  |nil=>intro Z Z Z h;simp at h
  |cons x98 l'=>
   obtain⟨y',d⟩:=x98;intro x a b h;refine ad (KU h) λh1 h2=>?_;haveI h1:y=y':=h1;subst h1;refine aa fM (aa fM ?_);induction aZ y x with
   |true=>exact h
   |false=>refine(?_:y::_=y::_);exact aa (Sx x a b h2) rfl
theorem CW{α:Type}:∀{l} {x y} {a:α},y∈(st l x a).map (·.1)->y=x\/y∈l.map (·.1):=by
 intro Sl;induction Sl with
 |nil=>intro x y a h;simp[fM,yp]at h;exact .inl h
 |cons x92 l So=>
  obtain⟨z,c⟩:=x92;intro x y a h;rw[fM]at h;induction q:aZ z x with
  |true=>rw[q]at h;exact .inr h
  |false=>
   rw[q]at h;refine av h (λh=>?_) λh=>?_
   . exact .inr (IJ.mpr (.inl h))
   . exact(So h).imp id λh=>IJ.mpr (.inr h)
theorem mq{α:Type}:∀{l} {x} {a:α},(l.map (·.1)).Nodup->((st l x a).map (·.1)).Nodup:=by
 intro Sl;induction Sl with
 |nil=>intro x a Z;simp[fM,yp]
 |cons x92 l So=>
  obtain⟨z,c⟩:=x92;intro x a h;refine ad (I_.mp h) λh1 h2=>(fM).symm▸?_;induction q:aZ z x with
  |true=>exact h
  |false=>exact I_.mpr ⟨λm=>(CW m).elim (λe=>by clear m;subst e;rw[az]at q;cases q) h1,So h2⟩
theorem jL:∀{l},(l.map (·.1)).Nodup->Mv l k v=st l k v:=by
 intro Sl;induction Sl with
 |nil=>intro Z;exact rfl
 |cons x92 l So=>
  obtain⟨z,c⟩:=x92;intro h;refine ad (I_.mp h) λh1 h2=>?_;haveI ih:=So h2;unfold Mv at ih⊢;refine aa fM ?_;by_cases q:z=k
  . clear ih;refine an q (aa (az _) (aa (if_pos (by simp)) ?_));haveI:l.map (λkv=>if kv.1=z then(kv.1,v)else kv)=l:=(Ls λp hp=>if_neg λe=>h1 (IU.mpr ⟨p,hp,e⟩)).trans (RX l);simp[this]
  . refine aa (bb q) ?_;simp only[QH,q,decide_false,Bool.false_or,JA,if_false,KR,cond_false]
    split at ih
    . rename_i hh;exact aa (if_pos hh) (aa ih rfl)
    . rename_i hh;exact aa (if_neg hh) (aa ih rfl)
section
theorem oA:∀{es} {kvs} {x} {a} {v},kvs.map (·.1)=es.map (·.1)->aF W (es.map (·.2)) (kvs.map (·.2))->VR W a v->aF W ((st es x a).map (·.2)) ((st kvs x v).map (·.2)):=by
 intro Sl;induction Sl with
 |nil=>
  intro SK;induction SK with
  |nil=>intro x a v Z Z h;exact .cons h .nil
  |cons x93 x94=>intro Z Z Z h Z Z;simp at h
 |cons x95 l Sx=>
  obtain⟨y,c⟩:=x95;intro SQ;cases SQ with
  |nil=>intro Z Z Z h Z Z;simp at h
  |cons x98 l'=>
   obtain⟨y',d⟩:=x98;intro x a v h hx hv;refine ad (KU h) λh1 h2=>?_;haveI h1:y'=y:=h1;clear h;refine an h1 (bw hx.inv λu us Sm=>?_)
   (haveI e:=(Sm).1;haveI hu:=(Sm).2.1;haveI ht:=(Sm).2.2)
   (haveI Sq:=(KU e).1;haveI Sn:=(KU e).2)
   subst Sq;clear e Sm;subst Sn;refine(fM).symm▸(fM).symm▸?_;induction aZ y' x with
   |true=>exact .cons hv ht
   |false=>exact .cons hu (Sx h2 ht hv)
noncomputable abbrev sk (C:Cx):=JE C.prog C.w
theorem sx(H:Rh (sk C) l kvs):Rh (sk C) (putL name h (.str name t) v l) (st kvs name v):=by
 induction H with
 |nil=>exact .cons (JM _ _ _ _) rfl .nil
 | @cons e kv es kvs h1 h2 h3 ih=>
  obtain⟨y,u⟩:=kv;refine af (Lu h1) λt' ek=>?_;unfold putL;refine(fM).symm▸(show e.key.isStr name=aZ y name by exact aa ek (bB y name)).symm▸?_;induction q:aZ y name with
  |true=>exact .cons h1 rfl h3
  |false=>exact .cons h1 h2 ih
theorem uk(h:Oo (sk C) l.toArray):Oo (sk C) (putL name (OB C.w.params name) (.str name t) v l).toArray:=by
 intro e he;rw[RH]at he;have key:∀(l:List Nl),e∈putL name (OB C.w.params name) (.str name t) v l->(e.key=.str name t/\e.hash=OB C.w.params name)\/∃e'∈l,e'.key=e.key/\e'.hash=e.hash:=by
  intro l;induction l with
  |nil=>intro h;simp[putL]at h;refine aa h ?_;exact .inl ⟨rfl,rfl⟩
  |cons b r ih=>
   intro h;unfold putL at h
   split at h
   . refine OW (IJ.mp h) (λh=>?_) λh=>?_
     . clear he;refine aa h ?_;exact .inr ⟨b,.head _,rfl,rfl⟩
     . exact .inr ⟨e,.tail _ h,rfl,rfl⟩
   . rcases IJ.mp h with h|h
     . refine an h ?_;exact .inr ⟨e,.head _,rfl,rfl⟩
     . exact(ih h).imp id λTi=>ae Ti λe' m q=>⟨e',.tail _ m,q⟩
 rcases key l he with⟨h1,h2⟩|⟨e',m,h1,h2⟩
 . exact⟨name,by refine aa h1 ?_;exact JM _ _ _ _,h2⟩
 . exact an h1 (an h2 (h e' (aa (propext RH) m)))
theorem fh:∀{l} {kvs},Rh (sk C) l kvs->getL name l=some (N4 kvs name):=by
 intro l kvs h;induction h with
 |nil=>rfl
 | @cons e kv es kvs h1 h2 h3 ih=>
  obtain⟨y,u⟩:=kv;refine af (Lu h1) λt' ek=>?_;haveI e1:e.key.isStr name=aZ y name:=by exact aa ek (bB y name)
  unfold getL N4 at ih⊢;refine aa R_ (aa R_ (aa e1 (aa QH (aa (by unfold Nl.refKey;exact aa ek rfl:e.refKey=false) (aa (Bool.false_or _) ?_)))));by_cases q:y=name
  . clear e1 ih;refine aa q ?_;refine aa (az _) ?_;simp[h2]
  . exact aa (bb q) (aa (decide_eq_false q) ih)
theorem ul{o:Obj}{c:IF}{d:Option Jn}{x:Sj}{y:Array (Option IF)}(a:o.cls=c)(b:o.dict=d)(e:o.data=x)(s:o.slots=y):o={cls:=c,dict:=d,data:=x,slots:=y}:=an a (an b (an e (an s rfl)))
theorem um(h:OR C W d (.dict es n)):∃l m kvs,W.s.heap.get? d=some (dictOf l m)/\Oo (sk C) l.toArray/\Rh (sk C) l kvs/\(kvs.map (·.1)).Nodup/\kvs.map (·.1)=es.map (·.1)/\aF W (es.map (·.2)) (kvs.map (·.2)):=cm h λkvs Sn e1 e2=>yj Sn.1 λo es ep ho hx hd hk hp hn=>⟨es.toList,ep,kvs,ho.trans (congrArg some (ul hx.1 hx.2.1 hd hx.2.2)),hk,hp,hn,e1,e2⟩
theorem mr{l:List Nl}{m:Nat}{kvs:List (Str×IF)}{h:Mk}{d:Jn}(ho:h.get? d=some (dictOf l m))(hk:Oo (sk C) l.toArray)(hp:Rh (sk C) l kvs)(hn:(kvs.map (·.1)).Nodup):h.DictOf (sk C) d kvs:=
 ⟨_,l.toArray,m,ho,⟨rfl,rfl,rfl⟩,rfl,hk,by simpa using hp,hn⟩
end
noncomputable def d8 (hp:Hp)(a:AV):Option Bool:=a.bool?.or ((gd a.isNone (some false)).or ((a.int?.map λi=>!decide (i=0)).or
 ((a.str?.bind λx=>gd (ai x.length) (some (!IT x.length 0))).or (((aU hp a).bind λxs=>gd (ai xs.length) (some (!xs.isEmpty))).or
  (((cellOf hp a).bind AO.deque?).bind λxs=>gd (ai xs.length) (some (!xs.isEmpty)))))))
inductive AK where
 |own|fn (f:Jn)|prop (f:Jn)
set_option genCtorIdx true in
inductive AX where
 |stop|cyc
noncomputable abbrev XK:=AX->St->Prop
noncomputable abbrev Callee:=List AV->List (Str×AV)->Hp->(AV->Hp->Prop)->(AX->Hp->Prop)->Prop
structure Ct where
 scope:Od
 calm:Bool
 top:Bool
structure jw where
 ev:Ct->XK->JC->St->(AV->St->Prop)->Prop
 tr:Ct->XK->JC->St->(Bool->St->Prop)->Prop
 exs:Ct->XK->List Ld->St->(aD->St->Prop)->Prop
structure Tb where
 glob:Str->Option AV
 call:AV->Callee
 bi:AV->Bool->Option Nat->Callee
 meth:Hp->AV->Str->Option (AV×List AV)
 fnc:Jn->Bool
 attr:Jn->Str->Option AK
 slot:Jn->Str->Option Nat
 site:Pos->St->Option Nat
 sym:Pos->Bool
 keep:Pos->Option (List Str)
 nt:Jn->Bool
 hook:Ld->jw->Ct->XK->St->(aD->St->Prop)->Prop
noncomputable def uo (l:Lo):List Str->Lo
 |[]=>[]
 |x::r=>match lk l x with|some a=>(x,a)::uo l r|.none=>uo l r
noncomputable def tidy (T:Tb)(p:Pos)(s:St):St:=match T.keep p with|some ns=>(uo s.1 ns,s.2)|.none=>s
theorem yy:∀{ns} {x} {a},lk (uo l ns) x=some a->lk l x=some a:=by
 intro Sl;induction Sl with
 |nil=>intro Z Z h;exact nn h
 |cons y r Sk=>
  intro x a h;dsimp only[uo]at h;induction q:lk l y with
  |none=>haveI h:=q▸h;exact Sk h
  |some b=>
   replace h:=q▸h;dsimp only[fK,kG]at h;induction z:aZ y x with
   |true=>haveI h:=z▸h;(replace h:=Iw h;refine an h ?_);exact an (aL.mp z) q
   |false=>haveI h:=z▸h;exact Sk h
noncomputable def Wd.tidy (T:Tb)(p:Pos)(W:Wd):Wd:={W with loc:=(Internal.tidy T p (W.loc,W.hp)).1}
theorem Wd.tidy_st(T:Tb)(p:Pos)(W:Wd):Internal.tidy T p (W.loc,W.hp)=((W.tidy T p).loc,(W.tidy T p).hp):=by
 unfold Wd.tidy Internal.tidy
 split<;>rfl
theorem Wd.tidy_le(T)(p)(W):Le W (W.tidy T p):=let h:=Le.refl W;⟨h.f,h.φ,h.φn,h.ky,h.kp,h.fr,h.nw,h.ver,h.gens,h.os⟩
theorem Wd.tidy_ok(T)(p)(O:Ok C W):Ok C (W.tidy T p):=by
 have hv:∀{a v},VR W a v->VR (W.tidy T p) a v:=λh=>VR.mono (W:=W) (W':=W.tidy T p) (λZ h=>h) (λZ Z Z e=>e) (λZ o h=>⟨⟨o,h⟩,rfl⟩) h;refine⟨O.nd,O.inj,λk o h=>OR.mono rfl hv (λZ e=>e) (λZ o h=>⟨⟨o,h⟩,rfl⟩) (O.cell k o h),O.free,O.fz,O.nL,?_,O.fr,O.cl,O.ap,O.ro,O.old,O.tk,O.up⟩;refine cU λg1=>ae O.ns λm h1 h2=>g1 ⟨m,h1,λx a h=>?_⟩;have:lk W.loc x=some a:=by
  have h:lk (Internal.tidy T p (W.loc,W.hp)).1 x=some a:=h;dsimp only[Internal.tidy]at h
  split at h
  . exact yy h
  . exact h
 refine cU λg2=>?_;obtain qZ:=h2 x a this;rcases qZ.choose,qZ.choose_spec.1,qZ.choose_spec.2 with⟨v,h3,h4⟩
 exact g2 ⟨v,hv h3,h4⟩
inductive ac{α:Type}(o:Option α)(K:α->Prop):Prop where
 |mk (a:α) (h:o=some a) (k:K a):ac o K
def aj {α:Type}(b:Bool)(o:Option α)(K:α->Prop):Prop:=match b with
 |true=>ac o K
 |false=>match o with|some a=>K a|.none=>False
theorem ac.two{α β:Type}{o1:Option α}{o2:α->Option β}{K:α->β->Prop}(a:α)(h1:o1=some a)(b:β)(h2:o2 a=some b)(k:K a b):ac o1 λa=>ac (o2 a) (K a):=.mk a h1 (.mk b h2 k)
theorem ac.three{α β γ:Type}{o1:Option α}{o2:α->Option β}{o3:α->β->Option γ}{K:α->β->γ->Prop}(a:α)(h1:o1=some a)(b:β)(h2:o2 a=some b)(c:γ)(h3:o3 a b=some c)(k:K a b c):ac o1 λa=>ac (o2 a) λb=>ac (o3 a b) (K a b):=.mk a h1 (.mk b h2 (.mk c h3 k))
theorem ac.four{α β γ δ:Type}{o1:Option α}{o2:α->Option β}{o3:α->β->Option γ}{o4:α->β->γ->Option δ}{K:α->β->γ->δ->Prop}(a:α)(h1:o1=some a)(b:β)(h2:o2 a=some b)(c:γ)(h3:o3 a b=some c)(d:δ)(h4:o4 a b c=some d)(k:K a b c d):ac o1 λa=>ac (o2 a) λb=>ac (o3 a b) λc=>ac (o4 a b c) (K a b c):=.mk a h1 (.mk b h2 (.mk c h3 (.mk d h4 k)))
theorem aS{α:Type}{b:Bool}{o:Option α}{K:α->Prop}(h:aj b o K):ac o K:=by
 induction b with
 |true=>exact h
 |false=>induction o with
  |none=>exact h.elim
  |some a=>exact⟨a,rfl,h⟩
theorem cw{α:Type}{b:Bool}{o:Option α}{K:α->Prop}{P:Prop}(h:aj b o K)(k:∀a,o=some a->K a->P):P:=let⟨a,x,y⟩:=aS h;k a x y
theorem yz{α:Type}{M}{A}{c}[Decidable c]{a b:Sem α}{Q}{E}{s}(hc:¬c)(k:ID M A b Q E s):ID M A (if c then a else b) Q E s:=(if_neg hc).symm▸k
theorem Fe{α:Type}{M}{A}{c}[Decidable c]{a b:Sem α}{Q}{E}{s}(hc:c)(k:ID M A a Q E s):ID M A (if c then a else b) Q E s:=(if_pos hc).symm▸k
theorem jM{α:Type}{b:Bool}{o:Option α}{K:α->Prop}{P:Prop}(h:aj b o K)(k:∀a,o=some a->K a->P):P:=by
 induction aS h with
 |mk a q z=>exact k a q z
theorem uq{α:Type}{o:Option α}{P:Prop}(n:o=none->P)(k:∀a,o=some a->P):P:=by
 induction o with
 |none=>exact n rfl
 |some a=>exact k a rfl
inductive cJ(t:Bool)(K:Bool->Prop):Prop where
 |mk (h:t=true->K true) (k:t=false->K false):cJ t K
def ask (b t:Bool)(K:Bool->Prop):Prop:=match b with
 |true=>cJ t K
 |false=>K t
theorem gx{b t}{K}(h:ask b t K):K t:=by
 induction b with
 |false=>exact h
 |true=>induction h with
  |mk h1 h2=>induction t with
   |true=>exact h1 rfl
   |false=>exact h2 rfl
inductive a8{α:Type}(p:Prop)(o:Option α)(K:α->Prop):Prop where
 |mk (h:p) (a:α) (e:o=some a) (k:K a):a8 p o K
noncomputable def oB (c:Const):Option AV:=@QE (λZ=>Option AV) c (some .none) (λb=>some (.bool b)) (λi=>some (.int i)) (λZ=>.none) (λZ Z=>.none) (λs=>some (.str s)) (λb=>some (.bytes b.toArray)) .none
noncomputable def yb {α:Type}(k:Option KB)(l c f g d:α):α:=@KI KB (λZ=>α) k d λk=>@KB.casesOn (λZ=>α) k l c f d g
noncomputable def ms (T:Tb)(ct:Ct)(x:Str)(l:Lo):Option AV:=yb (lk ct.scope.names x) (lk l x) (lk l x) (lk l x) (T.glob x) .none
noncomputable def cx (ct:Ct)(x:Str):Bool:=yb (lk ct.scope.names x) true true false false false
theorem aM{α:Type}(l:List (Str×α))(x:Str):l.lookup x=lk l x:=by
 induction l with
 |nil=>rfl
 |cons p r ih=>
  obtain⟨y,a⟩:=p;simp only[List.lookup_cons,bB];dsimp only[fK,kG];by_cases h:y=x
  . refine aa h ?_;exact aa (az _) rfl
  . exact aa (bb h) (aa (bb (Kr h)) ih)
theorem List.isEmpty_eq_length_eq_zero{α β:Type}{xs:List α}{ys:List β}(h:xs.length=ys.length):xs.isEmpty=ys.isEmpty:=by
 induction xs<;>induction ys<;>first|rfl|(simp at h)
def kN (k e:Option KB)(f:Fm)(x:Str):Prop:=yb k (e=some .local/\lk (f.cl++f.ro) x=.none) (e=some .cell/\∃c,lk (f.cl++f.ro) x=some c/\(x,c)∈f.cl)
 ((e=some .cell\/e=some .free/\(x==("__classdict__":Str))=false)/\∃c,lk (f.cl++f.ro) x=some c) (e=some .globalImplicit) True
structure bP(ct:Ct)(W:Wd)(env:Env):Prop where
 kd:env.scope.kind=.function
 lo:env.locals=W.L
 ce:env.cells=W.f.cl++W.f.ro
 gl:env.globals=Nt
 bl:env.builtins=MK
 nm:∀x,kN (lk ct.scope.names x) (env.kindOf x) W.f x
theorem bP.le(e:bP ct W env)(l:Le W W'):bP ct W' env:=⟨e.kd,e.lo.trans (by refine(?_:W.f.L=W'.f.L);exact aa l.f rfl),by refine aa l.f ?_;exact e.ce,e.gl,e.bl,λx=>aa l.f (e.nm x)⟩
theorem bP.plain(e:bP ct W env):(env.scope.kind==.class||(env.scope.kind==.module&&env.locals !=env.globals))=false:=aa e.kd rfl
theorem bP.calm(e:bP ct W env):interactive env=false:=by unfold interactive;exact aa e.kd rfl
def iM (C:Cx)(g:Str->Option AV):Prop:=∀x a,g x=some a->∃v,(C.mg x=some v\/(C.mg x=.none/\C.mb x=some v))/\∀W,VR W a v
noncomputable def ur (C:Cx):AX->IF
 |.stop=>.type "StopIteration"
 |.cyc=>C.cyc
inductive Tr(p:Jn->Prop)(h:Mk)(e:Jn)(vs:Array IF)(fl:IF):Prop
 |mk:vs[1]? =some (.ref T)->p T->T≠e->h.get? T=some oT->oT.data=.fields ts->ts[3]? =some fl->Tr p h e vs fl
inductive yA(p:Jn->Prop)(h:Mk)(c:IF):IF->Prop
 |mk:p e->h.get? e=some oe->oe.cls=c->oe.data=.fields vs->(vs[1]? =some .none\/Tr p h e vs .none)->yA p h c (.ref e)
theorem Tr.map(t:Tr p h e vs fl)(f:∀a o,p a->h.get? a=some o->q a/\h'.get? a=some o):Tr q h' e vs fl:=Tr.casesOn t λ{T oT ts} a b c d g i=>.mk a (f T oT b d).1 c (f T oT b d).2 g i
theorem yA.imp(t:yA p h c v)(f:∀a,p a->q a):yA q h c v:=yA.casesOn t λ{e oe vs} a b c d g=>.mk (f e a) b c d (g.imp id λt=>t.map λa o k e=>⟨f a k,e⟩)
def XR (C:Cx)(W W':Wd)(x:AX)(v:IF):Prop:=yA (λa=>W.s.heap.get? a=.none/\¬W'.Φ a/\¬W'.mov a) W'.s.heap (ur C x) v
theorem yB(O1:Ok C W1)(l:Le W W1)(e:W1.s.heap.get? a=.none):W.s.heap.get? a=.none:=by
 induction q:W.s.heap.get? a with
 |none=>rfl
 |some o=>exact af (O1.stays l q) λo' z=>nn (e.symm.trans z)
theorem XR.sooner(O1:Ok C W1)(l:Le W W1)(h:XR C W1 W' x v):XR C W W' x v:=yA.imp h λa k=>⟨yB O1 l k.1,k.2⟩
class inductive Stk:List Env->List Jn->Prop
 |nil:Stk [] []
 |cons {e l f fs}:e.frame=some f->e.scope.kind≠.module->Stk l fs->Stk (e::l) (f::fs)
def Ff (C:Cx)(n:Nat)(ct:Ct)(A:J0)(env:Env)(W:Wd)(Xk:XK)(X:IF->IP->Prop):Prop:=ct.top=true->∃l,A.frames=some (env::l)/\env.frame=some W.f.L/\Stk l W.f.fs
def CX (C:Cx)(n:Nat)(ct:Ct)(A:J0)(env:Env)(W:Wd)(Xk:XK)(X:IF->IP->Prop):Prop:=∀x st,Xk x st->∀v W',Le W W'->Ok C W'->XR C W W' x v->st=(W'.loc,W'.hp)->X v W'.s
structure eM(C:Cx)(n:Nat)(ct:Ct)(A:J0)(env:Env)(W:Wd)(Xk:XK)(X:IF->IP->Prop):Prop where
 v:bP ct W env
 r:fc A n
 c:ct.calm=true->A.handled=.none
 t:Ff C n ct A env W Xk X
 hx:CX C n ct A env W Xk X
theorem eM.le(g:eM C n ct A env W Xk X)(O1:Ok C W1)(l:Le W W1):eM C n ct A env W1 Xk X:=
 ⟨g.v.le l,g.r,g.c,λh=>by refine aa l.f ?_;exact g.t h,λx st h v W' l' o' r e=>g.hx x st h v W' (l.trans O1 l') o' (r.sooner O1 l) e⟩
structure H5(C:Cx)(T:Tb):Prop where
 glob:iM C T.glob
 nt:NT C T.nt
structure bh(C:Cx)(n:Nat)(E:jw):Prop where
 ev:∀{ct:Ct} {A:J0} {env:Env} {W:Wd} {Xk:XK} {e:JC} {K:AV->St->Prop} {Q:IF->IP->Prop} {X:IF->IP->Prop},Ok C W->eM C n ct A env W Xk X->
  E.ev ct Xk e (W.loc,W.hp) K->(∀a st,K a st->ax C W a st Q)->ID C.M A (LH e env) Q X W.s
 tr:∀{ct:Ct} {A:J0} {env:Env} {W:Wd} {Xk:XK} {e:JC} {K:Bool->St->Prop} {Q:Bool->IP->Prop} {X:IF->IP->Prop},Ok C W->eM C n ct A env W Xk X->
  E.tr ct Xk e (W.loc,W.hp) K->(∀a st,K a st->dE C W a st Q)->ID C.M A (MP e env (LH e env)) Q X W.s
 exs:∀{ct:Ct} {A:J0} {env:Env} {W:Wd} {Xk:XK} {l:List Ld} {K:aD->St->Prop} {Q:R8->IP->Prop} {X:IF->IP->Prop},Ok C W->eM C n ct A env W Xk X->
  E.exs ct Xk l (W.loc,W.hp) K->(∀a st,K a st->fb C W a st Q)->ID C.M A (execs l env) Q X W.s
theorem ax.later{C}{W W1}{a}{st}{Q}(O1:Ok C W1)(l:Le W W1)(K:ax C W a st Q):ax C W1 a st Q:=λv W2 l2 o2 r e=>K v W2 (l.trans O1 l2) o2 r e
theorem dE.later{C}{W W1}{a}{st}{Q}(O1:Ok C W1)(l:Le W W1)(K:dE C W a st Q):dE C W1 a st Q:=λW2 l2 o2 e=>K W2 (l.trans O1 l2) o2 e
theorem fb.later{C}{W W1}{a}{st}{Q:R8->IP->Prop}(O1:Ok C W1)(l:Le W W1)(K:fb C W a st Q):fb C W1 a st Q:=λv W2 l2 o2 r e=>K v W2 (l.trans O1 l2) o2 r e
section
variable {T:Tb}
theorem fi(G:iM C T.glob)(O:Ok C W)(V:bP ct W env)(e:ms T ct x W.loc=some a)(hd:(x==("__debug__":Str))=false)(K:ax C W a (W.loc,W.hp) Q):ID C.M A (LH (.Name x p) env) Q X W.s:=by
 refine cU λg1=>?_;obtain hk:=V.nm x;refine ae O.ns λm hm hl=>?_;unfold ms at e;refine g1 ?_;induction z:lk ct.scope.names x with
 |none=>exact nn (z▸e)
 |some kk=>
 rw[z]at e hk;cases kk
 . refine ae (hl x a e) λv h1 h2=>?_;unfold Wd.at at h2;rw[hk.2]at h2;exact Q2 (wpAny_loadName_local V.kd hk.1 (V.lo▸hm) h2 (ax.same O K h1)) hd
 . refine cU λg3=>ad hk λk1 Sm=>ae Sm λc k2 Z=>ae (hl x a e) λv h1 h2=>?_;unfold Wd.at at h2;rw[k2]at h2;exact g3 (Q2 (QC V.kd k1 (aa V.ce (aa (aM _ _) k2)) h2 (ax.same O K h1)) hd)
 . refine cU λg4=>ad hk λk1 Sm=>af Sm λc k2=>ae (hl x a e) λv h1 h2=>?_;unfold Wd.at at h2;haveI h2:=k2▸h2;refine g4 ?_;rcases k1 with k1|⟨k1,k3⟩
   . exact Q2 (QC V.kd k1 (aa V.ce (aa (aM _ _) k2)) h2 (ax.same O K h1)) hd
   . exact Q2 (wpAny_loadName_free V.kd k1 (aa V.ce (aa (aM _ _) k2)) h2 (ax.same O K h1) k3) hd
 . exact nn e
 . refine ae (G x a e) λv h1 h2=>?_;have gg:=V.gl▸C.g.keeps λb o e=>(O.old b o e).1;refine Name_function_global V.kd hk ?_ hd;rcases h1 with h1|⟨h1,h3⟩
   . exact loadGlobal_global gg h1 (ax.same O K (h2 W))
   . exact loadGlobal_builtin gg h1 (V.bl▸C.b.keeps λb o e=>(O.old b o e).1) h3 (ax.same O K (h2 W))
theorem mt(O:Ok C W)(e:oB c=some a)(K:ax C W a (W.loc,W.hp) Q):ID C.M A (LH (.Constant c k p) env) Q X W.s:=by
 induction c<;>first|exact nn e|(replace e:=Iw e;subst e)
 . exact wpAny_Constant_none (ax.same O K .none)
 . exact wpAny_Constant_bool (ax.same O K .bool)
 . exact wpAny_Constant_int (ax.int O K (IL _))
 . exact OG (ax.str O K (IL _))
 . exact λZ Z Z=>K _ _ (O.ltick (IL _)) (O.tick (IL _)) .bytes rfl
theorem cM(O:Ok C W)(V:bP ct W env)(hk:cx ct x=true)(hv:VR W a v)
 (K:∀W',Le W W'->Ok C W'->(st W.loc x a,W.hp)=(W'.loc,W'.hp)->Q () W'.s):ID C.M A (storeName env x v) Q X W.s:=by
 refine cU λg1=>ae O.ns λm hm hl=>?_;have kd:=V.nm x;have fin:∀(s:IP) (d:Jn),W.own d->d∉W.f.fs->Jt d W.s.heap s.heap->(∃m,s.heap.Ns W.L m/\∀y b,lk (st W.loc x a) y=some b->∃v,VR W b v/\(W.lset s (st W.loc x a)).at m y v)->
  (∀x,(x,d)∈W.f.cl->∃v,s.heap.IsCell d v)->W.s.toks<=s.toks->s.gens=W.s.gens->s.os=W.s.os->Q () s:=λs d h1 h2 h3 h4 h5 h6 h7 h8=>
  have S:=O.lset h1 h2 h3 h4 h5 h6 h7 h8
  K _ (S.le O) (S.ok O) rfl
 unfold cx at hk;refine g1 ?_;induction z:lk ct.scope.names x with
 |none=>exact IE (z▸hk)
 |some kk=>
 rw[z]at hk kd;induction kk<;>first|exact IE hk|skip
 . clear hk;refine wpAny_storeName_local kd.1 (V.lo▸hm) (λh' hn hs=>?_) V.plain;rw[V.lo]at hn hs;refine fin {W.s with heap:=h',toks:=W.s.toks+1} W.L (.inl rfl) (λq=>(O.fr _ q).1 rfl) hs ⟨_,hn,λy b q=>?_⟩ (λy h=>absurd rfl (O.cl y _ h).1) (IL _) rfl rfl;rw[qI]at q;by_cases h:x=y
   . subst h;replace q:=(if_pos rfl)▸q;replace q:=Iw q;subst q;exact⟨v,hv,by unfold Wd.at;show match lk (W.f.cl++W.f.ro) x with|some c=>_|.none=>_;exact aa kd.2 (if_pos rfl)⟩
   . haveI q:=(if_neg h)▸q;refine ae (hl y b q) λu h1 h2=>⟨u,h1,?_⟩
     unfold Wd.at at h2⊢;show match lk (W.f.cl++W.f.ro) y with|some c=>_|.none=>_
     induction z2:lk (W.f.cl++W.f.ro) y with
     |none=>haveI h2:=z2▸h2;exact(if_neg (Kr h)).trans h2
     |some c=>
      haveI h2:=z2▸h2;refine Qr (h:=W.s.heap) h2 hs λe=>bg (aB z2) (λq=>?_) λq=>?_
      . exact(O.cl y c q).1 e
      . exact(O.ro y c q).1 (.inl (.inl e))
 . clear hk;refine cU λg4=>?_;obtain⟨k1,c,k2,k3⟩:=kd;refine am (O.cl x c k3) λn1 n2 Sm=>af Sm λv0 hc0=>g4 (wpAny_storeName_cell V.kd k1 (by exact aa V.ce (aa (aM _ _) k2)) hc0 λh' hc hs=>fin {W.s with heap:=h'} c (.inr (.inr (IU.mpr ⟨_,k3,rfl⟩))) n2 hs ⟨m,hm.sameBut hs (Kr n1),λy b q=>?_⟩ (λZ Z=>⟨_,hc⟩) (IC _) rfl rfl);rw[qI]at q;by_cases h:x=y
   . subst h;replace q:=(if_pos rfl)▸q;replace q:=Iw q;subst q;refine⟨v,hv,?_⟩;show match lk (W.f.cl++W.f.ro) x with|some c=>_|.none=>_
     exact aa k2 hc
   . rw[if_neg h]at q;refine ae (hl y b q) λu h1 h2=>⟨u,h1,?_⟩
     unfold Wd.at at h2⊢;show match lk (W.f.cl++W.f.ro) y with|some c=>_|.none=>_
     induction z2:lk (W.f.cl++W.f.ro) y with
     |none=>haveI h2:=z2▸h2;exact h2
     |some d=>
      rw[z2]at h2;refine Qr (h:=W.s.heap) h2 hs λe=>?_;clear k2;subst e;refine bg (aB z2) (λq=>?_) λq=>?_
      . exact h (name_of_addr O.ap k3 q)
      . exact(O.ro y d q).1 (.inl (.inr (.inr (IU.mpr ⟨_,k3,rfl⟩))))
theorem gy(O:Ok C W)(e:d8 W.hp a=some r)(hu:VR W a u)(K:dE C W r (W.loc,W.hp) Q):ID C.M A (truthy u) Q X W.s:=by
 have S:Q r W.s:=dE.same O K;have eN:∀{m:Nat},m<=J4->((m:Nat):Int)<2^63:=λh=>by haveI h:=KH▸h;exact Kt (JY.mpr h) (by decide)
 refine bt e (λe1=>?_) λe1=>?_
 . clear e;obtain rfl:=bool?_is e1;obtain rfl:=hu.bool';exact Rv S
 refine bt e1 (λe2=>?_) λe2=>?_
 . refine aR e2 λh e3=>?_;replace e3:=Iw e3;clear K e;subst e3;obtain rfl:=cj h;obtain rfl:=hu.none';exact truthy_none S
 refine bt e2 (λe3=>?_) λe3=>?_
 . refine aH e3 λi h qq=>?_;clear K e;subst qq;obtain rfl:=int?_is h;rcases hu.int'.choose,hu.int'.choose_spec with⟨t,rfl⟩
   exact truthy_int S
 refine bt e3 (λe4=>?_) λe4=>?_
 . refine ag e4 λx h e5=>aR e5 λhl e6=>cU λg4=>?_;replace e6:=Iw e6;clear S e;subst e6;obtain rfl:=str?_is h;refine af hu.str' λt Sq=>?_;clear hu;subst Sq
   with_reducible refine g4 (P.truthy_str (Int.not_le.mpr (eN (aq hl))) ?_)
   haveI:((x.length:Int) !=0)= !IT x.length 0:=by
    induction q:x.length with
    |zero=>rfl
    |succ m=>exact aa (bne_iff_ne.mpr λq=>absurd (OO.mp q) (NY m)) rfl
   exact aa this (dE.tick O K (by exact JH (IK _ _)))
 refine bt e4 (λe5=>?_) λe5=>?_
 . refine ag e5 λxs h e6=>?_;refine aR e6 λhl e7=>?_;replace e7:=Iw e7;clear S e;subst e7;refine aP (aX O h hu) λl vs Sn il hx=>?_;subst Sn;refine Rw il (by exact aa Jk (an hx.1 (eN (aq hl)))) ?_;have:(!vs.toArray.isEmpty)= !xs.isEmpty:=by exact aa (P5 _) (an (List.isEmpty_eq_length_eq_zero hx.1) rfl)
   exact aa this (dE.tick O K (by exact JH (IK _ _)))
 . refine ag e5 λxs h e6=>aR e6 λhl e7=>?_;replace e7:=Iw e7;clear S e;subst e7;refine ag h λo h1 h2=>cU λg7=>?_;obtain rfl:=deque?_is h2;refine af (bG O h1 hu) λk Sm=>iH Sm λSs q84 Z hm Sr=>?_;subst Ss;clear hu Sm;subst q84;refine be Sr λm vs ho hx=>g7 ?_;exact sw ho (hx.1▸aq hl) (an (List.isEmpty_eq_length_eq_zero hx.1) (dE.tick O K (by exact JH (IK _ _))))
end
section
variable (T:Tb)(E:jw)(ct:Ct)(Xk:XK)
def Fg (l:JC)(op:Rg)(r:JC)(p:Pos)(s:St)(K:AV->St->Prop):Prop:=E.ev ct Xk l s λa s1=>E.ev ct Xk r s1 λb s2=>aj (T.sym p) (kJ s2.2 op a b) λv=>K v s2
def CY (l:JC)(op:CmpOp)(r:JC)(p:Pos)(s:St)(K:Bool->St->Prop):Prop:=aj false (gd (!e_ r) (some ())) λZ=>E.ev ct Xk l s λa s1=>E.ev ct Xk r s1 λb s2=>aj (T.sym p) (oy T.nt s2.2 op a b) λv=>K v s2
def Hz (op:UnaryOp)(x:JC)(p:Pos)(s:St)(K:AV->St->Prop):Prop:=match op with
 |.Not=>E.ev ct Xk x s λa s1=>aj (T.sym p) (d8 s1.2 a) λb=>K (.bool (!b)) s1
 |.USub=>E.ev ct Xk x s λa s1=>aj (T.sym p) a.int? λi=>K (.int (-i)) s1
 |_=>False
def ut (t v:JC)(s:St)(K:AV->St->Prop):Prop:=md t λx Z=>aj false (gd (cx ct x) (some ())) λZ=>E.ev ct Xk v s λa s1=>K a (st s1.1 x a,s1.2)
noncomputable def Cf:List JC->St->(List AV->St->Prop)->Prop
 |[],s,K=>K [] s
 |e::r,s,K=>aj false (gd (!bQ e) (some ())) λZ=>E.ev ct Xk e s λa s1=>Cf r s1 λas s2=>K (a::as) s2
def Fh (es:List JC)(p:Pos)(s:St)(K:AV->St->Prop):Prop:=Cf E ct Xk es s λas s1=>aj (T.sym p) (gd (ai as.length) (some ())) λZ=>K (.tup as) s1
def listAt (as:List AV)(p:Pos)(s:St)(K:AV->St->Prop):Prop:=@KI Nat (λZ=>Prop) (T.site p s) (aj (T.sym p) (gd (ai as.length) (some ())) λZ=>K (.lst as) s) λk=>aj (T.sym p) (gd (ai as.length) (some ())) λZ=>aj (T.sym p) (gd (!(ks s.2).contains k) (some ())) λZ=>K (.ref k) (s.1,(k,.list as)::s.2)
def listE (es:List JC)(p:Pos)(s:St)(K:AV->St->Prop):Prop:=Cf E ct Xk es s λas s1=>listAt T as p s1 K
noncomputable def qO (op:BoolOp)(p:Pos):List JC->St->(AV->St->Prop)->Prop
 |[],_,_=>False
 |e::r,s,K=>E.ev ct Xk e s λa s1=>match r with
  |[]=>K a s1
  |_::_=>aj (T.sym p) (d8 s1.2 a) λt=>ask (T.sym p) t λt=>match op,t with
   |.And,false=>K a s1
   |.Or,true=>K a s1
   |_,_=>qO op p r s1 K
noncomputable def GG (op:BoolOp)(p:Pos):List JC->St->(Bool->St->Prop)->Prop
 |[],s,K=>K (match op with|.And=>true|.Or=>false) s
 |e::r,s,K=>E.tr ct Xk e s λt s1=>ask (T.sym p) t λt=>match op,t with
  |.And,false=>K false s1
  |.Or,true=>K true s1
  |_,_=>GG op p r s1 K
def HA (c a b:JC)(p:Pos)(s:St)(K:AV->St->Prop):Prop:=E.tr ct Xk c s λt s1=>ask (T.sym p) t λt=>match t with
 |true=>E.ev ct Xk a s1 K
 |false=>E.ev ct Xk b s1 K
end
theorem ao{b s}{K}(h:aj s (gd b (some ())) K):b=true/\K ():=by obtain⟨u,e,k⟩:=aS h;exact⟨(au e).1,k⟩
theorem H6{b s:Bool}{K:Unit->Prop}{P:Prop}(h:aj s (gd b (some ())) K)(k:b=true->K ()->P):P:=ad (ao h) λx y=>k x y
section
variable {K:AV->St->Prop}
variable (S:bh C n E)(O:Ok C W)(G:eM C n ct A env W Xk X)
include S O G
theorem oC(e:Fg T E ct Xk l op r p (W.loc,W.hp) K)(k:∀a st,K a st->ax C W a st Q):ID C.M A (LH (.BinOp l op r p) env) Q X W.s:=by refine wpAny_BinOp (S.ev O G e λa s1 h1 x W1 l1 O1 r1 q1=>?_);subst q1;refine S.ev O1 (G.le O1 l1) h1 λb s2 h2 y W2 l2 O2 r2 q2=>?_;subst q2;obtain⟨v,h3,h4⟩:=aS h2;exact ou O2 h3 (O1.vr l2 r1) r2 ((k _ _ h4).later O2 (l1.trans O1 l2))
theorem fj(hn:2<=n)(N:NT C T.nt){l r}{op:CmpOp}{p}{K}(e:CY T E ct Xk l op r p (W.loc,W.hp) K)(k:∀b st,K b st->ax C W (.bool b) st Q):
 QL op r=false/\ID C.M A (LH l env) (λx s1=>ID C.M A (LH r env) (λy s2=>ID C.M A (RQ op x y) Q X s2) X s1) X W.s:=by
 obtain⟨u0,hs,e⟩:=aS e;refine⟨(si ((au hs).1)),S.ev O G e λa s1 h1 x W1 l1 O1 r1 q1=>?_⟩;subst q1;refine S.ev O1 (G.le O1 l1) h1 λb s2 h2 y W2 l2 O2 r2 q2=>?_;subst q2;obtain⟨v,h3,h4⟩:=aS h2;exact oz O2 (I8 (IZ (Iu (Iv rfl:64<=40*2) (JF 40 hn)) _) G.r.units) N h3 (O1.vr l2 r1) r2 ((k _ _ h4).later O2 (l1.trans O1 l2))
theorem sy(e:Hz T E ct Xk op x p (W.loc,W.hp) K)(k:∀a st,K a st->ax C W a st Q):ID C.M A (LH (.UnaryOp op x p) env) Q X W.s:=by
 induction op with
 |Not=>refine wpAny_UnaryOp (S.ev O G e λa s1 h1 x W1 l1 O1 r1 q1=>not_of ?_);subst q1;obtain⟨b,h2,h3⟩:=aS h1;exact gy O1 h2 r1 λW2 l2 O2 q2=>k _ _ h3 _ W2 (l1.trans O1 l2) O2 .bool q2
 |USub=>
  refine wpAny_UnaryOp (S.ev O G e λa s1 h1 x W1 l1 O1 r1 q1=>?_);subst q1;obtain⟨i,h2,h3⟩:=aS h1;clear h1;obtain rfl:=int?_is h2;obtain⟨t,rfl⟩:=r1.int'
  with_reducible exact neg_int (ax.int O1 ((k _ _ h3).later O1 l1) (IL _))
 |_=>exact e.elim
theorem kO(e:ut E ct Xk t v (W.loc,W.hp) K)(k:∀a st,K a st->ax C W a st Q):ID C.M A (LH (.NamedExpr t v p) env) Q X W.s:=by obtain⟨x,px,rfl,e1⟩:=dL e;refine ad (ao e1) λhk e=>wpAny_NamedExpr (S.ev O G e λa s1 h1 x W1 l1 O1 r1 q1=>NK ?_);subst q1;exact cM O1 (G.v.le l1) hk r1 λW2 l2 O2 q2=>k _ _ h1 _ W2 (l1.trans O1 l2) O2 (O1.vr l2 r1) q2
theorem d_{es}{p}{K}{Q}(e:Cf E ct Xk es (W.loc,W.hp) K)(k:∀xs st,K xs st->∀vs W',Le W W'->Ok C W'->aF W' xs vs->st=(W'.loc,W'.hp)->Q vs W'.s):
 ID C.M A (Rt (Qe p (ML es env))) Q X W.s:=by
 induction es generalizing W K Q with
 |nil=>exact Ix (k _ _ e [] W (Le.refl W) O .nil rfl)
 |cons x r ih=>refine ad (ao e) λhs e=>(d5 hs)▸(?_:ID _ _ (Rt ((false,LH x env)::Qe p (ML r env))) _ _ _);refine Ir (S.ev O G e λa s1 h1 v W1 l1 O1 r1 q1=>?_);subst q1;refine Ir (Ix (Ir (I1 (ih O1 (G.le O1 l1) h1 λxs s2 h2 vs W2 l2 O2 r2 q2=>Ix (k _ _ h2 (v::vs) W2 (l1.trans O1 l2) O2 (.cons (O1.vr l2 r1) r2) q2)))))
theorem oD(e:Fh T E ct Xk es p (W.loc,W.hp) K)(k:∀a st,K a st->ax C W a st Q):ID C.M A (LH (.Tuple es j p) env) Q X W.s:=by refine wpAny_Tuple (d_ S O G e λxs s1 h1 vs W1 l1 O1 r1 q1=>?_);subst q1;obtain⟨hl,h2⟩:=ao h1;exact⟨r1.1▸aq hl,uh O1 r1 ((k _ _ h2).later O1 l1)⟩
omit S G in
theorem yC(hk:j∉ks W.hp)(hx:aF W xs vs)(k:ax C W (.ref j) (W.loc,(j,.list xs)::W.hp) Q):
 Q (.ref W.s.heap.objs.size) {W.s with heap:=W.s.heap.push {cls:=.type "list",data:=.seq vs.toArray}}:=by
 have kp:∀a o,W.s.heap.get? a=some o->(W.s.heap.push {cls:=.type "list",data:=.seq vs.toArray}).get? a=some o:=λa o e=>IH _ e;have ha:=IW W.s.heap (o:={cls:=.type "list",data:=.seq vs.toArray}) rfl;have l:=O.new (s:={W.s with heap:=W.s.heap.push {cls:=.type "list",data:=.seq vs.toArray}}) (o:=.list xs) hk kp (cV _) ha ⟨vs,⟨0,ha⟩,hx.1,λi x v a b=>Ok.newVR hk kp (hx.2 i x v a b)⟩ (IC _) rfl rfl;haveI q:=k _ _ (l.le O) (l.ok O) (.ref (.head _)) rfl;rw[show(W.new {W.s with heap:=W.s.heap.push {cls:=.type "list",data:=.seq vs.toArray}} j (.list xs) W.s.heap.objs.size).ρ j=W.s.heap.objs.size from if_pos rfl]at q;exact q
omit S G O in
theorem jN{s:St}{P:Prop}(e:listAt T xs p s K)(n:ai xs.length=true->K (.lst xs) s->P)(f:∀j,ai xs.length=true->j∉ks s.2->K (.ref j) (s.1,(j,.list xs)::s.2)->P):P:=by
 revert e
 unfold listAt;induction T.site p s with
 |none=>exact λe=>ad (ao e) n
 |some j=>exact λe=>ad (ao e) λhl e=>ad (ao e) λhk e=>f j hl (λq=>IE ((K_.mpr q)▸hk)) e
omit S G in
theorem kP(e:listAt T xs p (W.loc,W.hp) K)(r:aF W xs vs)(k:∀a st,K a st->ax C W a st Q):
 vs.length<=J4/\Q (.ref W.s.heap.objs.size) {W.s with heap:=W.s.heap.push {cls:=.type "list",data:=.seq vs.toArray}}:=by
 exact jN e (λhl h2=>⟨r.1▸aq hl,oo O r (k _ _ h2)⟩) λj hl hk h2=>⟨r.1▸aq hl,yC O hk r (k _ _ h2)⟩
theorem mu(e:listE T E ct Xk es p (W.loc,W.hp) K)(k:∀a st,K a st->ax C W a st Q):ID C.M A (LH (.List es p) env) Q X W.s:=by refine wpAny_List (d_ S O G e λxs s1 h1 vs W1 l1 O1 r1 q1=>?_);subst q1;exact kP O1 h1 r1 λa st h=>(k a st h).later O1 l1
theorem mv(e:qO T E ct Xk op p' vs (W.loc,W.hp) K)(k:∀a st,K a st->ax C W a st Q):ID C.M A (boolOp p op (evalEach vs env)) Q X W.s:=by
 induction vs generalizing W K with
 |nil=>exact e.elim
 |cons x r ih=>
  cases r with
  |nil=>exact S.ev O G e λa s1 h1=>k a s1 h1
  |cons y r=>
   refine(?_:ID _ _ (boolOp p op (LH x env::LH y env::evalEach r env)) _ _ _);refine(?_:ID _ _ (LH x env>>=_) _ _ _);refine Ir (S.ev O G e λa s1 h1 v W1 l1 O1 r1 q1=>?_);subst q1;obtain⟨t,h2,h3⟩:=aS h1;haveI h3:=gx h3;refine Ir (Km (Ir (I1 (gy O1 h2 r1 λW2 l2 O2 q2=>?_))));rw[q2]at h3;have L:=l1.trans O1 l2;haveI i2:=λz=>ih O2 (G.le O2 L) (z:qO T E ct Xk op p' (y::r) (W2.loc,W2.hp) K) λa st h=>(k a st h).later O2 L;induction op<;>induction t<;>first|exact i2 h3|exact Ix (k _ _ h3 _ W2 L O2 (O1.vr l2 r1) rfl)
theorem sA{op:BoolOp}{vs}{p}{K}{Q}(e:GG T E ct Xk op p vs (W.loc,W.hp) K)(k:∀a st,K a st->dE C W a st Q):ID C.M A (allTrue op vs env) Q X W.s:=by
 induction vs generalizing W K with
 |nil=>cases op<;>exact Ix (dE.same O (k _ _ e))
 |cons x r ih=>
  refine(?_:ID _ _ (MP x env (LH x env)>>=_) _ _ _);refine Ir (S.tr O G e λt s1 h1 W1 l1 O1 q1=>?_);subst q1;have h3:=gx h1;haveI i2:=λz=>ih O1 (G.le O1 l1) (z:GG T E ct Xk op p r (W1.loc,W1.hp) K) λa st h=>(k a st h).later O1 l1;induction op<;>induction t<;>first|exact i2 h3|exact Ix (k _ _ h3 W1 l1 O1 rfl)
theorem sB(e:HA T E ct Xk c a b p (W.loc,W.hp) K)(k:∀a st,K a st->ax C W a st Q):ID C.M A (LH (.IfExp c a b p) env) Q X W.s:=by
 refine wpAny_IfExp (S.tr O G e λt s1 h1 W1 l1 O1 q1=>?_);subst q1;have h2:=gx h1;cases t
 . exact S.ev O1 (G.le O1 l1) h2 λa st h=>(k a st h).later O1 l1
 . exact S.ev O1 (G.le O1 l1) h2 λa st h=>(k a st h).later O1 l1
end
noncomputable def AO.iter? (a:AO):Option (Nat×Nat):=@AO.casesOn (λZ=>Option (Nat×Nat)) a (λZ=>.none) (λZ Z=>.none) (λZ Z=>.none) (λZ Z=>.none) (λZ=>.none) (λZ=>.none) (λk i=>some (k,i)) .none
theorem iter?_is{a:AO}{p:Nat×Nat}(h:a.iter?=some p):a=.iter p.1 p.2:=aO (p:=λp=>a=.iter p.1 p.2) (by cases a<;>first|exact trivial|rfl) h
theorem kQ:Slot "list_iterator" "__getattribute__" "object.__getattribute__":=
 .of (owner:="object") (n:="__getattribute__") (by refine aa (Ja _ _) (aa IX ?_);kernel_rfl) (by decide +kernel) (by decide +kernel) (by decide +kernel)
  (by first|exact .inl (by decide +kernel)|exact .inr (by decide +kernel)) (by refine aa (JO _ _) ?_;kernel_rfl)
theorem mw:LU OY "object.__getattribute__"=some Jl.«object.__getattribute__»:=JN (by kernel_rfl)
theorem qP(a b):Mi "object.__getattribute__" ⟨[a,b],[]⟩:=by unfold Mi;kernel_rfl
theorem yD:K0 (.type "list_iterator") "__getattr__"=pure none:=by refine aa (Ja _ _) (aa IX ?_);kernel_rfl
theorem yE:K0 (.type "list_iterator") "__next__"=pure (some (.builtin "list_iterator.__next__")):=by refine aa (Ja _ _) (aa IX ?_);kernel_rfl
theorem qQ:Oh (.builtin "list_iterator.__next__")=pure (.type "wrapper_descriptor"):=by refine(?_:Nr _=_);refine aa K6 ?_;kernel_rfl
theorem yF:K0 (.type "wrapper_descriptor") "__get__"=pure (some (.builtin "wrapper_descriptor.__get__")):=by refine aa (Ja _ _) (aa IX ?_);kernel_rfl
theorem yG:K0 (.type "wrapper_descriptor") "__set__"=pure none:=by refine aa (Ja _ _) (aa IX ?_);kernel_rfl
theorem yH:K0 (.type "wrapper_descriptor") "__delete__"=pure none:=by refine aa (Ja _ _) (aa IX ?_);kernel_rfl
theorem qR:Slot "wrapper_descriptor" "__get__" "wrapper_descriptor.__get__":=
 .of (owner:="wrapper_descriptor") (n:="__get__") (by refine aa (Ja _ _) (aa IX ?_);kernel_rfl) (by decide +kernel) (by decide +kernel) (by decide +kernel)
  (by first|exact .inl (by decide +kernel)|exact .inr (by decide +kernel)) (by refine aa (JO _ _) ?_;kernel_rfl)
theorem uu:LU OY "wrapper_descriptor.__get__"=some Jl.«wrapper_descriptor.__get__»:=JN (by kernel_rfl)
theorem yI(a b c):Mi "wrapper_descriptor.__get__" ⟨[a,b,c],[]⟩:=by unfold Mi;kernel_rfl
theorem CZ:Os (.type "list_iterator") (.type "list_iterator")=pure true:=by refine aa (JO _ _) ?_;kernel_rfl
theorem uw(a)(fs):
 Meets (Jl.«wrapper_descriptor.__get__» ⟨[.builtin "list_iterator.__next__",.ref a,.type "list_iterator"],[]⟩) (λA R s=>s.heap.get? a=some {cls:=.type "list_iterator",data:=.fields fs}/\R (.ok (.ret (.ref s.heap.objs.size))) {s with heap:=s.heap.push {cls:=.type "method-wrapper",data:=.fields #[.builtin "list_iterator.__next__",.ref a]}}):=
 P9 λprog w A R s hs=>by
  obtain⟨hp,g,d,tk,os⟩:=s;refine ad hs λhx hs=>?_;haveI hT:(⟨hp,g,d,tk,os⟩:IP).TypeIs (.ref a) "list_iterator":=⟨_,hx,rfl⟩
  haveI f2:=qQ;haveI f3:=CZ;unfold Jl.«wrapper_descriptor.__get__»
  with_reducible refine Ir ?_
  wp_delta
  refine I5 rfl ?_
  with_reducible refine Ir (Ix ?_)
  refine I5 rfl ?_
  with_reducible refine Ix ?_
  wp_delta
  wp_delta
  with_reducible refine Ir ?_
  wp_delta
  with_reducible refine Ir ?_
  wp_delta
  with_reducible refine Ix (Ir ?_)
  wp_delta
  with_reducible refine Ir (LV (by assumption) ?_)
  refine aa (by decide +kernel:(".".intercalate ("list_iterator.__next__".cutAt '.').dropLast)="list_iterator") ?_
  with_reducible refine Jg (by assumption) ?_
  refine I5 rfl ?_
  with_reducible refine Ix (Ir ?_)
  wp_delta
  wp_delta
  refine I5 rfl ?_
  wp_delta
  wp_delta
  with_reducible refine Ir (wpAny_alloc' (Ix ?_))
  wp_delta
  with_reducible refine Ix ?_
  all_goals first|exact⟨_,rfl,hs⟩|exact hs
theorem ux(a)(fs)(u):
 Meets (Jl.«object.__getattribute__» ⟨[.ref a,.str "__next__" u],[]⟩) (λA R s=>s.heap.get? a=some {cls:=.type "list_iterator",data:=.fields fs}/\R (.ok (.ret (.ref s.heap.objs.size))) {s with heap:=s.heap.push {cls:=.type "method-wrapper",data:=.fields #[.builtin "list_iterator.__next__",.ref a]}}):=
 P9 λprog w A R s hs=>by
  obtain⟨hp,g,d,tk,os⟩:=s;refine ad hs λhx hs=>?_;haveI hT:(⟨hp,g,d,tk,os⟩:IP).TypeIs (.ref a) "list_iterator":=⟨_,hx,rfl⟩
  haveI f1:=yE;haveI f2:=qQ;haveI f3:=yF;have f4:=yG;have f5:=yH;unfold Jl.«object.__getattribute__»
  with_reducible refine Ir ?_
  wp_delta
  refine I5 rfl ?_;refine I5 rfl ?_
  with_reducible refine Ix (Ir ?_)
  wp_delta
  with_reducible refine Ix (Ir (LV (by assumption) (Ir ?_)))
  wp_delta
  with_reducible refine Ir (Jg (by assumption) (Ir ?_))
  wp_delta
  with_reducible refine MY (by assumption) (by assumption) (Ir ?_)
  wp_delta
  with_reducible refine Ir ?_
  wp_delta
  with_reducible refine Ir (MY (by assumption) (by assumption) ?_)
  with_reducible refine I5 rfl ?_
  with_reducible refine Ir (MY (by assumption) (by assumption) (Ix ?_))
  refine I5 rfl ?_
  with_reducible refine Ix ?_
  wp_delta
  wp_delta
  with_reducible refine Ir ?_
  wp_delta
  with_reducible refine Ir ?_
  wp_delta
  with_reducible refine Ir ?_
  wp_delta
  with_reducible refine Lp (by heap_get) ?_
  wp_delta
  wp_delta
  with_reducible refine Ir ?_
  with_reducible refine Lp (by heap_get) ?_
  with_reducible refine NL rfl ?_
  with_reducible refine Ix ?_
  wp_delta
  with_reducible refine Ix (Ir ?_)
  wp_delta
  refine I5 rfl ?_
  with_reducible refine Ix ?_
  wp_delta
  with_reducible refine Ir (MN (Ix ?_))
  wp_delta
  wp_delta
  with_reducible refine Ir (I1 (Ln ?_))
  refine LR qR.plain uu (qR.check _ _ _ _ _ _ _ _ f2 (yI _ _ _) ?_);exact uw a fs prog w A.in1 (λr s'=>match r with|.ok (.ret v)=>ID (J3 prog w) A.in1 (ret v) (λfin s'=>∃v,fin=Fin.done (R8.ret v)/\R (Qj (R8.ret v)) s') (λe s'=>R (Except.error e) s') s'|.ok _=>False|.error e=>R (.error e) s') _ ⟨hx,Ix ⟨_,rfl,hs⟩⟩
section
theorem uy(hx:s.heap.get? a=some {cls:=.type "list_iterator",data:=.fields fs})
 (h:∀tk,s.toks<=tk->Q (.ref s.heap.objs.size) {s with heap:=s.heap.push {cls:=.type "method-wrapper",data:=.fields #[.builtin "list_iterator.__next__",.ref a]},toks:=tk}):ID (J3 prog w) A (Rp (.ref a) "__next__" b) Q E s:=by
 obtain⟨hp,g,d,tk,os⟩:=s;have hT:∀Ts,(⟨hp,g,d,Ts,os⟩:IP).TypeIs (.ref a) "list_iterator":=λZ=>⟨_,hx,rfl⟩
 haveI f3:=kQ.lookup;haveI f4:=kQ.bind (.ref a);haveI f5:=yD
 wp_delta
 with_reducible refine Ir ?_
 wp_delta
 with_reducible refine Ir (Ru (Ix ?_))
 wp_delta
 with_reducible refine I1 (Ir ?_)
 wp_delta
 with_reducible refine Ir ?_
 with_reducible refine Lp (by heap_get) ?_
 with_reducible refine Ix (Ir (Jg (by assumption) ?_))
 refine I5 rfl ?_
 wp_delta
 with_reducible refine Ir ?_
 wp_delta
 refine I5 rfl ?_
 with_reducible refine Ix (Ir (Mr (I1 ?_)))
 wp_delta
 refine aa (if_neg (by cases b<;>decide)) ?_
 wp_delta
 with_reducible refine Ir (Jg (by assumption) ?_)
 ((with_reducible show ID _ _ (call (Pe "object.__getattribute__") _ _) _ _ _);refine PF kQ (hT _) mw (qP _ _) (ux a fs _) ⟨hx,?_⟩)
 exact Ix (h (tk+1) (IL _))
end
theorem findObj_data{K}{Cc}{od}{name}{cd:ClassData}{a g}(hc:clsIn K Cc=some cd)(h1:Pg K (.ref Cc) name=some (some a))(h2:N2 K a "__get__"=some (some g))(h3:Qn K a=some true):Rn K Cc od name=some (.bind g a):=by
 unfold Rn;refine aa hc (aa h1 (?_:Ma (N2 K a "__get__") _=_));refine(h2).symm▸(?_:Ma (Qn K a) _=_);refine aa h3 ?_
 rfl
theorem kR{K}{Cc}{od}{name}{cd:ClassData}{a g}(hc:clsIn K Cc=some cd)(h1:Pg K (.ref Cc) name=some (some a))(h2:N2 K a "__get__"=some (some g))(h3:Qn K a=some false)(h4:PySem.W.ownOf cd od name=some none)(h5:R1.contains name=false):Rn K Cc od name=some (.bind g a):=by
 unfold Rn;refine aa hc (aa h1 (?_:Ma (N2 K a "__get__") _=_));refine(h2).symm▸(?_:Ma (Qn K a) _=_);refine aa h3 (aa h4 (?_:(if(R1.contains name&&_)=true then none else _)=_));refine(h5).symm▸?_
 rfl
noncomputable def yJ (v:IF):Option Jn:=@Pf (λZ=>Option Jn) v .none .none .none (λZ=>.none) (λZ Z=>.none) (λZ Z=>.none) (λZ Z=>.none) (λZ Z=>.none) (λZ=>.none) (λZ=>.none) some
noncomputable def C0 (o:Option (Option IF))(k:Jn->Bool):Bool:=o.any λo=>o.any λv=>(yJ v).any k
theorem kS{P:Prop}(h:C0 o k=true)(K:∀p,o=some (some (.ref p))->k p=true->P):P:=by
 induction o with
 |none=>exact IE h
 |some o=>induction o with
  |none=>exact IE h
  |some v=>induction v<;>first|exact IE h|exact K _ rfl h
noncomputable def uz (K:QS)(Cc:Jn)(name:Str):Bool:=plainGet K Cc name&&hasDictIn K Cc&&((Pg K (.ref Cc) name).any λa=>noGet K a)&&
 (Pg K (.ref Cc) "__setattr__"==some (some (.builtin "object.__setattr__")))&&plainOver K Cc&&(takerIn K Cc name==some .none)
noncomputable def yK (K:QS)(Cc:Jn)(name:Str)(f:Jn):Bool:=plainGet K Cc name&&(Pg K (.ref Cc) name==some (some (.ref f)))&&isFn K (.ref f)&&fnIn K f&&hasDictIn K Cc&&(N2 K (.ref f) "__get__"==some (some (.builtin "function.__get__")))&&(Qn K (.ref f)==some false)&& !R1.contains name
noncomputable def kT (K:QS)(Cc:Jn)(name:Str)(f:Jn):Bool:=plainGet K Cc name&&hasDictIn K Cc&&C0 (Pg K (.ref Cc) name) λp=>(N2 K (.ref p) "__get__"==some (some (.builtin "property.__get__")))&&(Qn K (.ref p)==some true)&&((recIn K p "property").any λl=>l.head?==some (.ref f))
noncomputable def iN (K:QS)(Cc:Jn)(name:Str)(i:Nat):Bool:=plainGet K Cc name&&isClsIn K Cc&&(Pg K (.ref Cc) "__setattr__"==some (some (.builtin "object.__setattr__")))&&plainOver K Cc&&C0 (Pg K (.ref Cc) name) λp=>(N2 K (.ref p) "__get__"==some (some (.builtin "member_descriptor.__get__")))&&(Qn K (.ref p)==some true)&&(slotIn K p Cc==some i)&&(typeIn K (.ref p)==some (.type "member_descriptor"))&&(takerIn K Cc name==some (some (.ref p)))
structure bd(C:Cx)(T:Tb):Prop where
 own:∀c x,T.attr c x=some .own->uz C.K c x=true
 fn:∀c x f,T.attr c x=some (.fn f)->yK C.K c x f=true
 prop:∀c x f,T.attr c x=some (.prop f)->kT C.K c x f=true
 slot:∀c x i,T.slot c x=some i->iN C.K c x i=true
noncomputable def eb (W:Wd):List (Str×AV)->List (Str×IF)->Prop
 |[],[]=>True
 |(x,a)::r,(y,v)::t=>x=y/\VR W a v/\eb W r t
 |_,_=>False
def dO (C:Cx)(n:Nat)(call:AV->Callee):Prop:=∀(f:AV) (args:List AV) (kw:List (Str×AV)) (hp:Hp) (K:AV->Hp->Prop) (Xk:AX->Hp->Prop),call f args kw hp K Xk->
 ∀(A:J0) (W:Wd) (l:List Env) (fv:IF) (vs:List IF) (kvs:List (Str×IF)) (R:PE->IP->Prop),Ok C W->fc A n->A.handled=.none->A.frames=some l->Stk l (W.f.L::W.f.fs)->W.hp=hp->VR W f fv->aF W args vs->eb W kw kvs->
  (∀r Sp,K r Sp->∀v W',Le W W'->Ok C W'->VR W' r v->(W.loc,Sp)=(W'.loc,W'.hp)->R (.ok (.ret v)) W'.s)->
  (∀x Sp,Xk x Sp->∀v W',Le W W'->Ok C W'->XR C W W' x v->(W.loc,Sp)=(W'.loc,W'.hp)->R (.error v) W'.s)->LJ C.M A (.call fv ⟨vs,kvs⟩) R W.s
theorem eM.call(g:eM C n ct A env W Xk X)(h:(ct.calm&&ct.top)=true):
 A.handled=.none/\∃l,A.frames=some l/\Stk l (W.f.L::W.f.fs):=
 let⟨h1,h2⟩:=IQ.mp h
 (cm (g.t h2) λl b c d=>⟨g.c h1,_,b,.cons c (by refine aa g.v.kd ?_;decide) d⟩)
noncomputable def AO.inst? (a:AO):Option (Jn×Nat):=@AO.casesOn (λZ=>Option (Jn×Nat)) a (λZ=>.none) (λZ Z=>.none) (λc d=>some (c,d)) (λZ Z=>.none) (λZ=>.none) (λZ=>.none) (λZ Z=>.none) .none
noncomputable def AO.slots? (a:AO):Option (Jn×List (Option AV)):=@AO.casesOn (λZ=>Option (Jn×List (Option AV))) a (λZ=>.none) (λZ Z=>.none) (λZ Z=>.none) (λc d=>some (c,d)) (λZ=>.none) (λZ=>.none) (λZ Z=>.none) .none
theorem inst?_is{a:AO}{i:Jn×Nat}(h:a.inst?=some i):a=.inst i.1 i.2:=aO (p:=λi=>a=.inst i.1 i.2) (by induction a<;>first|exact trivial|rfl) h
theorem slots?_is{a:AO}{i:Jn×List (Option AV)}(h:a.slots?=some i):a=.slots i.1 i.2:=aO (p:=λi=>a=.slots i.1 i.2) (by induction a<;>first|exact trivial|rfl) h
noncomputable def AK.own?:AK->Option Unit|.own=>some ()|_=>.none
noncomputable def AK.prop?:AK->Option Jn|.prop f=>some f|_=>.none
noncomputable def AK.fn?:AK->Option Jn|.fn f=>some f|_=>.none
theorem own?_is{a:AK}{u}(h:a.own?=some u):a=.own:=by induction a<;>first|exact nn h|rfl
theorem prop?_is{a:AK}{u}(h:a.prop?=some u):a=.prop u:=aO (p:=λu=>a=.prop u) (by induction a<;>first|exact trivial|rfl) h
theorem fn?_is{a:AK}{u}(h:a.fn?=some u):a=.fn u:=aO (p:=λu=>a=.fn u) (by induction a<;>first|exact trivial|rfl) h
noncomputable def cy (hp:Hp)(a:AV):Option (Jn×Nat×List (Str×AV)×Nat):=((cellOf hp a).bind AO.inst?).bind λp=>((hg hp p.2).bind AO.dict?).map λq=>(p.1,p.2,q.1,q.2)
noncomputable def de (hp:Hp)(a:AV):Option (Jn×List (Option AV)):=(cellOf hp a).bind AO.slots?
noncomputable def dP (T:Tb)(hp:Hp)(a:AV)(name:Str):Option Jn:=(cy hp a).bind λp=>(T.attr p.1 name).bind AK.prop?
noncomputable def iO (T:Tb)(a:AV)(name:Str)(hp:Hp):Option AV:=
 ((cy hp a).bind λp=>(T.attr p.1 name).bind λk=>k.own?.bind λZ=>(lk p.2.2.1 name).bind λv=>gd v.plain (some v)).or
  (((de hp a).bind λp=>(T.slot p.1 name).bind λi=>((p.2[i]?).bind id).bind λv=>gd v.plain (some v)).or
   (((cellOf hp a).bind AO.iter?).bind λZ=>gd (aZ name "__next__") (a.ref?.map .nx)))
section
theorem qS(h:VR W (.tab []) (.ref d)):∃o,W.s.heap.get? d=some o:=by obtain⟨Z,Z,Z,e,Z,Z,ho,Z⟩:=h.i;exact⟨_,Nq.inj e▸ho⟩
theorem dg(h:a.plain=true)(r:VR W a v):handedIn v=true:=by
 induction r<;>first|rfl|exact IE h
theorem oE(h:(a&&b&&c&&d&&e&&f)=true):a=true/\b=true/\c=true/\d=true/\e=true/\f=true:=by simp only[Kx]at h;exact⟨h.1.1.1.1.1,h.1.1.1.1.2,h.1.1.1.2,h.1.1.2,h.1.2,h.2⟩
theorem ei(O:Ok C W){a}{p}(e:cy W.hp a=some p){v:IF}(h:VR W a v):
 ∃k,a=.ref k/\v=.ref (W.ρ k)/\(k,.inst p.1 p.2.1)∈W.hp/\(p.2.1,.dict p.2.2.1 p.2.2.2)∈W.hp/\∃l m kvs,W.s.heap.get? (W.ρ p.2.1)=some (dictOf l m)/\Oo (sk C) l.toArray/\Rh (sk C) l kvs/\(kvs.map (·.1)).Nodup/\
  kvs.map (·.1)=p.2.2.1.map (·.1)/\aF W (p.2.2.1.map (·.2)) (kvs.map (·.2))/\InstAt W.s.heap (W.ρ k) ⟨.ref p.1,some (W.ρ p.2.1),.plain,#[]⟩ p.1 (some (dictOf l m)):=by
 refine ag e λq h1 e=>?_;refine ag h1 λo h2 h3=>?_;refine aH e λr h4 qq=>?_;refine an qq ?_;refine ag h4 λo' h5 h6=>?_;refine cU λg2=>?_;obtain rfl:=inst?_is h3;obtain rfl:=dict?_is h6;refine ua (bG O h2 h) λk Sn Ss Z hm hd ho=>?_;clear h h2;subst Sn;subst Ss;refine gm (um (O.cell _ _ (aG h5))) λl m kvs Sm=>?_
 (haveI x1:=(Sm).1;haveI x2:=(Sm).2.1;haveI x3:=(Sm).2.2.1;haveI x4:=(Sm).2.2.2.1;haveI x5:=(Sm).2.2.2.2.1;haveI x6:=(Sm).2.2.2.2.2)
 refine g2 ?_;exact⟨k,rfl,rfl,hm,aG h5,l,m,kvs,x1,x2,x3,x4,x5,x6,ho,rfl,rfl,x1⟩
theorem fm(O:Ok C W)(T0:bd C T)(e:iO T a name W.hp=some r)(hu:VR W a u)(k:ax C W r (W.loc,W.hp) Q):
 ID C.M A (Rp u name b) Q X W.s:=by
 refine bt e (λe1=>?_) λe1=>?_
 . refine ag e1 λp h1 e2=>ag e2 λj h2 e3=>ag e3 λZ h3 e5=>ag e5 λv h4 e6=>aR e6 λh5 e7=>?_;rw[<-Iw e7]at k;refine ub (ei O h1 hu) λx q84 hm hdm Sr=>?_;refine aa q84 (CN Sr λl m kvs ho hk hpr hn hkk hx I=>iI (oE (T0.own _ _ (own?_is h3▸h2))) λg1 g2 g3 Z Z Z=>?_);refine ae (MJ g3) λat_ g4 g5=>(bR hkk hx name).elim (λq=>nn (q.1.symm.trans h4)) λq=>aP q λa' v' q1 q2 q3=>?_
   . haveI q3:=(Iw (h4.symm.trans q1))▸q3;exact get_value O.X I (Nu g1).1 (findObj_own g2 g4 g5 (aa (lookIn_dict _ _ _) (aa (fh hpr) (aa q2 rfl)))) (dg h5 q3) (k _ _ (O.ltick (IL _)) (O.tick (IL _)) q3.tick rfl)
 refine bt e1 (λe1=>?_) λe1=>?_
 rotate_left
 . refine ag e1 λp h1 e2=>aR e2 λh2 e3=>aH e3 λj h3 qq=>?_;rw[<-qq]at k;refine ag h1 λo h4 h5=>?_;rw[iter?_is h5]at h4;rw[ref?_is h3]at hu h4;refine ua (bG O h4 hu) λj' e' Sn Z hm Z hi=>?_;rw[<-kI e']at Sn hm hi;refine(Sn).symm▸(aL.mp h2).symm▸(uy hi λtk htk=>?_);haveI ha:=IW W.s.heap (o:={cls:=.type "method-wrapper",data:=.fields #[.builtin "list_iterator.__next__",.ref (W.ρ j)]}) rfl;haveI S:=O.frz (s:={W.s with heap:=W.s.heap.push {cls:=.type "method-wrapper",data:=.fields #[.builtin "list_iterator.__next__",.ref (W.ρ j)]},toks:=tk}) (λa o e=>IH _ e) (cV _) ha htk rfl rfl;exact k _ _ (S.le O) (S.ok O) (.nx (.inr rfl) hm ha) rfl
 . refine ag e1 λp h1 e2=>ag e2 λi h2 e3=>ag e3 λv h3 e4=>aR e4 λh4 e5=>?_;haveI k:=(Iw e5)▸k;refine ag h1 λo h5 h6=>?_;haveI h5:=(slots?_is h6)▸h5;refine ub (bG O h5 hu) λj q84 Z hm Sr=>?_;refine aa q84 (bJ Sr λss dx ho hd hl hx=>af (qS hd) λod hod=>?_);haveI g:=T0.slot _ _ _ h2;unfold iN at g;refine bc g λg1 g2=>bc g1 λg1 Z=>bc g1 λg1 Z=>bc g1 λg1 g3=>kS g2 λpp g4 g2=>?_
   . skip
     refine bc g2 λg5 Z=>bc g5 λg5 Z=>bc g5 λg5 g6=>bc g5 λg5 g7=>ag h3 λy h7 h8=>?_;haveI h8:=h8;subst h8;have hi:i<ss.length:=by exact aa hl ((Jm.mp h7).1)
     refine ae (hx i _ _ h7 (IM hi) v rfl) λu h9 Tl=>?_;haveI I:InstAt W.s.heap (W.ρ j) {cls:=.ref p.1,dict:=some dx,data:=.plain,slots:=ss.toArray} p.1 (some od):=⟨ho,rfl,rfl,hod⟩
     haveI fo:Rn C.K p.1 (some od) name=some (.bind (.builtin "member_descriptor.__get__") (.ref pp)):=by exact af (LY.mp g3) λcd hcd=>findObj_data hcd g4 (beq_iff_eq.mp g5) (beq_iff_eq.mp g7)
     refine get_bind O.X I (Nu g1).1 fo (Nu g1).2 (Ln (slot_get O.X I (beq_iff_eq.mp g6) ?_ (RR (dg h4 Tl) (k _ _ (O.ltick (IL _)) (O.tick (IL _)) Tl.tick rfl))));exact aa Jq (aa (IM hi) (aa h9 rfl))
theorem oF(O:Ok C W)(G:eM C (n+1) ct A env W Xk X)(T0:bd C T)(hc:dO C n T.call)(hcalm:(ct.calm&&ct.top)=true)(e:dP T W.hp a name=some f){K:AV->Hp->Prop}
 (h:T.call (.top f) [a] [] W.hp (λr hp=>r.plain=true/\K r hp) λZ Z=>False) {u:IF} (hu:VR W a u) {b:Bool} {Q:IF->IP->Prop} (k:∀r hp,K r hp->ax C W r (W.loc,hp) Q):
 ID C.M A (Rp u name b) Q X W.s:=by
 refine ag e λp h1 e2=>ag e2 λj h2 h3=>cU λg1=>CI (ei O h1 hu) λx Ss q84 hm hdm Sr=>?_;clear e hu;subst Ss;subst q84;refine gm Sr λl m kvs TA=>?_
 (haveI ho:=(TA).1;haveI hk:=(TA).2.1;haveI hpr:=(TA).2.2.1;haveI hn:=(TA).2.2.2.1;haveI hkk:=(TA).2.2.2.2.1;haveI hx:=(TA).2.2.2.2.2.1;haveI I:=(TA).2.2.2.2.2.2)
 refine ad (G.call hcalm) λhh Sm=>af Sm λfl Sr=>?_
 (haveI hfl:=(Sr).1;haveI hst:=(Sr).2)
 obtain g:=T0.prop _ _ _ (prop?_is h3▸h2);unfold kT at g;refine g1 (bc g λg1 g2=>bc g1 λg1 g3=>kS g2 λpp g4 g2=>?_)
 . skip
   refine bc g2 λg5 g6=>bc g5 λg5 g7=>?_;obtain⟨fs,g8,g9⟩:∃fs,recIn C.K pp "property"=some fs/\(fs.head?==some (Nq f))=true:=by
    induction z:recIn C.K pp "property" with
    |none=>exact IE (z▸g6)
    |some fs=>haveI g6:=z▸g6;exact⟨fs,rfl,g6⟩
   obtain⟨rest,rfl⟩:∃rest,fs=.ref f::rest:=by
    induction fs with
    |nil=>cases g9
    |cons b r=>exact⟨r,by haveI:=beq_iff_eq.mp g9;(replace this:=Iw this;clear g8 g9;subst this);rfl⟩
   rcases O.fr'.choose,O.fr'.choose_spec.1,O.fr'.choose_spec.2 with⟨mm,F,Z⟩
   refine get_prop F C.X I g1 g3 g4 (beq_iff_eq.mp g5) (beq_iff_eq.mp g7) g8 ?_;obtain O1:=O.tick (IL W.s.toks);refine hc _ _ _ _ _ _ h A.in1 (W.to {W.s with toks:=W.s.toks+1}) fl _ [_] [] _ O1 G.r.in1 hh hfl hst rfl .top (.cons (VR.tick (.ref hm)) .nil) trivial (λr Sp ⟨k1,k2⟩ v W' l' o' r' q'=>?_) λZ Z z=>z.elim;exact RR (dg k1 r') (k r Sp k2 _ W' ((O.ltick (IL _)).trans O1 l') o' r' q')
end
noncomputable def kU (l:List (Option AV))(i:Nat)(v:AV):List (Option AV):=(l++II (i+1-l.length) (Nn:Option AV)).set i (some v)
noncomputable def gz (T:Tb)(a:AV)(name:Str)(v:AV)(hp:Hp):Option Hp:=
 ((cy hp a).bind λp=>(T.attr p.1 name).bind λk=>k.own?.bind λZ=>gd (Qk p.2.2.1.length 900) (some (hs hp p.2.1 (.dict (st p.2.2.1 name v) (p.2.2.2+1))))).or
  ((de hp a).bind λp=>(T.slot p.1 name).bind λi=>gd (Kd i 1000) (a.ref?.map λk=>hs hp k (.slots p.1 (kU p.2 i v))))
theorem yL{p:List (Option AV)}{ss:List (Option IF)}{i:Nat}{b:AV}{v:IF}{P:AV->IF->Prop}(hl:ss.length=p.length)(hx:∀(i:Nat) x y,p[i]? =some x->ss[i]? =some y->∀w,x=some w->∃u,y=some u/\P w u)(hv:P b v)(j:Nat)(x:Option AV)(y:Option IF)(q1:(kU p i b)[j]? =some x)(q2:((ss++II (i+1-ss.length) (Nn:Option IF)).set i (some v))[j]? =some y)(w:AV)(e:x=some w):∃u,y=some u/\P w u:=by
 subst e;unfold kU at q1;rw[List.getElem?_set]at q1 q2;by_cases q:i=j
 . rw[if_pos q]at q1 q2;by_cases h1:i<(p++II (i+1-p.length) (Nn:Option AV)).length
   . rw[if_pos h1]at q1;by_cases h2:i<(ss++II (i+1-ss.length) (Nn:Option IF)).length
     . rw[if_pos h2]at q2;exact⟨v,(Iw q2).symm,Iw (Iw q1)▸hv⟩
     . exact nn ((if_neg h2).symm.trans q2)
   . exact nn ((if_neg h1).symm.trans q1)
 . rw[if_neg q]at q1 q2;by_cases z1:j<p.length
   . rw[MT z1]at q1;rw[MT (hl▸z1)]at q2;exact hx j _ _ q1 q2 w rfl
   . rw[LG (KP.mp z1),List.getElem?_replicate]at q1;by_cases z2:j-p.length<i+1-p.length
     . exact nn (Iw ((if_pos z2).symm.trans q1))
     . exact nn ((if_neg z2).symm.trans q1)
theorem sC{α:Type}(l)(x)(a:α):(st l x a).length<=l.length+1:=by
 induction l with
 |nil=>exact IC _
 |cons p r ih=>
  obtain⟨y,b⟩:=p;refine(fM).symm▸?_;induction aZ y x with
  |true=>exact IL _
  |false=>exact IS ih
section
variable {A:J0}{W:Wd}{X:IF->IP->Prop}
theorem iP(O:Ok C W)(T0:bd C T)(e:gz T a name b W.hp=some hp)(hu:VR W a u)(hv:VR W b v)
 (k:∀W',Le W W'->Ok C W'->(W.loc,hp)=(W'.loc,W'.hp)->Q () W'.s):ID C.M A (setAttr u name v) Q X W.s:=by
 refine ae O.fr' λmm F Z=>bt e (λe1=>?_) λe1=>?_
 . refine ag e1 λp h1 e2=>ag e2 λj h2 e3=>ag e3 λZ h3 e4=>aR e4 λh4 e5=>?_;rw[<-Iw e5]at k;refine CI (ei O h1 hu) λx Ss q84 hm hdm Sr=>aa Ss ?_;clear hu e e1 e2 e3 e4 e5;refine aa q84 ?_;refine CN Sr λl m kvs ho hk hpr hn hkk hx I=>?_
   (haveI g1:=(oE (T0.own _ _ (own?_is h3▸h2))).1;haveI g2:=(oE (T0.own _ _ (own?_is h3▸h2))).2.1;haveI g3:=(oE (T0.own _ _ (own?_is h3▸h2))).2.2.1;haveI g4:=(oE (T0.own _ _ (own?_is h3▸h2))).2.2.2.1;haveI g5:=(oE (T0.own _ _ (own?_is h3▸h2))).2.2.2.2.1;haveI g6:=(oE (T0.own _ _ (own?_is h3▸h2))).2.2.2.2.2)
   have hb:=O.away hdm;have hL:W.ρ p.2.1≠W.L:=λq=>(O.free _ _ hdm).2.1 (.inl q);haveI pr:=sx (C:=C) (name:=name) (t:=W.s.toks+1) (v:=v) (h:=OB C.w.params name) hpr;refine set_dict F C.X mj I rfl (beq_iff_eq.mp g4) g5 (beq_iff_eq.mp g6) g2 (by exact aa (fh hpr) rfl) rfl (qM ho hb hL) ?_ λh' F' N'=>?_
   . have q2:kvs.length=p.2.2.1.length:=(Iz _).symm.trans ((congrArg Kn hkk).trans (Iz _));exact Iu (I2 pr.length) (Iu (sC kvs name v) (Iu (IS (q2▸Iv h4)) (by decide)))
   . refine ad (O.chg ho hb hL F.ns F' N') λch Sz=>?_;have S:=O.set (s:={W.s with heap:=h',toks:=W.s.toks+2}) (o:=.dict (st p.2.2.1 name b) (p.2.2.2+1)) hdm (Jy (IC _)) ch Sz (by
      refine⟨st kvs name v,⟨mr Sz (uk hk) pr (mq hn),yx O hdm⟩,kM _ _ _ hkk,?_⟩;have:=oA (x:=name) hkk hx hv;exact⟨this.1,λi y z q1 q2=>O.setVR hdm ch (this.2 i y z q1 q2)⟩) (IK _ 2) rfl rfl
     exact k _ (S.le O) (S.ok O) rfl
 . refine ag e1 λp h1 e2=>ag e2 λi h2 e3=>aR e3 λhi e4=>aH e4 λj h3 qq=>?_;haveI k:=qq▸k;rw[ref?_is h3]at hu h1;refine ag h1 λo h5 h6=>?_;haveI h5:=(slots?_is h6)▸h5;refine CI (bG O h5 hu) λj' ej Ss Z hm Sr=>?_;rw[<-kI ej]at Ss hm Sr;refine aa Ss (bJ Sr λss dx ho hd hl hx=>af (qS hd) λod hod=>?_);haveI g:=T0.slot _ _ _ h2;unfold iN at g;refine bc g λg1 g2=>bc g1 λg1 g8=>bc g1 λg1 g9=>kS g2 λpp g4 g2=>?_
   . skip
     refine bc g2 λg5 Uc=>bc g5 λg5 Ud=>bc g5 λg5 g6=>?_;haveI I:InstAt W.s.heap (W.ρ j) {cls:=.ref p.1,dict:=some dx,data:=.plain,slots:=ss.toArray} p.1 (some od):=⟨ho,rfl,rfl,hod⟩
     have hb:=O.away hm;have hL:=λq=>(O.free _ _ hm).2.1 (.inl q)
     let TE:List (Option IF):=(ss++II (i+1-ss.length) (Nn:Option IF)).set i (some v)
     refine bJ ((qM (o':={cls:=.ref p.1,dict:=some dx,data:=.plain,slots:=TE.toArray}) ho hb hL).split) λpre post el el' n1 n2=>?_;haveI N0:=el▸mj;refine set_plain O.X I (beq_iff_eq.mp g9) (osa_descr KF.slot_mset O.X I g8 (beq_iff_eq.mp Uc) (beq_iff_eq.mp Ud)
      (slot_set F N0 O.X I (beq_iff_eq.mp g6) (Iv hi) n1 n2 (aa (QP (by simp[TE]):(ss.toArray++Array.replicate (i+1-ss.toArray.size) (Nn:Option IF)).setIfInBounds i (some v)=TE.toArray) rfl) rfl λh' F' N'=>?_))
     refine ad (O.chg ho hb hL F.ns F' (el'▸N')) λch Sz=>?_;haveI S:=O.set (s:={W.s with heap:=h',toks:=W.s.toks+1}) (o:=.slots p.1 (kU p.2 i b)) hm rfl ch Sz ⟨TE,dx,Sz,O.setVR hm ch hd,by simp[TE,kU,hl],yL hl (λi x y h1 h2 w e=>ae (hx i x y h1 h2 w e) λu h3 h4=>⟨u,h3,O.setVR hm ch h4⟩) (O.setVR hm ch hv)⟩ (IL _) rfl rfl;exact k _ (S.le O) (S.ok O) rfl
end
noncomputable def fO (T:Tb)(a:AV):Bool:=@AV.casesOn (λZ=>Bool) a false (λZ=>false) (λZ=>false) (λZ=>false) (λZ=>false) (λZ=>false) (λZ=>false) (λZ=>false) (λZ=>false) (λZ=>false) (λZ=>true) true (λZ=>false) (λf=>T.fnc f) (λZ=>true) (λZ=>true)
section
variable (T:Tb)(E:jw)(ct:Ct)(Xk:XK)
def Cg (o:JC)(name:Str)(p:Pos)(s:St)(K:AV->St->Prop):Prop:=aj false (gd (bV o) (some ())) λZ=>E.ev ct Xk o s λa s1=>match T.sym p with
 |true=>a8 (dP T s1.2 a name=.none) (iO T a name s1.2) λv=>K v s1
 |false=>match dP T s1.2 a name with
  |some f=>aj false (gd (ct.calm&&ct.top) (some ())) λZ=>T.call (.top f) [a] [] s1.2 (λr hp=>r.plain=true/\K r (s1.1,hp)) λZ Z=>False
  |.none=>aj false (iO T a name s1.2) λv=>K v s1
def jO (p:Pos)(g:AV)(as:List AV)(kws:List (Str×AV))(s:St)(K:AV->St->Prop):Prop:=@KI Jn (λZ=>Prop) g.top?
 (T.bi g ct.calm (T.site p s) as kws s.2 (λr hp=>K r (s.1,hp)) λx hp=>Xk x (s.1,hp))
 λf=>aj false (gd (ct.calm&&ct.top) (some ())) λZ=>T.call (.top f) as kws s.2 (λr hp=>K r (s.1,hp)) λx hp=>Xk x (s.1,hp)
noncomputable def C1:List Ny->St->(List (Str×AV)->St->Prop)->Prop
 |[],s,K=>K [] s
 |k::r,s,K=>match k.arg with
  |some x=>E.ev ct Xk k.value s λa s1=>C1 r s1 λl s2=>K ((x,a)::l) s2
  |.none=>False
def uA (f:JC)(args:List JC)(kws:List Ny)(p:Pos)(s:St)(K:AV->St->Prop):Prop:=aj false (gd (kws.all (·.arg.isSome)&&args.all λa=>!bQ a) (some ())) λZ=>E.ev ct Xk f s λg s1=>aj false (gd (fO T g) (some ())) λZ=>
 Cf E ct Xk args s1 λas s2=>C1 E ct Xk kws s2 λks s3=>jO T ct Xk p g as ks s3 K
def jP (o:JC)(name:Str)(apos:Pos)(args:List JC)(kws:List Ny)(p:Pos)(s:St)(K:AV->St->Prop):Prop:=
 aj false (gd (bV o&&IT apos.endLine p.line&&Kd (args.length+kws.length) 29&&kws.all (·.arg.isSome)&&args.all λa=>!bQ a) (some ())) λZ=>E.ev ct Xk o s λa s1=>aj (T.sym apos) (T.meth s1.2 a name) λg=>aj false (gd (fO T g.1) (some ())) λZ=>
  Cf E ct Xk args s1 λas s2=>C1 E ct Xk kws s2 λks s3=>jO T ct Xk p g.1 (g.2++as) ks s3 K
end
def uB (C:Cx)(T:Tb):Prop:=∀{W:Wd} {a:AV} {name:Str} {g:AV×List AV} {u:IF} {A:J0} {pl:Sem Bool} {X:IF->IP->Prop} {Q:IF×List IF->IP->Prop},Ok C W->T.meth W.hp a name=some g->VR W a u->
 (∀gv fvs W',Le W W'->Ok C W'->VR W' g.1 gv->aF W' g.2 fvs->(W.loc,W.hp)=(W'.loc,W'.hp)->Q (gv,fvs) W'.s)->ID C.M A (MR u name pl) Q X W.s
def Fi (C:Cx)(n:Nat)(bi:AV->Bool->Option Nat->Callee):Prop:=∀(f:AV) (calm:Bool) (k:Option Nat) (args:List AV) (kw:List (Str×AV)) (hp:Hp) (K:AV->Hp->Prop) (Xk:AX->Hp->Prop),bi f calm k args kw hp K Xk->
 ∀(A:J0) (W:Wd) (fv:IF) (vs:List IF) (kvs:List (Str×IF)) (Q X:IF->IP->Prop),Ok C W->fc A n->(calm=true->A.handled=.none)->W.hp=hp->VR W f fv->aF W args vs->eb W kw kvs->
  (∀r Sp,K r Sp->ax C W r (W.loc,Sp) Q)->
  (∀x Sp,Xk x Sp->∀v W',Le W W'->Ok C W'->XR C W W' x v->(W.loc,Sp)=(W'.loc,W'.hp)->X v W'.s)->ID C.M A (call fv vs kvs) Q X W.s
structure Good(C:Cx)(n:Nat)(T:Tb):Prop where
 pos:1<=n
 glob:iM C T.glob
 nt:NT C T.nt
 attr:bd C T
 call:dO C n T.call
 bi:Fi C n T.bi
 meth:uB C T
 fnc:∀f,T.fnc f=true->keepIn C.K (.ref f)=true
theorem dh
 (h:ID M A (evalArgs f true args keywords) (λa s₁=>(∃k,M2 M s₁.heap (keeperOf f) k)/\ID M A (call f (first++a.pos) a.kw) Q X s₁) X s):ID M A (Rl pos f first args keywords) Q X s:=by
 unfold Rl;refine Ir (I1 (KG h (λa s₁ h₁=>Ir (Km ?_)) λZ Z x=>x));obtain⟨⟨k,L⟩,h₁⟩:=h₁;dsimp only;refine Ir (L.here ?_);have tail:∀{t:Sem IF},ID M A t Q X s₁->ID M A (t>>=λr=>Sh [r] point>>=λZ=>pure r) Q X s₁:=
  λht=>Ir (KG ht (λr s₂ hr=>Ir (I1 (R6 (Ix hr)))) λZ Z x=>x)
 have marked (mk:IF):ID M A (callMarked mk f (first++a.pos) a.kw) Q X s₁:=by unfold callMarked;exact Calls.wpAny_keep h₁
 have ifs:∀{p:Prop} [Decidable p] {t u:Sem IF},ID M A t Q X s₁->ID M A u Q X s₁->ID M A (if p then t else u) Q X s₁:=λ{p} Z {t u} a b=>by
  by_cases q:p
  . exact aa (if_pos q) a
  . exact aa (if_neg q) b
 generalize (args.any (·.1)||keywords.any (·.1.isNone))=st;induction k<;>induction st<;>first|exact tail (marked _)|exact ifs (tail h₁) (tail (marked _))|exact tail (wpAny_operate' h₁)|exact tail h₁
section
variable {W:Wd}{K:AV->St->Prop}{Q:IF->IP->Prop}
theorem kV(O:Ok C W)(D:Good C n T)(h:fO T g=true)(r:VR W g v):∃k,M2 C.M W.s.heap (keeperOf v) k:=by
 cases g<;>first|exact absurd h (λq=>IE (show false=true from q))|skip
 . (refine bJ r.i λo a Sr hΦ hm ho=>?_;refine aa Sr ?_)
   exact⟨.machine,(Oz ho).andThen .now⟩
 . (refine cm r.i λa Sm hΦ ho=>?_;refine aa Sm ?_)
   exact⟨.machine,(Oz ho).andThen .now⟩
 . exact aa r.top' (ae (looks_keep (D.fnc _ h) O.X) λk Z L=>⟨k,L⟩)
 . exact aa r.bi' ⟨.machine,.now⟩
 . exact aa r.ty' ⟨.machine,.now⟩
variable (O:Ok C W)(D:Good C n T)(G:eM C (n+1) ct A env W Xk X)
include O D G
theorem my{p}{g}{as}{ks}(e:jO T ct Xk p g as ks (W.loc,W.hp) K){gv}{vs}{kvs}(hg:VR W g gv)(ha:aF W as vs)(hk:eb W ks kvs)
 (k:∀a st,K a st->ax C W a st Q):ID C.M A (call gv vs kvs) Q X W.s:=by
 unfold jO at e;induction z:g.top? with
 |none=>rw[z]at e;exact D.bi _ _ _ _ _ _ _ _ e A W gv vs kvs _ _ O (G.r.less (IL _)) G.c rfl hg ha hk (λr Sp z=>k _ _ z) λx Sp z v W' l' o' r' q'=>G.hx _ _ z v W' l' o' r' q'
 |some f=>rw[z]at e;obtain rfl:=top?_is z;obtain⟨hc,e⟩:=ao e;obtain⟨hh,l,hl,hs⟩:=G.call hc;exact Ln (D.call _ _ _ _ _ _ e A W l gv vs kvs _ O (G.r.less (IL _)) hh hl hs rfl hg ha hk (λr Sp z v W' l' o' r' q'=>k _ _ z v W' l' o' r' q') λx Sp z v W' l' o' r' q'=>G.hx _ _ z v W' l' o' r' q')
variable (S:bh C (n+1) E)
include S
omit D in
theorem sD{kws:List Ny}{p}{K}{Q}(e:C1 E ct Xk kws (W.loc,W.hp) K)
 (k:∀l st,K l st->∀vs W',Le W W'->Ok C W'->eb W' l (((M3 p (Lz kws env)).filterMap (·.1)).zip vs)->st=(W'.loc,W'.hp)->Q vs W'.s):
 ID C.M A (evalAll ((M3 p (Lz kws env)).map (·.2))) Q X W.s:=by
 induction kws generalizing W K Q with
 |nil=>exact Ix (k _ _ e [] W (Le.refl W) O trivial rfl)
 |cons x r ih=>
  obtain⟨nm,vx,px⟩:=x;induction nm with
  |none=>exact e.elim
  |some nm=>refine(?_:ID C.M A (evalAll ((do let v<-LH vx env;standAt p;pure v)::((M3 p (Lz r env)).map (·.2)))) Q X W.s);refine wpAny_evalAll_cons (Ir (S.ev O G (e:E.ev ct Xk vx (W.loc,W.hp) (λa s1=>C1 E ct Xk r s1 λl s2=>K ((nm,a)::l) s2)) λa s1 h1 v W1 l1 O1 r1 q1=>Ir (Km (Ix ?_))));subst q1;exact ih O1 (G.le O1 l1) h1 λl s2 h2 vs W2 l2 O2 r2 q2=>k _ _ h2 (v::vs) W2 (l1.trans O1 l2) O2 ⟨rfl,O1.vr l2 r1,r2⟩ q2
omit O D G S in
theorem kW(h:kws.all (·.arg.isSome)=true):(M3 p (Lz kws env)).all (·.1.isSome)=true:=by
 induction kws with
 |nil=>rfl
 |cons x r ih=>obtain⟨nm,vx,px⟩:=x;rw[LW,Kx]at h;refine(?_:(nm.isSome&&(M3 p (Lz r env)).all (·.1.isSome))=true);exact aa (ih h.2) (aa (Bool.and_true _) h.1)
omit O D G S in
theorem jQ(h5:args.all (λa=>!bQ a)=true):(Qe p (ML args env)).all (!·.1)=true:=by
 induction args with
 |nil=>rfl
 |cons x r ih=>rw[LW,Kx]at h5;exact aa (d5 h5.1) (ih h5.2)
theorem iQ(hw:kws.all (·.arg.isSome)=true)(hns:args.all (λa=>!bQ a)=true)(hc:fO T g=true)(hg:VR W g gv)(hf:aF W fas fvs)
 (e:Cf E ct Xk args (W.loc,W.hp) λas s2=>C1 E ct Xk kws s2 λks s3=>jO T ct Xk p g (fas++as) ks s3 K) (k:∀a st,K a st->ax C W a st Q):
 ID C.M A (Rl p' gv fvs (Qe p' (ML args env)) (M3 p' (Lz kws env))) Q X W.s:=by
 refine dh ?_;have last:∀{W1:Wd} {as:List AV} {vs:List IF},Le W W1->Ok C W1->aF W1 as vs->(C1 E ct Xk kws (W1.loc,W1.hp) λks s3=>jO T ct Xk p g (fas++as) ks s3 K)->
  ID C.M A (evalAll ((M3 p' (Lz kws env)).map (·.2))) (λkv s₂=>(∃k,M2 C.M s₂.heap (keeperOf gv) k)/\ID C.M A (call gv (fvs++vs) (((M3 p' (Lz kws env)).filterMap (·.1)).zip kv)) Q X s₂) X W1.s:=by
  intro W1 as vs l1 O1 r1 h1;refine sD O1 (G.le O1 l1) S h1 λks s3 h3 kv W2 l2 O2 r2 q2=>?_;subst q2;have L:=l1.trans O1 l2;exact⟨kV O2 D hc (O.vr L hg),my O2 D (G.le O2 L) h3 (O.vr L hg) ((O.vrs L hf).append (O1.vrs l2 r1)) r2 λa st h=>(k a st h).later O2 L⟩
 induction args with
 |nil=>exact evalArgs_kw_nil (kW hw) (last (Le.refl W) O .nil e)
 |cons x r=>refine evalArgs_kw2 (kW hw) (d_ S O G e λxs s1 h1 vs W1 l1 O1 r1 q1=>?_) (d5 (IQ.mp (LW▸hns)).1);subst q1;exact last l1 O1 r1 h1
theorem mz(e:Cg T E ct Xk o name p (W.loc,W.hp) K)(k:∀a st,K a st->ax C W a st Q):ID C.M A (LH (.Attribute o name p) env) Q X W.s:=by
 refine ad (ao e) λhn e=>aa (arm_eval_Attribute _ _ _ _) (aa (dc hn _ _ _) ?_);refine Ir (S.ev O G e λa s1 h1 v W1 l1 O1 r1 q1=>Ir (Km (Ir (I1 ?_))));subst q1;have fin:∀{a st},K a st->ax C W1 a st λr s=>ID C.M A (do letTemporaryGo o v r;pure r) Q X s:=λh r W2 l2 O2 r2 q2=>Ir (Qh (Ix (k _ _ h r W2 (l1.trans O1 l2) O2 r2 q2)));induction z0:T.sym p with
 |true=>haveI h1:=z0▸h1;obtain⟨Z,w,h3,h4⟩:=h1;exact fm O1 D.attr h3 r1 (fin h4)
 |false=>
  rw[z0]at h1;induction z:dP T W1.hp a name with
  |some f=>dsimp only at h1;rw[z]at h1;exact ad (ao h1) λhc h2=>oF O1 (G.le O1 l1) D.attr D.call hc z h2 r1 λr hp h=>fin h
  |none=>dsimp only at h1;haveI h1:=z▸h1;obtain⟨w,h3,h4⟩:=aS h1;exact fm O1 D.attr h3 r1 (fin h4)
theorem dQ(e:jP T E ct Xk o name apos args kws p (W.loc,W.hp) K)(k:∀a st,K a st->ax C W a st Q):
 ID C.M A (LH (.Call (.Attribute o name apos) args kws p) env) Q X W.s:=by
 obtain⟨hn,e⟩:=ao e;simp only[Kx]at hn;obtain⟨⟨⟨⟨h1,h2⟩,h3⟩,h4⟩,h5⟩:=hn;refine aa (QK _ _ _ _ _ _ _) (aa (dc h1 _ _ _) ?_);refine Ir (S.ev O G e λa s1 z1 v W1 l1 O1 r1 q1=>Ir (Km ?_));subst q1;obtain⟨g,z2,z3⟩:=aS z1
 (haveI hc:=(ao z3).1;haveI z4:=(ao z3).2)
 haveI few:Qg (args.length+kws.length) (Qe p (ML args env)) (M3 p (Lz kws env))=true:=by unfold Qg;refine aa (jQ h5) (aa (kW h4) (aa (Bool.and_true _) (aa (Bool.true_and _) (aa decide_eq_true_eq ?_))));have:=Iv h3;exact I8 (Jr (Mg this:_<=28) (by split<;>decide:_<=1)) (Iv rfl)
 unfold methodCall calleeOf methodCallPos;refine(few).symm▸(Ir (I1 (D.meth O1 z2 r1 λgv fvs W2 l2 O2 r2 r3 q2=>?_)));haveI hp:(!true||apos.endLine==p.line)=true:=by
  haveI:apos.endLine=p.line:=IY h2;refine aa this ?_;simp
 refine Ir ((if_pos hp).symm▸(Ix ?_));haveI z4:=q2▸z4;have L:=l1.trans O1 l2;exact iQ O2 D (G.le O2 L) S h4 h5 hc r2 r3 z4 λa st h=>(k a st h).later O2 L
theorem gX(hf:LH (.Call f args kws p) env=(do Rl p (<-LH f env) [] (Qe p (ML args env)) (M3 p (Lz kws env))))
 (e:uA T E ct Xk f args kws p (W.loc,W.hp) K) (k:∀a st,K a st->ax C W a st Q):ID C.M A (LH (.Call f args kws p) env) Q X W.s:=by
 refine ad (ao e) λhn e=>ad (IQ.mp hn) λh4 h5=>(hf)▸(Ir (S.ev O G e λg s1 z1 v W1 l1 O1 r1 q1=>?_));subst q1;exact ad (ao z1) λhc z4=>iQ O1 D (G.le O1 l1) S h4 h5 hc r1 .nil z4 λa st h=>(k a st h).later O1 l1
end
noncomputable def GJ (k:Int)(n:Nat):Option Nat:=@Int.casesOn (λZ=>Option Nat) k (λj=>gd (Kd j n) (some j)) λj=>gd (Kd j n) (some (n-(j+1)))
theorem C2(h:GJ k n=some j):seqIndex? k n=some j/\j<n/\-(n)<=k/\k<n:=by
 induction k with
 |ofNat i=>
  refine aR h λh1 h2=>?_;have h2:=Iw h2;refine an h2 ?_;have h1:=Iv h1;refine⟨?_,h1,JK (Int.neg_nonpos_of_nonneg (KN n)) (KN i),KJ.mpr h1⟩;refine(?_:(if(decide (0<=if(i:Int)<0 then(i:Int)+n else i)&&decide ((if(i:Int)<0 then(i:Int)+n else i)<n))=true then _ else _)=_);rw[if_neg (M9.mpr (KN i)),if_pos (IQ.mpr ⟨decide_eq_true (KN i),decide_eq_true (KJ.mpr h1)⟩)]
  rfl
 |negSucc i=>
  refine aR h λh1 h2=>?_;have h2:=Iw h2;refine an h2 ?_;have h1:=Iv h1;have h3:=(PZ (JY.mpr h1))
  refine⟨?_,Nat.sub_lt (I8 (JG _) h1) (NG _),h3,LE (Qt i) (KN n)⟩;exact aa (seqIndex_neg (Qt i) h3) (congrArg some (congrArg Int.toNat (Int.subNatNat_of_le h1)))
noncomputable def h_ (hp:Hp)(o i:AV):Option AV:=(i.int?.bind λk=>((aU hp o).or o.tup?).bind λxs=>gd (ai xs.length) ((GJ k xs.length).bind λj=>xs[j]?)).or
 (i.str?.bind λx=>(cb hp o).bind λes=>lk es.1 x)
noncomputable def cut {α:Type}(l:List α)(lo hi:Option Int):List α:=(l.drop (Og lo l.length)).take (N1 hi l.length-Og lo l.length)
noncomputable def oG (hp:Hp)(o:AV)(lo hi:Option Int):Option AV:=((aU hp o).bind λxs=>gd (ai xs.length) (some (.lst (cut xs lo hi)))).or (o.str?.bind λx=>gd (ai x.length) (some (.str ⟨(cut x.cps.toList lo hi).toArray⟩)))
noncomputable def rm {α:Type}(l:List (Str×α))(x:Str):List (Str×α):=l.filter λp=>!aZ p.1 x
noncomputable def uC (hp:Hp)(o i v:AV):Option Hp:=i.str?.bind λx=>o.ref?.bind λk=>((hg hp k).bind AO.dict?).bind λes=>gd (ai es.1.length) (some (hs hp k (.dict (st es.1 x v) (es.2+1))))
noncomputable def yM (hp:Hp)(o i:AV):Option Hp:=i.str?.bind λx=>o.ref?.bind λk=>((hg hp k).bind AO.dict?).bind λes=>gd (ai es.1.length&&(lk es.1 x).isSome) (some (hs hp k (.dict (rm es.1 x) (es.2+1))))
section
variable (T:Tb)(E:jw)(ct:Ct)(Xk:XK)
def uD (x:Option JC)(s:St)(K:Option Int->St->Prop):Prop:=match x with
 |.none=>K .none s
 |some e=>E.ev ct Xk e s λa s1=>aj false a.int? λi=>K (some i) s1
def Fj (v i:JC)(p:Pos)(s:St)(K:AV->St->Prop):Prop:=E.ev ct Xk v s λo s1=>@KI _ (λZ=>Prop) (slice? i) (E.ev ct Xk i s1 λk s2=>aj (T.sym p) (h_ s2.2 o k) λr=>K r s2)
 λq=>@KI _ (λZ=>Prop) q.2.2.1 (uD E ct Xk q.1 s1 λl s2=>uD E ct Xk q.2.1 s2 λh s3=>aj (T.sym p) (oG s3.2 o l h) λr=>K r s3) λZ=>False
def Ch (p:Pos)(s:St)(K:AV->St->Prop):Prop:=aj (T.sym p) (T.site p s) λk=>aj (T.sym p) (gd (!(ks s.2).contains k) (some ())) λZ=>K (.ref k) (s.1,(k,.dict [] 0)::s.2)
end
section
variable {C:Cx}{A:J0}{W:Wd}{X:IF->IP->Prop}{K:AV->St->Prop}{Q:IF->IP->Prop}
theorem oH(O:Ok C W)(e:h_ W.hp o i=some r)(hu:VR W o u)(hv:VR W i v)(k:ax C W r (W.loc,W.hp) Q):RZ C.M A u v Q X W.s:=by
 refine bt e (λe1=>?_) λe1=>?_
 . refine ag e1 λj h1 e2=>ag e2 λxs h2 e3=>aR e3 λhl e4=>ag e4 λq h3 h4=>?_;clear e;obtain rfl:=int?_is h1;refine af hv.int' λt Sq=>?_;clear hv;refine aa Sq (cL (C2 h3) λz1 z2 z3 z4=>?_);obtain eN:=aq hl;replace eN:=KH▸eN;refine bt h2 (λh2=>?_) λh2=>?_
   . refine bw (aX O h2 hu) λl vs Sm=>am Sm λSn il hx=>?_;clear hu;refine aa Sn (cU λg2=>af (hx.at h4) λw Sm=>ad Sm λh5 h6=>g2 ⟨"list",_,Rs.lookup,il.typeIs,?_⟩);have hz:vs.toArray.size=xs.length:=by exact aa Jk (aa hx.1 rfl)
     by_cases q0:j<0
     . haveI z1:=(seqIndex_neg q0 z3)▸z1;refine wpAny_getItem_list_neg il q0 (by exact le_of_eq_of_le (congrArg Neg.neg (congrArg Nat.cast hz)) z3) (JK (by decide:(-2^63:Int)<= -16777216) (JK (PZ (JY.mpr eN)) z3)) (x:=w) ?_ (ax.same O k h6);exact aa hz (aa (Iw z1) (aa Jq h5))
     . refine wpAny_getItem_list il (by exact M9.mp q0) (MO z4 (Kt (JY.mpr eN) (by decide))) (x:=w) ?_ (ax.same O k h6);haveI:j.toNat=q:=by
        dsimp only[seqIndex?]at z1;simp only[if_neg q0]at z1
        split at z1<;>cases z1;rfl
       exact aa this (aa Jq h5)
   . obtain rfl:=tup?_is h2;refine cU λg3=>bJ hu.tup' λd vs Sn Z ht hx=>?_;clear hu;subst Sn;exact af (hx.at h4) λw Sm=>ad Sm λh5 h6=>g3 ⟨"tuple",_,slot_tuple_getitem.lookup,ht.typeIs,PyProof.Rows.getItem_tuple ht (JK (by decide:(-2^63:Int)<= -16777216) (JK (PZ (JY.mpr eN)) z3)) (MO z4 (Kt (JY.mpr eN) (by decide))) (by exact aa Jk (an hx.1 z1)) (by exact aa Jq h5) (ax.same O k h6)⟩
 . refine ag e1 λx h1 e2=>ag e2 λes h2 h3=>cU λg4=>?_;clear e;obtain rfl:=str?_is h1;refine af hv.str' λt Sq=>?_;clear hv;subst Sq;refine bw (cu O h2 hu) λj kvs Sm=>iI Sm λSn Ss hm hd hk hx=>?_;subst Sn;clear hu Sm;subst Ss;refine g4 ?_;rcases bR hk hx x with⟨q1,Z⟩|⟨a,w,q1,q2,q3⟩
   . rw[h3]at q1;cases q1
   . haveI q1:=h3▸q1;(replace q1:=Iw q1;subst q1);exact⟨"dict",_,slot_dict_getitem.lookup,hd.mapOf.typeIs,wpAny_getItem_of (JM C.prog C.w x t) hd.mapOf q2 (k _ _ (O.ltick (IL _)) (O.tick (IL _)) q3.tick rfl)⟩
theorem jR{α:Type}(l:List α)(a b:Nat)(hb:b<=l.length):((sliceRange (a:Int) (b:Int) 1).filterMap (l[·]?))=(l.drop a).take (b-a):=by
 refine aa (sliceRange_one _ _) ?_;apply List.ext_getElem?;intro i;refine((by exact aa Ow rfl:((JV (b-a)).map (a+ ·)).filterMap (l[·]?)=(JV (b-a)).filterMap (λi=>l[a+i]?)))▸?_;haveI all:(JV (b-a)).filterMap (λi=>l[a+i]?)=((JV (b-a)).map λi=>l[a+i]?).filterMap id:=by exact aa Ow rfl
 have e2:∀m,m<=b-a->(JV m).filterMap (λi=>l[a+i]?)=(l.drop a).take m:=by
  intro m hm;induction m with
  |zero=>simp
  |succ m ih=>
   have hx:=Jc (Nat.add_lt_of_lt_sub' hm) hb;simp only[PJ,List.filterMap_append,ih (KZ hm),JR,Oy]
   rfl
 exact aa (e2 _ (IC _)) rfl
theorem gA(v)(n):N1 v n<=n:=by
 induction v with
 |none=>exact IC n
 |some y=>
  refine(?_:(if y<0 then n-(-y).toNat else min y.toNat n)<=n);by_cases q:y<0
  . exact aa (if_pos q) (MF _ _)
  . exact aa (if_neg q) (NX _ _)
theorem aF.cut(h:aF W xs vs)(lo hi):aF W (Internal.cut xs lo hi) (Internal.cut vs lo hi):=by
 unfold Internal.cut;refine aa h.1 ⟨by simp[h.1],λi x v e1 e2=>?_⟩;rw[List.getElem?_take]at e1 e2
 split at e1
 . rename_i q;rw[if_pos q]at e2
   rw[Oy]at e1 e2;exact h.2 _ x v e1 e2
 . exact nn e1
theorem c5{lo}{v}(h:IsPart v lo):∃p:Option (Int×Tok),v=partValue p/\p.map (·.1)=lo:=by
 induction h with
 |none=>exact⟨none,rfl,rfl⟩
 |int i t=>exact⟨some (i,t),rfl,rfl⟩
theorem oJ(O:Ok C W){o r}{lo hi}(e:oG W.hp o lo hi=some r){u vl vu}(hu:VR W o u)(pl:IsPart vl lo)(pu:IsPart vu hi)(k:ax C W r (W.loc,W.hp) Q):
 RZ C.M A u (.ref W.s.heap.objs.size) Q X {W.s with heap:=W.s.heap.push {cls:=.type "slice",data:=.fields #[vl,vu,.none]}}:=by
 obtain G:=O.grown (s:={W.s with heap:=W.s.heap.push {cls:=.type "slice",data:=.fields #[vl,vu,.none]}}) (λa o e=>IH _ e) (IC _) rfl rfl;refine bt e (λe1=>?_) λe1=>?_
 . refine ag e1 λxs h1 e2=>aR e2 λhl e3=>?_;replace e3:=Iw e3;clear e;subst e3
   (refine aP (aX O h1 hu) λl vs Sr il hx=>?_;refine aa Sr ?_)
   refine⟨"list",_,Rs.lookup,(il.push _).typeIs,wpAny_getItem_list_slice (il.push _) (Mk.IsSliceOf.new ..) pl pu .none (by decide) ?_ (by exact aa Jk (an hx.1 (aq hl)))⟩;refine aa (kms_pick_eq _ _ _) ?_;exact oo (G.ok O) (O.vrs (G.le O) (hx.cut lo hi)) (k.later (G.ok O) (G.le O))
 . refine ag e1 λx h1 e2=>aR e2 λhl e3=>?_;replace e3:=Iw e3;clear e;subst e3
   (have q7:=str?_is h1;subst q7)
   (refine af hu.str' λt Sm=>?_;refine aa Sm ?_)
   (refine ae (c5 pl) λp1 Sm e4=>?_;subst Sm)
   obtain⟨p2,rfl,e5⟩:=c5 pu;have pk:R4 x p1 p2 none=sliceRange ((Og lo x.length:Nat):Int) ((N1 hi x.length:Nat):Int) 1:=by
    have:=kms_bounds lo hi x.length;unfold R4;simp only[e4,e5,<-(by exact aa this rfl:(sliceBounds lo hi none x.length).1=((Og lo x.length:Nat):Int)),<-(by rw[this]:(sliceBounds lo hi none x.length).2.1=((N1 hi x.length:Nat):Int))]
    rfl
   have ec:((R4 x p1 p2 none).filterMap (x.cps[·]?))=Internal.cut x.cps.toList lo hi:=by
    refine(pk)▸?_;haveI:=jR x.cps.toList (Og lo x.length) (N1 hi x.length) (gA _ _);refine(funext λi=>(K8 ..).symm:(λi=>x.cps[i]?)=(λi=>x.cps.toList[i]?)).symm▸(this).symm▸?_
    rfl
   refine⟨"str",_,F.slot_str_getitem.lookup,Nf _ x t,wpAny_getItem_str_slice (l:=p1) (u:=p2) (st:=none) ⟨_,IW _ rfl,rfl,rfl⟩ rfl ?_⟩;unfold sliceMade;refine(ec).symm▸?_;haveI ln:(Internal.cut x.cps.toList lo hi).length<=x.length:=by
    unfold Internal.cut;haveI:x.cps.toList.length=x.length:=rfl;rw[JQ];exact Iu (NX _ _) (by rw[LA,this];exact MF _ _)
   split
   . rename_i q
     haveI:Internal.cut x.cps.toList lo hi=x.cps.toList:=by haveI sl:(Internal.cut x.cps.toList lo hi).Sublist x.cps.toList:=(OT _ _).trans (List.drop_sublist _ _);refine sl.eq_of_length ?_;simp only[<-ec,pk];haveI:=beq_iff_eq.mp ((IQ.mp q).2);rw[pk,sliceRange_one,Iz,Kb]at this;refine aa (funext λi=>(K8 ..).symm:(λi=>x.cps[i]?)=(λi=>x.cps.toList[i]?)) (aa (jR x.cps.toList (Og lo x.length) (N1 hi x.length) (gA _ _)) (aa JQ (aa LA ?_)));haveI h3:x.cps.toList.length=x.length:=rfl;rw[h3,this,J8];exact Iu (I2 this.symm) (Nat.sub_le_sub_right (gA hi x.length) _)
     haveI k:=this▸k;exact ax.same (G.ok O) (k.later (G.ok O) (G.le O)) .str
   . exact⟨by refine(?_:(Internal.cut x.cps.toList lo hi).toArray.size<=_);refine aa Jk ?_;exact Iu ln (aq hl),ax.str (G.ok O) (k.later (G.ok O) (G.le O)) (IL _)⟩
theorem yN(h:ID C.M A (LH v env) (λo s₁=>ID C.M A (LH i env) (λj s₂=>RZ C.M A o j Q X s₂) X s₁) X W.s):ID C.M A (LH (.Subscript v i p) env) Q X W.s:=by
 simp only[arm_eval_Subscript];refine Ir (KG h (λo s₁ h₁=>Ir (I1 (KG h₁ (λj s₂ h₂=>Ir (Km ?_)) λZ Z x=>x))) λZ Z x=>x);refine aP h₂ λT id hl hT hg=>Ir (Ir (JS hT hl (Ix ?_)));have fin:∀vs,ID C.M A (operate vs (getItem o j)) (λr s₃=>ID C.M A (letTemporaryGo v o r>>=λZ=>pure r) Q X s₃) X s₂:=λvs=>
  wpAny_operate' (KG hg (λr s₃ h₃=>Ir (Qh (Ix h₃))) λZ Z x=>x)
 exact Ir (iL i (λt=>ID _ _ t _ _ _) fin)
variable (S:bh C n E)(O:Ok C W)(G:eM C n ct A env W Xk X)
include S O G
theorem gY{x}{K}(e:uD E ct Xk x (W.loc,W.hp) K)(k:∀i st,K i st->∀v W',Le W W'->Ok C W'->IsPart v i->st=(W'.loc,W'.hp)->Q v W'.s):ID C.M A (evalPart x env) Q X W.s:=by
 induction x with
 |none=>exact Ix (k _ _ e _ W (Le.refl W) O .none rfl)
 |some x=>refine S.ev O G e λa s1 h1 v W1 l1 O1 r1 q1=>cw h1 λi h2 h3=>?_;obtain rfl:=int?_is h2;refine af r1.int' λt Sq=>?_;exact aa Sq (k _ _ h3 _ W1 l1 O1 (.int i t) q1)
theorem oK(e:Fj T E ct Xk v i p (W.loc,W.hp) K)(k:∀a st,K a st->ax C W a st Q):ID C.M A (LH (.Subscript v i p) env) Q X W.s:=by
 refine yN (S.ev O G e λo s1 h1 u W1 l1 O1 r1 q1=>?_);subst q1;induction z:slice? i with
 |some q=>
  rw[z]at h1;obtain h2:=aO (ud i) z
  (refine cU λg9=>?_;obtain⟨q1,q2,q3,q4⟩:=q;refine g9 ?_)
  induction q3 with
  |some Z=>exact Mc h1
  |none=>
  refine(h2).symm▸(wpAny_Slice (gY S O1 (G.le O1 l1) h1 λlo s2 h2 vl W2 l2 O2 p1 q2=>?_));subst q2;have L:=l1.trans O1 l2;refine gY S O2 (G.le O2 L) h2 λhi s3 h3 vu W3 l3 O3 p2 q3=>?_;subst q3;obtain⟨r,h4,h5⟩:=aS h3;exact Ix (oJ O3 h4 (O2.vr l3 (O1.vr l2 r1)) p1 p2 ((k _ _ h5).later O3 (L.trans O2 l3)))
 |none=>haveI h1:=z▸h1;refine S.ev O1 (G.le O1 l1) h1 λj s2 h2 w W2 l2 O2 r2 q2=>?_;subst q2;obtain⟨r,h4,h5⟩:=aS h2;exact oH O2 h4 (O1.vr l2 r1) r2 ((k _ _ h5).later O2 (l1.trans O1 l2))
omit S G in
theorem mA(e:Ch T p (W.loc,W.hp) K)(k:∀a st,K a st->ax C W a st Q):ID C.M A (LH (.Dict [] [] p) env) Q X W.s:=by
 refine cw e λj Z e=>H6 e λhk e=>?_;have hk:j∉ks W.hp:=λq=>by exact IE ((K_.mpr q)▸hk)
 refine wpAny_Dict_empty ?_;have kp:∀a o,W.s.heap.get? a=some o->(W.s.heap.push {cls:=.type "dict",data:=.dict #[]}).get? a=some o:=λa o e=>IH _ e;obtain ha:=IW W.s.heap (o:={cls:=.type "dict",data:=.dict #[]}) rfl;have l:=O.new (s:={W.s with heap:=W.s.heap.push {cls:=.type "dict",data:=.dict #[]}}) (o:=.dict [] 0) hk kp (cV _) ha
  ⟨[],⟨mr ha (λe h=>by simp at h) .nil (by decide),ff O⟩,rfl,.nil⟩ (IC _) rfl rfl
 obtain q:=k _ _ e _ _ (l.le O) (l.ok O) (.ref (.head _)) rfl;rw[show(W.new {W.s with heap:=W.s.heap.push {cls:=.type "dict",data:=.dict #[]}} j (.dict [] 0) W.s.heap.objs.size).ρ j=W.s.heap.objs.size from if_pos rfl]at q;exact q
end
section
variable {C:Cx}{Q:Unit->IP->Prop}
theorem jS(O:Ok C W)(h1:o.ref?=some j)(h2:(hg W.hp j).bind AO.dict?=some es)(hu:VR W o u):
 ∃kvs,u=.ref (W.ρ j)/\(j,.dict es.1 es.2)∈W.hp/\W.s.heap.DictOf (sk C) (W.ρ j) kvs/\kvs.map (·.1)=es.1.map (·.1)/\aF W (es.1.map (·.2)) (kvs.map (·.2))/\(kvs.map (·.1)).Nodup/\kvs.length=es.1.length:=by
 rw[ref?_is h1]at hu;refine G0 (cu O (by unfold cb cellOf;exact h2) hu) λj' kvs e Sn hm hd hk hx=>?_;rw[<-kI e]at Sn hm hd;exact⟨kvs,Sn,hm,hd,hk,hx,yj hd λZ Z Z Z Z Z Z Z n=>n,(Iz _).symm.trans ((congrArg Kn hk).trans (Iz _))⟩
theorem dictPut(O:Ok C W)(hm:(j,.dict es m)∈W.hp)(hd:h'.DictOf (sk C) (W.ρ j) SL)(S5:Jt (W.ρ j) W.s.heap h')
 (hk:SL.map (·.1)=Sy.map (·.1)) (hx:aF W (Sy.map (·.2)) (SL.map (·.2))) (k:∀W',Le W W'->Ok C W'->(W.loc,hs W.hp j (.dict Sy (m+1)))=(W'.loc,W'.hp)->Q () W'.s):Q () {W.s with heap:=h',toks:=W.s.toks+1}:=by
 refine cU λg1=>?_;have ch:=mi.of S5 (λq=>(O.free _ _ hm).2.1 (.inl q):W.ρ j≠W.L);refine gp (id hd) λo Z Z h1 Z=>?_;have S:=O.set (s:={W.s with heap:=h',toks:=W.s.toks+1}) (o:=.dict Sy (m+1)) hm (Jy (IC _)) ch h1
  ⟨SL,⟨hd,yx O hm⟩,hk,hx.1,λi x v a b=>O.setVR hm ch (hx.2 i x v a b)⟩ (IL _) rfl rfl
 exact g1 (k _ (S.le O) (S.ok O) rfl)
theorem oL(O:Ok C W)(e:uC W.hp o i v=some hp)(hu:VR W o u)(hw:VR W i w)(hz:VR W v z)(k:∀W',Le W W'->Ok C W'->(W.loc,hp)=(W'.loc,W'.hp)->Q () W'.s):ID C.M A (setItem u w z) Q X W.s:=by
 refine ag e λx h1 e=>ag e λj h2 e=>ag e λes h3 e=>aR e λhl e=>cU λg1=>?_;obtain rfl:=Iw e;obtain rfl:=str?_is h1;refine af hw.str' λt Sq=>?_;clear hw;subst Sq;obtain qZ:=jS O h2 h3 hu;rcases qZ.choose,qZ.choose_spec.1,qZ.choose_spec.2.1,qZ.choose_spec.2.2.1,qZ.choose_spec.2.2.2.1,qZ.choose_spec.2.2.2.2.1,qZ.choose_spec.2.2.2.2.2.1,qZ.choose_spec.2.2.2.2.2.2 with⟨kvs,rfl,hm,hd,hk,hx,hn,hln⟩
 refine g1 (wpAny_setItem_pairs (JM C.prog C.w x t) hd (λh' Sz S5=>?_) (by exact aa hln (aq hl)));rw[jL hn]at Sz;exact dictPut O hm Sz S5 (kM _ _ _ hk) (oA hk hx hz) k
theorem yO{α β:Type}{l:List (Str×α)}{l':List (Str×β)}(x:Str)(h:l.map (·.1)=l'.map (·.1)):(rm l x).map (·.1)=(rm l' x).map (·.1):=by
 have key:∀{γ:Type} (l:List (Str×γ)),(rm l x).map (·.1)=(l.map (·.1)).filter λy=>!aZ y x:=λl=>by
  unfold rm;exact aa List.filter_map rfl
 simp only[key,key,h]
theorem C3:∀{es} {kvs},kvs.map (·.1)=es.map (·.1)->aF W (es.map (·.2)) (kvs.map (·.2))->aF W ((rm es x).map (·.2)) ((rm kvs x).map (·.2)):=by
 intro Sl;induction Sl with
 |nil=>
  intro SK;induction SK with
  |nil=>intro Z Z;exact .nil
  |cons x93 x94=>intro h Z;simp at h
 |cons x95 l Sx=>
  obtain⟨y,c⟩:=x95;intro SQ;cases SQ with
  |nil=>intro h Z;simp at h
  |cons x98 l'=>
   obtain⟨y',d⟩:=x98;intro h hx;refine ad (KU h) λh1 h2=>?_;have h1:y'=y:=h1;clear h;refine aa h1 (bw hx.inv λu us Sm=>am Sm λe hu ht=>?_)
   (haveI Sq:=(KU e).1;haveI Sn:=(KU e).2)
   subst Sq;clear e Sm;subst Sn;obtain ih:=Sx h2 ht;unfold rm at ih⊢;simp only[JB]
   split
   . exact .cons hu ih
   . exact ih
theorem oM(kvs)(x):without kvs x=rm kvs x:=by
 unfold without rm;refine List.filter_congr λp Z=>?_;by_cases q:p.1=x
 . refine aa q (aa (az _) ?_);simp
 . refine aa (bb q) ?_;simp[q]
theorem oN(O:Ok C W)(e:yM W.hp o i=some hp)(hu:VR W o u)(hw:VR W i w)(k:∀W',Le W W'->Ok C W'->(W.loc,hp)=(W'.loc,W'.hp)->Q () W'.s):ID C.M A (delItem u w) Q X W.s:=by
 refine ag e λx h1 e=>ag e λj h2 e=>ag e λes h3 e=>aR e λhl e=>?_;obtain rfl:=Iw e;refine bc hl λhl hsome=>cU λg2=>?_;obtain rfl:=str?_is h1;refine af hw.str' λt Sq=>?_;clear hw;subst Sq;refine af (jS O h2 h3 hu) λkvs Sm=>?_;refine jF Sm λSn hm hd hk hx hn hln=>?_;clear hu;subst Sn;have hv:(N4 kvs x).isSome=true:=by
  rcases bR hk hx x with⟨q1,q2⟩|⟨a,w,q1,q2,q3⟩
  . exact IE (q1▸hsome)
  . exact aa q2 rfl
 refine g2 ?_;unfold delItem
 try with_reducible refine I1 ?_
 refine Ir (wpAny_sequenceKey hd.typeIs (by decide) ?_)
 with_reducible refine Ir (Px (name:=Lg "__delitem__") hd.typeIs ON
  (Rm ON hd.typeIs PySem.F.entry_dict_delitem (PySem.F.args_dict_delitem_2 _ _) (meets_dict_delitem_pairs (sk C) (W.ρ j) (JM C.prog C.w x t)) ⟨kvs,hd,(by exact aa hln (aq hl)),hv,λh' Sz S5=>Ix ?_⟩))
 rw[oM]at Sz;exact dictPut O hm Sz S5 (yO x hk) (C3 hk hx) k
end
def uE (C:Cx)(W W':Wd):Prop:=∀x c,(x,c)∈W'.f.cl->W.s.heap.get? c=.none/\c≠W'.f.L/\∃v,W'.s.heap.IsCell c v
def uF (C:Cx)(W W':Wd):Prop:=∀x c,(x,c)∈W'.f.ro->c∉W'.f.fs/\¬(∃k o,(k,o)∈W.hp/\c=W.ρ k)/\∃v,W.s.heap.IsCell c v
def uG (C:Cx)(W W':Wd):Prop:=∃m,W'.s.heap.Ns W'.f.L m/\∀x a,lk W'.loc x=some a->∃v,VR W a v/\W'.at m x v
structure cN(C:Cx)(W W':Wd):Prop where
 kp:∀a o,W.s.heap.get? a=some o->W'.s.heap.get? a=some o
 ρ:W'.ρ=W.ρ
 φ:W'.Φ=W.Φ
 hp:W'.hp=W.hp
 tk:W.s.toks<=W'.s.toks
 gens:W'.s.gens=W.s.gens
 os:W'.s.os=W.s.os
 L:W.s.heap.get? W'.f.L=.none
 up:W.f.L<=W'.f.L
 Lc:uE C W W'
 fs:∀a,a∈W'.f.fs->a=W.f.L\/a∈W.f.fs
 ap:W'.f.cl.Pairwise λx y=>x.2≠y.2
 ro:uF C W W'
 ns:uG C W W'
section
variable {C:Cx}{W W' W1:Wd}
theorem Ok.ownIn(O:Ok C W){a}(h:W.own a):∃o,W.s.heap.get? a=some o:=by
 rcases h with h|h|h
 . exact aa h O.L
 . refine ad (O.fr a h) λZ Sm=>?_;refine jy Sm λm o' Z Z Sr=>?_;refine ad Sr λq Z=>?_;exact⟨o',q⟩
 . refine af (IU.mp h) λSn Sm=>?_;rcases Sn with⟨n,c⟩
   (haveI h1:=(Sm).1;haveI Ss:=(Sm).2)
   clear h;refine an Ss ?_;refine am (O.cl n c h1) λZ Z Sm=>?_;refine bw Sm λv o' Sr=>?_;refine ad Sr λq Z=>?_;exact⟨o',q⟩
theorem cN.vr(N:cN C W W')(h:VR W a v):VR W' a v:=
 h.mono (λa h=>aa N.φ h) (λa o Z e=>N.kp a o e) λk o h=>⟨⟨o,aa N.hp h⟩,aa N.ρ rfl⟩
theorem cN.own(N:cN C W W')(h:W'.own a):W.s.heap.get? a=.none\/(a∈W'.f.fs/\(a=W.f.L\/a∈W.f.fs)):=by
 rcases h with h|h|h
 . exact aa h (.inl N.L)
 . exact .inr ⟨h,N.fs a h⟩
 . refine af (IU.mp h) λSn Sm=>?_;rcases Sn with⟨n,c⟩
   (haveI h1:=(Sm).1;haveI Ss:=(Sm).2)
   clear h Sm;subst Ss;exact .inl (N.Lc n c h1).1
theorem cN.ok(O:Ok C W)(N:cN C W W'):Ok C W':=by
 have ownW:∀a,(a=W.f.L\/a∈W.f.fs)->W.own a:=λa h=>h.elim .inl λh=>.inr (.inl h);refine⟨by refine aa N.hp ?_;exact O.nd,λk k' o o' h h' e=>?_,λk o h=>?_,λk o h=>?_,λa h=>?_,λa h q=>?_,?_,λf hf=>?_,λx c h=>?_,N.ap,λx c h=>?_,λa o e=>?_,Iu O.tk N.tk,?_⟩
 . rw[N.hp]at h h';haveI e:=N.ρ▸e;exact O.inj k k' o o' h h' e
 . rw[N.hp]at h;refine(O.cell k o h).mono (by exact aa N.ρ rfl) N.vr (λob e=>by exact aa N.ρ (N.kp _ _ e)) λk o h=>⟨⟨o,by exact aa N.hp h⟩,by exact aa N.ρ rfl⟩
 . rw[N.hp]at h;refine am (O.free k o h) λa b Sm=>af Sm λob e=>(N.ρ).symm▸(N.φ).symm▸⟨a,λq=>?_,ob,N.kp _ _ e⟩;rcases N.own q with q|⟨Z,q⟩
   . rw[e]at q;cases q
   . exact b (ownW _ q)
 . rw[N.φ]at h;exact af (O.fz a h) λo e=>⟨o,N.kp a o e⟩
 . rw[N.φ]at q;rcases N.own h with z|⟨Z,z⟩
   . refine af (O.fz a q) λo e=>?_;rw[e]at z;cases z
   . exact O.nL a (ownW _ z) q
 . exact ae N.ns λm h1 h2=>⟨m,h1,λx a h=>ae (h2 x a h) λv q1 q2=>⟨v,N.vr q1,q2⟩⟩
 . refine af (O.ownIn (ownW f (N.fs f hf))) λo e=>⟨λq=>?_,?_⟩
   . haveI q:=q;haveI e:=N.L▸q▸e;cases e
   . refine OW (N.fs f hf) (λh=>?_) λh=>?_
     . refine af O.ns λm Sm=>?_;refine ad Sm λh1 Z=>?_;exact aa h ⟨m,h1.keeps N.kp⟩
     . refine ad (O.fr f h) λZ Sm=>?_;refine af Sm λm h1=>?_;exact⟨m,h1.keeps N.kp⟩
 . refine am (N.Lc x c h) λh1 h2 h3=>⟨h2,λq=>?_,h3⟩
   exact af (O.ownIn (ownW c (N.fs c q))) λo e=>jx h1 e
 . refine am (N.ro x c h) λh1 h2 Sm=>af Sm λv h3=>⟨λq=>?_,v,h3.keeps N.kp⟩
   rcases q with q|⟨k,o,hm,q⟩
   . rcases N.own q with q|⟨q,Z⟩
     . refine af h3 λo Sm=>?_;refine ad Sm λe Z=>?_;rw[e]at q;cases q
     . exact h1 q
   . haveI hm:=N.hp▸hm;haveI q:=N.ρ▸q;exact h2 ⟨k,o,hm,q⟩
 . (haveI x:=(O.old a o e).1;haveI y:=(O.old a o e).2)
   exact⟨N.kp a o x,aa N.φ y⟩
 . exact Iu O.up N.up
noncomputable def Wd.back (W W1:Wd):Wd:={W1 with f:=W.f,loc:=W.loc}
theorem iu(h:VR W1 a v):VR (W.back W1) a v:=VR.mono (W:=W1) (W':=W.back W1) (λZ h=>h) (λZ Z Z e=>e) (λZ o h=>⟨⟨o,h⟩,rfl⟩) h
theorem cN.nmov(O:Ok C W)(N:cN C W W')(e:W.s.heap.get? a=some o)(h:¬W.mov a):¬W'.mov a:=λq=>by
 rcases q with q|⟨k,o',hm,q⟩
 . rcases N.own q with q|⟨Z,q⟩
   . rw[e]at q;cases q
   . exact h (.inl (q.elim .inl λq=>.inr (.inl q)))
 . rw[N.hp]at hm;rw[N.ρ]at q;exact h (.inr ⟨k,o',hm,q⟩)
theorem jT(O:Ok C W)(N:cN C W W')(O1:Ok C W1)(l:Le W' W1):Ok C (W.back W1)/\Le W (W.back W1):=by
 haveI O':=N.ok O;have up:∀a,W'.s.heap.get? a=.none->W.s.heap.get? a=.none:=λa e=>by
  induction q:W.s.heap.get? a with
  |none=>rfl
  |some o=>haveI:=N.kp a o q;exact jx e this
 have frs:∀f,(f=W.f.L\/f∈W.f.fs)->∀m,W.s.heap.Ns f m->W1.s.heap.Ns f m:=λf hf m h=>by
  by_cases z:f∈W'.f.fs
  . exact l.fr f z m (h.keeps N.kp)
  . refine gp h λo es ep e r=>⟨o,es,ep,l.kp f o (N.kp f o e) (λq=>?_),r⟩
    rcases q with q|⟨k,o',hm,q⟩
    . rcases N.own q with q|⟨q,Z⟩
      . rw[e]at q;cases q
      . exact z q
    . haveI hm:=N.hp▸hm;rw[N.ρ]at q;exact(O.free k o' hm).2.1 (q▸hf.elim .inl λh=>.inr (.inl h))
 have cel:∀c v,(∃x,(x,c)∈W.f.cl++W.f.ro)->W.s.heap.IsCell c v->W1.s.heap.IsCell c v:=λc v ⟨x,hx⟩ h=>by
  refine ae h λo e r=>⟨o,l.kp c o (N.kp c o e) (λq=>?_),r⟩
  refine bg hx (λhx=>?_) λhx=>?_
  . rcases q with q|⟨k,o',hm,q⟩
    . rcases N.own q with q|⟨Z,q⟩
      . rw[e]at q;cases q
      . exact q.elim (O.cl x c hx).1 (O.cl x c hx).2.1
    . haveI hm:=N.hp▸hm;rw[N.ρ]at q;exact(O.free k o' hm).2.1 (q▸.inr (.inr (IU.mpr ⟨_,hx,rfl⟩)))
  . exact N.nmov O e (O.ro x c hx).1 q
 have old:∀k o,(k,o)∈W1.hp->(∃o',(k,o')∈W.hp/\W1.ρ k=W.ρ k)\/W.s.heap.get? (W1.ρ k)=.none:=λk o h=>by
  rcases l.nw k o h with⟨o',h'⟩|h'
  . refine .inl ⟨o',N.hp▸h',?_⟩;exact aa ((l.ky k o' h').2) (aa N.ρ rfl)
  . exact .inr (up _ h')
 refine⟨⟨O1.nd,O1.inj,λk o h=>?_,λk o h=>?_,O1.fz,λa h q=>?_,?_,λf hf=>?_,λx c h=>?_,O.ap,λx c h=>?_,O1.old,O1.tk,O.up⟩,⟨rfl,λa h=>?_,λa h=>?_,λk o h=>?_,λa o e h=>?_,λf hf m h=>frs f (.inr hf) m h,λk o h=>?_,λk es n h=>?_,l.gens.trans N.gens,l.os.trans N.os⟩⟩
 . exact(O1.cell k o h).mono (W':=W.back W1) rfl (λq=>iu q) (λZ e=>e) λk o h=>⟨⟨o,h⟩,rfl⟩
 . (haveI a:=(O1.free k o h).1;haveI b:=(O1.free k o h).2.1;haveI Sm:=(O1.free k o h).2.2)
   refine af Sm λob e=>⟨a,λq=>?_,ob,e⟩
   haveI q:W.own (W1.ρ k):=q;rcases old k o h with⟨o',h',z⟩|z
   . exact(O.free k o' h').2.1 (z▸q)
   . refine af (O.ownIn q) λo e=>?_;exact jx z e
 . haveI h:W.own a:=h;refine OW (l.φn a q) (λz=>?_) λz=>?_
   . haveI z:=N.φ▸z;exact O.nL a h z
   . refine af (O.ownIn h) λo e=>?_;exact jx (up a z) e
 . refine ae O.ns λm h1 h2=>⟨m,frs _ (.inl rfl) m h1,λx a h=>?_⟩
   exact ae (h2 x a h) λv q1 q2=>⟨v,(λh=>iu (O'.vr l (N.vr h)):∀{a v},VR W a v->VR (W.back W1) a v) q1,Wd.at_to (W:=W) (W':=W.back W1) rfl (λc v hx z=>cel c v ⟨x,hx⟩ z) q2⟩
 . (haveI a:=(O.fr f hf).1;haveI Sm:=(O.fr f hf).2)
   exact af Sm λm h=>⟨a,m,frs f (.inr hf) m h⟩
 . exact am (O.cl x c h) λa b Sm=>af Sm λv h3=>⟨a,b,v,cel c v ⟨x,JD.mpr (.inl h)⟩ h3⟩
 . refine ad (O.ro x c h) λa Sm=>af Sm λv h3=>⟨λq=>?_,v,cel c v ⟨x,JD.mpr (.inr h)⟩ h3⟩
   rcases q with q|⟨k,o,hm,q⟩
   . exact a (.inl q)
   . rcases old k o hm with⟨o',h',z⟩|z
     . exact a (.inr ⟨k,o',h',q.trans z⟩)
     . haveI q:c=W1.ρ k:=q;refine ae h3 λob e Z=>?_;haveI e:=z▸q▸e;cases e
 . exact l.φ a (by exact aa N.φ h)
 . refine OW (l.φn a h) (λz=>?_) λz=>?_
   . haveI z:=N.φ▸z;exact .inl z
   . exact .inr (up a z)
 . (haveI h1:=(l.ky k o (by exact aa N.hp h)).1;haveI h2:=(l.ky k o (by exact aa N.hp h)).2)
   exact⟨h1,h2.trans (by exact aa N.ρ rfl)⟩
 . exact l.kp a o (N.kp a o e) (N.nmov O e h)
 . exact(old k o h).imp (λq8=>ae q8 λo' h' Z=>⟨o',h'⟩) id
 . refine aP (l.ver k es n (by exact aa N.hp h)) λSy n' h1 h2 h3=>⟨Sy,n',h1,h2,λe=>?_⟩
   have:=h3 e;haveI this:=N.ρ▸this
   (haveI Sm:=(O.free k _ h).2.2)
   exact af Sm λob z=>this.trans ((N.kp _ _ z).trans z.symm)
end
structure aK(W:Wd)(I:Jn):Prop where
 m:¬W.mov I
 φ:¬W.Φ I
 d:∃o,W.s.heap.get? I=some o/\∀v,o.data≠.cell v
section
theorem aK.le(h:aK W I)(l:Le W W1):aK W1 I:=by
 refine ae h.d λo e d=>⟨λq=>h.m ?_,λq=>?_,o,l.kp I o e h.m,d⟩
 . rcases q with q|⟨k,o',hm,q⟩
   . exact .inl (by unfold Wd.own at q⊢;exact an l.f q)
   . rcases l.nw k o' hm with⟨o₁,h₁⟩|h₁
     . exact .inr ⟨k,o₁,h₁,q.trans (l.ky k o₁ h₁).2⟩
     . haveI h₁:=e▸q▸h₁;cases h₁
 . refine OW (l.φn I q) (λq=>?_) λq=>?_
   . exact h.φ q
   . rw[e]at q;cases q
theorem aK.set(O:Ok C W)(h:aK W I)(sb:N6 I W.s.heap s.heap)(tk:W.s.toks<=s.toks)(hg:s.gens=W.s.gens)(ho:s.os=W.s.os):
 Ok C (W.to s)/\(∀{a v},VR W a v->VR (W.to s) a v)/\∀W0,Le W0 W->W0.s.heap.get? I=.none->Le W0 (W.to s):=by
 have kp:∀a o,W.s.heap.get? a=some o->a≠I->s.heap.get? a=some o:=λa o e n=>sb a o n e;have vr:∀{a v},VR W a v->VR (W.to s) a v:=λq=>VR.mono (W:=W) (W':=W.to s) (λZ h=>h) (λa o q e=>kp a o e λz=>h.φ (z▸q)) (λZ o h=>⟨⟨o,h⟩,rfl⟩) q;have kc:∀k o,(k,o)∈W.hp->W.ρ k≠I:=λk o hm e=>h.m (.inr ⟨k,o,hm,e.symm⟩);have ko:∀a,W.own a->a≠I:=λa ha e=>h.m (.inl (e▸ha));have kn:∀a m,a≠I->W.s.heap.Ns a m->s.heap.Ns a m:=λa m n q=>let⟨o,es,ep,e,r⟩:=q;⟨o,es,ep,kp a o e n,r⟩
 have ki:∀a v,W.s.heap.IsCell a v->s.heap.IsCell a v:=λa v q8=>ae q8 λo e r=>⟨o,kp a o e λz=>(by refine af h.d λo' Sm=>?_;refine ad Sm λe' d=>?_;haveI e:=e'▸z▸e;(replace e:=Iw e;subst e);exact d v r),r⟩
 refine⟨⟨O.nd,O.inj,λk o hm=>(O.cell k o hm).mono (W':=W.to s) rfl vr (λob e=>kp _ ob e (kc k o hm)) λk o h=>⟨⟨o,h⟩,rfl⟩,λk o hm=>let⟨a,b,ob,e⟩:=O.free k o hm;⟨a,b,ob,kp _ ob e (kc k o hm)⟩,
  λa q=>af (O.fz a q) λo e=>⟨o,kp a o e λz=>h.φ (z▸q)⟩,O.nL,?_,λf hf=>let⟨a,m,q⟩:=O.fr f hf;⟨a,m,kn f m (ko f (.inr (.inl hf))) q⟩,λx c hc=>let⟨a,b,v,q⟩:=O.cl x c hc;⟨a,b,v,ki c v q⟩,O.ap,
  λx c hc=>let⟨a,v,q⟩:=O.ro x c hc;⟨a,v,ki c v q⟩,λa o e=>ad (O.old a o e) λx y=>⟨kp a o x λz=>h.φ (z▸y),y⟩,Iu O.tk tk,O.up⟩,vr,λW0 l e0=>?_⟩
 . exact ae O.ns λm q r=>⟨m,kn _ m (ko _ (.inl rfl)) q,λx a z=>ae (r x a z) λv h1 h2=>⟨v,vr h1,Wd.at_to (W:=W) (W':=W.to s) rfl (λc v Z z=>ki c v z) h2⟩⟩
 . refine⟨l.f,l.φ,l.φn,l.ky,λa o e n=>kp a o (l.kp a o e n) λz=>(by haveI e:=e0▸z▸e;cases e),λf hf m q=>kn f m (ko f (.inr (.inl (aa l.f hf)))) (l.fr f hf m q),l.nw,λk es n hk=>?_,hg.trans l.gens,ho.trans l.os⟩;refine aP (l.ver k es n hk) λSy n' h1 h2 h3=>⟨Sy,n',h1,h2,λz=>?_⟩
   (haveI Sm:=(O.free k _ h1).2.2)
   refine af Sm λob e=>?_;haveI:=kp _ ob e (kc k _ h1);rw[((l.ky k _ hk).2)]at this e;exact this.trans (e.symm.trans (h3 z))
theorem Ok.lone(O:Ok C W)(hf:o.isFreed=false)(hd:∀v,o.data≠.cell v):Step C W (W.to {W.s with heap:=W.s.heap.push o})/\aK (W.to {W.s with heap:=W.s.heap.push o}) W.s.heap.objs.size:=by
 refine⟨(O.grown (s:={W.s with heap:=W.s.heap.push o}) (λa o e=>IH _ e) (IC _) rfl rfl),λq=>?_,λq=>?_,o,IW _ hf,hd⟩
 . haveI:∃o,W.s.heap.get? W.s.heap.objs.size=some o:=by
    rcases q with q|⟨k,o',hm,q⟩
    . exact O.ownIn q
    . have q:W.s.heap.objs.size=W.ρ k:=q;exact aa q ((O.free k o' hm).2.2)
   refine af this λo e=>?_;rw[cV]at e;cases e
 . refine af (O.fz _ q) λo e=>?_;rw[cV]at e;cases e
end
noncomputable def mB:List String:=["enumerate","zip","dict_itemiterator","dict_reverseitemiterator","odict_iterator","itertools.zip_longest","itertools.pairwise"]
theorem C4(h:kF t=false):K7 t it v=pure ():=gW (@Jo (λo=>cond (kF o) True (K7 o it v=pure ())) t (λZ Z Z=>Iy (pure ())) (λZ Z Z=>Iy (pure ())) (λZ Z Z Z=>Iy (pure ())) (λZ Z Z=>Iy (pure ())) (λZ Z Z Z=>Iy (pure ())) (λZ Z Z Z=>Iy (pure ())) (λZ Z Z=>Iy (pure ())) (λZ Z Z=>Iy (pure ())) (λZ Z Z Z=>Iy (pure ())) (λZ Z Z Z=>Iy (pure ())) (λZ Z Z Z Z=>Iy (pure ())) (λZ Z Z Z=>Iy (pure ())) (λZ Z=>Iy (pure ())) (λZ Z=>Iy (pure ())) (λZ Z=>Iy (pure ())) (λZ Z Z Z=>Iy (pure ())) (λZ Z Z Z=>Iy (pure ())) (λZ Z Z Z=>Iy (pure ())) (λZ Z=>Iy (pure ())) (λZ Z Z=>Iy (pure ())) (λZ Z Z=>Iy (pure ())) (λZ Z Z=>Iy (pure ())) (λZ Z=>Iy (pure ())) (λZ Z=>Iy (pure ())) (λZ Z=>trivial) (λZ Z Z=>trivial) (λZ Z Z Z=>Iy (pure ()))) (aa h rfl)
theorem C5(h:kF t=true):K7 t it v=K7 (.List [] ⟨0,0,0,0⟩) it v:=condT (@Jo (λo=>cond (kF o) (K7 o it v=K7 (.List [] ⟨0,0,0,0⟩) it v) True) t (λZ Z Z=>trivial) (λZ Z Z=>trivial) (λZ Z Z Z=>trivial) (λZ Z Z=>trivial) (λZ Z Z Z=>trivial) (λZ Z Z Z=>trivial) (λZ Z Z=>trivial) (λZ Z Z=>trivial) (λZ Z Z Z=>trivial) (λZ Z Z Z=>trivial) (λZ Z Z Z Z=>trivial) (λZ Z Z Z=>trivial) (λZ Z=>trivial) (λZ Z=>trivial) (λZ Z=>trivial) (λZ Z Z Z=>trivial) (λZ Z Z Z=>trivial) (λZ Z Z Z=>trivial) (λZ Z=>trivial) (λZ Z Z=>trivial) (λZ Z Z=>trivial) (λZ Z Z=>trivial) (λZ Z=>trivial) (λZ Z=>trivial) (λZ Z=>rfl) (λZ Z Z=>rfl) (λZ Z Z Z=>trivial)) h
set_option tactic.hygienic true in
theorem uH(e:s.heap.get? I=some o)(hc:o.cls=.type n)(hn:mB.contains n=false)(q:Q () s):
 ID M A (K7 (.List [] ⟨0,0,0,0⟩) (.ref I) v) Q X s:=by
 induction v<;>first|exact Ix q|skip
 refine wL (a:=I) rfl e ?_;clear e;induction o with
 |mk cls dict data slots=>
 obtain rfl:cls=.type n:=hc;induction data<;>first|exact Ix q|skip
 rename_i vs
 refine(?_:ID _ _ (if(mB.contains n&&_)=true then _ else _) _ _ _);exact(hn)▸(Ix q)
theorem mC{C:Cx}{A:J0}{I:Jn}{s:IP}{target:JC}{v:IF}{Q:Unit->IP->Prop}{X:IF->IP->Prop}(h:∃o n,s.heap.get? I=some o/\o.cls=.type n/\mB.contains n=false)(q:Q () s):ID C.M A (K7 target (.ref I) v) Q X s:=by
 refine aP h λo n e hc hn=>?_;induction z:kF target with
 |false=>exact aa (C4 z) (Ix q)
 |true=>exact aa (C5 z) (uH e hc hn q)
def sE (C:Cx)(I:Jn)(chk:Hp->Option (List AV))(P:Nat->Wd->Prop):Prop:=∀{i:Nat} {W:Wd} {A:J0} {Q:IF->IP->Prop} {X:IF->IP->Prop},P i W->Q (.ref I) W.s->ID C.M A (pyIter (.ref I)) Q X W.s
def sF (C:Cx)(I:Jn)(chk:Hp->Option (List AV))(P:Nat->Wd->Prop):Prop:=∀{i:Nat} {W:Wd} {xs:List AV} {a:AV} {A:J0} {Q:Option IF->IP->Prop} {X:IF->IP->Prop},Ok C W->P i W->aK W I->chk W.hp=some xs->xs[i]? =some a->
 (∀v h' tk,W.s.toks<=tk->Jt I W.s.heap h'->P (i+1) (W.to {W.s with heap:=h',toks:=tk})->(∃o,h'.get? I=some o/\∀v,o.data≠.cell v)->VR (W.to {W.s with heap:=h',toks:=tk}) a v->Q (some v) {W.s with heap:=h',toks:=tk})->ID C.M A (RS (.ref I)) Q X W.s
def sG (C:Cx)(I:Jn)(chk:Hp->Option (List AV))(P:Nat->Wd->Prop):Prop:=∀{i:Nat} {W:Wd} {xs:List AV} {A:J0} {Q:Option IF->IP->Prop} {X:IF->IP->Prop},Ok C W->P i W->aK W I->A.handled=.none->chk W.hp=some xs->xs[i]? =.none->
 (∀h',N6 I W.s.heap h'->Q .none {W.s with heap:=h'})->ID C.M A (RS (.ref I)) Q X W.s
structure gB(C:Cx)(I:Jn)(chk:Hp->Option (List AV))(P:Nat->Wd->Prop):Prop where
 own:∀{i:Nat} {W:Wd},P i W->∃o n,W.s.heap.get? I=some o/\o.cls=.type n/\mB.contains n=false
 keep:∀{i:Nat} {W W1:Wd},Ok C W->P i W->aK W I->Le W W1->Ok C W1->P i W1
 self:sE C I chk P
 over:∀{i:Nat} {W W':Wd},P i W->(∀a o,W.s.heap.get? a=some o->W'.s.heap.get? a=some o)->W'.ρ=W.ρ->W'.Φ=W.Φ->W'.hp=W.hp->P i W'
 far:∀{i:Nat} {W:Wd} {s:IP} {D:Jn},Ok C W->P i W->aK W I->aK W D->D≠I->Jt D W.s.heap s.heap->P i (W.to s)
 item:sF C I chk P
 done:sG C I chk P
noncomputable def keysOf (ver:Nat)(es:List (Str×AV)×Nat):Option (List AV):=gd (IT es.2 ver) (some (es.1.map λp=>.str p.1))
noncomputable def gC (ver:Nat)(es:List (Str×AV)×Nat):Option (List AV):=gd (IT es.2 ver) (some (es.1.map (·.2)))
noncomputable def yP (x:Str):List AV:=x.cps.toList.map λc=>.str ⟨#[c]⟩
noncomputable def dR (hp:Hp)(a:AV):Option (Hp->Option (List AV)):=@AV.casesOn (λZ=>Option (Hp->Option (List AV))) a .none (λZ=>.none) (λZ=>.none)
 (λx=>gd (x.cps.all (· <128)) (some λZ=>some (yP x))) (λZ=>.none) (λxs=>some λZ=>some xs) (λxs=>some λZ=>some xs)
 (λn=>gd (decide (0<=n/\n<1000000)) (some λZ=>some ((JV n.toNat).map λj:Nat=>.int (j:Int))))
 (λk=>((hg hp k).bind AO.dict?).map λes hp=>((hg hp k).bind AO.dict?).bind (gC es.2))
 (λk=>(((hg hp k).bind AO.list?).map λZ hp=>(hg hp k).bind AO.list?).or (((hg hp k).bind AO.dict?).map λes hp=>((hg hp k).bind AO.dict?).bind (keysOf es.2)))
 (λZ=>.none) .none (λZ=>.none) (λZ=>.none) (λZ=>.none) (λZ=>.none)
section
theorem aK.at(L:aK W I)(l:Le W W1)(e:W.s.heap.get? I=some o):W1.s.heap.get? I=some o:=l.kp I o e L.m
theorem uI(L:aK W I)(sb:Jt I W.s.heap s.heap)(h:aF W xs vs):aF (W.to s) xs vs:=
 ⟨h.1,λi x v a b=>VR.mono (W:=W) (W':=W.to s) (λZ h=>h) (λa o q e=>(sb.2 a λz=>L.φ (z▸q)).trans e) (λZ o h=>⟨⟨o,h⟩,rfl⟩) (h.2 i x v a b)⟩
theorem uJ(L:aK W I)(sb:Jt I W.s.heap s.heap)(h:VR W x v):VR (W.to s) x v:=
 VR.mono (W:=W) (W':=W.to s) (λZ h=>h) (λa o q e=>(sb.2 a λz=>L.φ (z▸q)).trans e) (λZ o h=>⟨⟨o,h⟩,rfl⟩) h
theorem uK{W W'}(kp:∀a o,W.s.heap.get? a=some o->W'.s.heap.get? a=some o)(a:W'.ρ=W.ρ)(b:W'.Φ=W.Φ)(c:W'.hp=W.hp){xs}{vs}(h:aF W xs vs):aF W' xs vs:=
 ⟨h.1,λi x v q1 q2=>VR.mono (W':=W') (λZ h=>aa b h) (λa o Z e=>kp a o e) (λk o h=>⟨⟨o,aa c h⟩,aa a rfl⟩) (h.2 i x v q1 q2)⟩
theorem iR(n:D≠I)(sb:Jt D h h')(e:h.get? I=some o):h'.get? I=some o:=(sb.2 I (Kr n)).trans e
def bK (h:Mk)(I:Jn)(c:String)(d:Sj):Prop:=∃o,h.get? I=some o/\o.cls=.type c/\o.data=d
theorem bK.own(x:bK h I c d)(q:mB.contains c=false):∃o n,h.get? I=some o/\o.cls=.type n/\mB.contains n=false:=af x λo x=>⟨o,c,x.1,x.2.1,q⟩
theorem bK.to(x:bK h I c d)(f:∀o,h.get? I=some o->h'.get? I=some o):bK h' I c d:=af x λo x=>⟨o,f o x.1,x.2⟩
theorem bK.nc(x:bK h I c (.fields l)):∃o,h.get? I=some o/\∀v,o.data≠.cell v:=af x λo x=>⟨o,x.1,λv e=>L5 (x.2.2.symm.trans e)⟩
inductive GK(C:Cx)(I l:Jn)(c:String)(B:Mk->Array IF->Prop)(xs:List AV)(i:Nat)(W:Wd):Prop
 |mk {vs:List IF}:bK W.s.heap I c (.fields #[.ref l,.int i 0])->W.Φ l->B W.s.heap vs.toArray->aF W xs vs->GK C I l c B xs i W
theorem uL(q:mB.contains c=false)(hB:∀{h h' vs},B h vs->(∀o,h.get? l=some o->h'.get? l=some o)->B h' vs)
 (hs:∀{i A s} {Q X:IF->IP->Prop},bK s.heap I c (.fields #[.ref l,.int (i:Nat) 0])->Q (.ref I) s->ID C.M A (pyIter (.ref I)) Q X s)
 (hi:∀{i A s vs x} {Q:Option IF->IP->Prop} {X:IF->IP->Prop},bK s.heap I c (.fields #[.ref l,.int (i:Nat) 0])->B s.heap vs->vs[i]? =some x->(∀h',bK h' I c (.fields #[.ref l,.int ((i+1:Nat):Int) 0])->Jt I s.heap h'->Q (some x) {s with heap:=h'})->ID C.M A (RS (.ref I)) Q X s)
 (hd:∀{i A s vs} {Q:Option IF->IP->Prop} {X:IF->IP->Prop},A.handled=.none->bK s.heap I c (.fields #[.ref l,.int (i:Nat) 0])->B s.heap vs->vs[i]? =.none->(∀h',N6 I s.heap h'->Q .none {s with heap:=h'})->ID C.M A (RS (.ref I)) Q X s):gB C I (λZ=>some xs) (GK C I l c B xs)where
 own:=λx=>x.casesOn λe Z Z Z=>e.own q
 keep:=λO x L f O1=>x.casesOn λe p b v=>.mk (e.to λo e=>L.at f e) (f.φ _ p) (hB b λo e=>O.fzKeep f _ _ p e) (O.vrs f v)
 self:=λx k=>x.casesOn λe Z Z Z=>hs e k
 over:=λx kp a b c=>x.casesOn λe p h v=>.mk (e.to (kp _)) (b▸p) (hB h (kp _)) (uK kp a b c v)
 far:=λO x L LD n sb=>x.casesOn λe p b v=>.mk (e.to λo e=>iR n sb e) p (hB b λo e=>(sb.2 _ λz=>LD.φ (z▸p)).trans e) (uI LD sb v)
 item:=λO x L hc hx k=>x.casesOn λ{vs} e p b v=>ae (v.at (Iw hc▸hx)) λw q1 q2=>hi e b (aa Jq q1) λh' e sb=>k w h' _ (IC _) sb (.mk e p (hB b λo e=>(sb.2 _ λz=>L.φ (z▸p)).trans e) (uI L sb v)) e.nc (uJ L sb q2)
 done:=λO x L hh hc hx k=>x.casesOn λ{vs} e p b v=>hd hh e b (aa Jq (aa (propext Ji) (an v.1 (aa (Iw hc) (Ji.mp hx))))) k
theorem yQ:gB C I (λZ=>some xs) (GK C I l "list_iterator" (λh vs=>h.IsList l vs) xs):=
 uL rfl (λb f=>af b λo b=>⟨o,f o b.1,b.2⟩) PS NN NR
theorem C6:gB C I (λZ=>some xs) (GK C I l "tuple_iterator" (λh vs=>h.IsTuple l vs) xs):=
 uL rfl (λb f=>af b λo b=>⟨o,f o b.1,b.2⟩) wpAny_pyIter_tupleiter wpAny_pyNext_tuple_item wpAny_pyNext_tuple_end
theorem yR:gB C I (λhp=>(hg hp k).bind AO.list?) λi W=>(∃o,(k,o)∈W.hp)/\W.s.heap.IsListIter I (W.ρ k) i where
 own:=λx=>bK.own x.2 rfl
 keep:=λ{i W W1} O x L l O1=>af x.1 λo hm=>⟨(l.ky k o hm).1,bK.to (h':=W1.s.heap) ((l.ky k o hm).2▸x.2) λo e=>L.at l e⟩
 self:=λx q=>PS x.2 q
 over:=λ{i W W'} x kp a b c=>⟨c▸x.1,bK.to (h':=W'.s.heap) (a▸x.2) (kp _)⟩
 far:=λO x L LD n sb=>⟨x.1,bK.to x.2 λo e=>iR n sb e⟩
 item:=λ{i W xs a A Q X} O x L hc hx kk=>ag hc λo q1 q2=>ae (list?_is q2▸O.cell k o (aG q1):OR C W (W.ρ k) (.list xs)) λvs h2 v=>ae (v.at hx) λw z1 z2=>NN x.2 h2.isList (aa Jq z1) λh' hi sb=>kk w h' _ (IC _) sb ⟨x.1,hi⟩ (bK.nc hi) (uJ L sb z2)
 done:=λ{i W xs A Q X} O x L hh hc hx kk=>ag hc λo q1 q2=>ae (list?_is q2▸O.cell k o (aG q1):OR C W (W.ρ k) (.list xs)) λvs h2 v=>NR hh x.2 h2.isList (aa Jq (aa (propext Ji) (an v.1 (Ji.mp hx)))) kk
theorem C7:gB C I (λZ=>some ((JV n).map λj:Nat=>AV.int (j))) λi W=>i<=n/\IsRangeIter W.s.heap I i ((n)-i) 1 where
 own:=λx=>⟨_,_,x.2,rfl,rfl⟩
 keep:=λO x L l O1=>⟨x.1,L.at l x.2⟩
 self:=λx q=>wpAny_pyIter_rangeiter x.2 q
 over:=λx kp a b c=>⟨x.1,kp _ _ x.2⟩
 far:=λO x L LD n sb=>⟨x.1,iR n sb x.2⟩
 item:=λ{i W xs' a A Q X} O x L hc hx k=>by
  rw[<-Iw hc,I9]at hx;refine aH hx λj q e=>?_;have hi:=(Jm.mp q).1;rw[Kb]at hi;rw[Qy hi]at q;refine wpAny_pyNext_range_item x.2 (Int.sub_pos_of_lt (KJ.mpr hi)) λh' SJ sb=>k (.int i W.s.toks) h' (W.s.toks+1) (IL _) sb ⟨hi,?_⟩ ⟨_,SJ,λv z=>L5 z⟩ (e▸Iw q▸.int);refine aa (show(i+1:Nat)=(i:Int)+1 from rfl) (an (P0 _ _ _) ?_);exact SJ
 done:=λ{i W xs' A Q X} O x L hh hc hx k=>wpAny_pyNext_range_end hh x.2 (Int.sub_nonpos_of_le (JY.mpr (by
  rw[<-Iw hc,Ji,Iz,Kb]at hx;exact hx))) k
theorem C8:gB C I (λZ=>some (yP x)) λi W=>W.s.heap.IsStrIter I "str_ascii_iterator" x t i where
 own:=λx=>bK.own x rfl
 keep:=λO x L l O1=>bK.to x λo e=>L.at l e
 self:=λh q=>wpAny_pyIter_striter_ascii h q
 over:=λx kp a b c=>bK.to x (kp _)
 far:=λO x L LD n sb=>bK.to x λo e=>iR n sb e
 item:=λ{i W xs' a A Q X} O h1 L hc hx k=>by
  rw[<-Iw hc]at hx;refine aH (I9.symm.trans hx) λc q1 e=>?_;exact Pz h1 (an K8 q1) λh' hi sb=>k _ h' (W.s.toks+1) (IL _) sb hi (bK.nc hi) (e▸.str)
 done:=λ{i W xs' A Q X} O h1 L hh hc hx k=>by
  rw[<-Iw hc]at hx;exact PI hh h1 (an K8 (PD.mp (I9.symm.trans hx))) k
theorem sH(h:Rh (sk C) l kvs)(h':Rh (sk C) l SL):kvs=SL:=by
 induction h generalizing SL with
 |nil=>
  cases h'
  rfl
 |cons a b c ih=>
  cases h' with
  |cons a' b' c'=>exact af (Lu a) λt e=>af (Lu a') λt' e'=>aa (ih c') (aa (Pt (IF.str.inj (e.symm.trans e')).1 (b.symm.trans b')) rfl)
def dA (C:Cx)(k ver:Nat)(W:Wd)(kvs:List (Str×IF))(ep:Nat):Prop:=(∃es n,(k,.dict es n)∈W.hp/\ver<=n)/\∀es,(k,.dict es ver)∈W.hp->W.s.heap.DictAt (sk C) (W.ρ k) kvs ep
theorem dA.keep(O:Ok C W)(O1:Ok C W1)(l:Le W W1)(h:dA C k ver W kvs ep):dA C k ver W1 kvs ep:=by refine cU λg1=>?_;obtain⟨⟨es,n,hm,hn⟩,h2⟩:=h;refine aP (l.ver k es n hm) λSy n' h3 h4 h5=>g1 ⟨⟨Sy,n',h3,Iu hn h4⟩,λes1 hm1=>?_⟩;refine cU λg2=>?_;have:=jH O1.nd hm1 h3;cases this;have en:n=ver:=LO h4 hn;clear h3 h4 hm1 hn;subst en;exact be (h2 es hm) λo e ho r=>g2 (aa ((l.ky k _ hm).2) ⟨o,e,by refine aa (h5 rfl) ?_;exact ho,r⟩)
theorem dA.over{W W'}{k ver ep}{kvs}(h:dA C k ver W kvs ep)(kp:∀a o,W.s.heap.get? a=some o->W'.s.heap.get? a=some o)(a:W'.ρ=W.ρ)(b:W'.Φ=W.Φ)(c:W'.hp=W.hp):dA C k ver W' kvs ep:=by refine⟨by refine aa c ?_;exact h.1,λes hm=>?_⟩;refine cU λg1=>?_;rw[c]at hm;exact be (h.2 es hm) λo e ho r=>g1 ⟨o,e,by refine aa a ?_;exact kp _ _ ho,r⟩
theorem dA.to(L:aK W I)(sb:Jt I W.s.heap s.heap)(h:dA C k ver W kvs ep):dA C k ver (W.to s) kvs ep:=by refine⟨h.1,λes hm=>?_⟩;exact cU λg1=>be (h.2 es hm) λo e ho r=>g1 ⟨o,e,(sb.2 _ λz=>L.m (.inr ⟨k,_,hm,z.symm⟩)).trans ho,r⟩
theorem dA.at(O:Ok C W)(h:dA C k ver W kvs ep)(e:(hg W.hp k).bind AO.dict?=some es)(ev:IT es.2 ver=true):
 W.s.heap.DictAt (sk C) (W.ρ k) kvs ep/\kvs.map (·.1)=es.1.map (·.1)/\aF W (es.1.map (·.2)) (kvs.map (·.2)):=by
 refine ag e λo q1 q2=>cU λg1=>?_;obtain rfl:=dict?_is q2;obtain hm:=aG q1;have D:=h.2 es.1 (IY ev▸hm);refine cm (O.cell k _ hm) λSL Sn k1 k2=>?_;rcases Sn with⟨⟨o,e1,ep1,ho,hc,hd,hk,hp,hn⟩,Z⟩
 refine bw (id D) λo' e' Sm=>iI Sm λSA SV Sz T1 Sp Un=>?_;rw[ho]at SA;(replace SA:=Iw SA;clear SV;subst SA);rw[hd]at Sz;cases Sz;clear h Un Sm;obtain rfl:=sH hp Sp;exact g1 ⟨D,k1,k2⟩
noncomputable def dF (d:Jn)(i n ep:Nat):Sj:=.fields #[.ref d,.int i 0,.int n 0,.int ep 0]
inductive GL(C:Cx)(I:Jn)(k ver:Nat)(c:String)(i:Nat)(W:Wd):Prop
 |mk:bK W.s.heap I c (dF (W.ρ k) i kvs.length ep)->dA C k ver W kvs ep->GL C I k ver c i W
theorem qT(q:mB.contains c=false)
 (hs:∀{d i n ep A s} {Q X},bK s.heap I c (dF d i n ep)->Q (.ref I) s->ID C.M A (pyIter (.ref I)) Q X s)
 (hi:∀{W:Wd} {i ep:Nat} {A} {kvs:List (Str×IF)} {es:List (Str×AV)} {a} {Q:Option IF->IP->Prop} {X:IF->IP->Prop},bK W.s.heap I c (dF (W.ρ k) i kvs.length ep)->W.s.heap.DictAt (sk C) (W.ρ k) kvs ep->kvs.map (·.1)=es.map (·.1)->aF W (es.map (·.2)) (kvs.map (·.2))->(es.map m)[i]? =some a->aK W I->
  (∀v h',bK h' I c (dF (W.ρ k) (i+1) kvs.length ep)->Jt I W.s.heap h'->VR (W.to {W.s with heap:=h',toks:=W.s.toks}) a v->Q (some v) {W.s with heap:=h'})->ID C.M A (RS (.ref I)) Q X W.s)
 (hd:∀{d i ep A s} {kvs} {Q} {X},A.handled=.none->bK s.heap I c (dF d i kvs.length ep)->s.heap.DictAt (sk C) d kvs ep->kvs[i]? =.none->(∀h',N6 I s.heap h'->Q .none {s with heap:=h'})->ID C.M A (RS (.ref I)) Q X s):gB C I (λhp=>((hg hp k).bind AO.dict?).bind λes=>gd (IT es.2 ver) (some (es.1.map m))) (GL C I k ver c)where
 own:=λx=>x.casesOn λe Z=>e.own q
 keep:=λ{i W W1} O x L l O1=>x.casesOn λ{kvs ep} e d=>.mk (bK.to (h':=W1.s.heap) (bw d.1 (λes n h=>(l.ky k _ h.1).2)▸e) λo e=>L.at l e) (d.keep O O1 l)
 self:=λx q=>x.casesOn λe Z=>hs e q
 over:=λ{i W W'} x kp a b c=>x.casesOn λe d=>.mk (bK.to (h':=W'.s.heap) (a.symm▸e) (kp _)) (d.over kp a b c)
 far:=λO x L LD n sb=>x.casesOn λe d=>.mk (e.to λo e=>iR n sb e) (d.to LD sb)
 item:=λO x L hc hx kk=>x.casesOn λe d=>ag hc λes q1 q2=>aR q2 λev q3=>am (d.at O q1 ev) λD k1 k2=>hi e D k1 k2 (Iw q3▸hx) L λv h' e sb r=>kk v h' _ (IC _) sb (.mk e (d.to L sb)) e.nc r
 done:=λO x L hh hc hx kk=>x.casesOn λ{kvs ep} e d=>ag hc λes q1 q2=>aR q2 λev q3=>am (d.at O q1 ev) λD k1 k2=>hd hh e D (Ji.mpr (by
  have e1:=congrArg Kn k1;rw[<-Iw q3,Ji,Iz]at hx;rw[Iz,Iz]at e1;exact e1▸hx)) kk
theorem yS:gB C I (λhp=>((hg hp k).bind AO.dict?).bind (keysOf ver)) (GL C I k ver "dict_keyiterator"):=
 qT rfl wpAny_pyIter_keyiter (λ{W i ep A kvs es a Q X} e D k1 k2 hx L kk=>aH (I9.symm.trans hx) λp z1 ea=>
  aH (an I9 (aa k1 (aa I9 (aa z1 rfl)))) λkv z2 ek=>wpAny_pyNext_dict_item e D z2 λkey h' hk SJ sb=>
   af (Lu hk) λt q=>kk key h' SJ sb (aa q (an ea (aa ek .str)))) wpAny_pyNext_dict_end
theorem yT:gB C I (λhp=>((hg hp k).bind AO.dict?).bind (gC ver)) (GL C I k ver "dict_valueiterator"):=
 qT rfl wpAny_pyIter_valiter (λe D k1 k2 hx L kk=>ae (k2.at hx) λw z1 z2=>aH (I9.symm.trans z1) λp z3 ew=>wpAny_pyNext_values_item e D z3 λh' SJ sb=>kk _ h' SJ sb (uJ L sb (ew.symm▸z2))) wpAny_pyNext_values_end
inductive kX(hp:Hp)(chk:Hp->Option (List AV)):AV->Prop
 |str (h:x.cps.all (· <128)=true) (e:(λZ=>some (yP x))=chk):kX hp chk (.str x)
 |tup (e:(λZ=>some xs)=chk):kX hp chk (.tup xs)
 |lst (e:(λZ=>some xs)=chk):kX hp chk (.lst xs)
 |rng (h:decide (0<=n/\n<1000000)=true) (e:(λZ=>some ((JV n.toNat).map λj:Nat=>.int (j:Int)))=chk):kX hp chk (.rng n)
 |vals (h:(hg hp k).bind AO.dict?=some es) (e:(λhp=>((hg hp k).bind AO.dict?).bind (gC es.2))=chk):kX hp chk (.vals k)
 |cell (h:(hg hp k).bind AO.list?=some xs) (e:(λhp=>(hg hp k).bind AO.list?)=chk):kX hp chk (.ref k)
 |keys (h:(hg hp k).bind AO.dict?=some es) (e:(λhp=>((hg hp k).bind AO.dict?).bind (keysOf es.2))=chk):kX hp chk (.ref k)
theorem uM(e:dR hp a=some chk):kX hp chk a:=by
 cases a with
 |str x=>exact aR e λh q=>.str h (Iw q)
 |tup xs=>exact .tup (Iw e)
 |lst xs=>exact .lst (Iw e)
 |rng n=>exact aR e λh q=>.rng h (Iw q)
 |vals k=>exact aH e λes h q=>.vals h q
 |ref k=>exact bt e (λe=>aH e λxs h q=>.cell h q) λe=>aH e λes h q=>.keys h q
 |_=>exact nn e
theorem iS(O:Ok C W)(e:dR W.hp a=some chk)(hu:VR W a u)
 (k:∀W' P,Step C W W'->(∃o,W'=W.to {W.s with heap:=W.s.heap.push o})->aK W' W.s.heap.objs.size->gB C W.s.heap.objs.size chk P->P 0 W'->Q (.ref W.s.heap.objs.size) W'.s):ID C.M A (pyIter u) Q X W.s:=by
 have fin:∀(o:Obj) (vs:Array IF) (P:Nat->Wd->Prop),o.isFreed=false->o.data=.fields vs->gB C W.s.heap.objs.size chk P->(Step C W (W.to {W.s with heap:=W.s.heap.push o})->P 0 (W.to {W.s with heap:=W.s.heap.push o}))->Q (.ref W.s.heap.objs.size) {W.s with heap:=W.s.heap.push o}:=
  λo vs P h1 h2 h3 h4=>ad (O.lone h1 (λv=>by exact aa h2 (λz=>nomatch z))) λS L=>k _ P S ⟨o,rfl⟩ L h3 (h4 S)
 have new:∀o:Obj,o.isFreed=false->(W.s.heap.push o).get? W.s.heap.objs.size=some o:=λo h=>IW _ h
 revert hu
 refine kX.casesOn (uM e) (λ{x} h q hu=>?_) (λ{xs} q hu=>?_) (λ{xs} q hu=>?_) (λ{n} h q hu=>?_) (λ{j es} h q hu=>?_) (λ{j xs} h q hu=>?_) λ{j es} h q hu=>?_
 . exact af hu.str' λt Sq=>aa Sq (Q3 h (fin _ _ _ rfl rfl (q▸C8) λS=>⟨_,new _ rfl,rfl,rfl⟩))
 . exact bJ hu.tup' λl vs Sn p ht hx=>aa Sn (wpAny_pyIter_tuple ht (fin _ _ _ rfl rfl (q▸C6) λS=>.mk ⟨_,new _ rfl,rfl,rfl⟩ p (ht.push _) (O.vrs (S.le O) hx)))
 . exact bJ hu.lst' λl vs Sn p ht hx=>aa Sn (NM ht (fin _ _ _ rfl rfl (q▸yQ) λS=>.mk ⟨_,new _ rfl,rfl,rfl⟩ p (ht.push _) (O.vrs (S.le O) hx)))
 . refine ad (of_decide_eq_true h) λh1 h2=>E7 hu.i λa t u v Sn p hr=>aa Sn ?_;have sz:Nj 0 n 1=n:=by
    unfold Nj;refine aa (if_pos (by decide)) ?_;by_cases h0:0<n
    . exact aa (if_pos h0) (aa (Int.ediv_one _) ((LF _ _).trans (Nx n)))
    . exact aa (if_neg h0) (M5 h1 (M9.mp h0))
   refine wpAny_pyIter_range hr ?_ (fin _ _ _ rfl rfl (q▸C7) λS=>⟨JG _,?_⟩)
   . unfold Jl.Range.small;refine aa sz ?_;have f:∀z:Int,0<=z->z<1000001->Om z=true:=λz a b=>by unfold Om;simp;exact⟨JK (by decide) a,MO b (by decide)⟩
     refine aa (f 0 (by decide) (by decide)) (aa (f n h1 (MO h2 (by decide))) (aa (f 1 (by decide) (by decide)) (aa (if_pos (by decide)) (aa (Lf n:n+(1-1)=n) (aa (f n h1 (MO h2 (by decide))) ?_)))));simp
   . have:=new {cls:=.type "range_iterator",data:=.fields #[L9 0,L9 (Nj 0 n 1),L9 1]} rfl;rw[sz]at this⊢;refine(?_:(W.s.heap.push _).get? _=_);refine aa this (aa (KC h1:(n.toNat:Nat)=n) ?_);simp
 . refine bJ hu.i λo a Sn p hm hv=>aa Sn (ag h λob q2 q3=>?_);rw[dict?_is q3]at q2;exact cm (O.cell j _ (aG q2)) λkvs hd k1 k2=>af hd.1.dictAt λep hd=>QD hv hd (fin _ _ _ rfl rfl (q▸yT) λS=>.mk ⟨_,new _ rfl,rfl,rfl⟩ ⟨⟨es.1,es.2,aG q2,IC _⟩,λZ Z=>hd.push _⟩)
 . refine aa hu.ref'.1 (ag h λob q2 q3=>?_);rw[list?_is q3]at q2;exact ae (O.cell j _ (aG q2)) λvs ht hx=>NM ht.isList (fin _ _ _ rfl rfl (q▸yR) λS=>⟨⟨_,aG q2⟩,_,new _ rfl,rfl,rfl⟩)
 . refine aa hu.ref'.1 (ag h λob q2 q3=>?_);rw[dict?_is q3]at q2;exact cm (O.cell j _ (aG q2)) λkvs hd k1 k2=>af hd.1.dictAt λep hd=>wpAny_pyIter_dict (yx O (aG q2)) hd (fin _ _ _ rfl rfl (q▸yS) λS=>.mk ⟨_,new _ rfl,rfl,rfl⟩ ⟨⟨es.1,es.2,aG q2,IC _⟩,λZ Z=>hd.push _⟩)
end
noncomputable def noX:XK:=λZ Z=>False
section
variable (T:Tb)(E:jw)(ct:Ct)(Xk:XK)
noncomputable def yU:List JC->List AV->St->(St->Prop)->Prop
 |[],[],s,K=>K s
 |e::r,v::vs,s,K=>md e λx Z=>aj false (gd (cx ct x) (some ())) λZ=>yU r vs (st s.1 x v,s.2) K
 |_,_,_,_=>False
def ib (t:JC)(v:AV)(s:St)(K:St->Prop):Prop:=yk t
 (λx Z=>aj false (gd (cx ct x) (some ())) λZ=>K (st s.1 x v,s.2))
 (λo a p=>E.ev ct Xk o s λov s1=>aj (T.sym p) (gz T ov a v s1.2) λhp=>K (s1.1,hp))
 (λo i p=>E.ev ct Xk o s λov s1=>E.ev ct Xk i s1 λiv s2=>aj (T.sym p) (uC s2.2 ov iv v) λhp=>K (s2.1,hp))
 (λes Z p=>aj false (gd ct.calm (some ())) λZ=>aj (T.sym p) v.tup? λxs=>yU ct es xs s K)
 (λZ Z Z Z=>False) (λZ Z Z Z=>False)
noncomputable def aV (c:JC)(b e:List Ld)(p:Pos):Nat->St->(aD->St->Prop)->Prop
 |0,_,_=>False
 |m+1,s,K=>E.tr ct noX c (tidy T p s) λt s1=>ask (T.sym p) t λt=>match t with
  |true=>E.exs ct noX b s1 λf s2=>match f with
   |.next=>aV c b e p m s2 K
   |.cont=>aV c b e p m s2 K
   |.brk=>K .next s2
   |.ret a=>K (.ret a) s2
  |false=>E.exs ct noX e s1 K
noncomputable def mD (t:JC)(b e:List Ld)(p:Pos)(chk:Hp->Option (List AV)):Nat->Nat->St->(aD->St->Prop)->Prop
 |0,_,_,_=>False
 |m+1,i,s,K=>aj (T.sym p) (chk s.2) λxs=>match xs[i]? with
  |some v=>ib T E ct noX t v (tidy T p s) λs1=>E.exs ct noX b s1 λf s2=>match f with
   |.next=>mD t b e p chk m (i+1) s2 K
   |.cont=>mD t b e p chk m (i+1) s2 K
   |.brk=>K .next s2
   |.ret a=>K (.ret a) s2
  |.none=>E.exs ct noX e (tidy T p s) K
def Fk (t it:JC)(b e:List Ld)(p:Pos)(s:St)(K:aD->St->Prop):Prop:=aj false (gd (ct.calm&& !e_ it) (some ())) λZ=>E.ev ct Xk it s λa s1=>aj (T.sym p) (dR s1.2 a) λchk=>∃m,mD T E ct t b e p chk m 0 s1 K
end
theorem eM.noX(g:eM C n ct A env W Xk X):eM C n ct A env W Internal.noX X':=⟨g.v,g.r,g.c,g.t,λZ Z h=>h.elim⟩
section
theorem mE{es}{vs}{s}{K}(e:yU ct es vs s K):(Nd es env).length=vs.length/\(Nd es env).findIdx? (·.1)=none:=by
 induction es generalizing vs s with
 |nil=>cases vs with
  |nil=>exact⟨rfl,rfl⟩
  |cons v vs=>exact e.elim
 |cons x r ih=>cases vs with
  |nil=>exact e.elim
  |cons v vs=>
   obtain⟨y,py,rfl,e1⟩:=dL e
   (haveI e:=(ao e1).2)
   (haveI h1:=(ih e).1;haveI h2:=(ih e).2)
   refine⟨congrArg (· +1) h1,?_⟩;refine(?_:List.findIdx? _ ((false,_)::Nd r env)=none);exact aa List.findIdx?_cons (aa h2 rfl)
theorem oO(O:Ok C W)(V:bP ct W env){es}{as}{vs}{K}{Q}(e:yU ct es as (W.loc,W.hp) K)(hv:aF W as vs)
 (k:∀s,K s->∀W',Le W W'->Ok C W'->s=(W'.loc,W'.hp)->Q () W'.s):ID C.M A (assignInOrder ((Nd es env).map (·.2)) vs) Q X W.s:=by
 induction es generalizing W as vs K with
 |nil=>cases as with
  |nil=>exact aa hv.inv_nil (Ix (k _ e W (Le.refl W) O rfl))
  |cons v as=>exact e.elim
 |cons x r ih=>cases as with
  |nil=>exact e.elim
  |cons a as=>refine aP hv.inv λv vs Sn h1 h2=>?_;refine aa Sn ?_;obtain⟨y,py,rfl,e1⟩:=dL e;refine ad (ao e1) λhs e=>Ir (I1 (NK (cM O V hs h1 λW1 l1 O1 q1=>?_)));rw[q1]at e;exact ih O1 (V.le l1) e (O.vrs l1 h2) λs h W2 l2 O2 q2=>k s h W2 (l1.trans O1 l2) O2 q2
theorem cz(S:bh C n E)(O:Ok C W)(G:eM C n ct A env W Xk X)(T0:bd C T){t}{a}{v}{K}{Q}(e:ib T E ct Xk t a (W.loc,W.hp) K)(hv:VR W a v)
 (k:∀s,K s->∀W',Le W W'->Ok C W'->s=(W'.loc,W'.hp)->Q () W'.s):ID C.M A (RO t env v) Q X W.s:=by
 induction dK e with
 |nm x p q e1=>refine aa q ?_;clear e;have e:=e1;exact ad (ao e) λhs e=>NK (cM O G.v hs hv λW1 l1 O1 q1=>k _ e W1 l1 O1 q1)
 |at_ o a p q e1=>refine aa q ?_;clear e;refine aa (assign_Attribute _ _ _ _) (Ir (I1 (S.ev O G e1 λo s1 h1 u W1 l1 O1 r1 q1=>Ir (Km (Ir (I1 ?_))))));subst q1;exact cw h1 λhp h2 h3=>iP O1 T0 h2 r1 (O.vr l1 hv) λW2 l2 O2 q2=>wpAny_release (k _ h3 W2 (l1.trans O1 l2) O2 q2)
 |sub o i p q e1=>refine aa q ?_;clear e;refine aa (arm_assign_Subscript _ _ _ _ _) (Ir (I1 (S.ev O G e1 λo s1 h1 u W1 l1 O1 r1 q1=>Ir (I1 ?_))));subst q1;refine S.ev O1 (G.le O1 l1) h1 λi s2 h2 w W2 l2 O2 r2 q2=>Ir (Km (Ir (I1 ?_)));subst q2;refine cw h2 λhp h3 h4=>?_;haveI L:=l1.trans O1 l2;exact oL O2 h3 (O1.vr l2 r1) r2 (O.vr L hv) λW3 l3 O3 q3=>wpAny_release (k _ h4 W3 (L.trans O2 l3) O3 q3)
 |tup es n p q e1=>
  refine aa q ?_;clear e;haveI e:=e1;refine ad (ao e) λhc e=>cw e λxs h1 e2=>?_;obtain rfl:=tup?_is h1;refine bJ hv.tup' λd vs Sn Z ht hx=>?_;clear hv;refine aa Sn ?_
  (haveI n1:=(mE (env:=env) e2).1;haveI n2:=(mE (env:=env) e2).2)
  refine assign_Tuple_tuple (G.c hc) ht (by exact aa n1 (aa hx.1 (aa Jk rfl))) n2 λh' he=>?_;have St:=O.grown (s:={W.s with heap:=h'}) (λa o e=>he a o (KK (Jz e)) e) (IC _) rfl rfl;exact oO (St.ok O) (G.v.le (St.le O)) e2 (O.vrs (St.le O) hx) λs h W2 l2 O2 q2=>k s h W2 ((St.le O).trans (St.ok O) l2) O2 q2
 |lc Z Z Z Z Z e=>exact e.elim
 |call Z Z Z Z Z e=>exact e.elim
@[elab_as_elim] theorem FR.see {W} {motive:aD->R8->Prop} {f} {fl:R8} (h:FR W f fl) (n:motive .next .next) (c:motive .cont .cont) (b:motive .brk .brk) (r:∀a v,VR W a v->motive (.ret a) (.ret v)):motive f fl:=by
 induction f with
 |next=>refine aa h ?_;exact n
 |cont=>refine aa h ?_;exact c
 |brk=>refine aa h ?_;exact b
 |ret a=>exact ae h λv e hv=>e▸r a v hv
section
variable (C T E ct)
inductive WL(c:JC)(b e:List Ld)(p:Pos)(K:aD->St->Prop)(W:Wd)(m:Nat):IP->Prop
 |mk:Le W W1->Ok C W1->aV T E ct c b e p m (W1.loc,W1.hp) K->WL c b e p K W m W1.s
inductive FL(t:JC)(b e:List Ld)(p:Pos)(chk:Hp->Option (List AV))(K:aD->St->Prop)(W:Wd)(I:Jn)(P:Nat->Wd->Prop)(m:Nat):IP->Prop
 |mk:Le W W1->Ok C W1->aK W1 I->P i W1->mD T E ct t b e p chk m i (W1.loc,W1.hp) K->FL t b e p chk K W I P m W1.s
end
variable (S:bh C n E)(O:Ok C W)(G:eM C n ct A env W Xk X){K:aD->St->Prop}
include S O G
theorem kY{m}(h:aV T E ct c b e p m (W.loc,W.hp) K)(k:∀a st,K a st->fb C W a st Q):ID C.M A (exec (.While c b e p') env) Q X W.s:=by
 refine wpAny_While (codeAny_whileLoop (WL C T E ct c b e p K W) (λm s q=>?_) m (.mk (Le.refl W) O h));refine WL.casesOn q λ{W0} l0 O0 h1=>?_;clear q;induction m with
 |zero=>exact h1.elim
 |succ m=>
  haveI l1:=l0.trans O0 (W0.tidy_le T p);have O1:=Wd.tidy_ok T p O0;haveI h1:E.tr ct noX c (tidy T p (W0.loc,W0.hp)) _:=h1;rw[W0.tidy_st]at h1;refine S.tr (W:=W0.tidy T p) O1 ((G.le O1 l1).noX) h1 λt s2 h2 W2 l2 O2 q2=>?_;replace h2:=gx (q2▸h2);have L:=l1.trans O1 l2;induction t with
  |false=>exact S.exs O2 ((G.le O2 L).noX) h2 λf s3 h3=>(k f s3 h3).later O2 L
  |true=>
   refine S.exs O2 ((G.le O2 L).noX) h2 λf s3 h3 fl W3 l3 O3 r3 q3=>?_;have L3:=L.trans O2 l3;haveI h3:=q3▸h3
   revert h3
   exact FR.see r3 (λh3=>⟨m,I6 m,.mk L3 O3 h3⟩) (λh3=>⟨m,I6 m,.mk L3 O3 h3⟩) (λh3=>k _ _ h3 .next W3 L3 O3 rfl rfl) λa v hv h3=>k _ _ h3 (.ret v) W3 L3 O3 ⟨v,rfl,hv⟩ rfl
theorem oP(T0:bd C T)(h:Fk T E ct Xk t it b e p (W.loc,W.hp) K)(k:∀a st,K a st->fb C W a st Q):ID C.M A (exec (.For t it b e p') env) Q X W.s:=by
 refine ad (ao h) λhc h=>bc hc λhc hset=>wpAny_For (S.ev O G h λa s1 h1 u W1 l1 O1 r1 q1=>?_) (iK hset);haveI h1:=q1▸h1;refine jM h1 λchk h2 h3=>af h3 λm h3=>iS O1 h2 r1 λW2 P St q2 L2 It p0=>?_;have I0:W.s.heap.get? W1.s.heap.objs.size=.none:=by
  induction q:W.s.heap.get? W1.s.heap.objs.size with
  |none=>rfl
  |some o=>exact af (O1.stays l1 q) λo' z=>nn ((cV _).symm.trans z)
 refine codeAny_forLoop_any (FL C T E ct t b e p chk K W W1.s.heap.objs.size P) (λm s q=>?_) m (.mk (W1:=W2) (l1.trans O1 (St.le O1)) (St.ok O1) L2 p0 (af q2 λoI e=>by exact aa e h3));refine FL.casesOn q λ{W0 i} l0 O0 L0 p0 h4=>?_;clear q;induction m with
 |zero=>exact h4.elim
 |succ m=>
  refine jM h4 λxs h5 h6=>?_;rw[W0.tidy_st]at h6;haveI l3:=l0.trans O0 (W0.tidy_le T p);have O3:=Wd.tidy_ok T p O0;have L3:aK (W0.tidy T p) W1.s.heap.objs.size:=⟨L0.m,L0.φ,L0.d⟩
  haveI p3:P i (W0.tidy T p):=It.over p0 (λZ Z e=>e) rfl rfl rfl;refine uq (o:=xs[i]?) (λhx=>?_) λa hx=>?_
  . rw[hx]at h6;exact It.done (W:=W0.tidy T p) O3 p3 L3 (G.c hc) h5 hx λh' he=>am (L3.set O3 (s:={(W0.tidy T p).s with heap:=h'}) he (IC _) rfl rfl) λO4 Z l4=>S.exs O4 ((G.le O4 (l4 W l3 I0)).noX) h6 λf s3 h7=>(k f s3 h7).later O4 (l4 W l3 I0)
  . rw[hx]at h6;refine It.item (W:=W0.tidy T p) O3 p3 L3 h5 hx λv h' tk htk sb p4 hd r4=>am (L3.set O3 (s:={(W0.tidy T p).s with heap:=h',toks:=tk}) sb.extBut htk rfl rfl) λO4 Z l4=>?_;have L4:aK ((W0.tidy T p).to {(W0.tidy T p).s with heap:=h',toks:=tk}) W1.s.heap.objs.size:=⟨L3.m,L3.φ,hd⟩
    have l4:=l4 W l3 I0;refine mC (It.own p4) (cz S O4 ((G.le O4 l4).noX) T0 h6 r4 λs5 h7 W5 l5 O5 q5=>?_);have l5':=l4.trans O4 l5;refine S.exs O5 ((G.le O5 l5').noX) (q5▸h7) λf s6 h8 fl W6 l6 O6 r6 q6=>?_;have T5:=l5'.trans O5 l6;haveI k1:=(L4.le l5).le l6;haveI k2:=It.keep O5 (It.keep O4 p4 L4 l5 O5) (L4.le l5) l6 O6;haveI h8:=q6▸h8
    revert h8
    exact FR.see r6 (λh8=>⟨m,I6 m,.mk T5 O6 k1 k2 h8⟩) (λh8=>⟨m,I6 m,.mk T5 O6 k1 k2 h8⟩) (λh8=>k _ _ h8 .next W6 T5 O6 rfl rfl) λa v hv h8=>k _ _ h8 (.ret v) W6 T5 O6 ⟨v,rfl,hv⟩ rfl
end
noncomputable def cc (k:Option KB):Bool:=yb k false false true false false
noncomputable def inCells (k:Option KB):Bool:=yb k false true true false false
noncomputable def bW (sc:Od)(l:Lo):Lo:=l.filter λp=>cc (lk sc.names p.1)
noncomputable def fp:List Str->Bool
 |[]=>true
 |x::r=>match dM r x with|true=>false|false=>fp r
theorem uN:fp (x::r)=cond (dM r x) false (fp r):=rfl
noncomputable def isFn (k:ScopeKind):Bool:=@ScopeKind.casesOn (λZ=>Bool) k false true false false false false false
noncomputable def Fl (ct:Ct)(sc:Od):Bool:=isFn sc.kind&&fp (sc.names.map (·.1))&&sc.names.all λp=>yb (some p.2) true true (inCells (lk ct.scope.names p.1)&& !aZ p.1 "__classdict__") true false
section
variable (T:Tb)(E:jw)
def uO (ct:Ct)(ifs:List JC)(s:St)(K:Bool->St->Prop):Prop:=match ifs with
 |[]=>K true s
 |[c]=>E.tr ct noX c s K
 |_=>False
noncomputable def dB (ct:Ct)(elt t:JC)(ifs:List JC)(p:Pos)(chk:Hp->Option (List AV)):Nat->Nat->List AV->St->(List AV->Hp->Prop)->Prop
 |0,_,_,_,_=>False
 |m+1,i,acc,s,K=>aj (T.sym p) (chk s.2) λxs=>match xs[i]? with
  |some v=>ib T E ct noX t v (bW ct.scope s.1,s.2) λs1=>uO E ct ifs s1 λb s2=>ask (T.sym p) b λb=>match b with
   |true=>E.ev ct noX elt s2 λr s3=>aj (T.sym p) (gd (ai acc.length) (some ())) λZ=>dB ct elt t ifs p chk m (i+1) (acc++[r]) s3 K
   |false=>dB ct elt t ifs p chk m (i+1) acc s2 K
  |.none=>K acc s.2
def jU (ct:Ct)(Xk:XK)(elt:JC)(gens:List MZ)(sc:Od)(p:Pos)(s:St)(K:List AV->St->Prop):Prop:=match gens with
 |[g]=>aj false (gd (ct.calm&& !e_ g.iter&&decide (g.is_async=0)&&Fl ct sc) (some ())) λZ=>E.ev ct Xk g.iter s λa s1=>aj (T.sym p) (dR s1.2 a) λchk=>
  ∃m,dB T E ⟨sc,ct.calm,false⟩ elt g.target g.ifs p chk m 0 [] (bW sc s1.1,s1.2) λacc hp=>K acc (s1.1,hp)
 |_=>False
end
theorem di(h:Mk):(h.push {cls:=.none,data:=.freed}).get? h.objs.size=.none:=by unfold Mk.get? Mk.push;simp
theorem jV{h h':Mk}(hs:h.objs.size=h'.objs.size)(kp:∀a o,h.get? a=some o->h'.get? a=some o)(ob:Obj)(hf:ob.isFreed=false):∀a o,(h.push ob).get? a=some o->(h'.push ob).get? a=some o:=λa o e=>by
 rcases N7 e with⟨rfl,rfl⟩|e
 . rw[hs];exact IW _ hf
 . exact IH _ (kp a o e)
theorem oQ:∀(names:List (Str×KB)) {h h':Mk},h.objs.size=h'.objs.size->(∀a o,h.get? a=some o->h'.get? a=some o)->∀a o,(Nv h names).get? a=some o->(Nv h' names).get? a=some o:=by
 intro Sl;induction Sl with
 |nil=>intro Z Z Z kp;exact kp
 |cons x92 r So=>
  obtain⟨Z,k⟩:=x92;intro h h' hs kp;unfold Nv
  split
  . exact So (by rw[I7,I7,hs]) (jV hs kp _ rfl)
  . exact So hs kp
theorem c6:∀(names:List (Str×KB)) (n) (acc SZ),Kg n names (acc++SZ)=Kg n names acc++SZ:=by
 intro Sl;induction Sl with
 |nil=>intro Z Z Z;exact rfl
 |cons x92 r So=>
  obtain⟨x,k⟩:=x92;intro n acc SZ;unfold Kg
  split
  . exact So (n+1) ((x,n)::acc) SZ
  . exact So n acc SZ
theorem eu{α:Type}(l r:List (Str×α))(x:Str):lk (l++r) x=(lk l x).or (lk r x):=by
 induction l with
 |nil=>rfl
 |cons p l ih=>
  obtain⟨y,a⟩:=p;refine(?_:(match aZ y x with|true=>some a|false=>lk (l++r) x)=(match aZ y x with|true=>some a|false=>lk l x).or (lk r x));cases aZ y x<;>first|exact ih|rfl
theorem fQ{α:Type}{l:List (Str×α)}{x:Str}(h:x∉l.map (·.1)):lk l x=.none:=by
 induction q:lk l x with
 |none=>rfl
 |some a=>exact absurd (IU.mpr ⟨_,aB q,rfl⟩) h
theorem dj{α:Type}{l:List (Str×α)}{x:Str}(h:x∈l.map (·.1)):∃a,lk l x=some a:=by
 induction l with
 |nil=>cases h
 |cons p l ih=>
  obtain⟨y,a⟩:=p;refine aa fK ?_;induction q:aZ y x with
  |true=>exact⟨a,rfl⟩
  |false=>
   refine av h (λh=>?_) λh=>?_
   . subst h;rw[az]at q;cases q
   . exact ih h
theorem gD:∀{l},fp l=true->l.Nodup:=by
 intro Sl;induction Sl with
 |nil=>intro Z;exact J_
 |cons x r Sk=>
  intro h;rw[uN]at h;induction q:dM r x with
  |true=>exact IE (q▸h)
  |false=>rw[q]at h;rw[c4]at q;exact I_.mpr ⟨of_decide_eq_false q,Sk h⟩
theorem cellsFrom_names:∀(names:List (Str×KB)) (n) (x),x∈(Kg n names []).map (·.1)↔(x,Mn)∈names:=by
 intro Sl;induction Sl with
 |nil=>intro Z Z;simp[Kg]
 |cons x92 r So=>
  obtain⟨y,k⟩:=x92;intro n x;have ih:=λn=>So n x;unfold Kg
  split
  . rename_i hk
    haveI hk:k=.cell:=by simpa using hk
    refine aa hk ?_;rw[show[(y,n)]=[]++[(y,n)]from rfl,c6,IR,JD,ih];simp[eq_comm];exact⟨λh=>h.symm.imp id id,λh=>h.symm.imp id id⟩
  . rename_i hk
    rw[ih];simp only[IJ,Si.injEq];exact⟨.inr,λh=>h.elim (λh=>by haveI hk:=h.2▸hk;simp at hk) id⟩
noncomputable def dS (cs:List (Str×Jn)):List (Str×KB)->List (Str×Jn)->List (Str×Jn)
 |[],acc=>acc
 |(x,k)::r,acc=>dS cs r (match cc (some k)with|true=>(match lk cs x with|some c=>(x,c)::acc|.none=>acc)|false=>acc)
theorem kZ:dS cs ((x,k)::r) acc=dS cs r (match cc (some k)with|true=>(match lk cs x with|some c=>(x,c)::acc|.none=>acc)|false=>acc):=rfl
theorem yV:∀(names:List (Str×KB)) (acc),(∀x,(x,Ki)∈names->∃c,lk env.cells x=some c)->
 (forIn names acc λ(p:Str×KB) (cs)=>if(p.2==.free)=true then do let c<-Ri env p.1;pure (.yield ((p.1,c)::cs))else pure (.yield cs):Sem (List (Str×Jn)))=pure (dS env.cells names acc):=by
 intro Sl;induction Sl with
 |nil=>intro acc Z;exact rfl
 |cons x92 r So=>
  obtain⟨x,k⟩:=x92;intro acc h;refine aa (LN _ _ _ _) (aa kZ ?_);by_cases hk:k=.free
  . subst hk;obtain⟨c,hc⟩:=h x (.head _);haveI:Ri env x=pure c:=by unfold Ri;exact aa (aM _ _) (aa hc rfl)
    simp only[beq_self_eq_true,if_true,this,pure_bind,hc];exact So _ λy hy=>h y (.tail _ hy)
  . have e1:(k==Ki)=false:=by simpa using hk
    have e2:cc (some k)=false:=by cases k<;>first|rfl|exact absurd rfl hk
    simp only[e1,e2,Bool.false_eq_true,if_false,pure_bind];exact So _ λy hy=>h y (.tail _ hy)
theorem iT:∀{names:List (Str×KB)} {acc} {x} {c},(x,c)∈dS cs names acc->(x,c)∈acc\/((x,Ki)∈names/\lk cs x=some c):=by
 intro Sl;induction Sl with
 |nil=>intro Z Z Z h;exact .inl h
 |cons x92 r So=>
  obtain⟨y,k⟩:=x92;intro acc x c h;rw[kZ]at h;rcases So h with h|⟨h1,h2⟩
  . cases k<;>first|exact .inl h|skip
    simp only[cc]at h;induction q:lk cs y with
    |none=>haveI h:=q▸h;exact .inl h
    |some d=>
     rw[q]at h;refine av h (λh=>?_) λh=>?_
     . cases h;exact .inr ⟨.head _,q⟩
     . exact .inl h
  . exact .inr ⟨.tail _ h1,h2⟩
theorem sI:∀{names:List (Str×KB)} {acc} {p},p∈acc->p∈dS cs names acc:=by
 intro Sl;induction Sl with
 |nil=>intro Z Z h;exact h
 |cons x92 r So=>
  obtain⟨y,k⟩:=x92;intro acc p h;refine aa kZ (So ?_);cases cc (some k)<;>first|exact h|(cases lk cs y<;>first|exact h|exact .tail _ h)
theorem oR:∀{names:List (Str×KB)} {acc} {x} {c},(x,Ki)∈names->lk cs x=some c->(x,c)∈dS cs names acc:=by
 intro names;induction names with
 |nil=>exact λh=>(IA h).elim
 |cons p r ih=>
  obtain⟨y,k⟩:=p;intro acc x c h hc;refine aa kZ (av h (λh=>?_) λh=>?_)
  . refine ad (RY h) λSq Sn=>an Sq ?_;clear h;subst Sn;refine sI ?_;simp only[cc,hc];exact .head _
  . exact ih h hc
theorem k6{C:Cx}{A:J0}{R:PE->IP->Prop}{s:IP}{elt target iter:JC}{ifs:List JC}{scope:Od}{pos:Pos}{it acc:IF}{env:Env}(I:Nat->IP->Prop)
 (turn:∀n s,I n s->∀X:IF->IP->Prop,ID C.M A (RS it) (λr s₁=>match r with
  |none=>R (.ok .next) s₁
  |some v=>ID C.M A (K7 target it v) (λZ s₁=>ID C.M A (RO target env v) (λZ s₂=>
   ID C.M A (forIn ifs true λc r=>if r=true then do let ok<-isTrue c env (LH c env);pure (LL ok)else pure (LL r)) (λok s₃=>
    if ok=true then ID C.M A (LH elt env) (λx s₄=>ID C.M A (call (.builtin "list.append") [acc,x]) (λZ s₅=>∃m,m<n/\I m s₅) X s₄) X s₃
    else ∃m,m<n/\I m s₃) X s₂) X s₁) X s₁) X s)
 (n) (h:I n s):LJ C.M A (.compLoop (.ListComp elt [⟨target,iter,ifs,0⟩] scope pos) 0 it acc env) R s:=by
 refine codeAny_loop rfl I (λn s hI=>?_) n h;refine(?_:ID _ A ((compTurn (.ListComp elt [⟨target,iter,ifs,0⟩] scope pos) 0 it acc env).onRaise (λx=>do noteFrame x env;theTreesLotGoes x)) _ _ s)
 with_reducible refine wpAny_noted (aa (compTurn_list _ _ _ _ _ _ _ _ _) (Ir (Km (Ir (KG (turn n s hI _) (λr s₁ h₁=>?_) λZ Z h'=>h')))))
 induction r with
 |none=>exact Ix h₁
 |some v=>
  refine Ir (KG h₁ (λZ s₁ h₁=>Ir (KG h₁ (λZ s₂ h₂=>Ir (KG h₂ (λok s₃ h₃=>?_) λZ Z h'=>h')) λZ Z h'=>h')) λZ Z h'=>h');induction ok with
  |false=>exact Ix ⟨rfl,h₃⟩
  |true=>exact Ir (Ir (KG h₃ (λx s₄ h₄=>Ir (KG h₄ (λZ s₅ h₅=>Ix (Ix ⟨rfl,h₅⟩)) λZ Z h'=>h')) λZ Z h'=>h'))
section
theorem aK.frz(O:Ok C W)(h:aK W D):Ok C (W.frz W.s D)/\(∀{a v},VR W a v->VR (W.frz W.s D) a v)/\(Le W0 W->W0.s.heap.get? D=.none->Le W0 (W.frz W.s D)):=by
 have vr:∀{a v},VR W a v->VR (W.frz W.s D) a v:=λq=>VR.mono (W':=W.frz W.s D) (λZ h=>.inl h) (λZ Z Z e=>e) (λZ o h=>⟨⟨o,h⟩,rfl⟩) q;refine ae h.d λo e Z=>?_;refine⟨⟨O.nd,O.inj,λk o hm=>(O.cell k o hm).mono rfl vr (λZ e=>e) λk o h=>⟨⟨o,h⟩,rfl⟩,λk o hm=>(am (O.free k o hm) λa b c=>⟨λq=>q.elim a λq=>h.m (.inr ⟨k,o,hm,q.symm⟩),b,c⟩),
  λa q=>q.elim (O.fz a) λq=>⟨o,aa q e⟩,λa ha q=>q.elim (O.nL a ha) λq=>h.m (.inl (q▸ha)),?_,O.fr,O.cl,O.ap,O.ro,λa o e=>ad (O.old a o e) λx y=>⟨x,.inl y⟩,O.tk,O.up⟩,vr,
  λl e0=>⟨l.f,λa q=>.inl (l.φ a q),λa q=>q.elim (l.φn a) λq=>.inr (aa q e0),l.ky,l.kp,l.fr,l.nw,l.ver,l.gens,l.os⟩⟩
 exact ae O.ns λm q r=>⟨m,q,λx a z=>ae (r x a z) λv h1 h2=>⟨v,vr h1,h2⟩⟩
theorem aK.cell(O:Ok C W)(h:aK W D)(hk:k∉ks W.hp)(hc:OR C (W.new W.s k o D) D o):Ok C (W.new W.s k o D)/\(∀{a v},VR W a v->VR (W.new W.s k o D) a v)/\(Le W0 W->W0.s.heap.get? D=.none->Le W0 (W.new W.s k o D)):=by
 have vr:∀{a v},VR W a v->VR (W.new W.s k o D) a v:=λq=>Ok.newVR hk (λZ Z e=>e) q;have rk:(W.new W.s k o D).ρ k=D:=if_pos rfl;refine ae h.d λob e dd=>?_;refine⟨⟨I_.mpr ⟨hk,O.nd⟩,λi j o1 o2 h1 h2 q=>?_,λj o' h'=>?_,λj o' h'=>?_,O.fz,O.nL,?_,O.fr,O.cl,O.ap,λx c hx=>?_,O.old,O.tk,O.up⟩,vr,
  λl e0=>⟨l.f,l.φ,l.φn,λj o' hj=>?_,l.kp,l.fr,λj o' hj=>?_,λj es n hj=>?_,l.gens,l.os⟩⟩
 . rcases IJ.mp h1 with q1|q1<;>rcases IJ.mp h2 with q2|q2
   . cases q1;cases q2;rfl
   . cases q1;rw[rk,(Wd.new_ky hk j o2 q2).2]at q;exact absurd (Or.inr ⟨j,o2,q2,q⟩) h.m
   . cases q2;rw[rk,(Wd.new_ky hk i o1 q1).2]at q;exact absurd (Or.inr ⟨i,o1,q1,q.symm⟩) h.m
   . rw[(Wd.new_ky hk i o1 q1).2,(Wd.new_ky hk j o2 q2).2]at q;exact O.inj i j o1 o2 q1 q2 q
 . rcases IJ.mp h' with q|q
   . cases q;exact aa rk hc
   . exact(O.cell j o' q).mono (Wd.new_ky hk j o' q).2 vr (λob e=>(Wd.new_ky hk j o' q).2▸e) (Wd.new_ky hk)
 . rcases IJ.mp h' with q|q
   . cases q;exact aa rk ⟨h.φ,λq=>h.m (.inl q),ob,e⟩
   . exact aa ((Wd.new_ky hk j o' q).2) (O.free j o' q)
 . exact ae O.ns λm q r=>⟨m,q,λx a z=>(ae (r x a z) λv h1 h2=>⟨v,vr h1,h2⟩)⟩
 . refine ad (O.ro x c hx) λa Sm=>af Sm λv b=>⟨λq=>?_,v,b⟩
   rcases q with q|⟨j,o',hm,q⟩
   . exact a (.inl q)
   . refine OW (IJ.mp hm) (λz=>?_) λz=>?_
     . cases z;rw[rk]at q;refine ae b λob' e' d'=>?_;haveI e':=e';haveI e':=e▸q▸e';(replace e':=Iw e';subst e');exact dd v d'
     . rw[(Wd.new_ky hk j o' z).2]at q;exact a (.inr ⟨j,o',z,q⟩)
 . refine ad (l.ky j o' hj) λSq q=>?_;rcases Sq with⟨o1,h1⟩
   exact⟨⟨o1,.tail _ h1⟩,aa ((Wd.new_ky hk j o1 h1).2) q⟩
 . rcases IJ.mp hj with q|q
   . cases q;exact .inr (aa rk e0)
   . exact aa ((Wd.new_ky hk j o' q).2) (l.nw j o' q)
 . exact be (l.ver j es n hj) λSy n' h1 h2=>⟨Sy,n',.tail _ h1,h2⟩
theorem shown(O:Ok C W)(l:Le W0 W)(h:aK W D)(e0:W0.s.heap.get? D=.none){T}{acc}{vs}{p}{K}(hp:W.s.heap.PlainList D vs.toArray)(hv:aF W acc vs)(e:listAt T acc p (W.loc,W.hp) K):
 ∃a W',K a (W'.loc,W'.hp)/\Ok C W'/\Le W0 W'/\W'.s=W.s/\W'.f=W.f/\(∀x,W'.Φ x->W.Φ x\/x=D)/\(∀k o,(k,o)∈W'.hp->(∃o',(k,o')∈W.hp/\W'.ρ k=W.ρ k)\/W'.ρ k=D)/\VR W' a (.ref D):=by
 refine jN e (λhl e=>?_) λk hl hk e=>?_
 . exact am (h.frz (W0:=W0) O) λO' vr l'=>⟨_,W.frz W.s D,e,O',l' l e0,rfl,rfl,λZ q=>q,λk o q=>.inl ⟨o,q,rfl⟩,.lst (.inr rfl) hp hv.1 λi x v a b=>vr (hv.2 i x v a b)⟩
 . refine am (h.cell (W0:=W0) O (o:=.list acc) hk ⟨vs,hp,hv.1,λi x v a b=>Ok.newVR hk (λZ Z e=>e) (hv.2 i x v a b)⟩) λO' vr l'=>⟨_,W.new W.s k (.list acc) D,e,O',l' l e0,rfl,rfl,λZ q=>.inl q,λj o q=>?_,?_⟩
   . refine OW (IJ.mp q) (λq=>?_) λq=>?_
     . cases q;exact .inr (if_pos rfl)
     . exact .inl ⟨o,q,(Wd.new_ky hk j o q).2⟩
   . have:VR (W.new W.s k (.list acc) D) (.ref k) (.ref ((W.new W.s k (.list acc) D).ρ k)):=.ref (.head _);rw[show(W.new W.s k (.list acc) D).ρ k=D from if_pos rfl]at this;exact this
end
theorem iU:∀(names:List (Str×KB)) {h} {a},a<h.objs.size->h.get? a=.none->(Nv h names).get? a=.none:=by
 intro Sl;induction Sl with
 |nil=>intro Z Z Z e;exact e
 |cons x92 r So=>
  obtain⟨Z,k⟩:=x92;intro h a hl e;unfold Nv
  split
  . exact So (aa (I7 _ _) (Ll hl)) ((Nw _ _ _ (KK hl)).trans e)
  . exact So hl e
theorem yW
 (h:Q (OE scope s.heap.objs.size g (Kg (s.heap.objs.size+1) scope.names cl) q none .none (some env) MK) {s with heap:=Nv (s.heap.push {cls:=.type "dict",data:=.dict #[]}) scope.names}):
 ID M A (newFunctionEnv scope g cl [] q none .none (some env)) Q X s:=by
 simp only[newFunctionEnv,Option.isSome_some,if_true];refine Ir (OZ (Ir (wpAny_layCells _ (λname kind cells=>by induction hkc:kind==Mn<;>simp[hkc]) _ _ _ _ ?_)));exact aa (show({s with heap:=s.heap.push {cls:=.type "dict",data:=.dict #[]}}:IP).heap.objs.size=s.heap.objs.size+1 from I7 ..) (Ir (Ix (Ix h)))
section
theorem aK.back(O:Ok C W)(h:aK W1 D)(e0:W.s.heap.get? D=.none):aK (W.back W1) D:=
 ⟨λq=>q.elim (λq=>by refine af (O.ownIn (q:W.own D)) λo e=>?_;exact jx e0 e) λq8=>be q8 λk o hm q=>h.m (.inr ⟨k,o,hm,q⟩),h.φ,h.d⟩
structure jW(ct:Ct)(sc:Od):Prop where
 kind:sc.kind=.function
 nd:(sc.names.map (·.1)).Nodup
 free:∀x,(x,Ki)∈sc.names->inCells (lk ct.scope.names x)=true/\(x==("__classdict__":Str))=false
 all:∀x k,(x,k)∈sc.names->k=.local\/k=.cell\/k=.free\/k=.globalImplicit
theorem yX(h:Fl ct sc=true):jW ct sc:=by
 refine ad (IQ.mp h) λh1 h3=>ad (IQ.mp h1) λh1 h2=>?_;have h3:=Jj.mp h3;refine⟨(by induction q:sc.kind<;>rw[q]at h1<;>first|rfl|cases h1),gD h2,λx hx=>?_,λx k hx=>?_⟩
 . exact bc (show(inCells (lk ct.scope.names x)&& !aZ x "__classdict__")=true from h3 _ hx) λh4 h5=>⟨h4,aa (bB _ _) (gW (by cases aZ x "__classdict__"<;>first|rfl|trivial) h5)⟩
 . haveI:=h3 _ hx;induction k<;>first|exact .inl rfl|exact .inr (.inl rfl)|exact .inr (.inr (.inl rfl))|exact .inr (.inr (.inr rfl))|exact(KM this).elim
theorem jW.one(N:jW ct sc)(h:(x,k)∈sc.names):lk sc.names x=some k:=by
 refine af (dj (l:=sc.names) (x:=x) (IU.mpr ⟨_,h,rfl⟩)) λk' e=>?_;have:=aB e;have key:∀{l:List (Str×KB)},(l.map (·.1)).Nodup->(x,k)∈l->(x,k')∈l->k=k':=λ{l} nd a b=>by
  induction l with
  |nil=>cases a
  |cons p r ih=>
   refine ad (I_.mp nd) λh1 h2=>?_;rcases IJ.mp a with e|a<;>rcases IJ.mp b with e'|b
   . rw[<-e]at e';cases e';rfl
   . exact absurd (IU.mpr ⟨_,b,by exact an e rfl⟩) h1
   . exact absurd (IU.mpr ⟨_,a,by exact an e' rfl⟩) h1
   . exact ih h2 a b
 exact aa (key N.nd h this) e
theorem dk(h:lk sc.names x=some k):
 (lk (Rr sc env).names x=some k/\(k=.free->True))\/(k=.free/\lk (Rr sc env).names x=some .cell):=by
 have key:∀{l:List (Str×KB)},lk l x=some k->(lk (l.map λp=>if(p.2==Ki&&env.scope.kind==.function&&env.kindOf p.1==some .cell)=true then(p.1,Mn)else(p.1,p.2)) x=some k)\/
  (k=.free/\lk (l.map λp=>if(p.2==Ki&&env.scope.kind==.function&&env.kindOf p.1==some .cell)=true then(p.1,Mn)else(p.1,p.2)) x=some .cell):=λ{l} e=>by
  induction l with
  |nil=>cases e
  |cons p r ih=>
   obtain⟨y,j⟩:=p;refine(JA).symm▸?_;by_cases q:(j==Ki&&env.scope.kind==.function&&env.kindOf y==some .cell)=true
   . rw[if_pos q];rw[fK]at e⊢;induction z:aZ y x with
     |true=>
      rw[z]at e;cases e;have:k=.free:=by haveI:=(IQ.mp (IQ.mp q).1).1;simpa using this
      exact .inr ⟨this,rfl⟩
     |false=>rw[z]at e;exact ih e
   . rw[if_neg q];rw[fK]at e⊢;induction z:aZ y x with
     |true=>rw[z]at e;exact .inl e
     |false=>rw[z]at e;exact ih e
 exact(key h).imp (λh=>⟨h,λZ=>trivial⟩) id
theorem eA{α:Type}(y)(b:α)(r)(x):lk ((y,b)::r) x=match aZ y x with|true=>some b|false=>lk r x:=rfl
theorem mF(h:lk (bW sc l) x=some a):cc (lk sc.names x)=true/\lk l x=some a:=by
 induction l with
 |nil=>cases h
 |cons p r ih=>
  obtain⟨y,b⟩:=p;unfold bW at h ih;rw[JB]at h;by_cases q:cc (lk sc.names y)=true
  . rw[if_pos q,eA]at h;refine aa (eA _ _ _ _) ?_;cases z:aZ y x with
    |true=>haveI h:=z▸h;exact⟨aL.mp z▸q,h⟩
    |false=>haveI h:=z▸h;exact ih h
  . rw[if_neg q]at h
    (haveI h1:=(ih h).1;haveI h2:=(ih h).2)
    refine⟨h1,?_⟩;refine aa (eA _ _ _ _) ?_;cases z:aZ y x with
    |true=>haveI q:=(aL.mp z)▸q;exact absurd h1 q
    |false=>exact h2
noncomputable def Wd.frl (sc:Od)(W:Wd):Wd:={W with loc:=bW sc W.loc}
theorem Wd.frl_vr(h:VR W a v):VR (W.frl sc) a v:=VR.mono (W:=W) (W':=W.frl sc) (λZ h=>h) (λZ Z Z e=>e) (λZ o h=>⟨⟨o,h⟩,rfl⟩) h
theorem Wd.frl_le(sc)(W):Le W (W.frl sc):=let h:=Le.refl W;⟨h.f,h.φ,h.φn,h.ky,h.kp,h.fr,h.nw,h.ver,h.gens,h.os⟩
theorem Wd.frl_ok(sc)(O:Ok C W):Ok C (W.frl sc):=by
 refine⟨O.nd,O.inj,λk o h=>OR.mono rfl Wd.frl_vr (λZ e=>e) (λZ o h=>⟨⟨o,h⟩,rfl⟩) (O.cell k o h),O.free,O.fz,O.nL,?_,O.fr,O.cl,O.ap,O.ro,O.old,O.tk,O.up⟩;refine ae O.ns λm h1 h2=>⟨m,h1,λx a h=>?_⟩
 exact ae (h2 x a (mF h).2) λv h3 h4=>⟨v,Wd.frl_vr h3,h4⟩
theorem iV(O:Ok C W)(V:bP ct W env)(N:jW ct sc)(hn:n=W.s.heap.objs.size+2)
 (e0:h0=Nv (((W.s.heap.push {cls:=.none,data:=.freed}).push {cls:=.none,data:=.freed}).push {cls:=.type "dict",data:=.dict #[]}) sc.names):
 cN C W {W with s:={W.s with heap:=h0},f:=⟨n,[],Kg (n+1) sc.names [],dS env.cells sc.names []⟩,loc:=bW sc W.loc}/\
 bP ⟨sc,ct.calm,false⟩ {W with s:={W.s with heap:=h0},f:=⟨n,[],Kg (n+1) sc.names [],dS env.cells sc.names []⟩,loc:=bW sc W.loc}
  {OE sc n env.globals (Kg (n+1) sc.names (dS env.cells sc.names [])) env.qual none .none (some env) MK with scope:=Rr sc env}/\
 (∀x,(x,Ki)∈sc.names->∃c,lk env.cells x=some c):=by
 have hc:∀x,(x,Ki)∈sc.names->∃c,lk env.cells x=some c:=λx hx=>by
  have h1:=(N.free x hx).1;have h2:=V.nm x;refine(V.ce).symm▸?_;induction q:lk ct.scope.names x with
  |none=>exact IE (q▸h1)
  |some k=>
   rw[q]at h1 h2;induction k<;>first|(refine ad h2 λZ Sm=>?_;refine af Sm λc Sn=>?_;rcases Sn with⟨h,Z⟩;exact⟨c,h⟩)|(refine ad h2 λZ Sm=>?_;refine af Sm λc h=>?_;exact⟨c,h⟩)|exact(KM h1).elim
 have hle:W.s.heap.objs.size<=n:=by exact aa hn (IK _ _)
 have kp:∀a o,W.s.heap.get? a=some o->h0.get? a=some o:=λa o e=>by
  exact aa e0 (PN _ _ a o (IH _ (IH _ (IH _ e))))
 have s3:(((W.s.heap.push {cls:=.none,data:=.freed}).push {cls:=.none,data:=.freed}).push {cls:=.type "dict",data:=.dict #[]}).objs.size=n+1:=by exact aa (I7 _ _) (aa (I7 _ _) (aa (I7 _ _) (aa hn rfl)))
 haveI s2:((W.s.heap.push {cls:=.none,data:=.freed}).push {cls:=.none,data:=.freed}).objs.size=n:=by exact aa (I7 _ _) (aa (I7 _ _) (aa hn rfl))
 have above:∀a,W.s.heap.objs.size<=a->W.s.heap.get? a=.none:=λa ha=>by
  induction q:W.s.heap.get? a with
  |none=>rfl
  |some o=>exact absurd (Jz q) (KP.mpr ha)
 have ok:=cellsFrom_ok sc.names (((W.s.heap.push {cls:=.none,data:=.freed}).push {cls:=.none,data:=.freed}).push {cls:=.type "dict",data:=.dict #[]}) (n+1) [] ⟨λZ Z hm=>((IA hm).elim),List.Pairwise.nil⟩ (by exact aa s3 (IC _));rw[s3,<-e0]at ok;have lown:∀x,(x,Mn)∉sc.names->lk (Kg (n+1) sc.names []) x=.none:=λx hx=>fQ λq=>hx ((cellsFrom_names _ _ _).mp q);have lclos:∀x c,(x,Ki)∈sc.names->lk env.cells x=some c->lk (dS env.cells sc.names []) x=some c:=λx c hx hcx=>by
  refine af (dj (l:=dS env.cells sc.names []) (x:=x) (IU.mpr ⟨_,oR hx hcx,rfl⟩)) λc' q=>?_;rcases iT (aB q)with z|⟨Z,z⟩
  . exact(IA z).elim
  . haveI z:=hcx▸z;(replace z:=Iw z;refine aa z ?_);exact q
 haveI nclos:∀x,(x,Ki)∉sc.names->lk (dS env.cells sc.names []) x=.none:=λx hx=>fQ λq=>by
  refine af (IU.mp q) λSn Sm=>?_;rcases Sn with⟨y,c⟩
  (haveI h1:=(Sm).1;haveI Ss:=(Sm).2)
  clear q Sm;subst Ss;rcases iT h1 with z|⟨z,Z⟩
  . exact(IA z).elim
  . exact hx z
 have only:∀{x:Str} {k k':KB},lk sc.names x=some k->k'≠k->(x,k')∉sc.names:=λe n h=>by
  haveI:=N.one h;haveI this:=e▸this;(replace this:=Iw this;clear h;subst this);exact n rfl
 refine⟨⟨kp,rfl,rfl,rfl,IC _,rfl,rfl,above n hle,?_,λx c h=>?_,λa h=>((IA h).elim),ok.apart,λx c h=>?_,?_⟩,⟨N.kind,rfl,?_,V.gl,V.bl,λx=>?_⟩,hc⟩
 . exact af O.L λo e=>Iu (Js (Jz e)) hle
 . exact ad (ok.empty x c h) λh1 h2=>⟨above c (Iu hle (KZ h2)),λq=>absurd h2 (by haveI q:c=n:=q;exact aa q (Oc n)),none,h1⟩
 . rcases iT h with z|⟨z1,z2⟩
   . exact(IA z).elim
   . refine⟨λq=>((IA q).elim),?_⟩;haveI z2:=V.ce▸z2;refine bg (aB z2) (λq=>?_) λq=>?_
     . (haveI a:=(O.cl x c q).1;haveI b:=(O.cl x c q).2.1;haveI Sm:=(O.cl x c q).2.2)
       exact af Sm λv e=>⟨λTi=>be Ti λk o hm e=>(O.free k o hm).2.1 (e▸.inr (.inr (IU.mpr ⟨_,q,rfl⟩))),v,e⟩
     . (haveI a:=(O.ro x c q).1;haveI Sm:=(O.ro x c q).2)
       exact af Sm λv e=>⟨λTi=>be Ti λk o hm e=>a (.inr ⟨k,o,hm,e⟩),v,e⟩
 . refine⟨λZ=>none,?_,λx a h=>?_⟩
   . refine(e0).symm▸?_;haveI:=Mk.Ns.new ((W.s.heap.push {cls:=.none,data:=.freed}).push {cls:=.none,data:=.freed}) (.type "dict");rw[s2]at this;exact this.keeps (PN _ _)
   . refine ad (mF h) λh1 h2=>ae O.ns λm Z hl=>ae (hl x a h2) λv q1 q2=>?_;have hf:lk sc.names x=some .free:=by
      induction q:lk sc.names x with
      |none=>haveI h1:=q▸h1;exact(KM h1).elim
      |some k=>haveI h1:=q▸h1;induction k<;>first|rfl|exact(KM h1).elim
     refine af (hc x (aB hf)) λc hcx=>⟨v,q1,?_⟩
     unfold Wd.at at q2⊢;refine aa (eu _ _ _) (aa (lown x (only hf (by decide))) (aa Option.none_or (aa (lclos x c (aB hf) hcx) ?_)));haveI q2:=hcx▸V.ce▸q2;exact q2.keeps kp
 . refine(?_:Kg (n+1) sc.names ([]++dS env.cells sc.names [])=_);exact c6 _ _ _ _
 . refine(?_:kN (lk sc.names x) (P6 x (Rr sc env).names) _ x);refine aa (aM _ _) ?_;induction q:lk sc.names x with
   |none=>exact trivial
   |some k=>
    rcases N.all x k (aB q)with rfl|rfl|rfl|rfl
    . refine⟨?_,?_⟩
      . rcases dk (env:=env) q with⟨z,Z⟩|⟨z,Z⟩
        . exact z
        . exact absurd z (by decide)
      . refine(?_:lk (_++_) x=.none);exact aa (eu _ _ _) (aa (lown x (only q (by decide))) (aa (nclos x (only q (by decide))) rfl))
    . refine⟨?_,?_⟩
      . rcases dk (env:=env) q with⟨z,Z⟩|⟨z,Z⟩
        . exact z
        . exact absurd z (by decide)
      . exact af (dj (l:=Kg (n+1) sc.names []) (x:=x) ((cellsFrom_names _ _ _).mpr (aB q))) λc z=>⟨c,by refine(?_:lk (_++_) x=some c);exact aa (eu _ _ _) (aa z rfl),aB z⟩
    . refine⟨?_,?_⟩
      . rcases dk (env:=env) q with⟨z,Z⟩|⟨Z,z⟩
        . exact .inr ⟨z,(N.free x (aB q)).2⟩
        . exact .inl z
      . exact af (hc x (aB q)) λc hcx=>⟨c,by refine(?_:lk (_++_) x=some c);exact aa (eu _ _ _) (aa (lown x (only q (by decide))) (aa Option.none_or (lclos x c (aB q) hcx)))⟩
    . rcases dk (env:=env) q with⟨z,Z⟩|⟨z,Z⟩
      . exact z
      . exact absurd z (by decide)
end
section
variable {ct:Ct}{A:J0}{env:Env}
theorem HB(n):n<n+1+1:=IK _ _
theorem H7(n):n<n+1+1+1:=JH (IK _ _)
theorem mG(S:bh C n E)(O:Ok C W)(G:eM C n ct A env W noX X){ifs:List JC}{K:Bool->St->Prop}{Q:Bool->IP->Prop}(e:uO E ct ifs (W.loc,W.hp) K)(k:∀b s,K b s->dE C W b s Q):
 ID C.M A (forIn ifs true λc r=>if r=true then do let ok<-isTrue c env (LH c env);pure (LL ok)else pure (LL r)) Q X W.s:=by
 cases ifs with
 |nil=>exact wpAny_tests_nil (dE.same O (k _ _ e))
 |cons c r=>induction r with
  |nil=>exact wpAny_tests_one (S.tr O G e k)
  |cons Z Z=>exact Mc e
structure LS(C:Cx)(Wv:Wd)(I D:Jn)(P:Nat->Wd->Prop)(W:Wd)(i:Nat)(acc:List AV)(vs:List IF):Prop where
 l:Le Wv W
 o:Ok C W
 li:aK W I
 ld:aK W D
 p:P i W
 pl:W.s.heap.PlainList D vs.toArray
 v:aF W acc vs
section
variable (It:gB C I chk P)(H:LS C Wv I D P W i acc vs)
include It H
theorem LS.le(l:Le W W1)(O1:Ok C W1):LS C Wv I D P W1 i acc vs:=
 ⟨H.l.trans H.o l,O1,H.li.le l,H.ld.le l,It.keep H.o H.p H.li l O1,af (H.pl) λn e=>⟨n,H.ld.at l e⟩,H.o.vrs l H.v⟩
theorem LS.frl(sc:Od):LS C Wv I D P (W.frl sc) i acc vs:=
 ⟨H.l.trans H.o (W.frl_le sc),Wd.frl_ok sc H.o,⟨H.li.m,H.li.φ,H.li.d⟩,⟨H.ld.m,H.ld.φ,H.ld.d⟩,It.over H.p (λZ Z e=>e) rfl rfl rfl,H.pl,H.v.1,λi x v a b=>Wd.frl_vr (H.v.2 i x v a b)⟩
variable (DI:D≠I){h':Mk}
include DI
theorem LS.item(vI:Wv.s.heap.get? I=.none)(htk:W.s.toks<=tk)(sb:Jt I W.s.heap h')(p4:P (i+1) (W.to {W.s with heap:=h',toks:=tk}))(hd:∃o,h'.get? I=some o/\∀v,o.data≠.cell v):
 LS C Wv I D P (W.to {W.s with heap:=h',toks:=tk}) (i+1) acc vs:=
 let⟨O4,v4,l4⟩:=H.li.set H.o (s:={W.s with heap:=h',toks:=tk}) sb.extBut htk rfl rfl
 ⟨l4 Wv H.l vI,O4,⟨H.li.m,H.li.φ,hd⟩,⟨H.ld.m,H.ld.φ,ae (H.ld.d) λo e d=>⟨o,(sb.2 _ DI).trans e,d⟩⟩,p4,(af H.pl λn e=>⟨n,(sb.2 _ DI).trans e⟩),H.v.1,λi x v a b=>v4 (H.v.2 i x v a b)⟩
theorem LS.app(vD:Wv.s.heap.get? D=.none)(r:VR W a w)(pl:h'.PlainList D (vs.toArray.push w))(sb:Jt D W.s.heap h'):
 LS C Wv I D P (W.to {W.s with heap:=h'}) i (acc++[a]) (vs++[w]):=
 let⟨O8,v8,l8⟩:=H.ld.set H.o (s:={W.s with heap:=h'}) sb.extBut (IC _) rfl rfl
 ⟨l8 Wv H.l vD,O8,⟨H.li.m,H.li.φ,(ae H.li.d λo e d=>⟨o,(sb.2 _ (Kr DI)).trans e,d⟩)⟩,⟨H.ld.m,H.ld.φ,(af pl λn e=>⟨_,e,λv z=>nomatch z⟩)⟩,It.far H.o H.p H.li H.ld DI sb,OQ .. ▸pl,
  aF.append ⟨H.v.1,λi x v a b=>v8 (H.v.2 i x v a b)⟩ (.cons (v8 r) .nil)⟩
omit H
inductive CL(C:Cx)(T:Tb)(E:jw)(ct:Ct)(Wv:Wd)(I D:Jn)(P:Nat->Wd->Prop)(chk:Hp->Option (List AV))(elt tgt:JC)(ifs:List JC)(p:Pos)(K:List AV->Hp->Prop)(m:Nat):IP->Prop
 |mk {W:Wd} {i:Nat} {acc:List AV} {vs:List IF}:LS C Wv I D P W i acc vs->dB T E ct elt tgt ifs p chk m i acc (W.loc,W.hp) K->CL C T E ct Wv I D P chk elt tgt ifs p K m W.s
theorem sJ(S:bh C n E)(T0:bd C T)(vI:Wv.s.heap.get? I=.none)(vD:Wv.s.heap.get? D=.none)(G:∀{W:Wd} (X':IF->IP->Prop),Ok C W->Le Wv W->eM C n ct A env' W noX X')(hh:A.handled=.none){K:List AV->Hp->Prop}
 (kd:∀{W:Wd} {i acc vs h'},LS C Wv I D P W i acc vs->K acc W.hp->N6 I W.s.heap h'->R (.ok .next) {W.s with heap:=h'}) {elt tgt iter:JC} {ifs:List JC} {sc:Od} {p:Pos} {m:Nat}
 (H0:LS C Wv I D P W 0 [] []) (h:dB T E ct elt tgt ifs p chk m 0 [] (W.loc,W.hp) K):LJ C.M A (.compLoop (.ListComp elt [⟨tgt,iter,ifs,0⟩] sc p) 0 (.ref I) (.ref D) env') R W.s:=by
 refine k6 (CL C T E ct Wv I D P chk elt tgt ifs p K) (λm s q X'=>?_) m (.mk H0 h);refine CL.casesOn q λ{W i acc vs} H h=>?_;clear q;induction m with
 |zero=>exact h.elim
 |succ m=>
 have H:=H.frl It ct.scope;refine cw h λxs h5 h6=>?_;replace h6:match xs[i]? with|some v=>ib T E ct noX tgt v ((W.frl ct.scope).loc,(W.frl ct.scope).hp) _|.none=>K acc (W.frl ct.scope).hp:=h6
 refine uq (o:=xs[i]?) (λhx=>?_) λa hx=>?_
 . haveI h6:=hx▸h6;exact It.done (W:=W.frl ct.scope) H.o H.p H.li hh h5 hx λh' he=>kd H h6 he
 . haveI h6:=hx▸h6;refine It.item (W:=W.frl ct.scope) H.o H.p H.li h5 hx λv h' tk htk sb p4 hd r4=>?_;haveI H:=LS.item It H DI vI htk sb p4 hd;refine mC (It.own p4) (cz S H.o (G _ H.o H.l) T0 h6 r4 λs5 h7 W5 l5 O5 q5=>?_);have H:=H.le It l5 O5;refine mG S O5 (G _ O5 H.l) (q5▸h7) λb s6 h8 W6 l6 O6 q6=>?_;haveI h8:=gx (q6▸h8);haveI H:=H.le It l6 O6;induction b with
   |false=>exact⟨m,I6 m,.mk H h8⟩
   |true=>refine S.ev O6 (G _ O6 H.l) h8 λr s7 h9 w W7 l7 O7 r7 q7=>ad (ao h9) λhl h9=>?_;have H:=H.le It l7 O7;refine Py H.pl (λh' pl8 sb8=>?_) (by exact aa Jk (an H.v.1 (aq hl)));exact⟨m,I6 m,.mk (H.app It DI vD r7 pl8 sb8) (q7▸h9)⟩
end
section
variable {Wv W1:Wd}(O1:Ok C W1)
include O1
theorem oS(V:bP ct W1 env){sc}(N:jW ct sc){oI}(L2:aK (W1.to {W1.s with heap:=W1.s.heap.push oI}) W1.s.heap.objs.size)(It:gB C W1.s.heap.objs.size chk P)(p0:P 0 (W1.to {W1.s with heap:=W1.s.heap.push oI})){h1 h2 hR}
 (e1:h1=W1.s.heap.push oI) (e2:h2=h1.push {cls:=.type "list",data:=.seq [].toArray}) (hRe:hR=Nv (h2.push {cls:=.type "dict",data:=.dict #[]}) sc.names):
 ∃Wv:Wd,cN C W1 Wv/\bP ⟨sc,ct.calm,false⟩ Wv {OE sc (W1.s.heap.objs.size+2) env.globals (Kg (W1.s.heap.objs.size+2+1) sc.names (dS env.cells sc.names [])) env.qual none .none (some env) MK with scope:=Rr sc env}/\
  Wv.loc=bW sc W1.loc/\Wv.hp=W1.hp/\Wv.f.L=W1.s.heap.objs.size+2/\Wv.s.heap.get? W1.s.heap.objs.size=.none/\Wv.s.heap.get? (W1.s.heap.objs.size+1)=.none/\
  LS C Wv W1.s.heap.objs.size (W1.s.heap.objs.size+1) P (Wv.to {W1.s with heap:=hR}) 0 [] []:=by
 obtain⟨h0,TJ⟩:∃h0:Mk,h0=Nv (((W1.s.heap.push {cls:=.none,data:=.freed}).push {cls:=.none,data:=.freed}).push {cls:=.type "dict",data:=.dict #[]}) sc.names:=⟨_,rfl⟩
 refine am (iV O1 V N (n:=W1.s.heap.objs.size+2) rfl TJ) λEn V0 Z=>?_;have TS:h1.objs.size=W1.s.heap.objs.size+1:=e1▸I7 ..;have T7:h2.objs.size=W1.s.heap.objs.size+2:=by exact aa e2 (aa (I7 _ _) (aa TS rfl))
 haveI zc:∀a o,W1.s.heap.get? a=some o->h1.get? a=some o:=λa o e=>e1▸IH _ e;have TO:∀a o,h1.get? a=some o->h2.get? a=some o:=λa o e=>e2▸IH _ e;have kpW:∀a o,h2.get? a=some o->hR.get? a=some o:=λa o e=>hRe▸PN _ _ _ _ (IH _ e);haveI eD:hR.get? (W1.s.heap.objs.size+1)=some {cls:=.type "list",data:=.seq [].toArray}:=kpW _ _ (by exact aa e2 (an TS (IW _ rfl)));have vI:h0.get? W1.s.heap.objs.size=.none:=by refine(TJ).symm▸?_;refine iU _ (by exact aa (I7 _ _) (aa (I7 _ _) (aa (I7 _ _) (H7 _)))) ?_;refine aa (Nw _ _ _ (by exact aa (I7 _ _) (aa (I7 _ _) (KK (HB _))))) (aa (Nw _ _ _ (by exact aa (I7 _ _) (KK (I6 _)))) ?_);exact di _
 have vD:h0.get? (W1.s.heap.objs.size+1)=.none:=by refine(TJ).symm▸?_;refine iU _ (by exact aa (I7 _ _) (aa (I7 _ _) (aa (I7 _ _) (Nat.succ_lt_succ (HB _))))) ?_;refine aa (Nw _ _ _ (by exact aa (I7 _ _) (aa (I7 _ _) (KK (I6 _))))) ?_;haveI:=di (W1.s.heap.push {cls:=.none,data:=.freed});rw[I7]at this;exact this
 haveI kpR:∀a o,h0.get? a=some o->hR.get? a=some o:=by
  refine(TJ).symm▸(hRe).symm▸?_;refine oQ _ (by exact aa (I7 _ _) (aa (I7 _ _) (aa (I7 _ _) (aa (I7 _ _) (aa T7 rfl))))) (jV (by exact aa (I7 _ _) (aa (I7 _ _) (aa T7 rfl))) (λa o e=>?_) _ rfl);rcases N7 e with⟨z1,z2⟩|e1
  . rw[z1,di]at e;cases e
  . rcases N7 e1 with⟨z1,z2⟩|e2
    . rw[z1,di]at e1;cases e1
    . exact TO _ _ (zc _ _ e2)
 refine⟨_,En,V0,rfl,rfl,rfl,vI,vD,?_⟩;clear V0 TJ hRe e2;generalize hWv:({W1 with s:={W1.s with heap:=h0},f:=⟨W1.s.heap.objs.size+2,[],Kg (W1.s.heap.objs.size+2+1) sc.names [],dS env.cells sc.names []⟩,loc:=bW sc W1.loc}:Wd)=Wv at En;haveI Ov:=En.ok O1;haveI StR:=Ov.grown (s:={W1.s with heap:=hR}) (by exact an hWv kpR) (by exact an hWv (IC _)) (by exact an hWv rfl) (by exact an hWv rfl);have lone:∀a o,Wv.s.heap.get? a=.none->hR.get? a=some o->(∀v,o.data≠.cell v)->aK (Wv.to {W1.s with heap:=hR}) a:=λa o e1 e2 e3=>by
  refine⟨λq=>?_,λq=>?_,o,e2,e3⟩
  . refine cU λZ=>?_;rcases q with q|⟨k,o',hm,q⟩
    . exact af (Ov.ownIn q) λo z=>nn (e1.symm.trans z)
    . exact af ((Ov.free k o' hm).2.2) λo z=>nn (e1.symm.trans ((show a=Wv.ρ k from q)▸z))
  . exact af (Ov.fz a q) λo z=>nn (e1.symm.trans z)
 refine ae L2.d λoI' eI dI=>⟨StR.le Ov,(StR.ok Ov),lone _ _ (by refine an hWv ?_;exact vI:Wv.s.heap.get? W1.s.heap.objs.size=.none) (kpW _ _ (TO _ _ (e1▸eI:h1.get? W1.s.heap.objs.size=some oI'))) dI,lone _ _ (by refine an hWv ?_;exact vD:Wv.s.heap.get? (W1.s.heap.objs.size+1)=.none) eD (λv z=>(L5 z)),It.over p0 (λa o e=>kpW a o (TO a o (e1▸e))) (by exact an hWv rfl) (by exact an hWv rfl) (by exact an hWv rfl),⟨0,eD⟩,.nil⟩
theorem sK(En:cN C W1 Wv)(fL:Wv.f.L=W1.s.heap.objs.size+2)(vI:Wv.s.heap.get? W1.s.heap.objs.size=.none)
 (H:LS C Wv W1.s.heap.objs.size (W1.s.heap.objs.size+1) P W3 i acc vs) (he:N6 W1.s.heap.objs.size W3.s.heap h'):
 ∃m W2,Le W1 W2/\Ok C W2/\W2.s={W3.s with heap:=h'}/\(W2.loc,W2.hp)=(W1.loc,W3.hp)/\aK W2 (W1.s.heap.objs.size+1)/\aK W2 (W1.s.heap.objs.size+2)/\W2.s.heap.Ns (W1.s.heap.objs.size+2) m/\W2.s.heap.PlainList (W1.s.heap.objs.size+1) vs.toArray/\aF W2 acc vs:=by
 have fz:∀a,W1.s.heap.objs.size<=a->W1.s.heap.get? a=.none:=λa ha=>by
  induction q:W1.s.heap.get? a with
  |none=>rfl
  |some o=>exact absurd (Jz q) (KP.mpr ha)
 have DI:W1.s.heap.objs.size+1≠W1.s.heap.objs.size:=Ps _;refine am (H.li.set H.o (s:={W3.s with heap:=h'}) he (IC _) rfl rfl) λO4 v4 l4=>?_;have l4:=l4 Wv H.l vI
 (haveI Ob:=(jT O1 En O4 l4).1;haveI lb:=(jT O1 En O4 l4).2)
 haveI D4:aK (W3.to {W3.s with heap:=h'}) (W1.s.heap.objs.size+1):=⟨H.ld.m,H.ld.φ,ae (H.ld.d) λo e d=>⟨o,he _ _ DI e,d⟩⟩
 have f4:(W3.to {W3.s with heap:=h'}).f.L=W1.s.heap.objs.size+2:=(congrArg Fm.L l4.f).trans fL;refine ae O4.ns λm4 T6 Z=>?_;haveI T6:h'.Ns (W1.s.heap.objs.size+2) m4:=f4▸T6;refine⟨m4,W1.back (W3.to {W3.s with heap:=h'}),lb,Ob,rfl,rfl,D4.back O1 (fz _ (IK _ 1)),⟨λq=>?_,λq=>O4.nL _ (.inl f4.symm) q,?_⟩,T6,(af H.pl λn e=>⟨n,he _ _ DI e⟩),H.v.1,λi x v a b=>iu (v4 (H.v.2 i x v a b))⟩
 . rcases q with q|⟨k,o,hm,q⟩
   . exact af (O1.ownIn (q:W1.own _)) λo e=>nn ((fz _ (IK _ 2)).symm.trans e)
   . exact(O4.free k o hm).2.1 (.inl (q.symm.trans f4.symm))
 . exact CJ T6 λo es ep e d Z=>⟨o,e,λv=>aa d (λz=>nomatch z)⟩
end
theorem jX(S:bh C n E)(O:Ok C W)(G:eM C n ct A env W Xk X)(T0:bd C T){K}{use:Option (IF->Sem Unit)}{Q}
 (e:jU T E ct Xk elt gens sc p (W.loc,W.hp) K)
 (k:∀acc st,K acc st->∀D L m vs W2,Le W W2->Ok C W2->st=(W2.loc,W2.hp)->W.s.heap.get? D=.none->W.s.heap.get? L=.none->D≠L->aK W2 D->aK W2 L->W2.s.heap.Ns L m->W2.s.heap.PlainList D vs.toArray->aF W2 acc vs->
  compPost C.M A X use Q (.ref D) L (.ok .next) W2.s):
 ID C.M A (comprehension (.ListComp elt gens sc p) sc env pos (newList []) (firstAsync gens) (firstIter gens env) use) Q X W.s:=by
 cases gens with
 |nil=>exact e.elim
 |cons g r=>
 induction r with
 |cons Z Z=>exact e.elim
 |nil=>
 obtain⟨tgt,iter,ifs,asy⟩:=g;unfold jU at e;refine cw e λZ hc e=>aR hc λhc Z=>bc hc λhc hsc=>bc hc λhc has=>bc hc λhcalm hset=>?_;haveI has:asy=0:=of_decide_eq_true has;refine aa has ?_;have N:=yX hsc;refine wpAny_comprehension_free (g:=⟨tgt,iter,ifs,0⟩) (gs:=[]) rfl (iK hset) (by unfold closureFor;simp only[bind_pure];exact yV (env:=env) sc.names [] ((iV O G.v N rfl rfl).2.2)) N.kind (λx hx hl=>by exact aa (aM _ _) (N.one (by obtain⟨a,b⟩:=x;cases hl;exact hx))) (S.ev O G e λa s1 h1 u W1 l1 O1 r1 q1=>?_);subst q1;refine cw h1 λchk h2 q8=>af q8 λm0 h3=>iS O1 h2 r1 λW2 P St hoI L2 It p0=>af hoI λoI Sq=>?_;subst Sq;refine MA (yW ?_);refine af (oS O1 (G.v.le l1) N L2 It p0 rfl rfl rfl) λWv Sm=>?_
 (haveI En:=(Sm).1;haveI V0:=(Sm).2.1;haveI lv:=(Sm).2.2.1;haveI hv:=(Sm).2.2.2.1;haveI fL:=(Sm).2.2.2.2.1;haveI vI:=(Sm).2.2.2.2.2.1;haveI vD:=(Sm).2.2.2.2.2.2.1;haveI H:=(Sm).2.2.2.2.2.2.2)
 haveI TS:(W1.s.heap.push oI).objs.size=W1.s.heap.objs.size+1:=I7 ..;haveI T7:((W1.s.heap.push oI).push {cls:=.type "list",data:=.seq [].toArray}).objs.size=W1.s.heap.objs.size+2:=by exact aa (I7 _ _) (aa TS rfl)
 haveI Tk:∀a,W1.s.heap.objs.size<=a->W.s.heap.get? a=.none:=λa ha=>by
  induction q:W.s.heap.get? a with
  |none=>rfl
  |some o=>refine af (O1.stays l1 q) λo' z=>?_;exact absurd (Jz z) (KP.mpr ha)
 haveI h3:dB T E ⟨sc,ct.calm,false⟩ elt tgt ifs p chk m0 0 [] (bW sc W1.loc,W1.hp) λacc hp=>K acc (W1.loc,hp):=h3;haveI h3:=hv▸lv▸h3;have loop:=sJ It (Ps _) S T0 vI vD (iter:=iter) (sc:=sc) (p:=p) (K:=λacc hp=>K acc (W1.loc,hp)) (λX' O4 l4=>⟨V0.le l4,G.r,G.c,λh=>(IE h),λZ Z h=>h.elim⟩) (G.c hcalm) (R:=compPost C.M A X use Q (.ref (W1.s.heap.objs.size+1)) (W1.s.heap.objs.size+2)) (λ{W3 i acc vs h'} H h6 he=>by
  refine G1 (sK O1 En fL vI H he) λm W2 lb Ob es eq D4 L4 ns pl v=>?_;refine(es)▸?_;exact k acc _ h6 _ _ m vs W2 (l1.trans O1 lb) Ob eq.symm (Tk _ (IK _ 1)) (Tk _ (IK _ 2)) (KK (I6 _)) D4 L4 ns pl v) H h3
 show LJ C.M A (.compStart _ 0 _ (.ref (W1.s.heap.push oI).objs.size) {OE sc ((W1.s.heap.push oI).push {cls:=.type "list",data:=.seq [].toArray}).objs.size env.globals (Kg (((W1.s.heap.push oI).push {cls:=.type "list",data:=.seq [].toArray}).objs.size+1) sc.names (dS env.cells sc.names [])) env.qual none .none (some env) MK with scope:=Rr sc env})
  (compPost C.M A X use Q (.ref (W1.s.heap.push oI).objs.size) ((W1.s.heap.push oI).push {cls:=.type "list",data:=.seq [].toArray}).objs.size) _
 exact(TS).symm▸(T7).symm▸(codeAny_compStart_list loop (It.self H.p loop))
end
noncomputable def sL (ct:Ct)(x:Str):Bool:=yb (lk ct.scope.names x) true false false false false
noncomputable def iw (k:KB):Bool:=yb (some k) true true false false false
noncomputable def uP (p px:Pos)(sc:Od)(x:Str):Bool:=IT px.line p.line&& !(sc.names.any λq=>aZ q.1 x&&iw q.2)
noncomputable def uQ (op:Rg)(a b:AV):Option AV:=match op with
 |.Add=>((two a b).map λp=>.int (p.1+p.2)).or ((ug a b).bind λp=>gd (ai (p.1.length+p.2.length)) (some (.str (p.1++p.2))))
 |.Sub=>(two a b).map λp=>.int (p.1-p.2)
 |_=>.none
section
variable (T:Tb)(E:jw)(ct:Ct)(Xk:XK)
def C9 (t v:JC)(s:St)(K:aD->St->Prop):Prop:=match E_ v with
 |true=>yk v (λZ Z=>False) (λZ Z Z=>False) (λZ Z Z=>False) (λZ Z Z=>False) (λelt gens sc pc=>yk t
  (λx px=>aj false (gd (sL ct x&&uP pc px sc x) (some ())) λZ=>jU T E ct Xk elt gens sc pc s λacc s1=>listAt T acc pc s1 λa s2=>K .next (st s2.1 x a,s2.2))
  (λo a pa=>E.ev ct Xk v s λr s1=>ib T E ct Xk t r s1 λs2=>K .next s2) (λZ Z Z=>False) (λZ Z Z=>False) (λZ Z Z Z=>False) (λZ Z Z Z=>False)) (λZ Z Z Z=>False)
 |false=>aj false (gd (!bQ t&& !fH v&&(!kF t||ip v)) (some ())) λZ=>E.ev ct Xk v s λr s1=>ib T E ct Xk t r s1 λs2=>K .next s2
def Fn (t u v:JC)(s:St)(K:aD->St->Prop):Prop:=aj false (gd (!bQ t&& !bQ u) (some ())) λZ=>E.ev ct Xk v s λr s1=>ib T E ct Xk t r s1 λs2=>ib T E ct Xk u r s2 λs3=>K .next s3
def Fo (ts:List JC)(v:JC)(s:St)(K:aD->St->Prop):Prop:=match ts with
 |[]=>False
 |t::r=>match r with
  |[]=>C9 T E ct Xk t v s K
  |u::r=>match r with
   |[]=>Fn T E ct Xk t u v s K
   |_::_=>False
def Fp (t:JC)(op:Rg)(v:JC)(p:Pos)(s:St)(K:aD->St->Prop):Prop:=yk t (λZ Z=>False) (λo a pa=>E.ev ct Xk o s λov s1=>aj (T.sym pa) (iO T ov a s1.2) λold=>E.ev ct Xk v s1 λr s2=>aj (T.sym p) (uQ op old r) λnew=>aj (T.sym pa) (gz T ov a new s2.2) λhp=>K .next (s2.1,hp)) (λZ Z Z=>False) (λZ Z Z=>False) (λZ Z Z Z=>False) (λZ Z Z Z=>False)
def Fq (ts:List JC)(s:St)(K:aD->St->Prop):Prop:=match ts with
 |[]=>False
 |t::r=>match r with
  |[]=>yk t (λZ Z=>False) (λZ Z Z=>False) (λo i p=>E.ev ct Xk o s λov s1=>E.ev ct Xk i s1 λiv s2=>aj (T.sym p) (yM s2.2 ov iv) λhp=>K .next (s2.1,hp)) (λZ Z Z=>False) (λZ Z Z Z=>False) (λZ Z Z Z=>False)
  |_::_=>False
end
section
theorem mH(h:fH v=false):RT v t l env=pure false:=gW (@Jo (λo=>cond (fH o) True (RT o t l env=pure false)) v (λZ Z Z=>Iy (pure false)) (λZ Z Z=>Iy (pure false)) (λZ Z Z Z=>Iy (pure false)) (λZ Z Z=>Iy (pure false)) (λZ Z Z Z=>Iy (pure false)) (λZ Z Z Z=>Iy (pure false)) (λZ Z Z=>Iy (pure false)) (λZ Z Z=>Iy (pure false)) (λZ Z Z Z=>trivial) (λZ Z Z Z=>trivial) (λZ Z Z Z Z=>trivial) (λZ Z Z Z=>Iy (pure false)) (λZ Z=>Iy (pure false)) (λZ Z=>Iy (pure false)) (λZ Z=>Iy (pure false)) (λZ Z Z Z=>Iy (pure false)) (λZ Z Z Z=>Iy (pure false)) (λZ Z Z Z=>Iy (pure false)) (λZ Z=>Iy (pure false)) (λZ Z Z=>Iy (pure false)) (λZ Z Z=>Iy (pure false)) (λZ Z Z=>Iy (pure false)) (λZ Z=>Iy (pure false)) (λZ Z=>Iy (pure false)) (λZ Z=>Iy (pure false)) (λZ Z Z=>Iy (pure false)) (λZ Z Z Z=>Iy (pure false))) (aa h rfl)
theorem oU(O:Ok C W)(e:uQ op a b=some r)(hu:VR W a u)(hv:VR W b v)(k:ax C W r (W.loc,W.hp) Q):ID C.M A (inplaceOp op u v) Q X W.s:=by
 cases op<;>first|exact nn e|skip
 . rcases d6 e with e|e
   . refine aH e λp h qq=>?_;clear e;subst qq
     (refine be (b_ h hu hv) λt t' Sr SD=>?_;refine aa Sr ?_;refine aa SD ?_)
     with_reducible exact iadd_int (ax.int O k (IL _))
   . refine ag e λp h e=>ad (au e) λhl e=>?_;replace e:=Iw e;subst e
     (refine be (iq h hu hv) λt t' Sr SD=>?_;refine aa Sr ?_;refine aa SD ?_)
     with_reducible exact P.iadd_str (ui O hl k)
 . refine aH e λp h qq=>?_;subst qq
   (refine be (b_ h hu hv) λt t' Sr SD=>?_;refine aa Sr ?_;refine aa SD ?_)
   with_reducible exact isub_int (ax.int O k (IL _))
theorem jY(O2:Ok C W){W0:Wd}{D L:Jn}(l:Le W0 W)(eL:W0.s.heap.get? L=.none)(hL:aK W L){h':Mk}(sb:Jt L W.s.heap h'):Ok C (W.to {W.s with heap:=h'})/\(∀{a v},VR W a v->VR (W.to {W.s with heap:=h'}) a v)/\Le W0 (W.to {W.s with heap:=h'}):=
 let⟨a,b,c⟩:=hL.set O2 (s:={W.s with heap:=h'}) sb.extBut (IC _) rfl rfl
 ⟨a,b,c W0 l eL⟩
variable (S:bh C n E)(O:Ok C W)(G:eM C n ct A env W Xk X)(T0:bd C T)
include S O G T0
theorem iW{elt:JC}{gens:List MZ}{sc:Od}{p:Pos}{K:AV->St->Prop}{Q:IF->IP->Prop}(e:jU T E ct Xk elt gens sc p (W.loc,W.hp) λacc s=>listAt T acc p s K)(k:∀a st,K a st->ax C W a st Q):
 ID C.M A (LH (.ListComp elt gens sc p) env) Q X W.s:=by
 refine aa (eval_ListComp _ _ _ _) ?_;refine jX S O G T0 (use:=none) e λacc st h D L m vs W2 l2 O2 q2 eD eL ne hD hL hn pl v2=>⟨m,hn,λh' sb=>?_⟩
 subst q2;refine am (jY (D:=D) O2 l2 eL hL sb) λO3 v3 l3=>?_;have hD3:aK (W2.to {W2.s with heap:=h'}) D:=⟨hD.m,hD.φ,ae (hD.d) λo e d=>⟨o,(sb.2 _ ne).trans e,d⟩⟩
 refine E6 (shown O3 l3 hD3 eD ((af pl λn e=>⟨n,(sb.2 _ ne).trans e⟩)) ⟨v2.1,λi x v a b=>v3 (v2.2 i x v a b)⟩ h) λa W4 h4 O4 l4 es Z Z Z r4=>?_;haveI:=k a _ h4 _ W4 l4 O4 r4 rfl;haveI this:=es▸this;exact this
end
section
variable {W:Wd}{K:aD->St->Prop}
theorem oV(t v):cond (kF t) True (Mq [t] v env=pure none):=@Jo (λo=>cond (kF o) True (Mq [o] v env=pure none)) t (λZ Z Z=>Iy (pure none)) (λZ Z Z=>Iy (pure none)) (λZ Z Z Z=>Iy (pure none)) (λZ Z Z=>Iy (pure none)) (λZ Z Z Z=>Iy (pure none)) (λZ Z Z Z=>Iy (pure none)) (λZ Z Z=>Iy (pure none)) (λZ Z Z=>Iy (pure none)) (λZ Z Z Z=>Iy (pure none)) (λZ Z Z Z=>Iy (pure none)) (λZ Z Z Z Z=>Iy (pure none)) (λZ Z Z Z=>Iy (pure none)) (λZ Z=>Iy (pure none)) (λZ Z=>Iy (pure none)) (λZ Z=>Iy (pure none)) (λZ Z Z Z=>Iy (pure none)) (λZ Z Z Z=>Iy (pure none)) (λZ Z Z Z=>Iy (pure none)) (λZ Z=>Iy (pure none)) (λZ Z Z=>Iy (pure none)) (λZ Z Z=>Iy (pure none)) (λZ Z Z=>Iy (pure none)) (λZ Z=>Iy (pure none)) (λZ Z=>Iy (pure none)) (λZ Z=>trivial) (λZ Z Z=>trivial) (λZ Z Z Z=>Iy (pure none))
theorem k7:Mq [t] (.Call f a k p) env=pure none:=@Jo (λo=>Mq [o] (.Call f a k p) env=pure none) t (λZ Z Z=>Iy (pure none)) (λZ Z Z=>Iy (pure none)) (λZ Z Z Z=>Iy (pure none)) (λZ Z Z=>Iy (pure none)) (λZ Z Z Z=>Iy (pure none)) (λZ Z Z Z=>Iy (pure none)) (λZ Z Z=>Iy (pure none)) (λZ Z Z=>Iy (pure none)) (λZ Z Z Z=>Iy (pure none)) (λZ Z Z Z=>Iy (pure none)) (λZ Z Z Z Z=>Iy (pure none)) (λZ Z Z Z=>Iy (pure none)) (λZ Z=>Iy (pure none)) (λZ Z=>Iy (pure none)) (λZ Z=>Iy (pure none)) (λZ Z Z Z=>Iy (pure none)) (λZ Z Z Z=>Iy (pure none)) (λZ Z Z Z=>Iy (pure none)) (λZ Z=>Iy (pure none)) (λZ Z Z=>Iy (pure none)) (λZ Z Z=>Iy (pure none)) (λZ Z Z=>Iy (pure none)) (λZ Z=>Iy (pure none)) (λZ Z=>Iy (pure none)) (λZ Z=>Iy (pure none)) (λZ Z Z=>Iy (pure none)) (λZ Z Z Z=>Iy (pure none))
theorem mI(h:(!kF t||ip v)=true):Mq [t] v env=pure none:=by refine t_ h (λh=>gW (oV t v) h) λh=>?_;obtain⟨f,a,k,p,rfl⟩:=uc h;exact k7
theorem mJ:Mq [t,u] v env=pure none:=@Jo (λo=>Mq [o,u] v env=pure none) t (λZ Z Z=>Iy (pure none)) (λZ Z Z=>Iy (pure none)) (λZ Z Z Z=>Iy (pure none)) (λZ Z Z=>Iy (pure none)) (λZ Z Z Z=>Iy (pure none)) (λZ Z Z Z=>Iy (pure none)) (λZ Z Z=>Iy (pure none)) (λZ Z Z=>Iy (pure none)) (λZ Z Z Z=>Iy (pure none)) (λZ Z Z Z=>Iy (pure none)) (λZ Z Z Z Z=>Iy (pure none)) (λZ Z Z Z=>Iy (pure none)) (λZ Z=>Iy (pure none)) (λZ Z=>Iy (pure none)) (λZ Z=>Iy (pure none)) (λZ Z Z Z=>Iy (pure none)) (λZ Z Z Z=>Iy (pure none)) (λZ Z Z Z=>Iy (pure none)) (λZ Z=>Iy (pure none)) (λZ Z Z=>Iy (pure none)) (λZ Z Z=>Iy (pure none)) (λZ Z Z=>Iy (pure none)) (λZ Z=>Iy (pure none)) (λZ Z=>Iy (pure none)) (λZ Z=>Iy (pure none)) (λZ Z Z=>Iy (pure none)) (λZ Z Z Z=>Iy (pure none))
theorem gF(h:bQ t=false):Nd (t::r) env=(false,RO t env)::Nd r env:=gW (@Jo (λo=>cond (bQ o) True (Nd (o::r) env=(false,RO o env)::Nd r env)) t (λZ Z Z=>Iy _) (λZ Z Z=>Iy _) (λZ Z Z Z=>Iy _) (λZ Z Z=>Iy _) (λZ Z Z Z=>Iy _) (λZ Z Z Z=>Iy _) (λZ Z Z=>Iy _) (λZ Z Z=>Iy _) (λZ Z Z Z=>Iy _) (λZ Z Z Z=>Iy _) (λZ Z Z Z Z=>Iy _) (λZ Z Z Z=>Iy _) (λZ Z=>Iy _) (λZ Z=>Iy _) (λZ Z=>Iy _) (λZ Z Z Z=>Iy _) (λZ Z Z Z=>Iy _) (λZ Z Z Z=>Iy _) (λZ Z=>Iy _) (λZ Z Z=>Iy _) (λZ Z Z=>Iy _) (λZ Z Z=>Iy _) (λZ Z=>trivial) (λZ Z=>Iy _) (λZ Z=>Iy _) (λZ Z Z=>Iy _) (λZ Z Z Z=>Iy _)) (aa h rfl)
theorem k8(h:(!b)=true):b=false:=by induction b with|false=>rfl|true=>exact h.symm
theorem uR(h:sL ct x=true):cx ct x=true:=by
 unfold sL at h;unfold cx;induction z:lk ct.scope.names x with
 |none=>exact IE (z▸h)
 |some k=>haveI h:=z▸h;induction k<;>first|rfl|exact IE h
theorem sM(V:bP ct W env)(h1:sL ct x=true)(h2:uP p px sc x=true):RT (.ListComp elt gens sc p) (some (.Name x px)) l env=pure true:=by
 have hk:env.kindOf x=some .local:=by
  have:=V.nm x;unfold sL at h1;induction z:lk ct.scope.names x with
  |none=>exact IE (z▸h1)
  |some k=>rw[z]at h1 this;induction k<;>first|exact this.1|exact IE h1
 (haveI q1:=(IQ.mp h2).1;haveI q2:=(IQ.mp h2).2)
 haveI e:RT (.ListComp elt gens sc p) (some (.Name x px)) l env=pure (env.blockKind==.function&&env.kindOf x==some .local&&px.line==p.line&& !(sc.names.any λq=>q.1==x&&(q.2==.local||q.2==.cell))):=rfl;haveI e2:(λq:Str×KB=>q.1==x&&(q.2==.local||q.2==.cell))=λq=>aZ q.1 x&&iw q.2:=funext λq=>by
  obtain⟨a,b⟩:=q;refine aa (bB _ _) ?_;induction b<;>rfl
 refine aa e (aa e2 ?_);show pure (_&&_&&_&& !(sc.names.any _))=_
 refine aa q2 (aa (by unfold Env.blockKind;exact aa V.kd rfl:(env.blockKind==.function)=true) (aa hk (aa (IY q1:px.line=p.line) ?_)));simp
variable (S:bh C n E)(O:Ok C W)(G:eM C n ct A env W Xk X)(T0:bd C T)
include S O G T0
theorem sN(hb:(sL ct x&&uP pc px sc x)=true)(e:jU T E ct Xk elt gens sc pc (W.loc,W.hp) λacc s1=>listAt T acc pc s1 λa s2=>K .next (st s2.1 x a,s2.2))(k:∀f st,K f st->fb C W f st Q):ID C.M A (exec (.Assign [.Name x px] (.ListComp elt gens sc pc) p') env) Q X W.s:=by
 refine ad (IQ.mp hb) λh1 h2=>aa (exec_Assign_arm _ _ _) (Ir (Km ?_));refine(show swapsWithSole [.Name x px] (.ListComp elt gens sc pc) p'.line env=pure true from sM (l:=p'.line) G.v h1 h2).symm▸(Ir (Ix ?_));refine aa (if_pos rfl) (Ir (?_:ID C.M A (do let _<-comprehension (.ListComp elt gens sc pc) sc env (firstIterPos gens pc) (newList []) (firstAsync gens) (firstIter gens env) (some λv=>RO (.Name x px) env v)) _ X W.s));refine Ir (jX S O G T0 e λacc s1 h D L m vs W2 l2 O2 q2 eD eL ne hD hL hn pl v2=>?_);subst q2;refine E6 (shown O2 l2 hD eD pl v2 h) λa W3 h3 O3 l3 es ef hφ hp3 r3=>?_;have L3:aK W3 L:=by
  refine ae hL.d λo e d=>⟨λq=>?_,λq=>(hφ L q).elim hL.φ λq=>ne q.symm,o,by refine aa es ?_;exact e,d⟩
  rcases q with q|⟨k,o,hm,q⟩
  . exact hL.m (.inl (by unfold Wd.own at q⊢;exact an ef q))
  . rcases hp3 k o hm with⟨o',h',z⟩|z
    . exact hL.m (.inr ⟨k,o',h',q.trans z⟩)
    . exact ne (q.trans z).symm
 refine(?_:ID C.M A (RO (.Name x px) env (.ref D)) _ X W2.s);refine(es)▸(NK (cM O3 (G.v.le l3) (uR h1) r3 λW4 l4 O4 q4=>?_));refine gp (by refine aa es ?_;exact hn:W3.s.heap.Ns L m) λo Sy ep eo r=>?_;refine⟨m,⟨o,Sy,ep,L3.at l4 eo,r⟩,λh' sb=>?_⟩;refine am (jY (D:=D) O4 (l3.trans O3 l4) eL (L3.le l4) sb) λO5 Z l5=>Ix (Ix ?_);exact k _ _ h3 .next _ l5 O5 rfl q4
theorem oW(e:C9 T E ct Xk t v (W.loc,W.hp) K)(k:∀f st,K f st->fb C W f st Q):ID C.M A (exec (.Assign [t] v p') env) Q X W.s:=by
 unfold C9 at e;have fin:∀{a st},ib T E ct Xk t a st (λs2=>K .next s2)->∀{v W1},Le W W1->Ok C W1->VR W1 a v->st=(W1.loc,W1.hp)->ID C.M A (RO t env v) (λZ=>Q .next) X W1.s:=λ{a st} h1 {v W1} l1 O1 r1 q1=>by
  subst q1;exact cz S O1 (G.le O1 l1) T0 h1 r1 λs2 h2 W2 l2 O2 q2=>k _ _ h2 .next W2 (l1.trans O1 l2) O2 rfl q2
 induction hl:E_ v with
 |true=>
  rw[hl]at e;induction dK e with
  |lc elt gens sc pc q e1=>
   clear e hl;subst q;induction dK e1 with
   |nm x px q e2=>subst q;exact ad (ao e2) λhb e3=>sN S O G T0 hb e3 k
   |at_ o a pa q e2=>subst q;exact QB (S.ev O G e2 λa s1 h1 v W1 l1 O1 r1 q1=>fin h1 l1 O1 r1 q1) rfl rfl
   |_=>contradiction
  |_=>contradiction
 |false=>rw[hl]at e;refine ad (ao e) λhb e=>ad (IQ.mp hb) λhb h3=>ad (IQ.mp hb) λh1 h2=>QB (S.ev O G e λa s1 TW v W1 l1 O1 r1 q1=>?_) (mH (k8 h2)) (mI h3);exact(gF (k8 h1)).symm▸(fin TW l1 O1 r1 q1)
theorem oX(e:Fo T E ct Xk ts v (W.loc,W.hp) K)(k:∀f st,K f st->fb C W f st Q):ID C.M A (exec (.Assign ts v p') env) Q X W.s:=by
 cases ts with
 |nil=>exact e.elim
 |cons t r=>
 cases r with
 |nil=>exact oW S O G T0 e k
 |cons u r=>
 induction r with
 |cons Z Z=>exact e.elim
 |nil=>have e:Fn T E ct Xk t u v (W.loc,W.hp) K:=e;refine ad (ao e) λhb e=>ad (IQ.mp hb) λh1 h2=>wpAny_Assign_two (S.ev O G e λa s1 h3 v W1 l1 O1 r1 q1=>?_) (by exact aa (gF (k8 h1)) (aa (gF (k8 h2)) rfl)) mJ;subst q1;refine cz S O1 (G.le O1 l1) T0 h3 r1 λs2 h4 W2 l2 O2 q2=>?_;subst q2;have L:=l1.trans O1 l2;exact cz S O2 (G.le O2 L) T0 h4 (O1.vr l2 r1) λs3 h5 W3 l3 O3 q3=>k _ _ h5 .next W3 (L.trans O2 l3) O3 rfl q3
theorem oY(e:Fp T E ct Xk t op v p (W.loc,W.hp) K)(k:∀f st,K f st->fb C W f st Q):ID C.M A (exec (.AugAssign t op v p') env) Q X W.s:=by
 induction dK e with
 |at_ o a pa q e1=>
  refine aa q ?_;refine wpAny_AugAssign_AttributeAny (S.ev O G e1 λo s1 h1 u W1 l1 O1 r1 q1=>?_);subst q1;obtain⟨old,h2,h3⟩:=aS h1;refine fm O1 T0 h2 r1 λov W2 l2 O2 r2 q2=>?_;haveI h3:=q2▸h3;refine S.ev O2 (G.le O2 (l1.trans O1 l2)) h3 λb s3 h4 w W3 l3 O3 r3 q3=>?_;subst q3;obtain⟨new,h5,h6⟩:=aS h4;refine oU O3 h5 (O2.vr l3 r2) r3 λnv W4 l4 O4 r4 q4=>cw h6 λhp h7 h8=>?_;haveI h7:=((congrArg Qc q4).symm:W4.hp=W3.hp)▸h7;exact iP O4 T0 h7 (O3.vr l4 (O2.vr l3 (O1.vr l2 r1))) r4 λW5 l5 O5 q5=>k _ _ h8 .next W5 ((((l1.trans O1 l2).trans O2 l3).trans O3 l4).trans O4 l5) O5 rfl (by
   have:=congrArg MG q4;exact an q5 (Pt this rfl))
 |_=>contradiction
omit T0 in
theorem oZ(e:Fq T E ct Xk ts (W.loc,W.hp) K)(k:∀f st,K f st->fb C W f st Q):ID C.M A (exec (.Delete ts p) env) Q X W.s:=by
 cases ts with
 |nil=>exact e.elim
 |cons t r=>
 induction r with
 |cons Z Z=>exact e.elim
 |nil=>
 induction dK e with
 |sub o i p q e1=>refine aa q ?_;refine wpAny_Delete (wpAny_deleteEach_cons (wpAny_delete_Subscript (S.ev O G e1 λo s1 h1 u W1 l1 O1 r1 q1=>?_)));subst q1;refine S.ev O1 (G.le O1 l1) h1 λi s2 h2 w W2 l2 O2 r2 q2=>?_;subst q2;obtain⟨hp,h3,h4⟩:=aS h2;exact oN O2 h3 (O1.vr l2 r1) r2 λW3 l3 O3 q3=>wpAny_deleteEach_nil (k _ _ h4 .next W3 ((l1.trans O1 l2).trans O2 l3) O3 rfl q3)
 |_=>contradiction
end
noncomputable def fnOf (T:Tb)(hp:Hp)(a:AV)(name:Str):Option Jn:=(cy hp a).bind λp=>(T.attr p.1 name).bind λk=>k.fn?.bind λf=>gd (lk p.2.2.1 name).isNone (some f)
def uS (T:Tb)(E:jw)(ct:Ct)(Xk:XK)(o:JC)(name:Str)(apos:Pos)(e:JC)(p:Pos)(s:St)(K:AV->St->Prop):Prop:=aj false (gd (bV o&&(ct.calm&&ct.top)) (some ())) λZ=>E.ev ct Xk o s λa s1=>aj (T.sym apos) (fnOf T s1.2 a name) λf=>
 E.ev ct Xk e s1 λx s2=>aj (T.sym p) ((aU s2.2 x).or x.tup?) λxs=>aj (T.sym p) (gd (ai xs.length) (some ())) λZ=>T.call (.top f) (a::xs) [] s2.2 (λr hp=>K r (s2.1,hp)) λx hp=>Xk x (s2.1,hp)
section
variable {C:Cx}{Xk:XK}{A:J0}{X:IF->IP->Prop}
theorem k9(O:Ok C W)(T0:bd C T)(e:fnOf T W.hp a name=some f)(hu:VR W a u):
 ∃x Cc ox od,u=.ref x/\InstAt W.s.heap x ox Cc (some od)/\yK C.K Cc name f=true/\lookIn name od=some none:=by
 refine ae (IG.mp e) λp h1 e=>ae (IG.mp e) λk h2 e=>ae (IG.mp e) λf' h3 e=>ad (au e) λh4 e=>?_;replace e:=Iw e;refine an e (ub (ei O h1 hu) λx q84 hm hdm Sr=>?_);clear hu;subst q84;refine CN Sr λl m kvs ho hk hpr hn hkk hx I=>⟨_,_,_,_,rfl,I,T0.fn _ _ _ (fn?_is h3▸h2),?_⟩
 refine aa (lookIn_dict _ _ _) (aa (fh hpr) ?_);rcases bR hkk hx name with⟨Z,q2⟩|⟨a',v',q1,Z⟩
 . exact aa q2 rfl
 . exact IE (q1▸h4)
theorem C_(z:(a&&b&&c&&d&&e&&f&&g&&h)=true):a=true/\b=true/\c=true/\d=true/\e=true/\f=true/\g=true/\h=true:=by simp only[Kx]at z;exact⟨z.1.1.1.1.1.1.1,z.1.1.1.1.1.1.2,z.1.1.1.1.1.2,z.1.1.1.1.2,z.1.1.1.2,z.1.1.2,z.1.2,z.2⟩
theorem uT(O:Ok C W)(T0:bd C T)(e:fnOf T W.hp a name=some f)(hu:VR W a u)(k:Q (.ref f,[u]) W.s):ID C.M A (MR u name pl) Q X W.s:=by refine CP (k9 O T0 e hu) λx Cc ox od Sn I h1 h2=>?_;clear hu;subst Sn;exact jG (C_ h1) λg1 g2 g3 g4 g5 g6 g7 g8=>method_fn O.X I (Nu g1).1 (Nu g1).2 (beq_iff_eq.mp g2) (beq_iff_eq.mp g3) (by refine(?_:(lookIn name od).map _=_);exact aa h2 rfl) k
theorem bound(O:Ok C W)(T0:bd C T)(e:fnOf T W.hp a name=some f)(hu:VR W a u)
 (k:∀W',Le W W'->Ok C W'->(W.loc,W.hp)=(W'.loc,W'.hp)->aK W' W.s.heap.objs.size->W'.s.heap.get? W.s.heap.objs.size=some (methodObj (.ref f) u)->Q (.ref W.s.heap.objs.size) W'.s):ID C.M A (Rp u name b) Q X W.s:=by
 refine CP (k9 O T0 e hu) λx Cc ox od Sn I h1 h2=>?_;clear hu;subst Sn;refine jG (C_ h1) λg1 g2 g3 g4 g5 g6 g7 g8=>?_;haveI fo:Rn C.K Cc (some od) name=some (.bind (.builtin "function.__get__") (.ref f)):=by
  exact ae (MJ g5) λcd hc hd=>kR hc (beq_iff_eq.mp g2) (beq_iff_eq.mp g6) (beq_iff_eq.mp g7) (by unfold PySem.W.ownOf;exact aa (if_pos hd) h2) (by simpa using g8)
 have O1:=O.tick (IL W.s.toks);refine ad (O1.lone (o:=methodObj (.ref f) (.ref x)) rfl λv z=>nomatch z) λS2 L2=>get_bind O.X I (Nu g1).1 fo (Nu g1).2 (Ln (fn_get (s:={W.s with toks:=W.s.toks+1}) O.X (beq_iff_eq.mp g3) (RR rfl ?_)));exact k _ ((O.ltick (IL _)).trans O1 (S2.le O1)) (S2.ok O1) rfl L2 (IW _ rfl)
inductive mK(W:Wd)(xs:List AV):IF->Prop
 |mk {ra:Jn} {vs:List IF} {Ty:String} {ow:Obj} {nn:Nat}:(Ty="list"\/Ty="tuple")->W.s.heap.get? ra=some ow->ow.cls=.type Ty->ow.data=.seq (Kz vs) nn->aF W xs vs->mK W xs (.ref ra)
theorem mK.ni(h:mK W xs w)(q:Q false W.s):ID C.M A (notIterableAtAll w) Q X W.s:=mK.casesOn h λ{ra vs Ty ow nn} hTy ho hc hd hx=>by
 have hT:W.s.TypeIs (.ref ra) Ty:=⟨ow,ho,hc⟩
 rcases hTy with rfl|rfl
 . exact Ir (JS hT slot_list_iter.lookup (Ix q))
 . exact Ir (JS hT F.slot_tuple_iter.lookup (Ix q))
theorem mK.col(h:mK W xs w)(hl:ai xs.length=true)(q:∀vs h',(∀a o,W.s.heap.get? a=some o->h'.get? a=some o)->aF W xs vs->Q vs {W.s with heap:=h'}):ID C.M A (collect w) Q X W.s:=mK.casesOn h λ{ra vs Ty ow nn} hTy ho hc hd hx=>wpAny_collect_seq ra hTy ho hc hd (λh' kp=>q vs h' kp hx) (aa Jk (an hx.1 (aq hl)))
theorem mL(O:Ok C W)(D:Good C n T)(G:eM C (n+1) ct A env W Xk X)(S:bh C (n+1) E){o e}{name}{apos p sp}{K}{Q}(h:uS T E ct Xk o name apos e p (W.loc,W.hp) K)(k:∀a st,K a st->ax C W a st Q):
 ID C.M A (LH (.Call (.Attribute o name apos) [.Starred e sp] [] p) env) Q X W.s:=by
 refine ad (ao h) λhb h=>?_
 (haveI h1:=(IQ.mp hb).1;haveI h2:=(IQ.mp hb).2)
 refine aa (QK _ _ _ _ _ _ _) (aa (dc h1 _ _ _) ?_);refine Ir (S.ev O G h λa s1 z1 u W1 l1 O1 r1 q1=>Ir (Km ?_));rw[q1]at z1;refine jM z1 λf z2 z3=>?_;show ID C.M A (do
  let(f,first)<-Sh [u] (do pure (<-Rp u name true,([]:List IF)))
  let callPos<-(pure p:Sem Pos)
  Rl callPos f first (Qe p [(true,LH e env)]) []) Q X W1.s
 refine Ir (I1 (Ir (bound O1 D.attr z2 r1 λW2 l2 O2 q2 L2 gq=>Ix (Ir (Ix ?_)))));have L12:=l1.trans O1 l2;rw[q2]at z3;refine dh (?_:ID C.M A (evalArgs (.ref W1.s.heap.objs.size) true [(true,do let v<-LH e env;standAt p;pure v)] []) _ X W2.s);refine Ir (Ir (S.ev O2 (G.le O2 L12) z3 λx s3 z4 w W3 l3 O3 r3 q3=>Ir (Km (Ix (Ir (Ix ?_))))));haveI z4:=q3▸z4;refine jM z4 λxs z5 z6=>ad (ao z6) λhl z7=>?_;haveI L3:=L12.trans O2 l3
 (haveI hh:=((G.le O3 L3).call h2).1;haveI Sm:=((G.le O3 L3).call h2).2)
 refine ae Sm λls hfr hst=>?_;haveI sq:mK W3 xs w:=bt z5 (λz5=>aP (aX O3 z5 r3) λl vs Sn Ss hx=>cm Ss λow e1 e2 q=>af q λnn e3=>Sn▸.mk (.inl rfl) e1 e2 e3 hx) λz5=>bJ ((tup?_is z5▸r3:VR W3 (.tup xs) w).tup') λd vs Sn Z Ss hx=>cm Ss λow e1 e2 q=>af q λnn e3=>Sn▸.mk (.inr rfl) e1 e2 e3 hx;refine I1 (Ir (wpAny_evalAll_nil (Ir (Ir (sq.ni ?_)))));refine yz KM (I1 (sq.col hl λvs h' kp hx=>?_));refine Ix ?_;have S4:=O3.grown (s:={W3.s with heap:=h'}) kp (IC _) rfl rfl;haveI O4:=S4.ok O3;haveI L4:=L3.trans O3 (S4.le O3);haveI gq4:=kp _ _ (L2.at l3 gq);refine⟨⟨.boundFrame,(Oz gq4).andThen ?_⟩,Ln (method_call gq4 ?_)⟩
 . exact CP (k9 O1 D.attr z2 r1) λx Cc ox od Z I g Z=>iH (C_ g) λg1 g2 g3 g4 Z=>ae (yl g4) λo h1 h2=>af h2 λfd h2=>(Oz (kp _ _ (O3.X _ _ h1))).andThen (aa h2 .now)
 . exact D.call _ _ _ _ _ _ z7 A _ ls _ _ _ _ O4 (G.r.less (IL _)) hh hfr hst rfl .top (.cons (O3.vr (S4.le O3) (O2.vr l3 (O1.vr l2 r1))) (O3.vrs (S4.le O3) hx)) trivial (λr Sp z v W' l' o' r' q'=>k _ _ z v W' (L4.trans O4 l') o' r' q') λx Sp z v W' l' o' x' q'=>G.hx _ _ z v W' (L4.trans O4 l') o' (x'.sooner O4 L4) q'
end
noncomputable def iX (x y z:Str):Bool:=!aZ y z&&Qk (x.length+(x.length+1)*z.length) 16777216
def uU (T:Tb)(E:jw)(ct:Ct)(Xk:XK)(o:JC)(apos:Pos)(y z:Str)(p:Pos)(s:St)(K:AV->St->Prop):Prop:=aj false (gd (bV o&&IT apos.endLine p.line) (some ())) λZ=>E.ev ct Xk o s λa s1=>aj (T.sym p) a.str? λx=>aj (T.sym p) (gd (iX x y z) (some ())) λZ=>K (.str (Np x y z)) s1
section
set_option maxRecDepth 4000 in
theorem mM(S:bh C n E)(O:Ok C W)(G:eM C n ct A env W Xk X){o}{y z}{apos p p1 p2}{k1 k2}{K}{Q}(h:uU T E ct Xk o apos y z p (W.loc,W.hp) K)(k:∀a st,K a st->ax C W a st Q):
 ID C.M A (LH (.Call (.Attribute o "replace" apos) [.Constant (.str y) k1 p1,.Constant (.str z) k2 p2] [] p) env) Q X W.s:=by
 obtain⟨hb,h⟩:=ao h;obtain⟨h1,h2⟩:=IQ.mp hb;refine aa (QK _ _ _ _ _ _ _) (aa (dc h1 _ _ _) ?_);refine Ir (S.ev O G h λa s1 z1 u W1 l1 O1 r1 q1=>Ir (Km ?_));subst q1;obtain⟨x,z2,z3⟩:=aS z1;obtain⟨hr,z4⟩:=ao z3;clear z1;obtain rfl:=str?_is z2;obtain⟨t,rfl⟩:=r1.str';obtain⟨r1',r2⟩:=IQ.mp hr;unfold methodCall calleeOf methodCallPos;refine aa (rfl:Qg (Kn [JC.Constant (.str y) k1 p1,.Constant (.str z) k2 p2]+Kn ([]:List Ny)) (Qe p (ML [.Constant (.str y) k1 p1,.Constant (.str z) k2 p2] env)) (M3 p (Lz [] env))=true) ?_;dsimp only
 with_reducible refine Ir (I1 (Rq (Nf _ x t) Pk F.slot_str_replace F.type_str_replace GM.noRef ?_))
 have hp:(!true||apos.endLine==p.line)=true:=by have:apos.endLine=p.line:=IY h2;refine aa this ?_;simp
 refine Ir (m:=if(!true||apos.endLine==p.line)=true then pure p else _) (aa (if_pos hp) (Ix (dh ?_)));refine evalArgs_plain (?_:ID C.M A (Rt [(false,LH (.Constant (.str y) k1 p1) env),(false,LH (.Constant (.str z) k2 p2) env)]) _ X W1.s);unfold Rt
 with_reducible refine Ir (OG (Ir (Ix (Ir (I1 ?_)))))
 unfold Rt;refine Ir (OG (Ir (Ix (Ir (I1 ?_)))));unfold Rt;refine Ix (Ix (Ix ⟨⟨.machine,.now⟩,?_⟩));have tk:=O1.tk;refine KL (n:=W1.s.toks) (by refine(?_:W1.s.toks<=W1.s.toks+1+1);exact JH (IK _ _)) (SC.replace (by refine(?_:W1.s.toks≠0);exact Nat.ne_zero_of_lt tk) (by refine(?_:W1.s.toks+1≠0);exact Kr (ktu_ne 1 tk)) (by refine(?_:W1.s.toks≠W1.s.toks+1);exact Qb W1.s.toks) (by refine aa (bB _ _) ?_;simpa using r1':(y==z)=false) (Iv r2) λt' j hj=>?_);exact ax.str O1 ((k _ _ z4).later O1 l1) hj
end
section
variable (T:Tb)(E:jw)
def Fs (ct:Ct)(Xk:XK)(o:JC)(a:Str)(ap:Pos)(args:List JC)(kws:List Ny)(p:Pos)(s:St)(K:AV->St->Prop):Prop:=match kws with
 |[]=>(match qH args with
  |some e=>uS T E ct Xk o a ap e p s K
  |.none=>match ym args with
   |some q=>(match aZ a "replace" with
    |true=>uU T E ct Xk o ap q.1 q.2 p s K
    |false=>jP T E ct Xk o a ap args [] p s K)
   |.none=>jP T E ct Xk o a ap args [] p s K)
 |w::r=>jP T E ct Xk o a ap args (w::r) p s K
def Ci (ct:Ct)(Xk:XK)(f:JC)(args:List JC)(kws:List Ny)(p:Pos)(s:St)(K:AV->St->Prop):Prop:=yk f
 (λx q=>uA T E ct Xk (.Name x q) args kws p s K) (λo a ap=>Fs T E ct Xk o a ap args kws p s K) (λv i q=>uA T E ct Xk (.Subscript v i q) args kws p s K)
 (λZ Z Z=>False) (λZ Z Z Z=>False) (λZ Z Z Z=>False)
def HC (ct:Ct)(Xk:XK)(e:JC)(s:St)(K:AV->St->Prop):Prop:=@Jo (λZ=>Prop) e (λop vs p=>qO T E ct Xk op p vs s K) (λt v Z=>ut E ct Xk t v s K) (λl op r p=>Fg T E ct Xk l op r p s K) (λop x p=>Hz T E ct Xk op x p s K) (λZ Z Z Z=>False) (λc a b p=>HA T E ct Xk c a b p s K) (λks vs p=>@J6 _ (λZ=>Prop) ks (@J6 _ (λZ=>Prop) vs (Ch T p s K) λZ Z=>False) λZ Z=>False) (λZ Z Z=>False) (λelt gens sc p=>jU T E ct Xk elt gens sc p s λacc s1=>listAt T acc p s1 K) (λZ Z Z Z=>False) (λZ Z Z Z Z=>False) (λZ Z Z Z=>False) (λZ Z=>False) (λZ Z=>False) (λZ Z=>False) (λl ops rs p=>sm ops λop=>sm rs λr=>CY T E ct Xk l op r p s λb s1=>K (.bool b) s1) (λf args kws p=>Ci T E ct Xk f args kws p s K) (λZ Z Z Z=>False) (λvs Z=>sm vs λx=>E.ev ct Xk x s K) (λc Z Z=>aj false (oB c) λv=>K v s) (λo a p=>Cg T E ct Xk o a p s K) (λv i p=>Fj T E ct Xk v i p s K) (λZ Z=>False) (λx p=>aj false (gd (!aZ x "__debug__") (some ())) λZ=>aj (T.sym p) (ms T ct x s.1) λv=>K v s) (λes p=>listE T E ct Xk es p s K) (λes Z p=>Fh T E ct Xk es p s K) (λZ Z Z Z=>False)
def HD (ct:Ct)(Xk:XK)(e:JC)(s:St)(K:Bool->St->Prop):Prop:=@Jo (λZ=>Prop) e (λop vs p=>GG T E ct Xk op p vs s K) (λZ Z Z=>(E.ev ct Xk e s λa s1=>aj (T.sym e.pos) (d8 s1.2 a) λb=>K b s1)) (λZ Z Z Z=>(E.ev ct Xk e s λa s1=>aj (T.sym e.pos) (d8 s1.2 a) λb=>K b s1)) (λop x p=>@UnaryOp.casesOn (λZ=>Prop) op (E.ev ct Xk e s λa s1=>aj (T.sym e.pos) (d8 s1.2 a) λb=>K b s1) (E.tr ct Xk x s λb s1=>K (!b) s1) (E.ev ct Xk e s λa s1=>aj (T.sym e.pos) (d8 s1.2 a) λb=>K b s1) (E.ev ct Xk e s λa s1=>aj (T.sym e.pos) (d8 s1.2 a) λb=>K b s1)) (λZ Z Z Z=>(E.ev ct Xk e s λa s1=>aj (T.sym e.pos) (d8 s1.2 a) λb=>K b s1)) (λZ Z Z Z=>False) (λZ Z Z=>(E.ev ct Xk e s λa s1=>aj (T.sym e.pos) (d8 s1.2 a) λb=>K b s1)) (λZ Z Z=>(E.ev ct Xk e s λa s1=>aj (T.sym e.pos) (d8 s1.2 a) λb=>K b s1)) (λZ Z Z Z=>(E.ev ct Xk e s λa s1=>aj (T.sym e.pos) (d8 s1.2 a) λb=>K b s1)) (λZ Z Z Z=>(E.ev ct Xk e s λa s1=>aj (T.sym e.pos) (d8 s1.2 a) λb=>K b s1)) (λZ Z Z Z Z=>(E.ev ct Xk e s λa s1=>aj (T.sym e.pos) (d8 s1.2 a) λb=>K b s1)) (λZ Z Z Z=>(E.ev ct Xk e s λa s1=>aj (T.sym e.pos) (d8 s1.2 a) λb=>K b s1)) (λZ Z=>(E.ev ct Xk e s λa s1=>aj (T.sym e.pos) (d8 s1.2 a) λb=>K b s1)) (λZ Z=>(E.ev ct Xk e s λa s1=>aj (T.sym e.pos) (d8 s1.2 a) λb=>K b s1)) (λZ Z=>(E.ev ct Xk e s λa s1=>aj (T.sym e.pos) (d8 s1.2 a) λb=>K b s1)) (λl ops rs p=>sm ops λop=>sm rs λr=>CY T E ct Xk l op r p s K) (λZ Z Z Z=>(E.ev ct Xk e s λa s1=>aj (T.sym e.pos) (d8 s1.2 a) λb=>K b s1)) (λZ Z Z Z=>(E.ev ct Xk e s λa s1=>aj (T.sym e.pos) (d8 s1.2 a) λb=>K b s1)) (λZ Z=>(E.ev ct Xk e s λa s1=>aj (T.sym e.pos) (d8 s1.2 a) λb=>K b s1)) (λZ Z Z=>(E.ev ct Xk e s λa s1=>aj (T.sym e.pos) (d8 s1.2 a) λb=>K b s1)) (λZ Z Z=>(E.ev ct Xk e s λa s1=>aj (T.sym e.pos) (d8 s1.2 a) λb=>K b s1)) (λZ Z Z=>(E.ev ct Xk e s λa s1=>aj (T.sym e.pos) (d8 s1.2 a) λb=>K b s1)) (λZ Z=>(E.ev ct Xk e s λa s1=>aj (T.sym e.pos) (d8 s1.2 a) λb=>K b s1)) (λZ Z=>(E.ev ct Xk e s λa s1=>aj (T.sym e.pos) (d8 s1.2 a) λb=>K b s1)) (λZ Z=>(E.ev ct Xk e s λa s1=>aj (T.sym e.pos) (d8 s1.2 a) λb=>K b s1)) (λZ Z Z=>(E.ev ct Xk e s λa s1=>aj (T.sym e.pos) (d8 s1.2 a) λb=>K b s1)) (λZ Z Z Z=>(E.ev ct Xk e s λa s1=>aj (T.sym e.pos) (d8 s1.2 a) λb=>K b s1))
def GN (ct:Ct)(Xk:XK)(c:Ld)(s:St)(K:aD->St->Prop):Prop:=@Oq (λZ=>Prop) c (λZ Z Z Z Z Z Z Z Z Z=>T.hook c E ct Xk s K) (λZ Z Z Z Z Z Z Z Z Z=>T.hook c E ct Xk s K) (λZ Z Z Z Z Z Z Z Z Z Z=>T.hook c E ct Xk s K) (λe Z=>@KI _ (λZ=>Prop) e (K (.ret .none) s) λe=>E.ev ct Xk e s λa s1=>K (.ret a) s1) (λts Z=>Fq T E ct Xk ts s K) (λts v Z=>Fo T E ct Xk ts v s K) (λZ Z Z Z Z Z Z=>T.hook c E ct Xk s K) (λt op v p=>Fp T E ct Xk t op v p s K) (λZ Z Z Z Z=>T.hook c E ct Xk s K) (λt it b e p=>Fk T E ct Xk t it b e p s K) (λZ Z Z Z Z=>T.hook c E ct Xk s K) (λc b e p=>∃m,aV T E ct c b e p m s K) (λc b e p=>E.tr ct Xk c s λt s1=>ask (T.sym p) t λt=>E.exs ct Xk (match t with|true=>b|false=>e) s1 K) (λZ Z Z=>T.hook c E ct Xk s K) (λZ Z Z=>T.hook c E ct Xk s K) (λZ Z Z=>T.hook c E ct Xk s K) (λZ Z Z=>T.hook c E ct Xk s K) (λZ Z Z Z Z=>T.hook c E ct Xk s K) (λZ Z Z Z Z=>T.hook c E ct Xk s K) (λZ Z Z=>T.hook c E ct Xk s K) (λZ Z=>T.hook c E ct Xk s K) (λZ Z Z Z=>T.hook c E ct Xk s K) (λZ Z=>T.hook c E ct Xk s K) (λZ Z=>T.hook c E ct Xk s K) (λe Z=>aj false (gd (!fH e) (some ())) λZ=>E.ev ct Xk e s λZ s1=>K .next s1) (λZ=>K .next s) (λZ=>K .brk s) (λZ=>K .cont s)
noncomputable def aD.isNext:aD->Bool|.next=>true|_=>false
noncomputable def sO (ct:Ct)(Xk:XK):List Ld->St->(aD->St->Prop)->Prop
 |[],s,K=>K .next s
 |c::r,s,K=>GN T E ct Xk c s λf s1=>match f.isNext with
  |true=>sO ct Xk r s1 K
  |false=>K f s1
noncomputable def Cj:jw:=⟨HC T E,HD T E,sO T E⟩
end
def fq (C:Cx)(n:Nat)(T:Tb):Prop:=∀{E:jw} {c:Ld} {ct:Ct} {A:J0} {env:Env} {W:Wd} {Xk:XK} {K:aD->St->Prop} {Q:R8->IP->Prop} {X:IF->IP->Prop},bh C n E->Ok C W->eM C n ct A env W Xk X->
 T.hook c E ct Xk (W.loc,W.hp) K->(∀a st,K a st->fb C W a st Q)->ID C.M A (exec c env) Q X W.s
section
variable {E:jw}{ct:Ct}{Xk:XK}{A:J0}{env:Env}{X:IF->IP->Prop}
theorem mO(D:Good C n T)(S:bh C (n+1) E)(O:Ok C W)(G:eM C (n+1) ct A env W Xk X){f}{args}{kws:List Ny}{p}{K}{Q}(h:Ci T E ct Xk f args kws p (W.loc,W.hp) K)(k:∀a st,K a st->ax C W a st Q):ID C.M A (LH (.Call f args kws p) env) Q X W.s:=by
 cases dK h with
 |at_ o a ap e h=>
  refine aa e ?_;induction kws with
  |cons w r=>exact dQ O D G S h k
  |nil=>
   haveI h:(match qH args with
    |some e=>uS T E ct Xk o a ap e p (W.loc,W.hp) K
    |.none=>match ym args with
     |some q=>(match aZ a "replace" with
      |true=>uU T E ct Xk o ap q.1 q.2 p (W.loc,W.hp) K
      |false=>jP T E ct Xk o a ap args [] p (W.loc,W.hp) K)
     |.none=>jP T E ct Xk o a ap args [] p (W.loc,W.hp) K):=h
   induction h1:qH args with
   |some e=>
    rw[h1]at h
    (refine af (ue h1) λp' Sm=>?_;refine aa Sm ?_)
    exact mL O D G S h k
   |none=>
    rw[h1]at h;induction h2:ym args with
    |none=>haveI h:=h2▸h;exact dQ O D G S h k
    |some q=>
     rw[h2]at h;induction z:aZ a "replace" with
     |false=>dsimp only at h;haveI h:=z▸h;exact dQ O D G S h k
     |true=>dsimp only at h;rw[z]at h;obtain⟨Z,Z,Z,Z,rfl⟩:=yn h2;exact(aL.mp z).symm▸(mM S O G h k)
 |nm x q e h=>refine aa e ?_;exact gX O D G S rfl h k
 |sub v i q e h=>refine aa e ?_;exact gX O D G S rfl h k
 |_=>contradiction
theorem sP(D:Good C n T)(S:bh C (n+1) E)(O:Ok C W)(G:eM C (n+1) ct A env W Xk X){e}{K}{Q}(h:HC T E ct Xk e (W.loc,W.hp) K)(k:∀a st,K a st->ax C W a st Q):ID C.M A (LH e env) Q X W.s:=by
 cases e with
 |Constant c=>haveI h:aj false (oB c) λv=>K v (W.loc,W.hp):=h;exact cw h λv h1 h2=>mt O h1 (k _ _ h2)
 |Name x p=>
  haveI h:aj false (gd (!aZ x "__debug__") (some ())) λZ=>aj (T.sym p) (ms T ct x W.loc) λv=>K v (W.loc,W.hp):=h;exact ad (ao h) λhd h=>cw h λv h1 h2=>fi D.glob O G.v h1 (by refine aa (bB _ _) ?_;exact Mw _ |>.mp hd) (k _ _ h2)
 |BinOp=>exact oC S O G h k
 |UnaryOp=>exact sy S O G h k
 |BoolOp=>exact mv S O G h k
 |Compare l ops rs p=>
  refine mh h λop q h=>mh h λr q' h=>?_;subst q q'
  . (haveI h1:=(fj S O G (IS D.pos) D.nt h λb st h=>k _ _ h).1;haveI h2:=(fj S O G (IS D.pos) D.nt h λb st h=>k _ _ h).2)
    exact wpAny_Compare1 h2 h1
 |NamedExpr=>exact kO S O G h k
 |IfExp=>exact sB S O G h k
 |Tuple=>exact oD S O G h k
 |List=>exact mu S O G h k
 |Dict ks vs p=>
  cases ks<;>induction vs<;>first|exact mA O h k|exact Mc h
 |Attribute=>exact mz O D G S h k
 |Subscript=>exact oK S O G h k
 |Call f args kws p=>exact mO D S O G h k
 |ListComp=>exact iW S O G D.attr h k
 |JoinedStr vs p=>exact mh h λx q h=>aa q (aa (arm_eval_JoinedStr _ _ _) (S.ev O G h k))
 |_=>exact Mc h
theorem sQ(hn:2<=n)(N:NT C T.nt)(S:bh C n E)(O:Ok C W)(G:eM C n ct A env W Xk X){e}{K}{Q}(h:HD T E ct Xk e (W.loc,W.hp) K)(k:∀a st,K a st->dE C W a st Q):ID C.M A (MP e env (LH e env)) Q X W.s:=by
 have dflt:∀{e:JC},MP e env (LH e env)=(do let v<-LH e env;standAt e.pos;Sh [v] (truthy v))->(E.ev ct Xk e (W.loc,W.hp) λa s1=>aj (T.sym e.pos) (d8 s1.2 a) λb=>K b s1)->ID C.M A (MP e env (LH e env)) Q X W.s:=by intro e eq h;refine aa eq (Ir (S.ev O G h λa s1 h1 v W1 l1 O1 r1 q1=>Ir (Km (I1 ?_))));subst q1;exact cw h1 λb h2 h3=>gy O1 h2 r1 λW2 l2 O2 q2=>k _ _ h3 W2 (l1.trans O1 l2) O2 q2
 cases e with
 |UnaryOp op x p=>
  induction op with
  |Not=>exact(rfl:MP (.UnaryOp .Not x p) env (LH (.UnaryOp .Not x p) env)=(do return !(<-MP x env (LH x env)))).symm▸(Ir (S.tr O G h λb st h1 W1 l1 O1 q1=>Ix (k _ _ h1 W1 l1 O1 q1)))
  |_=>exact dflt rfl h
 |BoolOp op vs p=>exact sA S O G h k
 |Compare l ops rs p=>
  refine mh h λop q h=>mh h λr q' h=>?_;subst q q'
  . obtain⟨h1,h2⟩:=fj (Q:=λv s=>ID C.M A (truthy v) Q X s) S O G hn N h λb st h v W1 l1 O1 r1 q1=>by
     exact aa r1.bool' (Rv (k _ _ h W1 l1 O1 q1))
    exact wpAny_isTrue_Compare1 h2 h1
 |IfExp=>exact Mc h
 |_=>exact dflt rfl h
theorem sR(T0:bd C T)(H:fq C n T)(S:bh C n E)(O:Ok C W)(G:eM C n ct A env W Xk X){c}{K}{Q:R8->IP->Prop}(h:GN T E ct Xk c (W.loc,W.hp) K)(k:∀a st,K a st->fb C W a st Q):ID C.M A (exec c env) Q X W.s:=by
 cases c with
 |Expr e p=>
  haveI h:aj false (gd (!fH e) (some ())) λZ=>E.ev ct Xk e (W.loc,W.hp) λZ s1=>K .next s1:=h
  (haveI hb:=(ao h).1;haveI h:=(ao h).2)
  exact wpAny_Expr_any (S.ev O G h λa s1 h1 v W1 l1 O1 r1 q1=>k _ _ h1 .next W1 l1 O1 rfl q1) G.v.calm (mH (Mw _ |>.mp hb))
 |Assign ts v p=>exact oX S O G T0 h k
 |AugAssign=>exact oY S O G T0 h k
 |If c b e p=>
  refine wpAny_If (S.tr O G h λt s1 h1 W1 l1 O1 q1=>?_);subst q1;haveI h2:=gx h1;induction t with
  |true=>exact S.exs O1 (G.le O1 l1) h2 λf st h=>(k f st h).later O1 l1
  |false=>exact S.exs O1 (G.le O1 l1) h2 λf st h=>(k f st h).later O1 l1
 |Return e p=>
  induction e with
  |some e=>exact wpAny_Return_some (S.ev O G h λa s1 h1 v W1 l1 O1 r1 q1=>k _ _ h1 (.ret v) W1 l1 O1 ⟨v,rfl,r1⟩ q1)
  |none=>exact wpAny_Return_none (k _ _ h (.ret .none) W (Le.refl W) O ⟨_,rfl,.none⟩ rfl)
 |While=>exact af h λm h=>kY S O G h k
 |For=>exact oP S O G T0 h k
 |Pass=>exact wpAny_Pass (k _ _ h .next W (Le.refl W) O rfl rfl)
 |Break=>exact wpAny_Break (k _ _ h .brk W (Le.refl W) O rfl rfl)
 |Continue=>exact wpAny_Continue (k _ _ h .cont W (Le.refl W) O rfl rfl)
 |Delete=>exact oZ S O G h k
 |_=>exact H S O G h k
theorem sS(T0:bd C T)(H:fq C n T)(S:bh C n E)(O:Ok C W)(G:eM C n ct A env W Xk X){l}{K}{Q:R8->IP->Prop}(h:sO T E ct Xk l (W.loc,W.hp) K)(k:∀a st,K a st->fb C W a st Q):ID C.M A (execs l env) Q X W.s:=by
 induction l generalizing W with
 |nil=>exact Sf (k _ _ h .next W (Le.refl W) O rfl rfl)
 |cons c r ih=>
  refine wpAny_execs_cons (sR T0 H S O G h λf s1 h1 fl W1 l1 O1 r1 q1=>?_);subst q1;cases f with
  |next=>cases r1;exact ih O1 (G.le O1 l1) h1 λf st h=>(k f st h).later O1 l1
  |brk=>cases r1;exact k _ _ h1 .brk W1 l1 O1 rfl rfl
  |cont=>subst r1;exact k _ _ h1 .cont W1 l1 O1 rfl rfl
  |ret a=>(refine ae r1 λv Sm hv=>?_;refine aa Sm ?_);exact k _ _ h1 (.ret v) W1 l1 O1 ⟨v,rfl,hv⟩ rfl
theorem mP(D:Good C n T)(H:fq C (n+1) T)(S:bh C (n+1) E):bh C (n+1) (Cj T E):=
 ⟨λO G h k=>sP D S O G h k,λO G h k=>sQ (by haveI:=D.pos;exact IS (by assumption)) D.nt S O G h k,λO G h k=>sS D.attr H S O G h k⟩
noncomputable def bL (T:Tb):Nat->jw
 |0=>⟨λZ Z Z Z Z=>False,λZ Z Z Z Z=>False,λZ Z Z Z Z=>False⟩
 |m+1=>Cj T (bL T m)
theorem jZ(D:Good C n T)(H:fq C (n+1) T):∀m,bh C (n+1) (bL T m):=by
 intro Sl;induction Sl with
 |zero=>exact⟨λZ Z h=>h.elim,λZ Z h=>h.elim,λZ Z h=>h.elim⟩
 |succ m Sk=>exact mP D H (Sk)
end
theorem Stk.frames(h:Stk l fs):l.filterMap (·.frame)=fs:=by
 induction h with
 |nil=>rfl
 |cons a b c ih=>refine aa Qv (aa a ?_);simp only;exact aa ih rfl
section
theorem Ok.noBase(O:Ok C W)(h:W.own a):C.base.get? a=.none:=by
 induction q:C.base.get? a with
 |none=>rfl
 |some o=>exact absurd (O.old a o q).2 (O.nL a h)
theorem Ok.funs(O:Ok C W)(h:Stk l fs)(hf:∀f∈fs,f=W.f.L\/f∈W.f.fs):W.s.heap.FunFrames C.base l:=by
 induction h with
 |nil=>trivial
 | @cons e l f fs a b c ih=>
  have own:W.own f:=(hf f (.head _)).elim .inl λh=>.inr (.inl h);have ns:∃m,W.s.heap.Ns f m:=by
   rcases hf f (.head _)with z|z
   . refine af O.ns λm Sm=>?_;refine ad Sm λq Z=>?_;exact aa z ⟨m,q⟩
   . refine ad (O.fr f z) λZ Sm=>?_;refine af Sm λm q=>?_;exact⟨m,q⟩
  exact E7 ns λm o es ep e1 e2 Z=>⟨b,⟨f,o,a,O.noBase own,e1,λvs=>aa e2 (λz=>(L5 z))⟩,ih λf Tf=>hf f (.tail _ Tf)⟩
theorem sT(O:Ok C W)(sl:Mk.SlotsOnly (W.f.L::W.f.fs) W.s.heap s.heap)(tk:W.s.toks<=s.toks)(hg:s.gens=W.s.gens)(ho:s.os=W.s.os):
 Ok C (W.to s)/\(∀{W0},Le W0 W->Le W0 (W.to s))/\∀{a},aK W a->aK (W.to s) a/\s.heap.get? a=W.s.heap.get? a:=by
 have same:∀a,a≠W.f.L->a∉W.f.fs->s.heap.get? a=W.s.heap.get? a:=λa h1 h2=>sl.2.1 a λq=>(IJ.mp q).elim h1 h2;have nown:∀a,¬W.own a->s.heap.get? a=W.s.heap.get? a:=λa h=>same a (λq=>h (.inl q)) λq=>h (.inr (.inl q));have ns:∀f m,W.s.heap.Ns f m->s.heap.Ns f m:=λf m ⟨o,es,ep,e,d,r⟩=>af (sl.2.2 f o e) λx q=>⟨_,es,ep,q,d,r⟩
 have ic:∀c v,W.s.heap.IsCell c v->s.heap.IsCell c v:=λc v q8=>ae q8 λo e d=>af (sl.2.2 c o e) λx q=>⟨_,q,d⟩
 have vr:∀{a v},VR W a v->VR (W.to s) a v:=λq=>VR.mono (W:=W) (W':=W.to s) (λZ h=>h) (λa o q e=>(nown a λz=>O.nL a z q).trans e) (λZ o h=>⟨⟨o,h⟩,rfl⟩) q;have fk:=λk o h=>nown _ (O.free k o h).2.1;refine⟨⟨O.nd,O.inj,λk o hm=>(O.cell k o hm).mono (W':=W.to s) rfl vr (λob e=>(fk k o hm).trans e) λk o h=>⟨⟨o,h⟩,rfl⟩,λk o hm=>let⟨a,b,ob,e⟩:=O.free k o hm;⟨a,b,ob,(fk k o hm).trans e⟩,
  λa q=>af (O.fz a q) λo e=>⟨o,(nown a λz=>O.nL a z q).trans e⟩,O.nL,?_,λf hf=>let⟨a,m,q⟩:=O.fr f hf;⟨a,m,ns f m q⟩,λx c hc=>let⟨a,b,v,q⟩:=O.cl x c hc;⟨a,b,v,ic c v q⟩,O.ap,
  λx c hc=>let⟨a,v,q⟩:=O.ro x c hc;⟨a,v,ic c v q⟩,λa o e=>ad (O.old a o e) λx y=>⟨(nown a λz=>O.nL a z y).trans x,y⟩,Iu O.tk tk,O.up⟩,λ{W0} l=>?_,λ{a} h=>?_⟩
 . exact ae O.ns λm q r=>⟨m,ns _ m q,λx a z=>ae (r x a z) λv h1 h2=>⟨v,vr h1,Wd.at_to (W:=W) (W':=W.to s) rfl (λc v Z z=>ic c v z) h2⟩⟩
 . refine⟨l.f,l.φ,l.φn,l.ky,λa o e n=>?_,λf hf m q=>ns f m (l.fr f hf m q),l.nw,λk es n hk=>?_,hg.trans l.gens,ho.trans l.os⟩
   . refine(?_:s.heap.get? a=some o);exact(same a (λq=>n (.inl (.inl (q.trans (aa l.f rfl))))) λq=>n (.inl (.inr (.inl (an l.f q))))).symm▸(l.kp a o e n)
   . refine aP (l.ver k es n hk) λSy n' h1 h2 h3=>⟨Sy,n',h1,h2,λz=>?_⟩
     haveI:=fk k _ h1;haveI this:=((l.ky k _ hk).2)▸this;exact this.trans (h3 z)
 . have e:=nown a λq=>h.m (.inl q);exact⟨⟨h.m,h.φ,ae (h.d) λo q d=>⟨o,e.trans q,d⟩⟩,e⟩
inductive Xf(C:Cx)(W0 W:Wd)(x:AX)(e:Jn)(fl:IF):Prop
 |mk:W0.s.heap.get? e=.none->aK W e->W.s.heap.get? e=some oe->oe.cls=ur C x->oe.data=.fields vs->Tr (λa=>W0.s.heap.get? a=.none/\aK W a) W.s.heap e vs fl->Xf C W0 W x e fl
theorem Xf.xr(h:Xf C W0 W x e .none):XR C W0 W x (.ref e):=Xf.casesOn h λ{oe vs} h1 h2 h3 h4 h5 h6=>.mk ⟨h1,h2.φ,h2.m⟩ h3 h4 h5 (.inr (h6.map λa o k e=>⟨⟨k.1,k.2.φ,k.2.m⟩,e⟩))
theorem Xf.le(h:Xf C W0 W x e fl)(l:Le W W'):Xf C W0 W' x e fl:=Xf.casesOn h λ{oe vs} h1 h2 h3 h4 h5 h6=>.mk h1 (h2.le l) (h2.at l h3) h4 h5 (h6.map λa o k e=>⟨⟨k.1,k.2.le l⟩,k.2.at l e⟩)
theorem o5{h:Mk}{a:Jn}{o:Obj}{vs:Array IF}{i:Nat}{v:IF}(ho:h.get? a=some o)(hd:o.data=.fields vs):
 (h.update a (Ly (·.setIfInBounds i v))).get? a=some (o.mapFields (·.setIfInBounds i v))/\(o.mapFields (·.setIfInBounds i v)).data=.fields (vs.setIfInBounds i v)/\(o.mapFields (·.setIfInBounds i v)).cls=o.cls:=
 ⟨K9 _ ho (Mu (Mh hd _)),Mh hd _,Obj.cls_mapFields _ _⟩
theorem gG(O:Ok C W)(l:Le W0 W)(e0:W0.s.heap.get? a=.none)(L:aK W a){v:IF}(ho:W.s.heap.get? a=some o)(hd:o.data=.fields vs)(hi:i<vs.size)
 (k:∀W',Le W0 W'->Ok C W'->(W.loc,W.hp)=(W'.loc,W'.hp)->W'.f=W.f->Jt a W.s.heap W'.s.heap->(∀{b},aK W b->aK W' b)->(∃o',W'.s.heap.get? a=some o'/\o'.cls=o.cls/\o'.data=.fields (vs.setIfInBounds i v))->Q () W'.s):
 ID C.M A (setField (.ref a) i v) Q X W.s:=by
 refine OH ho hd hi ?_;refine am (o5 (i:=i) (v:=v) ho hd) λq1 q2 q3=>?_;have sb:Jt a W.s.heap (W.s.heap.update a (Ly (·.setIfInBounds i v))):=K4 ..;refine am (L.set O (s:={W.s with heap:=W.s.heap.update a (Ly (·.setIfInBounds i v))}) sb.extBut (IC _) rfl rfl) λO1 Z l1=>k _ (l1 W0 l e0) O1 rfl rfl sb (λ{b} hb=>⟨hb.m,hb.φ,?_⟩) ⟨_,q1,q3,q2⟩;by_cases z:b=a
 . clear L e0 ho k sb;refine aa z ?_;exact⟨_,q1,λv=>aa q2 (λz=>(L5 z))⟩
 . exact ae hb.d λo e d=>⟨o,(sb.2 b z).trans e,d⟩
theorem dT(O:Ok C W)(l:Le W0 W)(h:Xf C W0 W x e fl)
 (k:∀W',Le W0 W'->Ok C W'->(W.loc,W.hp)=(W'.loc,W'.hp)->W'.f=W.f->Xf C W0 W' x e .none->Q () W'.s):ID C.M A (setFlight (.ref e) none) Q X W.s:=by
 refine Xf.casesOn h λ{oe vs} h1 h2 h3 h4 h5 t=>Tr.casesOn t λ{T oT ts} h6 h7 h9 Tl Ue Uf=>?_;have sz:=(LB.mp Uf).1;refine Ir (MM h3 h5 h6 (Fe (OI.mp (congrFun rfl)) ?_));exact gG O l h7.1 h7.2 Tl Ue sz λW' l' O' q ef sb lo z=>cm z λo' z1 z2 z3=>k W' l' O' q ef (.mk h1 (lo h2) ((sb.2 e (Kr h9)).trans h3) h4 h5 (.mk h6 ⟨h7.1,lo h7.2⟩ h9 z1 z3 (MB sz)))
theorem j0(O:Ok C W)(l:Le W0 W)(hfr:A.frames=some (env::ls))(hf:env.frame=some W.f.L)(hk:env.scope.kind≠.module)(hst:Stk ls W.f.fs)
 (e0:W0.s.heap.get? e=.none) (Le':aK W e) (he:W.s.heap.get? e=some oe) (hc:oe.cls=ur C x) (hd:oe.data=.fields vs) (hsz:1<vs.size)
 (k:∀W',Le W0 W'->Ok C W'->(W.loc,W.hp)=(W'.loc,W'.hp)->W'.f=W.f->Xf C W0 W' x e (L9 W.f.L)->Q () W'.s):
 ID C.M A (do let a<-frameOf env;let pl<-entryPlaceOf W.f.L hn;let b<-Qq head a .none (L9 W.f.L) .none pl;setField (.ref e) 1 b) Q X W.s:=by
 haveI st:Stk (env::ls) (W.f.L::W.f.fs):=.cons hf hk hst;refine Ir (wpAny_frameOf_fun hfr (O.funs st λf h=>(IJ.mp h)) hf λh1 sl=>?_);rw[st.frames]at sl;refine am (sT O (s:={W.s with heap:=h1}) sl (IC _) rfl rfl) λO1 l1 lo1=>Ir (wpAny_entryPlaceOf λpl hpl=>?_);unfold Qq newFields;refine Ir (MA ?_ (hpl.sizeOk5 _ _ _ _ _));refine ad (O1.lone (o:={cls:=.type "traceback",dict:=none,data:=.fields ([head,.ref W.f.L,.none,L9 W.f.L,.none]++(if pl.isEmpty then II 6 KD else pl)).toArray}) rfl λv z=>(L5 z)) λS2 LT=>?_
 (haveI T9:=(lo1 Le').1;haveI ee:=(lo1 Le').2)
 have eT:W0.s.heap.get? h1.objs.size=.none:=by
  induction q:W0.s.heap.get? h1.objs.size with
  |none=>rfl
  |some o=>refine af (O1.stays (l1 l) q) λo' z=>?_;exact absurd (Jz z) (Ke _)
 haveI he1:=ee.trans he;haveI ne:=JU (Jz he1);refine gG (S2.ok O1) ((l1 l).trans O1 (S2.le O1)) e0 (T9.le (S2.le O1)) (T9.at (S2.le O1) he1) hd hsz λW' l' O' q ef sb lo z=>cm z λo' z1 z2 z3=>k W' l' O' q ef (.mk e0 (lo (T9.le (S2.le O1))) z1 (z2.trans hc) z3 (.mk (MB hsz) ⟨eT,lo LT⟩ ne ((sb.2 _ ne).trans (IW h1 (o:={cls:=.type "traceback",dict:=none,data:=.fields ([head,.ref W.f.L,.none,L9 W.f.L,.none]++(if pl.isEmpty then II 6 KD else pl)).toArray}) rfl)) rfl ?_));simp
theorem iY(O:Ok C W)(l:Le W0 W)(hfr:A.frames=some (env::ls))(hf:env.frame=some W.f.L)(hk:env.scope.kind≠.module)(hst:Stk ls W.f.fs)(h:XR C W0 W x v)
 (k:∀e W',v=.ref e->Le W0 W'->Ok C W'->(W.loc,W.hp)=(W'.loc,W'.hp)->W'.f=W.f->Xf C W0 W' x e (L9 W.f.L)->Q () W'.s):ID C.M A (noteFrame v env) Q X W.s:=by
 revert k
 refine yA.casesOn h λ{e oe vs} h1 h4 h5 h6 h7 k=>?_;have L:aK W e:=⟨h1.2.2,h1.2.1,oe,h4,λv=>aa h6 (λz=>nomatch z)⟩
 unfold noteFrame;simp only[hf];refine h7.elim (λh7=>?_) λt=>?_
 . refine Ir (MM h4 h6 h7 ?_);exact aa (if_neg (by decide)) (j0 O l hfr hf hk hst h1.1 L h4 h5 h6 (LB.mp h7).1 λW' a b c d f=>k e W' rfl a b c d f)
 . refine Tr.casesOn t λ{T oT ts} t1 t2 t5 t6 t7 t8=>?_;haveI LT:aK W T:=⟨t2.2.2,t2.2.1,oT,t6,λv=>by exact aa t7 (λz=>nomatch z)⟩
   refine Ir (MM h4 h6 t1 (Fe (OI.mp (congrFun rfl)) ?_));refine Ir (MM t6 t7 t8 (yz (ne_true_of_eq_false rfl) ?_));refine Ir (gG O l t2.1 LT t6 t7 (LB.mp t8).1 λW1 l1 O1 q1 ef sb lo Z=>?_);have r:=j0 (A:=A) (X:=X) (Q:=Q) (head:=.ref T) (hn:=Nq T !=KD) O1 l1 hfr (by exact aa ef hf) hk (by exact aa ef hst) h1.1 (lo L) ((sb.2 e (Kr t5)).trans h4) h5 h6 (LB.mp t1).1 λW' a b c d f=>k e W' rfl a b (q1.trans c) (d.trans ef) (by exact an ef f);haveI r:=ef▸r;exact r
theorem sU(O:Ok C W)(l:Le W0 W)(hfr:A.frames=some (env::ls))(hf:env.frame=some W.f.L)(hk:env.scope.kind≠.module)(hst:Stk ls W.f.fs)(h:XR C W0 W x v)
 (k:∀W',Le W0 W'->Ok C W'->(W.loc,W.hp)=(W'.loc,W'.hp)->W'.f=W.f->XR C W0 W' x v->Q () W'.s):ID C.M A (leaving env v) Q X W.s:=by
 refine Ir (iY O l hfr hf hk hst h λe W1 ev l1 O1 q1 f1 x1=>?_);clear h;subst ev;exact dT O1 l1 x1 λW2 l2 O2 q2 f2 x2=>k W2 l2 O2 (q1.trans q2) (f2.trans f1) x2.xr
end
noncomputable def aD.val:aD->AV|.ret a=>a|_=>.none
noncomputable def fR (sc:Od):Bool:=isFn sc.kind&&fp (sc.names.map (·.1))&&sc.names.all λp=>yb (some p.2) true true false true false
noncomputable def uV (sc:Od)(ab:List (Str×AV)):Bool:=fp (ab.map (·.1))&&ab.all λp=>(lk sc.names p.1).any iw
structure FnAt(C:Cx)(a:Jn)(fd:N5)(body:List Ld):Prop where
 obj:∃o,C.K.lookup a=some o/\o.data=.func fd
 body:fd.body=.stmts body
 co:fd.scope.isCoroutine=false
 gen:fd.scope.isGenerator=false
 clo:fd.closure=[]
 gl:fd.globals=Nt
 bl:fd.builtins=MK
 code:C.base.CodeRec fd.code fd.qualname
 sc:fR fd.scope=true
def Binds (C:Cx)(fd:N5)(args:List AV)(kws:List (Str×AV))(ab:List (Str×AV)):Prop:=∀{W:Wd} {A:J0} {vs:List IF} {kvs:List (Str×IF)} {Q:List (Str×IF)->IP->Prop} {X:IF->IP->Prop},Ok C W->aF W args vs->eb W kws kvs->
 (∀binds W',Le W W'->Ok C W'->(W.loc,W.hp)=(W'.loc,W'.hp)->eb W' ab binds->Q binds W'.s)->ID C.M A (OC fd ⟨vs,kvs⟩) Q X W.s
theorem eb.names:∀{ab} {binds},eb W ab binds->binds.map (·.1)=ab.map (·.1):=by
 intro Sl;induction Sl with
 |nil=>
  intro SK;induction SK with
  |nil=>intro Z;exact rfl
  |cons x93 x94=>intro h;exact h.elim
 |cons x95 r Sx=>
  obtain⟨x,a⟩:=x95;intro SQ;induction SQ with
  |nil=>intro h;exact h.elim
  |cons x98 t=>obtain⟨y,v⟩:=x98;intro h;obtain⟨rfl,Z,h⟩:=h;refine(?_:x::_=x::_);exact aa (Sx h) rfl
theorem eb.at:∀{ab} {binds},eb W ab binds->∀{x} {a},lk ab x=some a->∃v,lk binds x=some v/\VR W a v:=by
 intro Sl;induction Sl with
 |nil=>
  intro SK;induction SK with
  |nil=>intro Z Z Z e;cases e
  |cons x93 x94=>intro h Z Z Z;exact h.elim
 |cons x95 r Sx=>
  obtain⟨y,b⟩:=x95;intro SQ;induction SQ with
  |nil=>intro h Z Z Z;exact h.elim
  |cons x98 t=>
   obtain⟨z,v⟩:=x98;intro h x a e;refine am h λSq h1 h2=>?_;clear h;subst Sq;rw[eA]at e⊢;induction q:aZ y x with
   |true=>rw[q]at e;(replace e:=Iw e;subst e);exact⟨v,rfl,h1⟩
   |false=>rw[q]at e;exact Sx h2 e
theorem uW:∀{binds} {m} {x},(binds.map (·.1)).Nodup->ko x=some .local->bindL ko binds m x=(lk binds x).or (m x):=by
 intro Sl;induction Sl with
 |nil=>intro Z Z Z Z;exact rfl
 |cons x92 r So=>
  obtain⟨y,v⟩:=x92;intro m x nd hk;refine ad (I_.mp nd) λn1 n2=>?_;unfold bindL;refine aa (So n2 hk) (aa (eA _ _ _ _) ?_);by_cases q:y=x
  . subst q;refine aa (az _) (aa (if_pos hk) (aa (fQ n1) ?_));simp
  . refine(bb q).symm▸?_
    congr 1
    split
    . exact if_neg (Kr q)
    . rfl
theorem uX:∀{binds} {m} {x},(binds.map (·.1)).Nodup->ko x=some .cell->bindC ko binds m x=(lk binds x).or (m x):=by
 intro Sl;induction Sl with
 |nil=>intro Z Z Z Z;exact rfl
 |cons x92 r So=>
  obtain⟨y,v⟩:=x92;intro m x nd hk;refine ad (I_.mp nd) λn1 n2=>?_;unfold bindC;refine aa (So n2 hk) (aa (eA _ _ _ _) ?_);by_cases q:y=x
  . subst q;refine aa (az _) (aa (if_neg (by refine aa hk ?_;decide)) (aa (fQ n1) ?_));simp
  . refine(bb q).symm▸?_
    congr 1
    split
    . rfl
    . exact if_neg (Kr q)
theorem ie:∀(names:List (Str×KB)) (n) (acc),(names.map (·.1)).Nodup->(acc.map (·.1)).Nodup->(∀x,x∈acc.map (·.1)->x∉names.map (·.1))->((Kg n names acc).map (·.1)).Nodup:=by
 intro Sl;induction Sl with
 |nil=>intro Z Z Z h Z;exact h
 |cons x92 r So=>
  obtain⟨y,k⟩:=x92;intro n acc nd h ap;refine ad (I_.mp nd) λn1 n2=>?_;have ap':=λx hx q=>ap x hx (.tail _ q);unfold Kg
  split
  . refine So (n+1) ((y,n)::acc) n2 (I_.mpr ⟨λq=>ap y q (.head _),h⟩) λx hx=>av hx (λhx=>?_) λhx=>?_
    . exact aa hx n1
    . exact ap' x hx
  . exact So n acc n2 h ap'
theorem uY(nd:(names.map (·.1)).Nodup)(h:(x,c)∈Kg n names [])(h':(x,c')∈Kg n names []):c=c':=by
 have:=ie names n [] nd J_ λx hx=>by cases hx
 generalize Kg n names []=l at h h' this;induction l with
 |nil=>cases h
 |cons p r ih=>
  refine ad (I_.mp this) λh1 h2=>?_;rcases IJ.mp h with e|a<;>rcases IJ.mp h' with e'|b
  . rw[<-e]at e';cases e';rfl
  . exact absurd (IU.mpr ⟨_,b,by exact an e rfl⟩) h1
  . exact absurd (IU.mpr ⟨_,a,by exact an e' rfl⟩) h1
  . exact ih a b h2
section
theorem k_(h:fR sc=true):jW ⟨sc,true,true⟩ sc/\∀x,(x,Ki)∉sc.names:=by
 refine ad (IQ.mp h) λh1 h3=>ad (IQ.mp h1) λh1 h2=>?_;have h3:=Jj.mp h3;have nf:∀x,(x,Ki)∉sc.names:=λx hx=>by have:=h3 _ hx;cases this
 refine⟨⟨(by induction q:sc.kind<;>rw[q]at h1<;>first|rfl|cases h1),gD h2,λx hx=>absurd hx (nf x),λx k hx=>?_⟩,nf⟩;have:=h3 _ hx;induction k<;>first|exact .inl rfl|exact .inr (.inl rfl)|exact .inr (.inr (.inr rfl))|cases this
theorem XR.back(O:Ok C W)(N:cN C W W')(h:XR C W' W1 x v):XR C W (W.back W1) x v:=by
 have key:∀a,W'.s.heap.get? a=.none->W.s.heap.get? a=.none:=λa e=>by
  induction q:W.s.heap.get? a with
  |none=>rfl
  |some o=>have:=N.kp a o q;exact jx e this
 have mov:∀a,W'.s.heap.get? a=.none->¬W1.mov a->¬(W.back W1).mov a:=λa e h q=>q.elim (λq=>by refine af (O.ownIn (q:W.own a)) λo z=>?_;exact jx (key a e) z) λq=>h (.inr q);exact yA.imp h λa k=>⟨key a k.1,k.2.1,mov a k.1 k.2.2⟩
theorem Da(D:Good C n T)(H:fq C (n+1) T)(F:FnAt C a fd body)(B:Binds C fd args kws ab)(hbo:uV fd.scope ab=true){K:AV->Hp->Prop}{Xk:AX->Hp->Prop}
 (O:Ok C W) (R0:fc A (n+2)) (hh:A.handled=.none) {l:List Env} (hfr:A.frames=some l) (hst:Stk l (W.f.L::W.f.fs)) (run:(bL T m).exs ⟨fd.scope,true,true⟩ (λx s=>Xk x s.2) body (ab,W.hp) λf s=>K f.val s.2)
 (ha:aF W args vs) (hk:eb W kws kvs)
 (k:∀r Sp,K r Sp->∀v W',Le W W'->Ok C W'->VR W' r v->(W.loc,Sp)=(W'.loc,W'.hp)->R (.ok (.ret v)) W'.s)
 (kx:∀x Sp,Xk x Sp->∀v W',Le W W'->Ok C W'->XR C W W' x v->(W.loc,Sp)=(W'.loc,W'.hp)->R (.error v) W'.s):LJ C.M A (.call (.ref a) ⟨vs,kvs⟩) R W.s:=by
 refine ae F.obj λo ho hd=>ad (k_ F.sc) λN nf=>ad (IQ.mp hbo) λhb1 Uk=>codeAny_call_function (by have:=R0.depth;exact Nat.lt_of_add_right_lt this) (O.X _ _ ho) hd F.co F.gen F.body (F.code.keeps λb o e=>(O.old b o e).1) (B O ha hk λbinds W1 l1 O1 q1 hB=>?_);refine aa F.clo ?_;have nb:(binds.map (·.1)).Nodup:=by exact aa hB.names (gD hb1)
 have kd:∀x∈binds,∃kk,lk fd.scope.names x.1=some kk/\iw kk=true:=λx hx=>by
  haveI:x.1∈ab.map (·.1):=by exact an hB.names (IU.mpr ⟨_,hx,rfl⟩)
  refine ae (IU.mp this) λp hp e=>?_;have:=(Jj.mp Uk) p hp;haveI this:=e▸this;induction q:lk fd.scope.names x.1 with
  |none=>exact IE (q▸this)
  |some kk=>haveI this:=q▸this;exact⟨kk,rfl,this⟩
 refine KL (n:=W1.s.toks) (IC _) (wpAny_newFunctionEnv_cells N.kind (λx hx=>?_) λenv he s2 I htk=>?_)
 . refine ae (kd x hx) λkk e hkk=>aa (aM _ _) (aa (aM _ _) (aa e ?_));induction kk<;>first|exact .inl rfl|cases hkk|skip
   refine .inr ⟨rfl,?_⟩;exact af (dj (l:=Kg (W1.s.heap.objs.size+1) fd.scope.names []) (x:=x.1) ((cellsFrom_names _ _ _).mpr (aB e))) λc q=>aa q rfl
 subst he;have kp:=I.toInCall.keep;refine bw I.toInCall.same λh2 tk2 e2=>?_;have fz:∀a,W1.s.heap.objs.size<=a->W1.s.heap.get? a=.none:=λa ha=>by
  induction q:W1.s.heap.get? a with
  |none=>rfl
  |some o=>exact absurd (Jz q) (KP.mpr ha)
 refine⟨C.lim.keeps λb o e=>kp b o (O1.old b o e).1,codeAny_func ?_⟩
 let L:=W1.s.heap.objs.size
 let cs:=Kg (L+1) fd.scope.names []
 let W2:Wd:={W1 with s:=s2,f:=⟨L,W1.f.L::W1.f.fs,cs,[]⟩,loc:=ab}
 have only:∀{x:Str} {k k':KB},lk fd.scope.names x=some k->k'≠k->(x,k')∉fd.scope.names:=λe n h=>by
  haveI:=N.one h;haveI this:=e▸this;(replace this:=Iw this;clear h;subst this);exact n rfl
 have lown:∀x,(x,Mn)∉fd.scope.names->lk cs x=.none:=λx hx=>fQ λq=>hx ((cellsFrom_names _ _ _).mp q);have En:cN C W1 W2:=by
  refine⟨kp,rfl,rfl,rfl,htk,by refine(?_:s2.gens=_);exact aa e2 rfl,by refine(?_:s2.os=_);exact aa e2 rfl,fz L (IC _),?_,λx c h=>?_,λa h=>?_,I.apart,λx c h=>((IA h).elim),?_⟩
  . exact af O1.L λo e=>Js (Jz e)
  . have up:L<c:=I.above x c h;refine⟨fz c (Js up),λq=>absurd up (by haveI q:c=L:=q;exact aa q (Ke _)),?_⟩;refine af (dj (l:=cs) (x:=x) (IU.mpr ⟨_,h,rfl⟩)) λc' q=>?_;by_cases z:c=c'
    . exact aa z ⟨_,(I.cell x c' (by exact aa (aM _ _) q))⟩
    . exact absurd (uY N.nd h (aB q)) z
  . exact IJ.mp h
  . refine⟨_,I.toInCall.ns,λx b h=>?_⟩;refine ae (hB.at h) λv q1 q2=>⟨v,q2,?_⟩
    refine ae (kd (x,v) (aB q1)) λkk e hkk=>?_;haveI ek:Env.kindOf (OE fd.scope L fd.globals cs (fd.qualname++".<locals>.") (some a) fd.code none fd.builtins) x=some kk:=by
     refine(?_:P6 x fd.scope.names=_);exact aa (aM _ _) e
    show match lk (cs++[]) x with|some c=>_|.none=>_
    refine aa (Jv _) ?_;induction kk<;>first|cases hkk|skip
    . exact(lown x (only e (by decide))).symm▸(aa (uW nb ek) (aa q1 rfl))
    . refine af (dj (l:=cs) (x:=x) ((cellsFrom_names _ _ _).mpr (aB e))) λc q=>(q).symm▸?_;haveI:=I.cell x c (by exact aa (aM _ _) q);rw[uX nb ek,q1]at this;exact this
 haveI V2:bP ⟨fd.scope,true,true⟩ W2 (OE fd.scope L fd.globals cs (fd.qualname++".<locals>.") (some a) fd.code none fd.builtins):=by
  refine⟨N.kind,rfl,(Jv _).symm,F.gl,F.bl,λx=>?_⟩;refine(?_:kN (lk fd.scope.names x) (P6 x fd.scope.names) _ x);refine aa (aM _ _) ?_;induction q:lk fd.scope.names x with
  |none=>exact trivial
  |some kk=>
   rcases N.all x kk (aB q)with rfl|rfl|rfl|rfl
   . exact⟨rfl,by refine(?_:lk (cs++[]) x=.none);exact aa (Jv _) (lown x (only q (by decide)))⟩
   . exact af (dj (l:=cs) (x:=x) ((cellsFrom_names _ _ _).mpr (aB q))) λc z=>⟨rfl,c,by refine(?_:lk (cs++[]) x=some c);refine aa (Jv _) ?_;exact z,aB z⟩
   . exact absurd (aB q) (nf x)
   . exact rfl
 have el:W.loc=W1.loc:=congrArg MG q1;haveI G2:eM C (n+1) ⟨fd.scope,true,true⟩ (A.deeper (OE fd.scope L fd.globals cs (fd.qualname++".<locals>.") (some a) fd.code none fd.builtins)) (OE fd.scope L fd.globals cs (fd.qualname++".<locals>.") (some a) fd.code none fd.builtins) W2 (λx s=>Xk x s.2)
  (λe s'=>ID C.M (A.deeper (OE fd.scope L fd.globals cs (fd.qualname++".<locals>.") (some a) fd.code none fd.builtins)) (leaving (OE fd.scope L fd.globals cs (fd.qualname++".<locals>.") (some a) fd.code none fd.builtins) e) (λZ Uw=>R (.error e) Uw) (λe' Uw=>R (.error e') Uw) s'):=by
  have fr:(A.deeper (OE fd.scope L fd.globals cs (fd.qualname++".<locals>.") (some a) fd.code none fd.builtins)).frames=some (OE fd.scope L fd.globals cs (fd.qualname++".<locals>.") (some a) fd.code none fd.builtins::l):=by refine(?_:A.frames.map _=_);exact aa hfr rfl
  have st:Stk l (W1.f.L::W1.f.fs):=by exact aa (l1.f:W1.f=W.f) hst
  refine⟨V2,⟨I8 (I2 (Jb A.depth 1 (n+1))) R0.depth,I8 (Iu (I2 (Jb A.units 3 (40*(n+1)))) (IZ (Iv rfl:3<=40) (A.units+40*(n+1)))) R0.units⟩,λZ=>hh,λZ=>⟨l,fr,rfl,st⟩,λx s3 h3 v W3 l3 O3 x3 q3=>?_⟩;subst q3;have ef:=l3.f;refine sU O3 l3 fr (aa ef rfl) (by refine(?_:fd.scope.kind≠.module);refine aa N.kind ?_;decide) (aa ef st) x3 λW4 l4 O4 q4 f4 x4=>?_
  (haveI Ob:=(jT O1 En O4 l4).1;haveI lb:=(jT O1 En O4 l4).2)
  exact kx x _ h3 v (W1.back W4) (l1.trans O1 lb) Ob ((x4.back O1 En).sooner O1 l1) (Pt el (congrArg Qc q4:W3.hp=W4.hp))
 haveI Uv:(bL T m).exs ⟨fd.scope,true,true⟩ (λx s=>Xk x s.2) body (W2.loc,W2.hp) λf s=>K f.val s.2:=by haveI eh:W.hp=W1.hp:=congrArg Qc q1;exact an eh run
 refine(jZ D H m).exs (En.ok O1) G2 Uv λf s3 h3 fl W3 l3 O3 r3 q3=>?_;subst q3
 (haveI Ob:=(jT O1 En O3 l3).1;haveI lb:=(jT O1 En O3 l3).2)
 induction f with
 |next=>cases r3;exact k .none _ h3 .none (W1.back W3) (l1.trans O1 lb) Ob VR.none (Pt el rfl)
 |brk=>cases r3;exact k .none _ h3 .none (W1.back W3) (l1.trans O1 lb) Ob VR.none (Pt el rfl)
 |cont=>cases r3;exact k .none _ h3 .none (W1.back W3) (l1.trans O1 lb) Ob VR.none (Pt el rfl)
 |ret b=>refine af r3 λv Sm=>?_;refine ad Sm λSn hv=>?_;refine aa Sn ?_;exact k b _ h3 v (W1.back W3) (l1.trans O1 lb) Ob (iu hv) (Pt el rfl)
end
noncomputable def uZ (glob:Str->Option AV)(ct:Ct)(x:Str)(l:Lo):Option AV:=yb (lk ct.scope.names x) (lk l x) (lk l x) (lk l x) (glob x) .none
theorem Ft(T)(ct)(x)(l):uZ T.glob ct x l=ms T ct x l:=rfl
noncomputable def Ck (c:AV)(a:Jn):Bool:=c.top?.any (IT a)
def Fu (glob:Str->Option AV)(cat:AX->AV->Bool)(E:jw)(ct:Ct)(body:List Ld)(cn:Str)(b₀:Ld)(suite:List Ld)(s:St)(K:aD->St->Prop):Prop:=
 aj false (gd (ct.calm&&ct.top&& !aZ cn "__debug__") (some ())) λZ=>E.exs ct (λx s1=>aj false (uZ glob ct cn s1.1) λc=>aj false (gd (cat x c) (some ())) λZ=>E.exs ⟨ct.scope,false,false⟩ noX (b₀::suite) s1 K) body s K
def u1 (glob:Str->Option AV)(cyc:Jn)(E:jw)(ct:Ct)(Xk:XK)(cn:Str)(args:List JC)(s:St):Prop:=
 aj false (gd (ct.calm&& !aZ cn "__debug__"&& !args.isEmpty&&args.all λa=>!bQ a) (some ())) λZ=>aj false (uZ glob ct cn s.1) λc=>aj false (gd (Ck c cyc) (some ())) λZ=>Cf E ct Xk args s λas s1=>aj false (gd (ai as.length) (some ())) λZ=>Xk .cyc s1
def stC (c:Ld)(tr:List Ld->List Pb->List Ld->List Ld->Prop)(rs:Option JC->Option JC->Prop):Prop:=@Oq (λZ=>Prop) c (λZ Z Z Z Z Z Z Z Z Z=>False) (λZ Z Z Z Z Z Z Z Z Z=>False) (λZ Z Z Z Z Z Z Z Z Z Z=>False) (λZ Z=>False) (λZ Z=>False) (λZ Z Z=>False) (λZ Z Z Z Z Z Z=>False) (λZ Z Z Z=>False) (λZ Z Z Z Z=>False) (λZ Z Z Z Z=>False) (λZ Z Z Z Z=>False) (λZ Z Z Z=>False) (λZ Z Z Z=>False) (λZ Z Z=>False) (λZ Z Z=>False) (λZ Z Z=>False) (λx y Z=>rs x y) (λb hs oe fe Z=>tr b hs oe fe) (λZ Z Z Z Z=>False) (λZ Z Z=>False) (λZ Z=>False) (λZ Z Z Z=>False) (λZ Z=>False) (λZ Z=>False) (λZ Z=>False) (λZ=>False) (λZ=>False) (λZ=>False)
inductive H8(c:Ld)(tr:List Ld->List Pb->List Ld->List Ld->Prop)(rs:Option JC->Option JC->Prop):Prop
 |tr (b:List Ld) (hs:List Pb) (oe fe:List Ld) (p:Pos) (h:c=.Try b hs oe fe p) (k:tr b hs oe fe)
 |rs (x y:Option JC) (p:Pos) (h:c=.Raise x y p) (k:rs x y)
theorem Db(h:stC c tr rs):H8 c tr rs:=by
 refine cU λhn=>?_;cases c<;>first|exact h|skip
 . exact hn (.rs _ _ _ rfl h)
 . exact hn (.tr _ _ _ _ _ rfl h)
def Fv (h:Pb)(K:Str->Ld->List Ld->Prop):Prop:=match h with
 |.ExceptHandler t n b _=>match t with
  |.none=>False
  |some e=>match n with
   |some Z=>False
   |.none=>match b with
    |[]=>False
    |b₀::suite=>md e λcn Z=>K cn b₀ suite
def Cl (glob:Str->Option AV)(cat:AX->AV->Bool)(cyc:Jn)(c:Ld)(E:jw)(ct:Ct)(Xk:XK)(s:St)(K:aD->St->Prop):Prop:=stC c
 (λbody hs oe fe=>match hs with
  |[]=>False
  |h::r=>match r,oe,fe with
   |[],[],[]=>Fv h λcn b₀ suite=>Fu glob cat E ct body cn b₀ suite s K
   |_,_,_=>False)
 (λx y=>match x with
  |.none=>False
  |some e=>match y with
   |some Z=>False
   |.none=>yk e (λZ Z=>False) (λZ Z Z=>False) (λZ Z Z=>False) (λZ Z Z=>False) (λZ Z Z Z=>False) λf args kws Z=>match kws with
    |[]=>md f λcn Z=>u1 glob cyc E ct Xk cn args s
    |_::_=>False)
def ix (C:Cx)(cat:AX->AV->Bool):Prop:=∀{x:AX} {c:AV} {W:Wd} {e:Jn} {oe:Obj} {cv:IF} {A:J0} {Q:Bool->IP->Prop} {X:IF->IP->Prop},cat x c=true->Ok C W->W.s.heap.get? e=some oe->oe.cls=ur C x->VR W c cv->Q true W.s->ID C.M A (excMatches (.ref e) cv) Q X W.s
inductive Fw(h:Mk)(cyc:Jn):Prop
 |mk {nm q N bs bm hdct sn sub ab col dd k0 k1 k2 k3 k5 newId B initId mN} (h1:h.get? cyc=some (R2 nm q cyc N bs bm hdct sn sub ab col dd k0 k1 k2 k3 k5 newId)) (h2:h.Ns N mN) (h3:mN "__init__"=none) (h4:ExcBaseFacts B newId initId bm)
def u2 (C:Cx)(cyc:Jn):Prop:=C.cyc=.ref cyc/\Fw C.base cyc
section
variable {C:Cx}{T:Tb}{K:aD->St->Prop}
theorem o7(Gl:iM C T.glob)(Kc:ix C cat)(S:bh C n E)(O:Ok C W)(G:eM C n ct A env W Xk X)(h:Fu T.glob cat E ct body cn b₀ suite (W.loc,W.hp) K)(k:∀f st,K f st->fb C W f st Q):
 ID C.M A (exec (.Try body [.ExceptHandler (some (.Name cn pn)) none (b₀::suite) ph] [] [] p) env) Q X W.s:=by
 refine ad (ao h) λhb h=>ad (IQ.mp hb) λhb hdb=>ad (IQ.mp hb) λhc ht=>cm (G.t ht) λls hfr hf hst=>wpAny_Try_except (S.exs O ⟨G.v,G.r,G.c,G.t,λx s1 h1 v W1 l1 O1 x1 q1=>?_⟩ h λf s1 h1 fl W1 l1 O1 r1 q1=>?_)
 . haveI h1:=q1▸h1;refine jM h1 λc h2 h3=>?_
   (haveI hcat:=(ao h3).1;haveI h4:=(ao h3).2)
   have f1:=l1.f;refine iY O1 l1 hfr (aa f1 hf) (by refine aa G.v.kd ?_;decide:env.scope.kind≠.module) (aa f1 hst) x1 λe W2 ev l2 O2 q2 f2 x2=>?_;refine aa ev (dT O2 l2 x2 λW3 l3 O3 q3 f3 x3=>?_);have qq:=q2.trans q3;haveI h2:=(congrArg MG qq:W1.loc=W3.loc)▸h2;rw[qq]at h4;refine wpAny_handleBy_cons (codeAny_handlers_test (fi Gl O3 (G.v.le l3) h2 (aa (bB _ _) (LI ((λ{x y}=>Ry.mp) (id (LI hdb))))) λcv W4 l4 O4 r4 q4=>?_)) (by intro q;cases q);have x4:=x3.le l4;refine Xf.casesOn x4 λ{oe vs} Z Z y3 y4 Z Z=>Kc hcat O4 y3 y4 r4 (codeAny_handlers_suite (dT O4 (l3.trans O3 l4) x4 λW5 l5 O5 q5 f5 x5=>?_));rw[q4.trans q5]at h4;exact S.exs (ct:=⟨ct.scope,false,false⟩) (Xk:=noX) O5 ⟨⟨(G.v.le l5).kd,(G.v.le l5).lo,(G.v.le l5).ce,(G.v.le l5).gl,(G.v.le l5).bl,(G.v.le l5).nm⟩,⟨G.r.depth,G.r.units⟩,λz=>(IE z),λz=>(IE z),λZ Z z=>z.elim⟩ h4 λf s6 h6=>(k f s6 h6).later O5 l5
 . haveI h1:=q1▸h1
   revert h1
   exact FR.see r1 (λh1=>Sf (k _ _ h1 .next W1 l1 O1 rfl rfl)) (λh1=>k _ _ h1 .cont W1 l1 O1 rfl rfl) (λh1=>k _ _ h1 .brk W1 l1 O1 rfl rfl) λa v hv h1=>k _ _ h1 (.ret v) W1 l1 O1 ⟨v,rfl,hv⟩ rfl
theorem la(Gl:iM C T.glob)(Kc:u2 C cyc)(S:bh C n E)(O:Ok C W)(G:eM C n ct A env W Xk X)(h:u1 T.glob cyc E ct Xk cn args (W.loc,W.hp)):
 ID C.M A (exec (.Raise (some (.Call (.Name cn pn) args [] cp)) none p) env) Q X W.s:=by
 refine ad (ao h) λhb h=>bc hb λhb hns=>bc hb λhb hne=>bc hb λhc hdb=>jM h λc h2 h3=>ad (ao h3) λht h4=>?_;rw[(ae (MJ ht) λb hb hc=>by exact aa (top?_is hb) (an (IY hc) rfl):c=.top cyc)]at h2
 (haveI ecyc:=(Kc).1;haveI q9:=(Kc).2)
 obtain @⟨nm,q,N,bs,bm,hdct,sn,sub,ab,col,dd,k0,k1,k2,k3,k5,newId,B,initId,mN,z1,z2,z3,z4⟩:=q9;have pl:(Qe cp (ML args env)).any (·.1)=false:=by
  haveI:=jQ (env:=env) (p:=cp) hns;refine aa (propext Q_) ?_;intro x hx;haveI:=Jj.mp this x hx;exact bi_not.mp this
 refine wpAny_Raise_call_sub (nm:=nm) (q:=q) (N:=N) (bs:=bs) (hdct:=hdct) (sn:=sn) (sub:=sub) (ab:=ab) (col:=col) (dd:=dd) (k0:=k0) (k1:=k1) (k2:=k2) (k3:=k3) (k5:=k5) z4 (G.c hc) pl z3 (fi (T:=T) Gl O G.v h2 (by exact aa (bB _ _) (LI ((λ{x y}=>Ry.mp) (id (LI hdb))))) λf W1 l1 O1 r1 q1=>⟨r1.top',?_⟩);haveI h4:=q1▸h4;induction args with
 |nil=>cases hne
 |cons x r=>
  haveI eq:=d5 (r:=r) (env:=env) (IQ.mp (LW▸hns)).1;refine(eq).symm▸(evalArgs_plain ?_);haveI h5:=d_ (p:=cp) (Q:=λvs s'=>vs.length<=J4/\s'.heap.get? cyc=some (R2 nm q cyc N bs bm hdct sn sub ab col dd k0 k1 k2 k3 k5 newId)/\s'.heap.Ns N mN/\∀h' e,Mk.MadeExcOf s'.heap h' e (.ref cyc) vs->X (.ref e) {s' with heap:=h'}) S O1 (G.le O1 l1) h4 λas s2 h6 vs W2 l2 O2 r2 q2=>by
   haveI h6:=q2▸h6
   (haveI hl:=(ao h6).1;haveI h7:=(ao h6).2)
   haveI L2:=l1.trans O1 l2;refine⟨r2.1▸aq hl,(O2.old _ _ z1).1,z2.keeps λb o e=>(O2.old b o e).1,λh' e M=>?_⟩;haveI St:=O2.grown (s:={W2.s with heap:=h'}) M.keeps (IC _) rfl rfl;refine cm M.there λt y1 y2 y3=>G.hx _ _ h7 (.ref e) (W2.to {W2.s with heap:=h'}) (L2.trans O2 (St.le O2)) (St.ok O2) (.mk ⟨?_,λq=>?_,λq=>?_⟩ y1 ecyc.symm rfl (.inl rfl)) rfl
   . induction q:W.s.heap.get? e with
     |none=>rfl
     |some o=>refine af (O2.stays L2 q) λo' z=>?_;exact jx M.new z
   . refine af (O2.fz e q) λo z=>?_;exact jx M.new z
   . haveI:∃o,W2.s.heap.get? e=some o:=by
      rcases q with q|⟨k,o',hm,q⟩
      . exact O2.ownIn q
      . haveI q:e=W2.ρ k:=q;exact aa q ((O2.free k o' hm).2.2)
     exact af this λo z=>jx M.new z
  haveI h5:=eq▸h5;exact KG h5 (λvs s' h=>⟨rfl,h⟩) λZ Z x=>x
theorem u3(hT:T.hook=Cl T.glob cat cyc)(Gl:iM C T.glob)(K1:ix C cat)(K2:u2 C cyc):fq C n T:=by
 intro E c ct A env W Xk K Q X S O G h k;rw[hT]at h;induction Db h with
 |tr b hs oe fe p q h1=>
  subst q;clear h;cases hs with
  |nil=>exact h1.elim
  |cons x r=>
  induction r with
  |cons Z Z=>exact h1.elim
  |nil=>
  induction oe with
  |cons Z Z=>exact h1.elim
  |nil=>
  induction fe with
  |cons Z Z=>exact h1.elim
  |nil=>
  obtain⟨t,n,b,ph⟩:=x;induction t with
  |none=>exact h1.elim
  |some e=>
  induction n with
  |some Z=>exact h1.elim
  |none=>
  cases b with
  |nil=>exact h1.elim
  |cons b₀ suite=>
  obtain⟨cn,pn,q,h2⟩:=dL h1;clear h1;subst q;exact o7 Gl K1 S O G h2 k
 |rs x y p q h1=>
  subst q;clear h;induction x with
  |none=>exact h1.elim
  |some e=>
  induction y with
  |some Z=>exact h1.elim
  |none=>
  induction dK h1 with
  |call f args kws cp q h2=>
   subst q;clear h1;induction kws with
   |cons Z Z=>exact h2.elim
   |nil=>
   obtain⟨cn,pn,q,h3⟩:=dL h2;clear h2;subst q
   with_reducible exact la Gl K2 S O G h3
  |_=>contradiction
end
noncomputable def o8 (hp:Hp)(a:AV):Option Int:=((a.str?.bind λx=>gd (ai x.length) (some (x.length:Int))).or (((aU hp a).bind λxs=>gd (ai xs.length) (some (xs.length:Int))).or
 ((a.tup?.bind λxs=>gd (ai xs.length) (some (xs.length:Int))).or ((cb hp a).bind λes=>gd (ai es.1.length) (some (es.1.length:Int))))))
noncomputable def fT (hp:Hp)(a:AV):Option (Nat×List AV):=a.ref?.bind λk=>((hg hp k).bind AO.list?).map λxs=>(k,xs)
noncomputable def sV (hp:Hp)(a v:AV):Option Hp:=(fT hp a).bind λp=>gd (ai p.2.length) (some (hs hp p.1 (.list (p.2++[v]))))
section
theorem eN(h:ai m=true):((m):Int)<2^63:=by have:=aq h;rw[KH]at this;exact Kt (JY.mpr this) (by decide)
theorem o9(O:Ok C W)(e:o8 W.hp a=some i)(hu:VR W a u)(k:ax C W (.int i) (W.loc,W.hp) Q):ID C.M A (call (.builtin "len") [u]) Q X W.s:=by
 refine bt e (λe1=>?_) λe1=>?_
 . refine ae (IG.mp e1) λx h e2=>ad (au e2) λhl e3=>?_;replace e3:=Iw e3;clear e;subst e3;obtain rfl:=str?_is h;refine af hu.str' λt Sq=>?_;clear hu;subst Sq;exact P.len_str (Int.not_le.mpr (eN hl)) (ax.int O k (by exact JH (IK _ _)))
 refine bt e1 (λe2=>?_) λe2=>?_
 . refine ae (IG.mp e2) λxs h e3=>ad (au e3) λhl e4=>?_;replace e4:=Iw e4;clear e;subst e4;refine aP (aX O h hu) λl vs Sn il hx=>?_;clear hu;subst Sn;rw[hx.1]at hl k;exact call_len_list il (by exact aa Jk (eN hl)) (by exact aa Jk (ax.int O k (by exact JH (IK _ _))))
 refine bt e2 (λe3=>?_) λe3=>?_
 . refine ae (IG.mp e3) λxs h e4=>ad (au e4) λhl e5=>?_;replace e5:=Iw e5;clear e;subst e5;obtain rfl:=tup?_is h;refine bJ hu.tup' λd vs Sn Z ht hx=>?_;clear hu;subst Sn;rw[hx.1]at hl k;exact PyProof.Rows.len_tuple ht (by exact aa Jk (eN hl)) (by exact aa Jk (ax.int O k (by exact JH (IK _ _))))
 . refine ae (IG.mp e3) λes h e4=>ad (au e4) λhl e5=>?_;replace e5:=Iw e5;clear e;subst e5;refine E8 (cu O h hu) λj kvs Ss hm hd hk hx=>?_;clear hu;subst Ss;have ln:kvs.length=es.1.length:=by have:=congrArg Kn hk;simpa using this
   exact call_len_dict (yx O hm) hd (by exact aa ln (eN hl)) (by exact aa ln (ax.int O k (by exact JH (IK _ _))))
theorem dl(O:Ok C W)(e:fT W.hp a=some p)(hu:VR W a u):∃vs,u=.ref (W.ρ p.1)/\(p.1,.list p.2)∈W.hp/\W.s.heap.PlainList (W.ρ p.1) (Kz vs)/\aF W p.2 vs:=by refine ae (IG.mp e) λk h1 e=>ae (JJ.mp e) λxs h2 Sn=>an Sn (ag h2 λo h3 h4=>?_);obtain rfl:=ref?_is h1;obtain rfl:=list?_is h4;obtain⟨vs,h5,h6⟩:=O.cell k _ (aG h3);exact⟨vs,hu.ref'.1,aG h3,h5,h6⟩
theorem lf(O:Ok C W)(hm:(j,.list xs)∈W.hp)(hl:h'.PlainList (W.ρ j) vs'.toArray)(sb:Jt (W.ρ j) W.s.heap h')(hx:aF W xs' vs')(ht:W.s.toks<=tk):
 Step C W (W.set {W.s with heap:=h',toks:=tk} j (.list xs')):=by
 have ch:=mi.of sb (λq=>(O.free _ _ hm).2.1 (.inl q):W.ρ j≠W.L);exact af (id hl) λn e=>O.set hm rfl ch e ⟨vs',hl,hx.1,λi x v a b=>O.setVR hm ch (hx.2 i x v a b)⟩ ht rfl rfl
theorem o_(O:Ok C W)(e:sV W.hp a b=some hp)(hu:VR W a u)(hv:VR W b v)(k:ax C W .none (W.loc,hp) Q):ID C.M A (call (.builtin "list.append") [u,v]) Q X W.s:=by refine ae (IG.mp e) λp h1 e=>ad (au e) λhl e=>?_;replace e:=Iw e;subst e;refine kE (dl O h1 hu) λvs Sn hm il hx=>?_;clear hu;subst Sn;refine Py il (λh' il' sb=>?_) (by exact aa Jk (an hx.1 (aq hl)));rw[OQ]at il';have S:=lf O hm il' sb (hx.append (.cons hv .nil)) (IC _);exact k _ _ (S.le O) (S.ok O) .none rfl
end
noncomputable def u4 (hp:Hp)(a:AV):Option (AV×Hp):=(fT hp a).bind λp=>gd (ai p.2.length) (p.2.getLast?.map λy=>(y,hs hp p.1 (.list p.2.dropLast)))
noncomputable def Dc (hp:Hp)(a:AV):Option Hp:=(fT hp a).bind λp=>gd (ai p.2.length) (some (hs hp p.1 (.list [])))
section
theorem aF.dropLast(h:aF W xs vs):aF W xs.dropLast vs.dropLast:=by
 refine⟨by simp[h.1],λi x v a b=>?_⟩;rw[List.getElem?_dropLast]at a b
 split at a
 . split at b
   . exact h.2 i x v a b
   . cases b
 . cases a
theorem qU{h:Mk}{l:Jn}{items:Array IF}{n:Nat}(f:Array IF->Array IF)(hl:h.get? l=some {cls:=.type "list",data:=.seq items n}):(h.update l (LX f)).PlainList l (f items):=by refine af (Obj.data_mapSeq (o:={cls:=.type "list",data:=.seq items n}) rfl f) λn' e=>?_;haveI:=K9 (LX f) hl (Obj.isFreed_of_seq e);exact⟨n',by refine aa this ?_;exact an e rfl⟩
theorem pe(O:Ok C W){a y:AV}{hp:Hp}(e:u4 W.hp a=some (y,hp)){u:IF}(hu:VR W a u)(k:ax C W y (W.loc,hp) Q):ID C.M A (call (.builtin "list.pop") [u]) Q X W.s:=by
 refine ae (IG.mp e) λp h1 e=>ad (au e) λhl e=>ae (JJ.mp e) λz h2 e=>?_;cases e;refine kE (dl O h1 hu) λvs Sn hm Ss hx=>?_;refine aa Sn ?_;rcases Ss with⟨n,il⟩
 haveI h2:=LK▸h2;refine af (hx.at h2) λw Sm=>?_
 (haveI q1:=(Sm).1;haveI q2:=(Sm).2)
 rw[hx.1]at q1;refine PF F.slot_list_pop ⟨_,il,rfl⟩ F.entry_list_pop (F.args_list_pop_1 _) (MeetsSeq.list_pop_last _ vs.toArray n w (by refine aa Jk (aa Jq ?_);exact q1) (by refine aa Jk (an hx.1 ?_);exact aq hl:vs.toArray.size<=J4)) ⟨il,?_⟩;haveI pl:=qU (λxs=>xs.eraseIdxIfInBounds (vs.toArray.size-1)) il;haveI er:vs.toArray.eraseIdxIfInBounds (vs.toArray.size-1)=vs.dropLast.toArray:=by
  exact aa (List.eraseIdxIfInBounds_toArray _ _) (aa Jk (aa List.eraseIdx_length_sub_one rfl))
 rw[er]at pl;haveI S:=lf O hm pl (K4 .. :Jt (W.ρ p.1) W.s.heap (W.s.heap.update (W.ρ p.1) (LX λxs=>xs.eraseIdxIfInBounds (vs.toArray.size-1)))) hx.dropLast (IC _);exact k _ _ (S.le O) (S.ok O) (O.vr (S.le O) q2) rfl
theorem pf(O:Ok C W)(e:Dc W.hp a=some hp){u:IF}(hu:VR W a u)(k:ax C W .none (W.loc,hp) Q):ID C.M A (call (.builtin "list.clear") [u]) Q X W.s:=by
 refine ae (IG.mp e) λp h1 e=>?_
 (haveI hl:=(au e).1;haveI e:=(au e).2)
 replace e:=Iw e;subst e;refine kE (dl O h1 hu) λvs Sn hm Ss hx=>?_;clear hu;subst Sn;rcases Ss with⟨n,il⟩
 refine PF F.slot_list_clear ⟨_,il,rfl⟩ F.entry_list_clear (F.args_list_clear_1 _) (AutoSeq1.list_clear_list_0 _ vs.toArray n (by refine aa Jk (an hx.1 ?_);exact aq hl:vs.toArray.size<=J4)) ⟨il,?_⟩;haveI S:=lf (vs':=[]) O hm (qU (λZ=>#[]) il) (K4 .. :Jt (W.ρ p.1) W.s.heap (W.s.heap.update (W.ρ p.1) (LX λZ=>#[]))) .nil (IC _);exact k _ _ (S.le O) (S.ok O) .none rfl
end
set_option tactic.hygienic true
theorem gZ:Slot "collections.deque" "append" "collections.deque.append":=
 .of (owner:="collections.deque") (n:="append") (by refine aa (Ja _ _) (aa IX ?_);kernel_rfl) (by decide +kernel) (by decide +kernel) (by decide +kernel)
  (by first|exact .inl (by decide +kernel)|exact .inr (by decide +kernel)) (by refine aa (JO _ _) ?_;kernel_rfl)
theorem lg:LU OY "collections.deque.append"=some Jl.«collections.deque.append»:=JN (by kernel_rfl)
theorem mQ(a b):Mi "collections.deque.append" ⟨[a,b],[]⟩:=by unfold Mi;kernel_rfl
theorem mR:Oh (.builtin "collections.deque.append")=pure (.type "method_descriptor"):=by refine(?_:Nr _=_);refine aa K6 ?_;kernel_rfl
theorem g_:Slot "collections.deque" "pop" "collections.deque.pop":=
 .of (owner:="collections.deque") (n:="pop") (by refine aa (Ja _ _) (aa IX ?_);kernel_rfl) (by decide +kernel) (by decide +kernel) (by decide +kernel)
  (by first|exact .inl (by decide +kernel)|exact .inr (by decide +kernel)) (by refine aa (JO _ _) ?_;kernel_rfl)
theorem lh:LU OY "collections.deque.pop"=some Jl.«collections.deque.pop»:=JN (by kernel_rfl)
theorem mS(a):Mi "collections.deque.pop" ⟨[a],[]⟩:=by unfold Mi;kernel_rfl
theorem mT:Oh (.builtin "collections.deque.pop")=pure (.type "method_descriptor"):=by refine(?_:Nr _=_);refine aa K6 ?_;kernel_rfl
theorem mU:Q1 "collections.deque":=by
 refine⟨?_,?_⟩
 . with_reducible exact⟨"collections.deque.__getattribute__",by refine aa (Ja _ _) (aa IX ?_);kernel_rfl,by decide +kernel⟩
 . refine aa (Ja _ _) (aa IX ?_);kernel_rfl
section
theorem j3(ho:s.heap.get? a=some (bO n vs))(hf:f vs.toArray=vs'.toArray)(hl:vs'.length<=J4)
 (h:∀h',h'.get? a=some (bO (n+1) vs')->Jt a s.heap h'->Q () {s with heap:=h'}):ID (J3 prog w) A (Jl.Deque.change (.ref a) f) Q E s:=by
 refine Ir (m:=Jl.Deque.state (.ref a)) (Ir (MM ho rfl (x:=.int n 0) rfl (Ix ?_)));have ex:(#[(Kz (.none::.int n 0::vs)).getD 0 .none,L9 (n+1)]++f ((Kz (.none::.int n 0::vs)).extract 2 (Kz (.none::.int n 0::vs)).size))=(KD::.int (n+1) 0::vs').toArray:=by
  refine aa (by simp:(Kz (KD::.int n 0::vs)).extract 2 (Kz (KD::.int n 0::vs)).size=vs.toArray) (aa hf ?_);simp[L9]
 refine wpAny_updateFields ho rfl (h _ ?_ (K4 ..)) (by refine aa (if_pos rfl) (aa ex ?_);simp;exact I3 (by assumption));haveI:=K9 (Ly λvs=>#[vs.getD 0 .none,L9 (if true=true then n+1 else n)]++f (vs.extract 2 vs.size)) ho rfl;refine aa this (?_:some ({cls:=.type "collections.deque",data:=.fields _}:Obj)=_);refine aa (if_pos rfl) ?_;dsimp only;exact aa ex rfl
theorem sW(ho:s.heap.get? a=some (bO n vs))(hl:vs.length<J4)(h:∀h',h'.get? a=some (bO (n+1) (vs++[x]))->Jt a s.heap h'->Q .none {s with heap:=h'}):
 ID (J3 prog w) A (call (.builtin "collections.deque.append") [.ref a,x]) Q E s:=by
 refine KT gZ (d7 ho) lg ?_ (mQ _ _);refine Ir (m:=selfAndOne "deque.append" _) (Ix ?_);refine Ir (m:=Jl.Deque.pushRight _ _) (Ir (j3 ho (vs':=vs++[x]) (by simp) (by simp;assumption) λh' SA sb=>?_));exact Ir (m:=Jl.Deque.maxlen _) (Ir (MM SA rfl (x:=.none) rfl (Ix (Ix (Ix ⟨_,rfl,h h' SA sb⟩)))))
theorem Dd(ho:s.heap.get? a=some (bO n (vs++[x])))(hl:vs.length<=J4)(h:∀h',h'.get? a=some (bO (n+1) vs)->Jt a s.heap h'->Q x {s with heap:=h'}):
 ID (J3 prog w) A (call (.builtin "collections.deque.pop") [.ref a]) Q E s:=by
 refine KT g_ (d7 ho) lh ?_ (mS _);refine Ir (Ix ?_);refine Ir (Ir (gw ho (Ix ?_)));have e1:((Kz (KD::.int n 0::(vs++[x]))).extract 2 (Kz (KD::.int n 0::(vs++[x]))).size).back?=some x:=by
  haveI:(Kz (KD::.int n 0::(vs++[x]))).extract 2 (Kz (KD::.int n 0::(vs++[x]))).size=(vs++[x]).toArray:=by simp;exact Ju (by simp)
  refine aa this ?_;simp
 refine(e1).symm▸(Ir (j3 ho (vs':=vs) (by simp) hl λh' SA sb=>?_));exact Ix ⟨_,rfl,h h' SA sb⟩
end
set_option tactic.hygienic false
noncomputable def qV (hp:Hp)(a i:AV):Option AV:=(cb hp a).bind λes=>i.str?.map λx=>(lk es.1 x).getD .none
noncomputable def De (hp:Hp)(a:AV):Option (Nat×List AV):=a.ref?.bind λk=>((hg hp k).bind AO.deque?).map λxs=>(k,xs)
noncomputable def u5 (hp:Hp)(a v:AV):Option Hp:=(De hp a).bind λp=>gd (Kd p.2.length 16777216) (some (hs hp p.1 (.deque (p.2++[v]))))
noncomputable def u6 (hp:Hp)(a:AV):Option (AV×Hp):=(De hp a).bind λp=>gd (ai p.2.length) (p.2.getLast?.map λy=>(y,hs hp p.1 (.deque p.2.dropLast)))
section
variable {A:J0}
theorem mV(O:Ok C W)(e:qV W.hp a i=some r)(hu:VR W a u)(hv:VR W i v)(k:ax C W r (W.loc,W.hp) Q):ID C.M A (call (.builtin "dict.get") [u,v]) Q X W.s:=by
 refine ae (IG.mp e) λes h1 e=>ae (JJ.mp e) λx h2 Sn=>?_;subst Sn;clear e;obtain rfl:=str?_is h2;refine af hv.str' λt Sq=>?_;clear hv;subst Sq;refine bw (cu O h1 hu) λj kvs Sm=>?_
 (haveI Sn:=(Sm).1;haveI Ss:=(Sm).2.1;haveI hm:=(Sm).2.2.1;haveI hd:=(Sm).2.2.2.1;haveI hk:=(Sm).2.2.2.2.1;haveI hx:=(Sm).2.2.2.2.2)
 clear Sm;clear hu;subst Sn;subst Ss
 with_reducible refine Rm PQ hd.typeIs PySem.F.entry_dict_get (PySem.F.args_dict_get_2 _ _) (meets_dict_get (sk C) (W.ρ j) (JM C.prog C.w x t) (yx O hm)) ⟨N4 kvs,hd.mapOf,?_⟩
 rcases bR hk hx x with⟨q1,q2⟩|⟨a,w,q1,q2,q3⟩
 . haveI k:=q1▸k;exact(q2).symm▸(k _ _ (O.ltick (IL _)) (O.tick (IL _)) .none rfl)
 . haveI k:=q1▸k;exact(q2).symm▸(k _ _ (O.ltick (IL _)) (O.tick (IL _)) q3.tick rfl)
theorem qW(O:Ok C W)(e:De W.hp a=some p)(hu:VR W a u):∃n vs,u=.ref (W.ρ p.1)/\(p.1,.deque p.2)∈W.hp/\W.s.heap.get? (W.ρ p.1)=some (bO n vs)/\aF W p.2 vs:=by refine ae (IG.mp e) λk h1 e=>ae (JJ.mp e) λxs h2 Sn=>an Sn (ae (IG.mp h2) λo h3 h4=>?_);obtain rfl:=ref?_is h1;obtain rfl:=deque?_is h4;exact be (O.cell k _ (aG h3)) λn vs h5 h6=>⟨n,vs,hu.ref'.1,aG h3,h5,h6⟩
theorem Cm(O:Ok C W)(hm:(j,.deque xs)∈W.hp)(hl:h'.get? (W.ρ j)=some (bO n vs'))(sb:Jt (W.ρ j) W.s.heap h')(hx:aF W xs' vs'):
 Step C W (W.set {W.s with heap:=h'} j (.deque xs')):=by
 have ch:=mi.of sb (λq=>(O.free _ _ hm).2.1 (.inl q):W.ρ j≠W.L);exact O.set hm rfl ch hl ⟨n,vs',hl,hx.1,λi x v a b=>O.setVR hm ch (hx.2 i x v a b)⟩ (IC _) rfl rfl
theorem mW(O:Ok C W)(e:u5 W.hp a b=some hp)(hu:VR W a u)(hv:VR W b v)(k:ax C W .none (W.loc,hp) Q):ID C.M A (call (.builtin "collections.deque.append") [u,v]) Q X W.s:=by
 refine ae (IG.mp e) λp h1 e=>?_
 (haveI hl:=(au e).1;haveI e:=(au e).2)
 replace e:=Iw e;subst e;refine bJ (qW O h1 hu) λn vs Sn hm ho hx=>?_;clear hu;subst Sn;refine sW ho (by exact aa KH (an hx.1 (Iv hl))) λh' SA sb=>?_;haveI S:=Cm O hm SA sb (hx.append (.cons hv .nil));exact k _ _ (S.le O) (S.ok O) .none rfl
theorem mX(O:Ok C W)(e:u6 W.hp a=some (y,hp))(hu:VR W a u)(k:ax C W y (W.loc,hp) Q):ID C.M A (call (.builtin "collections.deque.pop") [u]) Q X W.s:=by
 refine ae (IG.mp e) λp h1 e=>ad (au e) λhl e=>ae (JJ.mp e) λz h2 e=>?_;cases e;refine bJ (qW O h1 hu) λn vs Sn hm ho hx=>?_;refine aa Sn ?_;haveI h3:=h2;haveI h3:=LK▸h3;refine af (hx.at h3) λw Sm=>?_
 (haveI q1:=(Sm).1;haveI q2:=(Sm).2)
 rw[hx.1,<-LK]at q1;haveI ev:vs=vs.dropLast++[w]:=by
  refine af (MV.mp q1) λys Sq=>?_;refine aa Sq ?_;simp
 haveI ho:=ev▸ho;refine Dd ho (aa List.length_dropLast (Iu (MF _ 1) (hx.1▸aq hl))) λh' SA sb=>?_;haveI S:=Cm O hm SA sb hx.dropLast;exact k _ _ (S.le O) (S.ok O) (O.vr (S.le O) q2) rfl
end
set_option tactic.hygienic true
noncomputable def jz (xs:List Str)(x:Str):List Str:=match dM xs x with|true=>xs|false=>xs++[x]
noncomputable def qX (hp:Hp)(a i:AV):Option Hp:=a.ref?.bind λk=>((hg hp k).bind AO.set?).bind λxs=>i.str?.bind λx=>gd (Kd (xs.length+1) 1000) (some (hs hp k (.set (jz xs x))))
section
theorem mY(O:Ok C W)(e:qX W.hp a i=some hp)(hu:VR W a u)(hv:VR W i v)(hb:1000<=scanBound)(k:ax C W .none (W.loc,hp) Q):ID C.M A (call (.builtin "set.add") [u,v]) Q X W.s:=by
 refine ae (IG.mp e) λj h1 e=>ae (IG.mp e) λxs h2 e=>ae (IG.mp e) λx h3 e=>?_
 (haveI hl:=(au e).1;haveI e:=(au e).2)
 replace e:=Iw e;subst e;refine ae (IG.mp h2) λo h4 h5=>?_;obtain rfl:=ref?_is h1;obtain rfl:=set?_is h5;clear e;obtain rfl:=str?_is h3;refine af hv.str' λt Sq=>?_;clear hv;subst Sq
 (haveI Sq:=(hu.ref').1)
 clear hu;subst Sq;haveI hm:=aG h4;refine call_set_add (JM C.prog C.w x t) rfl (O.cell j _ hm) (Jc (Iv hl) hb) λh' sb Uj=>?_;have e1:(λk'=>decide (k'∈xs)||decide (k'=x))=λk'=>decide (k'∈jz xs x):=funext λy=>by
  unfold jz;refine aa (c4 _ _) ?_;by_cases q:x∈xs
  . refine aa (decide_eq_true q) ?_;by_cases z:y=x
    . subst z;simp[q]
    . simp[z]
  . refine aa (decide_eq_false q) ?_;simp
 have e2:(if decide (x∈xs)=true then xs.length else xs.length+1)=(jz xs x).length:=by
  unfold jz;refine aa (c4 _ _) ?_;by_cases q:x∈xs
  . exact aa (decide_eq_true q) rfl
  . refine aa (decide_eq_false q) ?_;simp
 rw[e1,e2]at Uj;refine CO (id Uj) λob es ep tt ho Z=>?_;haveI S:=O.set (s:={W.s with heap:=h',toks:=W.s.toks+1}) (o:=.set (jz xs x)) hm rfl (mi.of sb (λq=>(O.free _ _ hm).2.1 (.inl q):W.ρ j≠W.L)) ho Uj (IL _) rfl rfl;exact k _ _ (S.le O) (S.ok O) .none rfl
end
set_option tactic.hygienic false
noncomputable def bM:List AV->Option (List Int)
 |[]=>some []
 |a::r=>a.int?.bind λx=>(bM r).map (x:: ·)
noncomputable def ft:Int->List Int->Int
 |m,[]=>m
 |m,x::r=>ft (if x>m then x else m) r
theorem yY:∀(r) (m),(ft m r=m\/ft m r∈r)/\m<=ft m r/\∀x∈r,x<=ft m r:=by
 intro Sl;induction Sl with
 |nil=>intro m;exact⟨.inl rfl,L_ _,λx h=>(IA h).elim⟩
 |cons y r Sk=>
  intro m;refine am (Sk (if y>m then y else m)) λh1 h2 h3=>?_;have e:ft m (y::r)=ft (if y>m then y else m) r:=rfl;refine aa e ⟨?_,?_,λx hx=>?_⟩
  . rcases h1 with h1|h1
    . refine aa h1 ?_;split
      . exact .inr (.head _)
      . exact .inl rfl
    . exact .inr (.tail _ h1)
  . generalize ft (if y>m then y else m) r=q at h2;by_cases c:y>m
    . haveI h2:=(if_pos c)▸h2;exact JK (Me c) h2
    . haveI h2:=(if_neg c)▸h2;exact h2
  . rcases IJ.mp hx with rfl|hx
    . generalize ft (if x>m then x else m) r=q at h2;by_cases c:x>m
      . haveI h2:=(if_pos c)▸h2;exact h2
      . haveI h2:=(if_neg c)▸h2;exact JK (M9.mp c) h2
    . exact h3 x hx
theorem lj(h1:v∈n::r)(h2:∀x∈n::r,x<=v):v=ft n r:=by
 refine am (yY r n) λa b c=>M5 ?_ ?_
 . rcases IJ.mp h1 with rfl|h
   . exact b
   . exact c v h
 . rcases a with a|a
   . exact aa a (h2 n (.head _))
   . exact h2 _ (.tail _ a)
noncomputable def mZ:List Int->Option Int|[]=>.none|n::r=>some (ft n r)
noncomputable def Df (hp:Hp)(a:AV):Option Int:=(aU hp a).bind λxs=>(bM xs).map λns=>ns.sum
noncomputable def u7 (hp:Hp)(a:AV):Option (List AV):=a.vals?.bind λk=>((hg hp k).bind AO.dict?).map λes=>es.1.map (·.2)
noncomputable def yZ (hp:Hp)(a:AV):Option Int:=((aU hp a).bind λxs=>(bM xs).bind mZ).or ((u7 hp a).bind λxs=>(bM xs).bind mZ)
noncomputable abbrev u8 (x y:Str):Prop:=x.cps.toList<=y.cps.toList
noncomputable def sX (x:Str):List Str->List Str
 |[]=>[x]
 |y::r=>if u8 x y then x::y::r else y::sX x r
theorem u9:sX x (y::r)=if u8 x y then x::y::r else y::sX x r:=rfl
noncomputable def bx:List Str->List Str
 |[]=>[]
 |x::r=>sX x (bx r)
theorem j4(x):∀l:List Str,(sX x l).Perm (x::l):=by
 intro Sl;induction Sl with
 |nil=>exact .refl _
 |cons y r Sk=>
  refine aa u9 ?_
  split
  . exact .refl _
  . exact((Sk).cons y).trans (.swap x y r)
theorem cA:∀l:List Str,(bx l).Perm l:=by
 intro Sl;induction Sl with
 |nil=>exact .refl _
 |cons x r Sk=>exact(j4 x _).trans ((Sk).cons x)
theorem m2(x):∀{l},l.Pairwise u8->(sX x l).Pairwise u8:=by
 intro Sl;induction Sl with
 |nil=>intro Z;exact Po _ _
 |cons y r Sk=>
  intro h;refine ad (Mf.mp h) λh1 h2=>aa u9 ?_
  split
  . rename_i q
    exact Mf.mpr ⟨λz hz=>by
     refine av hz (λqq=>?_) λhz=>?_
     . clear h h1 hz;exact aa qq q
     . exact List.le_trans q (h1 z hz),h⟩
  . rename_i q
    refine Mf.mpr ⟨λz hz=>?_,Sk h2⟩;refine av ((j4 x r).mem_iff.mp hz) (λqq=>?_) λhz=>?_
    . exact aa qq ((List.le_total _ _).resolve_left q)
    . exact h1 z hz
theorem fU:∀l:List Str,(bx l).Pairwise u8:=by
 intro Sl;induction Sl with
 |nil=>exact .nil
 |cons x r Sk=>exact m2 x (Sk)
theorem u_(h1:u8 x y)(h2:u8 y x):x=y:=by have:=List.le_antisymm h1 h2;cases x;cases y;simp only[Str.mk.injEq];exact Rx.mp this
theorem m3(h:l'.Perm l)(hs:l'.Pairwise u8):l'=bx l:=
 List.Perm.eq_of_pairwise (λa b Z Z h1 h2=>u_ h1 h2) hs (fU l) (h.trans (cA l).symm)
theorem m5(h:l'.Perm l):bx l'=bx l:=m3 ((cA l').trans h) (fU l')
theorem ii:∀{l} {p},risingS p l=true->(p::l).Pairwise u8:=by
 intro Sl;induction Sl with
 |nil=>intro p Z;exact Po _ _
 |cons x r Sk=>
  intro p h;refine bc h λh1 h2=>?_;have ih:=Sk h2;rw[ltCps_eq]at h1;have h1:u8 p x:=List.not_lt.mp (by simpa using h1);refine Mf.mpr ⟨λz hz=>?_,ih⟩;refine av hz (λqq=>?_) λhz=>?_
  . clear h h2 ih;exact aa qq h1
  . exact List.le_trans h1 ((Mf.mp ih).1 z hz)
theorem gH(h:sortedS l=true):l.Pairwise u8:=by
 induction l with
 |nil=>exact .nil
 |cons x r=>exact ii h
noncomputable def iy (hp:Hp)(a:AV):Option AV:=((aU hp a).or a.tup?).bind λxs=>gd (Kd xs.length 64) ((cr xs).map λss=>.lst ((bx ss).map .str))
section
variable {C:Cx}{Q:IF->IP->Prop}
theorem gI:∀{ys} {l},bM ys=some l->∀{vs},aF W ys vs->IntsAre vs l:=by
 intro Sl;induction Sl with
 |nil=>
  intro l e vs h
  (replace e:=Iw e;refine an e ?_);exact aa h.inv_nil .nil
 |cons a r Sk=>
  intro l e vs h;refine ag e λx h1 e=>aH e λl' h2 qq=>an qq ?_
  (refine aP h.inv λv vs' Sr h3 h4=>?_;refine aa Sr ?_)
  clear h;obtain rfl:=int?_is h1;obtain⟨t,rfl⟩:=h3.int';exact .cons _ _ (Sk h2 h4)
theorem ax.grown(O:Ok C W)(kp:∀a o,W.s.heap.get? a=some o->s.heap.get? a=some o)(tk:W.s.toks<=s.toks)(hg:s.gens=W.s.gens)(ho:s.os=W.s.os)(h:VR W a v)(k:ax C W a (W.loc,W.hp) Q):Q v s:=by have S:=O.grown kp tk hg ho;exact k _ _ (S.le O) (S.ok O) (VR.mono (W:=W) (W':=W.to s) (λZ h=>h) (λa o h e=>kp a o e) (λk o h=>⟨⟨o,h⟩,rfl⟩) h) rfl
theorem qY(kp:∀a o,W.s.heap.get? a=some o->s.heap.get? a=some o)(h:aF W xs vs):aF (W.frz s b) xs vs:=
 ⟨h.1,λi x v e f=>VR.mono (W':=W.frz s b) (λZ h=>.inl h) (λa o h e=>kp a o e) (λk o h=>⟨⟨o,h⟩,rfl⟩) (h.2 i x v e f)⟩
theorem Dg(O:Ok C W)(kp:∀a o,W.s.heap.get? a=some o->s.heap.get? a=some o)(hn:W.s.heap.get? b=.none)(hl:s.heap.PlainList b vs.toArray)(tk:W.s.toks<=s.toks)(hg:s.gens=W.s.gens)(ho:s.os=W.s.os)(hx:aF W xs vs)(k:ax C W (.lst xs) (W.loc,W.hp) Q):Q (.ref b) s:=by refine af (id hl) λn e=>?_;have S:=O.frz kp hn e tk hg ho;have h:=qY (b:=b) kp hx;exact k _ _ (S.le O) (S.ok O) (.lst (.inr rfl) hl h.1 h.2) rfl
theorem Dh(O:Ok C W)(kp:∀a o,W.s.heap.get? a=some o->s.heap.get? a=some o)(hn:W.s.heap.get? b=.none)(hl:RW s.heap b vs.toArray)(tk:W.s.toks<=s.toks)(hg:s.gens=W.s.gens)(ho:s.os=W.s.os)(hx:aF W xs vs)(k:ax C W (.tup xs) (W.loc,W.hp) Q):Q (.ref b) s:=by refine ae (id hl) λob e Z=>?_;have S:=O.frz kp hn e tk hg ho;have h:=qY (b:=b) kp hx;exact k _ _ (S.le O) (S.ok O) (.tup (.inr rfl) hl h.1 h.2) rfl
theorem eB(h:IntsAre vs ns):∃l:List (Int×Tok),vs=l.map (λp=>IF.int p.1 p.2)/\ns=l.map (·.1):=by
 induction h with
 |nil=>exact⟨[],rfl,rfl⟩
 |cons n t h ih=>exact ae ih λl e f=>⟨(n,t)::l,aa e rfl,aa f rfl⟩
theorem sY(l:List (Int×Tok)):preSum (OF l.toArray) l.length=(l.map (·.1)).sum:=by
 have:∀k,k<=l.length->preSum (OF l.toArray) k=((l.take k).map (·.1)).sum:=by
  intro k;induction k with
  |zero=>intro Z;rfl
  |succ k ih=>intro hk;have h1:=IM (by assumption);refine aa JR (aa h1 ?_);simp only[preSum,ih (Js (by assumption)),IR,PK,Option.toList_some,JA,PB,M1,List.sum_nil,OF,Jq,h1,Sc,RM,Lf]
 exact aa (this l.length (IC _)) (aa Ka rfl)
theorem pg(O:Ok C W)(e:Df W.hp a=some i)(hu:VR W a u)(hh:A.handled=.none)(k:ax C W (.int i) (W.loc,W.hp) Q):ID C.M A (call (.builtin "sum") [u]) Q X W.s:=by
 refine ag e λxs h1 e=>aH e λns h2 qq=>?_;subst qq
 (refine aP (aX O h1 hu) λl vs Sr il hx=>?_;refine aa Sr ?_)
 (refine ae (eB (gI h2 hx)) λps Sm Sr=>?_;subst Sm;subst Sr)
 refine KL (IC _) (call_sum_walkG (iter_intList (by unfold NI;refine aa Pm ?_;exact il:W.s.heap.IsList l (NI ps.toArray)) λs₂ e st hfp hlI=>?_));subst e;refine⟨_,_,_,_,_,_,OF ps.toArray,rfl,Walks.list (A:=A.in1) hh _ l hlI (NI ps.toArray),st,hfp,(λZ Z=>R3),λh' tk t' hk htk=>?_⟩;have e:preSum (OF ps.toArray) (NI ps.toArray).size=(ps.map (·.1)).sum:=by
  refine an (sY _) ?_;congr 1;unfold NI;simp
 exact aa e (ax.grown O (old_kept hk) htk rfl rfl .int k)
theorem q_{ps:List (Int×Tok)}{m:Int}(e:mZ (ps.map (·.1))=some m){v:IF}(h:(NI ps.toArray)[argBest (λi j=>decide (OF ps.toArray i>OF ps.toArray j)) (ps.length-1)]? =some v):∃t,v=.int m t:=by
 cases ps with
 |nil=>cases e
 |cons p r=>
  simp only[JA,mZ,OV]at e;refine af (R3 h) λt Sq=>aa Sq ?_;obtain⟨h1,h2⟩:=argBest_gt (OF (p::r).toArray) ((p::r).length-1);generalize argBest (λi j=>decide (OF (p::r).toArray i>OF (p::r).toArray j)) ((p::r).length-1)=j at h h1 h2;have hj:j<(p::r).length:=by simp only[Jh]at h1⊢;exact IS (by assumption)
  have num:∀i (hi:i<(p::r).length),OF (p::r).toArray i=(p::r)[i].1:=λi hi=>by unfold OF;exact aa Jq (aa (IM hi) rfl)
  refine⟨t,?_⟩;have:OF (p::r).toArray j=m:=by
   refine an e (lj ?_ λx hx=>?_)
   . exact aa (num j hj) (an JA (IU.mpr ⟨_,RF hj,rfl⟩))
   . rw[<-JA]at hx;refine dJ hx λq hq qq=>?_;refine an qq ?_;obtain⟨i,hi,rfl⟩:=List.mem_iff_getElem.mp hq;exact an (num i hi) (h2 i (by simp only[Jh]at hi⊢;exact Mg (by assumption)))
  exact aa this rfl
theorem pi(O:Ok C W)(e:yZ W.hp a=some i)(hu:VR W a u)(hh:A.handled=.none)(k:ax C W (.int i) (W.loc,W.hp) Q):ID C.M A (call (.builtin "max") [u]) Q X W.s:=by
 refine bt e (λe=>?_) λe=>?_
 . refine ag e λxs h1 e=>ag e λns h2 e=>?_
   (refine aP (aX O h1 hu) λl vs Sr il hx=>?_;refine aa Sr ?_)
   (refine ae (eB (gI h2 hx)) λps Sm Sr=>?_;subst Sm;subst Sr)
   refine KL (n:=W.s.toks) (IC _) (max_intList hh (by unfold NI;refine aa Pm ?_;exact il:W.s.heap.IsList l (NI ps.toArray)) (by simpa using(by cases ps with|nil=>cases e|cons p r=>simp:0<ps.length)) λv h' tk hv hk htk=>?_);refine af (q_ e (by exact Option.mem_def.mp hv)) λt Sq=>?_;refine aa Sq ?_;exact ax.grown O (s:={W.s with heap:=h',toks:=tk}) hk htk rfl rfl .int k
 . refine ag e λxs h1 e=>ag e λns h2 e=>ag h1 λj hj TW=>?_;clear h1;obtain rfl:=vals?_is hj;refine aH TW λes h3 qq=>?_;clear TW;subst qq;refine ag h3 λo h4 h5=>?_;obtain rfl:=dict?_is h5;obtain⟨kvs,⟨hd,Z⟩,hk,hx⟩:=O.cell j _ (aG h4);obtain⟨ep,hd⟩:=hd.dictAt;refine bJ hu.i λo b Sn hb hm hv=>?_;clear hu;subst Sn;have hI:=gI h2 hx;have hlt:W.ρ j<W.s.heap.objs.size:=by refine am (O.free j _ (aG h4)) λZ Z Sm=>?_;refine af Sm λob z=>?_;exact Jz z
   haveI hne:0<kvs.length:=by
    have:=hx.1;induction kvs with
    |nil=>(refine ae (eB hI) λps e1 Sr=>?_;subst Sr);induction ps with|nil=>cases e|cons p r=>simp at e1
    |cons p r=>exact Nat.zero_lt_succ r.length
   (refine cU λg9=>?_;(refine ae (eB hI) λps e1 Sr=>?_;subst Sr);refine g9 ?_)
   have at_:∀(i:Nat) (v:IF),(∃k:Str,kvs[i]? =some (k,v))->(NI ps.toArray)[i]? =some v:=λi v ⟨q,hq⟩=>by
    unfold NI;exact aa Pm (aa Jq (an e1 (aa I9 (aa hq rfl))))
   refine KL (n:=W.s.toks) (IC _) (call_max_walk (QD hv hd ?_));refine⟨_,_,_,_,_,_,λi j=>decide (OF ps.toArray i>OF ps.toArray j),rfl,Walks.dictValues (A:=A.in1) hh W.s.heap.objs.size (W.ρ j) (KK hlt) kvs ep,⟨⟨_,IW _ rfl,rfl,rfl⟩,hd.push _⟩,λb hb=>?_,hne,
    CmpOf.ints_gt (OF ps.toArray) (λi v h=>R3 (at_ i v h)),λv h' tk hv hk htk=>?_⟩
   . skip
     refine aa (I7 _ _) (av hb (λqq=>?_) λhb=>?_)
     . exact aa qq (I6 _)
     . rcases IJ.mp hb with rfl|hb
       . exact Ll hlt
       . cases hb
   . refine af (q_ e (by exact an (by haveI:=congrArg Kn e1;simpa using this:kvs.length=ps.length) (at_ _ _ hv))) λt Sq=>?_;refine aa Sq ?_;refine ax.grown O (s:={W.s with heap:=h',toks:=tk}) (λb o e=>hk b o (λhm=>?_) (IH _ e)) htk rfl rfl .int k;refine av hm (λe1=>?_) λhm=>?_
     . exact absurd (e1▸Jz e) (Ke _)
     . cases hm
theorem vb(h:StrsAre vs ss):aF W (ss.map .str) vs:=by
 induction h with
 |nil=>exact .nil
 |cons Z Z h ih=>exact .cons .str ih
theorem m6{l}{vs}{s}{Q}(hl:RW s.heap l vs.toArray)
 (h:Q vs {s with heap:=(s.heap.push (Ph "list" #[] 0)).update s.heap.objs.size (LX (· ++vs.toArray))}) (hsz:vs.length<=J4):
 ID C.M A (collect (.ref l)) Q X s:=by
 refine cm (id hl) λo ho hc Sr=>af Sr λn hd=>?_;unfold collect;refine Ir (wpAny_runValue (Kw entry_proto_collect' ?_));refine(?_:ID _ _ (do again (.builtin "list.__iadd__" ⟨[<-newList [],.ref l],[]⟩)) _ _ s);refine Ir (QM (Ix ⟨J1 _ (by decide +kernel),Kw entry_list_iadd' ?_⟩));refine(?_:ID _ _ (Ol (.ref s.heap.objs.size) (.ref l) (.ref s.heap.objs.size)) _ _ {s with heap:=s.heap.push (Ph "list" #[] 0)});unfold Ol;have SA:(s.heap.push (Ph "list" #[] 0)).get? l=some o:=IH _ ho;refine Ir (LV ⟨o,SA,hc⟩ ?_);refine aa (if_pos (aa (by rfl:(KE "tuple"==KE "tuple")=true) (Q5 (Jl.List.listSameRef (Nq s.heap.objs.size) (Nq l)||KE "tuple"==KE "list")))) (Ir (listItems_at SA hd ?_));refine Ir (listItems_at (IW _ rfl) rfl ?_);refine aa (if_neg (by exact ne_true_of_eq_false rfl)) (Ir (listUpdate_at (xs:=#[]) (n:=0) (IW _ rfl) rfl ?_ (JG _) (by refine(?_:(#[]++vs.toArray).size<=J4+1);simp only[Array.size_append,Jk,M6,JI];exact I3 (by assumption))));refine Ix ?_;show ID C.M A (do
  let o<-load s.heap.objs.size
  match o.data with
  |.seq xs _=>pure xs.toList
  |_=>unsupported "internal:collect") Q X {s with heap:=(s.heap.push (Ph "list" #[] 0)).update s.heap.objs.size (LX (· ++vs.toArray))}
 refine Ir (Ng (Se (IW _ rfl) _) ?_);refine(?_:ID _ _ (pure ((#[])++vs.toArray).toList) Q X _);exact(show((#[]:Array IF)++vs.toArray).toList=vs by simp).symm▸(Ix h)
theorem m7{l:Jn}{vs:List IF}{ss:List Str}{s:IP}(hl:s.heap.IsList l vs.toArray\/RW s.heap l vs.toArray)(hS:StrsAre vs ss)(h64:vs.length<64)
 (h:∀(out:Array IF),StrsAre out.toList (bx ss)->Q (.ref (s.heap.objs.size+1)) {s with heap:=sortedAll s.heap vs out}):
 ID C.M A (call (.builtin "sorted") [.ref l]) Q X s:=by
 refine Calls.call_function_entry kind_sorted plain_sorted entry_sorted (args_sorted1 _) ?_;unfold Jl.«sorted»;refine Ir (m:=checkCount "sorted" 1 1 _) (Ix ?_);have col:∀{Q:List IF->IP->Prop},Q vs {s with heap:=(s.heap.push (Ph "list" #[] 0)).update s.heap.objs.size (LX (· ++vs.toArray))}->∀{A:J0} {E:IF->IP->Prop},ID C.M A (collect (.ref l)) Q E s:=λq=>by
  intro A E;have hz:vs.length<=J4:=by exact aa KH (Iu (Js h64) (Iv rfl))
  rcases hl with hl|hl
  . exact collect_list hl q hz
  . exact m6 hl q hz
 refine Ir (col ?_);refine Ir (QM ?_);have hsz:((s.heap.push (Ph "list" #[] 0)).update s.heap.objs.size (LX (· ++vs.toArray))).objs.size=s.heap.objs.size+1:=by
  exact aa (RA _ _ _) (aa (size_push' _ _) rfl)
 have hoL:(((s.heap.push (Ph "list" #[] 0)).update s.heap.objs.size (LX (· ++vs.toArray))).push (Ph "list" vs.toArray 0)).get? (s.heap.objs.size+1)=some (Ph "list" vs.toArray 0):=by exact an hsz (IW _ rfl)
 refine(?_:ID _ _ _ _ _ {s with heap:=((s.heap.push (Ph "list" #[] 0)).update s.heap.objs.size (LX (· ++vs.toArray))).push (Ph "list" vs.toArray 0)});refine aa hsz (Ir (I1 (KT slot_list_sort ⟨_,hoL,rfl⟩ entry_list_sort (list_sort_treeK strKind_oneLt hoL hS.keysOf (λv₁ v₂ rest e=>keyKind_strs (by exact an e hS)) h64 λst' hp hs=>⟨_,rfl,?_⟩) (args_list_sort _))));refine cm (sorted_out_str hS hp hs) λTE h1 h2 h3=>?_;rw[m3 h2 (gH h3)]at h1;exact Ix ⟨_,rfl,h _ h1⟩
theorem jA(O:Ok C W){a r:AV}(e:iy W.hp a=some r){u:IF}(hu:VR W a u)(k:ax C W r (W.loc,W.hp) Q):ID C.M A (call (.builtin "sorted") [u]) Q X W.s:=by
 refine ae (IG.mp e) λxs h1 e=>?_;refine ad (au e) λhl e=>?_;refine ae (JJ.mp e) λss h2 Sn=>?_;subst Sn;obtain⟨l,vs,rfl,il,hx⟩:∃l vs,u=.ref l/\(W.s.heap.IsList l (Kz vs)\/RW W.s.heap l (Kz vs))/\aF W xs vs:=by
  refine bt h1 (λh1=>?_) λh1=>?_
  . refine aP (aX O h1 hu) λl vs Sn il hx=>?_;clear hu;subst Sn;exact⟨l,vs,rfl,.inl il,hx⟩
  . obtain rfl:=tup?_is h1;refine bJ hu.tup' λl vs Sn Z il hx=>?_;clear hu;subst Sn;exact⟨l,vs,rfl,.inr il,hx⟩
 refine m7 il (gu h2 hx) (by exact an hx.1 (Iv hl)) λout ho=>?_;refine af (sortedAll_at W.s.heap vs out) λe he=>?_;exact Dg O (s:={W.s with heap:=sortedAll W.s.heap vs out}) (λZ Z=>sortedAll_old) (by
  induction q:W.s.heap.get? (W.s.heap.objs.size+1)with
  |none=>rfl
  |some o=>exact absurd (OU (Jz q)) (Ke _)) ⟨e,by simpa using he⟩ (IC _) rfl rfl (vb ho) k
end
noncomputable def Fx (a:AV):Option AV:=a.int?.map .rng
noncomputable def y0 (hp:Hp)(a:AV):Option AV:=(aU hp a).bind λxs=>gd (ai xs.length) (some (.tup xs))
noncomputable def Fy (a:AV):Option AV:=@AV.casesOn (λZ=>Option AV) a ((some (.ty .none))) (λZ=>some (.ty .bool)) (λZ=>some (.ty .int)) (λZ=>some (.ty .str)) (λZ=>.none) (λZ=>.none) (λZ=>.none) (λZ=>.none) (λZ=>.none) (λZ=>.none) (λZ=>.none) .none (λZ=>.none) (λZ=>.none) (λZ=>.none) (λZ=>.none)
noncomputable def Fz (a t:AV):Option Bool:=a.str?.bind λZ=>t.ty?.bind λy=>gd (IT y.code 7) (some true)
noncomputable def y5 (hp:Hp)(a:AV):Option Bool:=(aU hp a).bind λxs=>gd (ai xs.length) (some (!xs.isEmpty))
noncomputable def cW (hp:Hp)(k:Nat)(o:AO):Option Hp:=gd (!(ks hp).contains k) (some ((k,o)::hp))
noncomputable def y6 (hp:Hp)(k:Nat)(a:AV):Option Hp:=(fT hp a).bind λp=>cW hp k (.iter p.1 0)
theorem cf(e:cW hp k o=some Sp):k∉ks hp/\Sp=(k,o)::hp:=by refine ad (au e) λh e=>?_;replace e:=Iw e;refine aa e ⟨λq=>?_,rfl⟩;rw[K_.mpr q]at h;cases h
section
variable {A:J0}
theorem m8(O:Ok C W)(e:cW W.hp j o=some hp)(hf:ob.isFreed=false)(hc:OR C (W.new {W.s with heap:=W.s.heap.push ob} j o W.s.heap.objs.size) W.s.heap.objs.size o)(k:ax C W (.ref j) (W.loc,hp) Q):
 Q (.ref W.s.heap.objs.size) {W.s with heap:=W.s.heap.push ob}:=by
 refine ad (cf e) λhk Sq=>?_;subst Sq;have l:=O.new hk (λa o e=>IH _ e:∀a o,W.s.heap.get? a=some o->(W.s.heap.push ob).get? a=some o) (cV _) (IW W.s.heap hf) hc (IC _) rfl rfl;have q:=k _ _ (l.le O) (l.ok O) (.ref (.head _)) rfl;rw[show(W.new {W.s with heap:=W.s.heap.push ob} j o W.s.heap.objs.size).ρ j=W.s.heap.objs.size from if_pos rfl]at q;exact q
theorem pj(O:Ok C W)(e:Fx a=some r)(hu:VR W a u)(k:ax C W r (W.loc,W.hp) Q):ID C.M A (call (.type "range") [u]) Q X W.s:=by
 refine aH e λn h qq=>?_;subst qq;obtain rfl:=int?_is h;obtain⟨t,rfl⟩:=hu.int';refine call_range_1 ?_;have ha:=IW W.s.heap (o:={cls:=.type "range",data:=.fields #[.int 0 W.s.toks,.int n t,.int 1 (W.s.toks+1)]}) rfl;have S:=O.frz (s:={W.s with heap:=W.s.heap.push {cls:=.type "range",data:=.fields #[.int 0 W.s.toks,.int n t,.int 1 (W.s.toks+1)]},toks:=W.s.toks+1+1}) (λa o e=>IH _ e) (cV _) ha (by refine(?_:W.s.toks<=W.s.toks+1+1);exact JH (IK _ _)) rfl rfl;exact k _ _ (S.le O) (S.ok O) (.rng (.inr rfl) ha) rfl
theorem pm(O:Ok C W)(e:y0 W.hp a=some r)(hu:VR W a u)(k:ax C W r (W.loc,W.hp) Q):ID C.M A (call (.type "tuple") [u]) Q X W.s:=by
 refine ae (IG.mp e) λxs h e=>ad (au e) λhl e=>?_;replace e:=Iw e;subst e;refine aP (aX O h hu) λl vs Sn il hx=>?_;clear hu;subst Sn;refine call_tuple_list il (λh' hk=>?_) (by exact aa Jk (an hx.1 (aq hl)));refine Dh O (s:={W.s with heap:=h'.push {cls:=.type "tuple",data:=.seq vs.toArray}}) (b:=h'.objs.size) (vs:=vs) (λa o e=>IH _ (hk a o e)) ?_ ⟨_,IW _ rfl,rfl,0,rfl⟩ (IC _) rfl rfl hx k;induction q:W.s.heap.get? h'.objs.size with
 |none=>rfl
 |some o=>exact absurd (Jz (hk _ _ q)) (Ke _)
theorem po(O:Ok C W)(e:Fy a=some r)(hu:VR W a u)(k:ax C W r (W.loc,W.hp) Q):ID C.M A (call (.type "type") [u]) Q X W.s:=by
 cases a<;>first|exact nn e|(replace e:=Iw e;subst e)
 . refine aa hu.none' ?_;exact PG rfl (by decide) (ax.same O k (.ty))
 . refine aa hu.bool' ?_;exact PG rfl (by decide) (ax.same O k (.ty))
 . (refine af hu.int' λt Sm=>?_;refine aa Sm ?_);exact PG rfl (by decide) (ax.same O k (.ty))
 . (refine af hu.str' λt Sm=>?_;refine aa Sm ?_);exact PG rfl (by decide) (ax.same O k (.ty))
theorem pq(O:Ok C W)(e:Fz a t=some r)(hu:VR W a u)(hv:VR W t v)(k:ax C W (.bool r) (W.loc,W.hp) Q):ID C.M A (call (.builtin "isinstance") [u,v]) Q X W.s:=by
 refine ag e λx h1 e=>ag e λy h2 e=>aR e λh3 e4=>?_;obtain rfl:=str?_is h1;obtain rfl:=ty?_is h2;obtain rfl:=Iw e4;obtain rfl:y=.str:=by cases y<;>first|rfl|exact IE h3
 obtain⟨t,rfl⟩:=hu.str';exact aa hv.ty' (PySem.IsiPair.str_str (ax.same O k .bool))
theorem pt(O:Ok C W)(e:a.int?=some i)(hu:VR W a u)(k:ax C W (.int i) (W.loc,W.hp) Q):ID C.M A (call (.type "int") [u]) Q X W.s:=by obtain rfl:=int?_is e;obtain⟨t,rfl⟩:=hu.int';exact call_int_int (ax.same O k .int)
theorem ij(l)(items)(hfit:(items.size:Int)<2^63):
 Meets (Jl.«bool.__new__» ⟨[.type "bool",.ref l],[]⟩) (λZ R s=>s.heap.IsList l items/\R (.ok (.ret (.bool (!items.isEmpty)))) {s with toks:=s.toks+1+1}):=
 P9 λprog w A R s hs=>by
  obtain⟨hl,hs⟩:=hs;obtain⟨hp,g,d,tk,os⟩:=s;have f1:=F.conv_sub_bool
  wp_delta
  with_reducible refine Ir ?_
  wp_delta
  with_reducible refine Ix ?_
  with_reducible refine I5 rfl ?_
  with_reducible refine Ir (Jg (by assumption) ?_)
  refine I5 rfl ?_
  with_reducible refine Ir ?_
  wp_delta
  with_reducible refine Ir ?_
  wp_delta
  refine NL rfl ?_
  with_reducible refine Ix (Ir ?_)
  wp_delta
  refine I5 rfl ?_;refine I5 rfl ?_;refine I5 rfl ?_
  with_reducible refine Ix (Ix (Ir ?_))
  (with_reducible refine Rw hl hfit ?_)
  wp_delta
  with_reducible refine Ix ?_
  all_goals first|exact⟨_,rfl,hs⟩|exact hs|skip
theorem pw(O:Ok C W)(e:y5 W.hp a=some r)(hu:VR W a u)(k:ax C W (.bool r) (W.loc,W.hp) Q):ID C.M A (call (.type "bool") [u]) Q X W.s:=by refine ae (IG.mp e) λxs h e=>ad (au e) λhl e=>?_;replace e:=Iw e;subst e;refine aP (aX O h hu) λl vs Sn il hx=>?_;clear hu;subst Sn;exact call_bool_1 (ij l vs.toArray (by exact aa Jk (an hx.1 (eN hl)))) ⟨il,rfl,by exact aa (by exact aa (P5 _) (an (List.isEmpty_eq_length_eq_zero hx.1) rfl):(!vs.toArray.isEmpty)= !xs.isEmpty) (ax.bool O k (by exact JH (IK _ _)))⟩
theorem m9(O:Ok C W)(e:cW W.hp j (.set [])=some hp)(k:ax C W (.ref j) (W.loc,hp) Q):ID C.M A (call (.type "set") []) Q X W.s:=by
 refine call_set_0 λled=>m8 O e rfl ?_ k;refine⟨_,#[],0,_,IW _ rfl,⟨rfl,rfl,rfl⟩,rfl,?_,λk=>⟨λh=>?_,λq8=>ae q8 λe h Z=>?_⟩,by decide,rfl,rfl⟩
 . intro e h;cases h
 . simp at h
 . cases h
theorem pz(O:Ok C W)(e:y6 W.hp j a=some hp)(hu:VR W a u)(k:ax C W (.ref j) (W.loc,hp) Q):ID C.M A (call (.builtin "iter") [u]) Q X W.s:=by
 refine ae (IG.mp e) λp h e=>kE (dl O h hu) λvs Sn hm hl hx=>?_
 with_reducible refine aa Sn (call_function_entry (by decide +kernel) (by decide +kernel) kdk_entry_iter (kdk_args_iter _) ?_)
 unfold Jl.«iter»;refine Ir (Jg (by first|rfl|kernel_rfl!) ?_);refine(?_:ID _ _ (pyIter (.ref (W.ρ p.1))>>=_) _ _ _);refine af hl λn hl=>Ir (NM ⟨_,hl,rfl,n,rfl⟩ ?_);refine Ix ⟨_,rfl,m8 O e rfl ⟨⟨.list p.2,.tail _ hm⟩,?_⟩ k⟩;exact aa ((Wd.new_ky (cf e).1 p.1 _ hm).2) (IW _ rfl)
end
open Builtin._codecs in
theorem gJ(id:String)(self:IF)(x:Str)(errors:Option Str):encodeRoad id self x (Lg "ascii") errors=(do mkBytes (<-encodeNarrow id asciiCodec errors self x)):=by
 first|rfl|kernel_rfl
open Builtin._codecs in
theorem lm(x:Str)(t u:Tok):Jl.«str.encode» ⟨[.str x t,.str (Lg "ascii") u],[]⟩=(do ret (<-encodeRoad "str.encode" (.str x t) x (Lg "ascii") none)):=by first|rfl|kernel_rfl
noncomputable def bytesOf (x:Str):Array UInt8:=(x.cps.toList.map (·.toUInt8)).toArray
theorem y7{M:P_}{A:J0}{E:IF->IP->Prop}{s:IP}{β:Type}{n:Nat}{init b1:β}{f:Nat->β->Sem (ForInStep β)}{K:β->IP->Prop}(h0:n=0->K init s)(h1:n≠0->f 0 init=pure (.yield b1))(h2:2<=n->f 1 b1=pure (.done b1))(k:n≠0->K b1 s):ID M A (forIn [0:n] init f) K E s:=by
 refine aa (MH _ _ _) (aa (show([0:n]).size=n from by show(n-0+1-1)/1=n;exact aa (Nat.div_one _) rfl) ?_);cases n with
 |zero=>exact Ix (h0 rfl)
 |succ n=>
  refine(?_:ID M A (forIn (OS 0 (n+1) 1) init f) K E s);refine aa NV (aa (LN _ _ _ _) (aa (h1 (NY n)) ?_));refine Ir (Ix ?_);refine(?_:ID M A (forIn (OS 1 n 1) b1 f) K E s);induction n with
  |zero=>exact Ix (k (NY _))
  |succ n=>refine aa NV (aa (LN _ _ _ _) (aa (h2 (I4 2 n)) ?_));exact Ir (Ix (Ix (k (NY _))))
theorem vc(m:List Nat)(acc:Array UInt8):m.foldl (λacc y=>acc++(Jl._codecs.asciiCodec.bytesOf y).toArray) acc=acc++(m.map (·.toUInt8)).toArray:=by
 induction m generalizing acc with
 |nil=>exact Array.append_empty.symm
 |cons y r ih=>refine aa LM (aa (ih _) (aa JA ?_));refine(?_:acc++ #[y.toUInt8]++_=_);exact aa QN (an (List.singleton_append (l:=List.map _ r)) (an (Qu _ _) rfl))
theorem m_(x:Str):(bytesOf x).size=x.length:=by refine(?_:(x.cps.toList.map _).length=_);exact aa (Iz _) rfl
theorem Di{α:Type}{b:Bool}(h:b=false){t e:α}:(if(!b)=true then t else e)=t:=by subst h;rfl
open Builtin._codecs in
theorem sZ{x:Str}(h:∀c∈x.cps.toList,c<128):(x.cps.extract 0 x.cps.size).extract 0 (((x.cps.extract 0 x.cps.size).findIdx? asciiCodec.bad).getD (x.cps.extract 0 x.cps.size).size)=x.cps/\((x.cps.extract 0 x.cps.size).findIdx? asciiCodec.bad).getD (x.cps.extract 0 x.cps.size).size=x.cps.size:=by
 have e:x.cps.extract 0 x.cps.size=x.cps:=Array.extract_size;have f:x.cps.findIdx? asciiCodec.bad=none:=by refine aa (propext Array.findIdx?_eq_none_iff) ?_;intro c hc;exact decide_eq_false (Kj (h c (PT.mpr hc)))
 refine aa e (aa f ?_);exact⟨e,rfl⟩
open Builtin._codecs in
theorem lq{M:P_}{A:J0}{E:IF->IP->Prop}{s:IP}{Q:Array UInt8->IP->Prop}(self:IF)(x:Str)(h:∀c∈x.cps.toList,c<128)(hl:x.length<=J4)(q:Q (bytesOf x) s):ID M A (encodeNarrow "str.encode" asciiCodec none self x) Q E s:=by
 have ec:=sZ h;refine Ir (y7 (b1:=⟨x.cps.size,bytesOf x,{}⟩) ?_ ?_ ?_ ?_)
 . intro hz;refine Ix ?_;have:bytesOf x= #[]:=Array.eq_empty_of_size_eq_zero ((m_ x).trans hz);exact this▸q
 . intro hz;obtain⟨⟨l⟩⟩:=x;induction l with
   |nil=>exact absurd rfl hz
   |cons c r=>
    refine Eq.trans (Di (decide_eq_false (Kj (h c (.head _))))) ?_;show pure (LL _)=_
    refine aa (JI _) (aa ec.1 (aa ec.2 (an (Array.foldl_toList _) (aa (vc _ _) (aa QO ?_)))))
    rfl
 . intro hz;exact Eq.trans (if_neg (by exact aa (m_ _) (KP.mpr hl))) (aa (Array.getElem?_size:x.cps[x.cps.size]? =none) rfl)
 . intro Z;exact Ix q
noncomputable def j5 (x:Str):Bool:=x.cps.toList.all λc=>Kd c 128
noncomputable def Dj (a e:AV):Option AV:=a.str?.bind λx=>e.str?.bind λy=>gd (aZ y "ascii"&&j5 x&&ai x.length) (some (.bytes (bytesOf x)))
noncomputable def vd (hp:Hp)(a b:AV):Option AV:=a.str?.bind λx=>(aU hp b).bind λxs=>(cr xs).bind λys=>gd (aZ x ""&&ai (ys.map (·.length)).sum) (some (.str (Rj x ys)))
noncomputable def y8 (hp:Hp)(a:AV):Option AV:=a.ref?.bind λk=>((hg hp k).bind AO.dict?).map λZ=>.vals k
noncomputable def Dk (a b:AV):Option AV:=a.bytes?.bind λx=>b.bytes?.bind λy=>o1 y.toList λc=>gd (ai x.size) (some (.int ((x.toList.filter (λd=>IT d.toNat c.toNat)).length:Int)))
section
theorem pA(O:Ok C W)(h:Dj a e=some r)(hu:VR W a u)(hv:VR W e v)(k:ax C W r (W.loc,W.hp) Q):ID C.M A (call (.builtin "str.encode") [u,v]) Q X W.s:=by
 refine ag h λx h1 h=>ag h λy h2 h=>ad (au h) λhg h=>?_;replace h:=Iw h;subst h;simp only[Kx]at hg;obtain⟨⟨h3,h4⟩,h5⟩:=hg;obtain rfl:=str?_is h1;clear h;obtain rfl:=str?_is h2;obtain⟨t,rfl⟩:=hu.str'
 (refine af hv.str' λt' Sm=>?_;refine aa Sm ?_)
 clear h h2 hv;refine aa (aL.mp h3) (KT F.slot_str_encode (Nf _ _ _) F.entry_str_encode ?_ (F.args_str_encode_2 _ _));refine aa (lm _ _ _) (aa (gJ _ _ _ _) ?_);have hz:(bytesOf x).size<=J4:=by
  have:(bytesOf x).size=x.length:=by simp[bytesOf,Str.length]
  exact aa this (aq h5)
 refine Ir (Ir (lq (.str x t) x (λc hc=>Iv (Jj.mp h4 c hc):∀c∈x.cps.toList,c<128) (aq h5) (Pi ?_ hz)));exact Ix ⟨_,rfl,k _ _ (O.ltick (IL _)) (O.tick (IL _)) .bytes rfl⟩
theorem na(O:Ok C W)(e:vd W.hp a b=some r)(hu:VR W a u)(hv:VR W b v)(k:ax C W r (W.loc,W.hp) Q):ID C.M A (call (.builtin "str.join") [u,v]) Q X W.s:=by refine ag e λx h1 e=>ag e λxs h2 e=>ag e λys h3 e=>ad (au e) λhl e=>?_;replace e:=Iw e;subst e;refine bc hl λh4 h5=>?_;obtain rfl:=str?_is h1;obtain⟨t,rfl⟩:=hu.str';clear e h1 hu;obtain rfl:=aL.mp h4;refine aP (aX O h2 hv) λl vs Sn il hx=>?_;clear hv;subst Sn;refine KL (n:=W.s.toks) (IC _) (join_list il (gu h3 hx) ?_ λt' tk htk=>ax.str O k htk);have:=Iv h5;refine aa (by decide +kernel:(Lg "").length=0) ?_;omega
theorem pB(O:Ok C W)(e:y8 W.hp a=some r)(hu:VR W a u)(k:ax C W r (W.loc,W.hp) Q):ID C.M A (call (.builtin "dict.values") [u]) Q X W.s:=by
 refine ag e λj h1 e=>aH e λes h2 qq=>?_;subst qq;refine ag h2 λo h3 h4=>?_;obtain rfl:=ref?_is h1;obtain rfl:=dict?_is h4;obtain⟨rfl,Z⟩:=hu.ref';have hm:=aG h3;refine ae (O.cell j _ hm) λkvs Sn Z=>?_;rcases Sn with⟨hd,Z⟩
 refine Rm Pd hd.typeIs PySem.F.entry_dict_values (PySem.F.args_dict_values_1 _) (meets_dict_values _ _ (yx O hm)) ⟨⟨kvs,hd⟩,?_⟩;have ha:=IW W.s.heap (o:={cls:=.type "dict_values",data:=.fields #[.ref (W.ρ j)]}) rfl;have S:=O.frz (s:={W.s with heap:=W.s.heap.push {cls:=.type "dict_values",data:=.fields #[.ref (W.ρ j)]}}) (λa o e=>IH _ e) (cV _) ha (IC _) rfl rfl;exact k _ _ (S.le O) (S.ok O) (.vals (.inr rfl) hm ⟨_,ha,rfl,rfl⟩) rfl
end
theorem re:Slot "bytes" "count" "bytes.count":=
 .of (owner:="bytes") (n:="count") (by refine aa (Ja _ _) (aa IX ?_);kernel_rfl) (by decide +kernel) (by decide +kernel) (by decide +kernel)
  (by first|exact .inl (by decide +kernel)|exact .inr (by decide +kernel)) (by refine aa (JO _ _) ?_;kernel_rfl)
theorem ve:LU OY "bytes.count"=some Jl.«bytes.count»:=JN (by kernel_rfl)
theorem y9(a b):Mi "bytes.count" ⟨[a,b],[]⟩:=by unfold Mi;kernel_rfl
theorem y_:Oh (.builtin "bytes.count")=pure (.type "method_descriptor"):=by refine(?_:Nr _=_);refine aa K6 ?_;kernel_rfl
theorem vf:Q1 "bytes":=by
 refine⟨?_,?_⟩
 . exact⟨"bytes.__getattribute__",by refine aa (Ja _ _) (aa IX ?_);kernel_rfl,by decide +kernel⟩
 . refine aa (Ja _ _) (aa IX ?_);kernel_rfl
theorem gK:K0 (.type "bytes") "__buffer__"=pure (some (.builtin "bytes.__buffer__")):=by refine aa (Ja _ _) (aa IX ?_);kernel_rfl
theorem Dl:K0 (.type "bytes") "__release_buffer__"=pure none:=by refine aa (Ja _ _) (aa IX ?_);kernel_rfl
theorem lr:Os (.type "bytes") (.type "bytes")=pure true:=by refine aa (JO _ _) ?_;kernel_rfl
section
theorem gM{b}{t}{id}{Q}(q:Q (some b) s):ID M A (PO id (.bytes b t)) Q E s:=by
 have hT:s.TypeIs (.bytes b t) "bytes":=rfl;unfold PO
 with_reducible refine Ir (JS hT gK ?_)
 dsimp only;refine Ir ?_;unfold Ni
 with_reducible refine Ir (JS hT gK ?_)
 dsimp only
 with_reducible refine aa (by decide +kernel:(!"bytes.__buffer__".endsWith ("."++"__buffer__"))=false) (aa (by decide +kernel:("bytes.__buffer__".dropRight ("__buffer__".length+1))="bytes") (MS hT lr (Ir (JS hT gK ?_))))
 refine Ir ?_;unfold Jl.Bytes.ownRelease Ni
 with_reducible refine Ir (Ir (JS hT Dl ?_))
 refine Ix (Ix ?_);exact Ir (Ix (Ix q))
theorem za(b)(c):(OJ b #[c] 0 b.size).length=(b.toList.filter (λd=>IT d.toNat c.toNat)).length:=by
 unfold OJ;refine aa (by refine(?_:b.size+1-(0+1)=_);simp:b.size+1-(0+(#[c]).size)=b.toList.length) ?_;have key:∀n,n<=b.toList.length->∀acc:List Nat×Nat,acc=((JV n).map (· +0)).foldl (λ(acc:List Nat×Nat) i=>if(decide (i≥acc.2)&&b.extract i (i+(#[c]).size)== #[c])=true then(i::acc.1,i+(#[c]).size)else acc) ([],0)->
  acc.2<=n/\acc.1.length=((b.toList.take n).filter (λd=>IT d.toNat c.toNat)).length:=by
  intro n;induction n with
  |zero=>intro Z acc e;refine aa e ?_;exact⟨IC _,rfl⟩
  |succ n ih=>
   intro hn acc e;rw[PJ,IR,My]at e;generalize he:((JV n).map (· +0)).foldl (λ(acc:List Nat×Nat) i=>if(decide (i≥acc.2)&&b.extract i (i+(#[c]).size)== #[c])=true then(i::acc.1,i+(#[c]).size)else acc) ([],0)=acc0 at e;refine ad (ih (Js (by assumption)) acc0 he.symm) λh1 h2=>?_;have hb:n<b.size:=by have:=hn;simp at this;assumption
   have hx:b.extract n (n+(#[c]).size)= #[b[n]]:=by refine(?_:b.extract n (n+1)=_);apply QP;refine aa PU (aa OL ?_);refine aa (PP n 1:n+1-n=1) (aa (Kf (by simpa using hb)) ?_);simp
   have ht:b.toList.take (n+1)=b.toList.take n++[b[n]]:=by refine aa JR (aa (IM (by simpa using hb)) ?_);simp
   refine aa ht (aa (Lb _ _) (aa IB (an h2 ?_)));simp only[JA,PB,Nat.add_zero,LM,List.foldl_nil]at e;rw[hx]at e;by_cases q:b[n]=c
   . rw[if_pos (by refine aa q ?_;simp;exact h1)]at e;exact aa e (aa q ⟨IC _,by simp⟩)
   . rw[if_neg (by simp;intro Z;simpa using q)]at e;refine aa e ⟨I3 h1,?_⟩;rw[List.filter_cons_of_neg]
     . simp
     . intro z;exact q (UInt8.toNat_inj.mp (IY z))
 refine ad (key b.toList.length (IC _) _ rfl) λZ h=>?_;rw[Ka]at h;exact aa Jw h
end
section
theorem pC(O:Ok C W)(e:Dk a b=some r)(hu:VR W a u)(hv:VR W b v)(k:ax C W r (W.loc,W.hp) Q):ID C.M A (call (.builtin "bytes.count") [u,v]) Q X W.s:=by
 refine ag e λx h1 e1=>?_;obtain⟨⟨l⟩,h2,e2⟩:=IG.mp e1;clear e e1;have e:=e2;clear e2;obtain rfl:=bytes?_is h1;obtain rfl:=bytes?_is h2;obtain⟨t,rfl⟩:=hu.bytes'
 (refine af hv.bytes' λt' Sm=>?_;refine aa Sm ?_)
 refine ET e λc q e=>?_
 . have q:l=[c]:=q;clear h2 hv;refine aa q ?_;refine ad (au e) λhl e=>?_;replace e:=Iw e;subst e;refine KT re rfl ve ?_ (y9 _ _);refine(?_:ID C.M A.in1 (PV .bytes ⟨[.bytes x t,.bytes #[c] t'],[]⟩) _ _ _);unfold PV Jl.Bytes.searchArgs
   with_reducible refine Ir (Ir (Jg (a:=(MI x t,[MI #[c] t'])) rfl ?_))
   refine Ir (Ix (Ir (Ix ?_)));refine Ir (gM ?_);refine Ir (Ix (Ir (Ix ?_)));refine Ix ?_;have e1:(if(0:Int)<0 then max 0 ((0:Int)+(x.size:Int))else 0)=0:=rfl;have e2:min (x.size:Int) (if(x.size:Int)<0 then max 0 ((x.size:Int)+x.size)else x.size)=x.size:=by exact aa (if_neg (by exact Mx x.size)) (Int.min_self ↑x.size)
   have kk:∀{n:Int} {B:J0} {Y:IF->IP->Prop},n=((x.toList.filter (λd=>IT d.toNat c.toNat)).length:Int)->ID C.M B (retInt n) (λfin s'=>∃v,fin=Fin.done (R8.ret v)/\Q v s') Y W.s:=λh=>by
    subst h;exact Ir (O9 (Ix ⟨_,rfl,ax.int O k (IL _)⟩))
   simp only[Option.getD_none];refine aa e1 (aa e2 ?_);by_cases hz:(x.size:Int)-0<((#[c]:Array UInt8).size:Int)
   . refine aa (if_pos hz) ?_;have:x.size=0:=Nat.lt_one_iff.mp (KJ.mp (by rw[Nx]at hz;exact hz));have:x.toList=[]:=by refine an (propext KS) ?_;simpa using this
     exact kk (by exact aa this rfl)
   . refine aa (if_neg hz) ?_;dsimp only;exact aa (if_neg (λz=>IE (show false=true from z):¬(#[c]:Array UInt8).isEmpty=true)) (kk (aa (rfl:((0:Int)).toNat=0) (aa (OP _) (aa (za _ _) rfl))))
end
section
open PySem.Sre
noncomputable def qc:Array Nat:=#[14,8,1,2,4294967295,1,1,34,0,16,34,28,22,0,4294967295,7,11,13,7,21,16,34,16,92,0,15,8,6,16,92,2,15,2,0,1,16,34,1]
structure Ms where
 text:Array Nat
 lim:Nat
 start:Nat
 pc:Nat
 pos:Nat
 handed:Nat
 outer:Bool
 loops:Array Loop:=#[]
 inner:Option Nat:=none
 frames:List Qm
 weight:Nat
 answer:Option Bool:=none
 seen:Oe
noncomputable def Ms.m (x:Ms):M:={code:=qc,text:=x.text,lim:=x.lim,start:=x.start,lastStart:=x.lim,pc:=x.pc,pos:=x.pos,handed:=x.handed,outermost:=x.outer,marks:=#[],loops:=x.loops,inner:=x.inner,frames:=x.frames,weight:=x.weight,answer:=x.answer,seen:=x.seen}
theorem ng{m:M}(h:ops[m.word 0]? =some .LITERAL):m.exec=(let m:={m with seen:=m.seen.add (m.word 0)};if m.pos≥m.lim then m.say false else match accepts m.code m.pc (m.text.getD m.pos 0) m.seen with
 |.error why=>m.stick why
 |.ok (false,seen)=>{m with seen}.say false
 |.ok (true,seen)=>{m with seen,pc:=m.pc+itemWidth m.code m.pc,pos:=m.pos+1}):=by unfold M.exec;exact aa h rfl
theorem nh{m:M}(h:ops[m.word 0]? =some .ANY):m.exec=(let m:={m with seen:=m.seen.add (m.word 0)};if m.pos≥m.lim then m.say false else match accepts m.code m.pc (m.text.getD m.pos 0) m.seen with
 |.error why=>m.stick why
 |.ok (false,seen)=>{m with seen}.say false
 |.ok (true,seen)=>{m with seen,pc:=m.pc+itemWidth m.code m.pc,pos:=m.pos+1}):=by unfold M.exec;exact aa h rfl
theorem rf{m:M}(h:ops[m.word 0]? =some .IN):m.exec=(let m:={m with seen:=m.seen.add (m.word 0)};if m.pos≥m.lim then m.say false else match accepts m.code m.pc (m.text.getD m.pos 0) m.seen with
 |.error why=>m.stick why
 |.ok (false,seen)=>{m with seen}.say false
 |.ok (true,seen)=>{m with seen,pc:=m.pc+itemWidth m.code m.pc,pos:=m.pos+1}):=by unfold M.exec;exact aa h rfl
def Run (m m':M)(b:Nat):Prop:=∃n,n<=b/\∀k,m.runFor (n+k)=m'.runFor k
theorem Run.refl(m:M):Run m m 0:=⟨0,IC _,λk=>aa (JI _) rfl⟩
theorem Run.trans(h:Run m m' a)(h':Run m' m'' b):Run m m'' (a+b):=ae h λn h1 h2=>ae h' λn' h3 h4=>⟨n+n',Jr h1 h3,λk=>aa (J2 _ _ _) (aa (h2 _) (aa (h4 _) rfl))⟩
theorem Run.step(h:m.outcome=none)(e:m.step=m')(r:Run m' m'' b):Run m m'' (b+1):=by
 subst e;refine ae r λn h1 h2=>⟨n+1,IS (by assumption),λk=>?_⟩
 refine aa (Jb n 1 k:n+1+k=(n+k)+1) (?_:(if m.outcome.isSome=true then m else M.runFor (n+k) m.step)=_);exact aa h (h2 k)
section
variable {t:Array Nat}{lim s pc p hd w:Nat}{o:Bool}{ls:Array Loop}{inn:Option Nat}{fr:List Qm}
theorem fV{op:Op}(h1:Kd pc qc.size=true)(h2:ops[qc.getD pc 0]? =some op)(ho:op=.LITERAL\/op=.ANY\/op=.IN)(hw:itemWidth qc pc=wd)(hl:p<lim)(ha:accepts qc pc (t.getD p 0) (sn.add (qc.getD pc 0))=.ok (true,sn')):
 (Ms.mk t lim s pc p hd o ls inn fr w none sn).m.step=(Ms.mk t lim s (pc+wd) (p+1) hd o ls inn fr w none sn').m:=by
 subst hw;refine(?_:(if pc<qc.size then M.exec (Ms.mk t lim s pc p hd o ls inn fr w none sn).m else _)=_);refine aa (if_pos (Iv h1:pc<qc.size)) ?_;have key:M.exec (Ms.mk t lim s pc p hd o ls inn fr w none sn).m=(let m:={(Ms.mk t lim s pc p hd o ls inn fr w none sn).m with seen:=sn.add (qc.getD pc 0)};if m.pos≥m.lim then m.say false else match accepts m.code m.pc (m.text.getD m.pos 0) m.seen with
  |.error why=>m.stick why
  |.ok (false,seen)=>{m with seen}.say false
  |.ok (true,seen)=>{m with seen,pc:=m.pc+itemWidth m.code m.pc,pos:=m.pos+1}):=by
  rcases ho with rfl|rfl|rfl
  . exact ng h2
  . exact nh h2
  . exact rf h2
 refine aa key ?_;refine(?_:(if p≥lim then _ else match accepts qc pc (t.getD p 0) (sn.add (qc.getD pc 0))with|.error why=>_|.ok (false,seen)=>_|.ok (true,seen)=>_)=_);refine aa (if_neg (Nat.not_le.mpr hl)) (aa ha ?_)
 rfl
theorem iZ{op:Op}(h1:Kd pc qc.size=true)(h2:ops[qc.getD pc 0]? =some op)(ho:op=.LITERAL\/op=.ANY\/op=.IN)(ha:p<lim->∃sn',accepts qc pc (t.getD p 0) (sn.add (qc.getD pc 0))=.ok (false,sn')):
 ∃sn',(Ms.mk t lim s pc p hd o ls inn fr w none sn).m.step=(Ms.mk t lim s pc p hd o ls inn fr w (some false) sn').m:=by
 have key:M.exec (Ms.mk t lim s pc p hd o ls inn fr w none sn).m=(let m:={(Ms.mk t lim s pc p hd o ls inn fr w none sn).m with seen:=sn.add (qc.getD pc 0)};if m.pos≥m.lim then m.say false else match accepts m.code m.pc (m.text.getD m.pos 0) m.seen with
  |.error why=>m.stick why
  |.ok (false,seen)=>{m with seen}.say false
  |.ok (true,seen)=>{m with seen,pc:=m.pc+itemWidth m.code m.pc,pos:=m.pos+1}):=by
  rcases ho with rfl|rfl|rfl
  . exact ng h2
  . exact nh h2
  . exact rf h2
 have e0:(Ms.mk t lim s pc p hd o ls inn fr w none sn).m.step=(if p≥lim then(Ms.mk t lim s pc p hd o ls inn fr w (some false) (sn.add (qc.getD pc 0))).m else match accepts qc pc (t.getD p 0) (sn.add (qc.getD pc 0))with
  |.error why=>M.stick {(Ms.mk t lim s pc p hd o ls inn fr w none sn).m with seen:=sn.add (qc.getD pc 0)} why
  |.ok (false,seen)=>(Ms.mk t lim s pc p hd o ls inn fr w (some false) seen).m
  |.ok (true,seen)=>(Ms.mk t lim s (pc+itemWidth qc pc) (p+1) hd o ls inn fr w none seen).m):=by
  refine(?_:(if pc<qc.size then M.exec (Ms.mk t lim s pc p hd o ls inn fr w none sn).m else _)=_);refine aa (if_pos (Iv h1:pc<qc.size)) (aa key ?_)
  rfl
 refine aa e0 ?_;by_cases hp:p≥lim
 . exact aa (if_pos hp) ⟨_,rfl⟩
 . exact aa (if_neg hp) (af (ha (Nat.not_le.mp hp)) λsn' e=>aa e ⟨_,rfl⟩)
theorem rg(h2:ops[qc.getD pc 0]? =some .LITERAL)(h3:qc.getD (pc+1) 0=c):accepts qc pc x sn=.ok (x==c,sn):=by unfold accepts;refine aa h2 ?_;dsimp only;exact aa h3 rfl
theorem zb(h2:ops[qc.getD pc 0]? =some .ANY):accepts qc pc x sn=.ok (x !=10,sn):=by unfold accepts;exact aa h2 rfl
theorem lu:∃sn',accepts qc 17 x sn=.ok (!(x==34||x==92),sn'):=by
 show ∃sn',(if(x==34)=true then Qj (false,(sn.add 21).add 16)else if(x==92)=true then Qj (false,((sn.add 21).add 16).add 16)else Qj (true,(((sn.add 21).add 16).add 16).add 0))=Qj (!(x==34||x==92),sn')
 by_cases h:(x==34)=true
 . exact aa (if_pos h) (aa h ⟨_,rfl⟩)
 . refine aa (if_neg h) (aa (Lk.mpr h) ?_);by_cases h':(x==92)=true
   . exact aa (if_pos h') (aa h' ⟨_,rfl⟩)
   . exact aa (if_neg h') (aa (Lk.mpr h') ⟨_,rfl⟩)
noncomputable def fS (s:Nat)(o:Bool):Qm:={wait:=.nextStart,pc:=9,pos:=s,outermost:=o}
noncomputable def zc:Sre.Kept:={lastmark:=-1,lastindex:=-1,whole:=true,marks:=#[]}
noncomputable def fP (p:Nat)(o:Bool)(n:Int):Qm:={wait:=.possMore,pc:=11,pos:=p,outermost:=o,count:=n,kept:=zc,loop:=0}
noncomputable def fB (alt p:Nat):Qm:={wait:=.nextBranch,pc:=alt,pos:=p,outermost:=false,kept:=zc}
noncomputable def lp:Array Loop:=#[{pc:=0,outer:=none}]
noncomputable abbrev t4 (t:Array Nat)(lim s p:Nat)(o:Bool)(n:Int)(sn:Oe):M:=(Ms.mk t lim s 15 p p false lp (some 0) [fP p o n,fS s o] 2 none sn).m
theorem j6{m:M}{i}{c}{b}(h1:m.word 2=0)(h2:m.word 3=maxRepeat)(h3:0<=c)(h4:b≠some m.handed):
 m.possessive i c b=m.attempt {m.frame .possMore with pos:=m.handed,loop:=i,count:=c,kept:=m.keep true} (m.pc+4) m.handed false:=by
 unfold M.possessive;rw[h1,h2];dsimp only;rw[if_neg (by exact Pl h3),if_pos];refine aa (beq_self_eq_true _:(maxRepeat==maxRepeat)=true) (aa (Q5 _) (aa (Bool.true_and _) ?_));exact bne_iff_ne.mpr h4
theorem s8{m:M}{i}{c}(h1:m.word 2=0)(h3:0<=c):
 m.possessive i c (some m.handed)={m with inner:=(m.loopAt i).outer,loops:=m.loops.pop,pc:=m.pc+2+m.word 1,pos:=m.handed}:=by
 unfold M.possessive;rw[h1];dsimp only;rw[if_neg (by exact Pl h3),if_neg];refine aa (bne_self_eq_false _) (aa (Bool.and_false _) ?_)
 decide
theorem zd:(Ms.mk t lim s 11 p hd o #[] none [fS s o] 1 none sn).m.step=t4 t lim s p o 0 (sn.add 28):=by
 refine(?_:M.possessive (Ms.mk t lim s 11 p p o lp (some 0) [fS s o] 1 none (sn.add 28)).m 0 0 none=_);refine aa (j6 rfl rfl (L_ _) (λh=>by cases h)) ?_
 rfl
theorem gN:(t4 t lim s p o n sn).step=(Ms.mk t lim s 17 p p false lp (some 0) [fB 16 p,fP p o n,fS s o] 3 none (sn.add 7)).m:=rfl
theorem vg:(Ms.mk t lim s 25 p hd false lp (some 0) fr w none sn).m.step=(Ms.mk t lim s 34 p hd false lp (some 0) fr w none (sn.add 15)).m:=rfl
theorem vh:(Ms.mk t lim s 31 p hd false lp (some 0) fr w none sn).m.step=(Ms.mk t lim s 34 p hd false lp (some 0) fr w none (sn.add 15)).m:=rfl
theorem rh:(Ms.mk t lim s 34 p hd false lp (some 0) fr w none sn).m.step=(Ms.mk t lim s 34 p p false lp (some 0) fr w (some true) (sn.add 1)).m:=rfl
theorem ze(h:p≠s):(Ms.mk t lim s 37 p hd o #[] none fr w none sn).m.step=(Ms.mk t lim s 37 p p o #[] none fr w (some true) (sn.add 1)).m:=by induction o<;>rfl
theorem ri:(Ms.mk t lim s pc p hd false lp (some 0) [fB alt q,fP q o n,fS s o] 3 (some true) sn).m.step=(Ms.mk t lim s alt q hd false lp (some 0) [fP q o n,fS s o] 2 (some true) sn).m:=rfl
theorem rj:(Ms.mk t lim s pc p hd false lp (some 0) [fB 16 q,fP q o n,fS s o] 3 (some false) sn).m.step=(Ms.mk t lim s 28 q q false lp (some 0) [fB 27 q,fP q o n,fS s o] 3 none sn).m:=rfl
theorem zf:(Ms.mk t lim s pc p hd false lp (some 0) [fB 27 q,fP q o n,fS s o] 3 (some false) sn).m.step=(Ms.mk t lim s 27 q hd false lp (some 0) [fP q o n,fS s o] 2 (some false) sn).m:=rfl
theorem rl{q}(hn:0<=n)(h:hd≠q):(Ms.mk t lim s pc p hd false lp (some 0) [fP q o n,fS s o] 2 (some true) sn).m.step=t4 t lim s hd o (n+1) sn:=by
 refine(?_:M.possessive (Ms.mk t lim s 11 q hd o lp (some 0) [fS s o] 1 none sn).m 0 (n+1) (some q)=_);refine aa (j6 rfl rfl (MD hn) (λe=>h (Iw e).symm)) ?_
 rfl
theorem Dm{q}(hn:0<=n):(Ms.mk t lim s pc p hd false lp (some 0) [fP q o n,fS s o] 2 (some false) sn).m.step=(Ms.mk t lim s 35 q q o #[] none [fS s o] 1 none sn).m:=by refine(?_:M.possessive (Ms.mk t lim s 11 q q o lp (some 0) [fS s o] 1 none sn).m 0 n (some q)=_);exact(s8 (m:=(Ms.mk t lim s 11 q q o lp (some 0) [fS s o] 1 none sn).m) rfl hn).trans rfl
theorem zg:(Ms.mk t lim s pc p hd o #[] none [fS s o] 1 (some true) sn).m.step=(Ms.mk t lim s 9 s hd o #[] none [] 0 (some true) sn).m:=rfl
theorem Dn(h:s<lim):(Ms.mk t lim s pc p hd o #[] none [fS s o] 1 (some false) sn).m.step=(Ms.mk t lim (s+1) 9 (s+1) (s+1) false #[] none [fS (s+1) false] 1 none sn).m:=by
 refine(?_:(if s<lim then M.attemptFrom _ (s+1) false else _)=_);refine aa (if_pos h) ?_
 rfl
theorem zh(h:¬s<lim):(Ms.mk t lim s pc p hd o #[] none [fS s o] 1 (some false) sn).m.step=(Ms.mk t lim s 9 s hd o #[] none [] 0 (some false) sn).m:=by
 refine(?_:(if s<lim then _ else M.say _ false)=_);refine aa (if_neg h) ?_
 rfl
noncomputable abbrev pD (t:Array Nat)(lim s:Nat)(o:Bool)(sn:Oe):M:=(Ms.mk t lim s 9 s s o #[] none [fS s o] 1 none sn).m
noncomputable def fin (m:M)(yes:Bool):M:={m with outcome:=some (if yes then .matched else .failed)}
theorem vi:(Ms.mk t lim s pc p hd o #[] none [] 0 (some b) sn).m.step=fin (Ms.mk t lim s pc p hd o #[] none [] 0 (some b) sn).m b:=rfl
theorem FA:ops[qc.getD 9 0]? =some .LITERAL:=rfl
theorem zi:ops[qc.getD 28 0]? =some .LITERAL:=rfl
theorem FB:ops[qc.getD 35 0]? =some .LITERAL:=rfl
theorem Do:ops[qc.getD 17 0]? =some .IN:=rfl
theorem FC:ops[qc.getD 30 0]? =some .ANY:=rfl
theorem lw(h2:ops[qc.getD pc 0]? =some .LITERAL)(h3:qc.getD (pc+1) 0=c)(hx:x=c):accepts qc pc x sn=.ok (true,sn):=aa (rg h2 h3) (aa hx (aa (beq_self_eq_true _) rfl))
theorem vj(h2:ops[qc.getD pc 0]? =some .LITERAL)(h3:qc.getD (pc+1) 0=c)(hx:x≠c):accepts qc pc x sn=.ok (false,sn):=aa (rg h2 h3) (aa (beq_eq_false_iff_ne.mpr hx) rfl)
theorem vk(hl:s<lim)(hc:t.getD s 0≠34):∃sn',Run (pD t lim s o sn) (pD t lim (s+1) false sn') 2:=af (iZ (by decide) FA (.inl rfl) λZ=>⟨_,vj FA rfl hc⟩) λsn' e=>⟨sn',Run.step rfl e (Run.step rfl (Dn hl) (Run.refl _))⟩
theorem FE(hl:¬s<lim):∃m',Run (pD t lim s o sn) m' 3/\m'.outcome=some .failed:=af (iZ (by decide) FA (.inl rfl) λq=>absurd q hl) λsn' e=>⟨_,Run.step rfl e (Run.step rfl (zh hl) (Run.step rfl vi (Run.refl _))),rfl⟩
theorem zj(hl:s<lim)(hc:t.getD s 0=34):∃sn',Run (pD t lim s o sn) (t4 t lim s (s+1) o 0 sn') 2:=
 ⟨_,Run.step rfl (fV (by decide) FA (.inl rfl) rfl hl (lw FA rfl hc)) (Run.step rfl zd (Run.refl _))⟩
theorem Dp(hn:0<=n)(hl:p<lim)(h1:t.getD p 0≠34)(h2:t.getD p 0≠92):∃sn',Run (t4 t lim s p o n sn) (t4 t lim s (p+1) o (n+1) sn') 6:=by refine af (lu (x:=t.getD p 0) (sn:=(sn.add 7).add (qc.getD 17 0))) λsn' e=>?_;rw[beq_eq_false_iff_ne.mpr h1,beq_eq_false_iff_ne.mpr h2]at e;exact⟨_,Run.step rfl gN (Run.step rfl (fV (by decide) Do (.inr (.inr rfl)) rfl hl e) (Run.step rfl vg (Run.step rfl rh (Run.step rfl ri (Run.step rfl (rl hn (Ps p)) (Run.refl _))))))⟩
theorem FF(hn:0<=n)(hl:p+1<lim)(h1:t.getD p 0=92)(h2:t.getD (p+1) 0≠10):∃sn',Run (t4 t lim s p o n sn) (t4 t lim s (p+2) o (n+1) sn') 9:=by
 obtain⟨sn',e⟩:=iZ (t:=t) (lim:=lim) (s:=s) (p:=p) (hd:=p) (o:=false) (ls:=lp) (inn:=some 0) (fr:=[fB 16 p,fP p o n,fS s o]) (w:=3) (sn:=sn.add 7) (pc:=17) (by decide) Do (.inr (.inr rfl)) λZ=>by
  refine af (lu (x:=t.getD p 0) (sn:=(sn.add 7).add (qc.getD 17 0))) λsn' e=>?_;rw[h1]at e⊢;exact⟨sn',e⟩
 exact⟨_,Run.step rfl gN (Run.step rfl e (Run.step rfl rj (Run.step rfl (fV (by decide) zi (.inl rfl) rfl (Js (by assumption)) (lw zi rfl h1))
  (Run.step rfl (fV (by decide) FC (.inr (.inl rfl)) rfl hl (aa (zb FC) (aa (bne_iff_ne.mpr h2) rfl))) (Run.step rfl vh (Run.step rfl rh (Run.step rfl ri (Run.step rfl (rl hn (JU (Ll (I6 p)))) (Run.refl _)))))))))⟩
theorem zk(hn:0<=n)(hs:s<p)(hl:p<lim)(h1:t.getD p 0=34):∃m',Run (t4 t lim s p o n sn) m' 10/\m'.outcome=some .matched/\m'.start=s/\m'.handed=p+1:=by
 obtain⟨sn',e⟩:=iZ (t:=t) (by decide) Do (.inr (.inr rfl)) λZ=>by
  obtain⟨sn',e⟩:=lu (x:=t.getD p 0) (sn:=(sn.add 7).add (qc.getD 17 0));rw[h1]at e⊢;exact⟨sn',e⟩
 obtain⟨sn2,e2⟩:=iZ (by decide) zi (.inl rfl) λZ=>⟨_,vj zi rfl (by refine aa h1 ?_;decide)⟩
 exact⟨_,Run.step rfl gN (Run.step rfl e (Run.step rfl rj (Run.step rfl e2 (Run.step rfl zf (Run.step rfl (Dm hn) (Run.step rfl (fV (by decide) FB (.inl rfl) rfl hl (lw FB rfl h1))
  (Run.step rfl (ze (Kr (ktu_ne 1 hs))) (Run.step rfl zg (Run.step rfl vi (Run.refl _)))))))))),rfl,rfl,rfl⟩
end
end
section
open PySem.Sre
noncomputable def cX (n:Nat)(l:List Nat):Option (List Nat):=@Rb Nat (λZ=>Nat->Option (List Nat)) (λZ=>none) (λc r f n=>@Lj (λZ=>Option (List Nat)) n (if c=34 then some r else if c=92 then f 1 else f 0) λZ=>if c=10 then none else f 0) l n
theorem Dq:cX 0 (c::r)=if c=34 then some r else if c=92 then cX 1 r else cX 0 r:=rfl
theorem G8:cX (n+1) (c::r)=if c=10 then none else cX 0 r:=rfl
inductive IV(n c:Nat):Prop
 |done (e:∀r,cX n (c::r)=some r)
 |go (e:∀r,cX n (c::r)=cX m r)
 |bad (e:∀r,cX n (c::r)=none)
theorem iv(n c):IV n c:=by
 induction n with
 |zero=>
  by_cases h:c=34
  . exact .done λr=>if_pos h
  . by_cases g:c=92
    . exact .go λr=>(if_neg h).trans (if_pos g)
    . exact .go λr=>(if_neg h).trans (if_neg g)
 |succ n=>
  by_cases h:c=10
  . exact .bad λr=>if_pos h
  . exact .go λr=>if_neg h
theorem i0:∀{v} {n} {w},cX n v=some w->∃c x,v=c::(x++w):=by
 intro v;induction v with
 |nil=>exact λh=>nn h
 |cons c r ih=>
  intro n w h;induction iv n c with
  |done e=>exact⟨c,[],congrArg (c:: ·) (Iw ((e r).symm.trans h))⟩
  |go e=>exact bw (ih ((e r).symm.trans h)) λd x e=>⟨c,d::x,congrArg (c:: ·) e⟩
  |bad e=>exact nn ((e r).symm.trans h)
theorem fW{t:Array Nat}{p c:Nat}{r:List Nat}(h:t.toList.drop p=c::r):p<t.size/\t.getD p 0=c/\t.toList.drop (p+1)=r:=by
 have hl:p<t.toList.length:=by
  by_cases q:p<t.toList.length
  . exact q
  . rw[List.drop_eq_nil_of_le (KP.mp q)]at h;cases h
 rw[Kf hl]at h
 injection h with h1 h2
 refine⟨by simpa using hl,?_,h2⟩;refine an h1 ?_;have:p<t.size:=by simpa using hl
 simp[Array.getD,this]
theorem c7{t:Array Nat}{p:Nat}{r:List Nat}(h:t.toList.drop p=r)(hp:p<=t.size):p+r.length=t.size:=an h (aa LA (aa Lq (Oj hp)))
section
inductive yc(t:Array Nat)(s N:Nat)(w:List Nat)(m:M):Prop
 |mk:Run m m' N->m'.outcome=some .matched->m'.start=s->m'.handed+w.length=t.size->yc t s N w m
theorem yc.pre{N K L}{w}{m m1:M}(r:yc t s N w m1)(h:Run m m1 K)(l:K+N<=L):yc t s L w m:=yc.casesOn r λrb a b e=>ae (h.trans rb) λk k1 k2=>.mk ⟨k,Iu k1 l,k2⟩ a b e
def RP (t:Array Nat)(s:Nat)(o:Bool)(v:List Nat):Prop:=∀{w:List Nat} {p:Nat} {n:Int} {sn:Oe},cX 0 v=some w->t.toList.drop p=v->s<p->0<=n->yc t s (9*v.length+1) w (t4 t t.size s p o n sn)
def RE (t:Array Nat)(s:Nat)(o:Bool)(v:List Nat):Prop:=∀{w:List Nat} {p:Nat} {n:Int} {sn:Oe},cX 1 v=some w->t.getD p 0=92->t.toList.drop (p+1)=v->s<p->0<=n->yc t s (9*v.length+10) w (t4 t t.size s p o n sn)
theorem FG{w:List Nat}{p:Nat}{n:Int}{sn:Oe}{N:Nat}(hN:10<=N)(hs:s<p)(hn:0<=n)(h1:p<t.size)(h2:t.getD p 0=34)(h3:t.toList.drop (p+1)=w):yc t s N w (t4 t t.size s p o n sn):=kE (zk hn hs h1 h2) λm' r a b d=>ae r λk k1 k2=>.mk ⟨k,Iu k1 hN,k2⟩ a b ((congrArg (· +w.length) d).trans (c7 h3 h1))
theorem FJ:∀v:List Nat,RP t s o v/\RE t s o v:=by
 intro v;induction v with
 |nil=>exact⟨λh=>nn h,λh=>nn h⟩
 |cons c r ih=>
  refine⟨λ{w p n sn} h hd hs hn=>?_,λ{w p n sn} h hp hd hs hn=>?_⟩
  . refine am (fW hd) λh1 h2 h3=>?_;by_cases q:c=34
    . exact FG (I4 10 (9*r.length)) hs hn h1 (h2.trans q) (h3.trans (Iw ((if_pos q).symm.trans h)))
    . replace h:=(if_neg q).symm.trans (Dq.symm.trans h);by_cases q2:c=92
      . exact ih.2 ((if_pos q2).symm.trans h) (h2.trans q2) h3 hs hn
      . exact af (Dp (s:=s) (o:=o) (sn:=sn) hn h1 (λe=>q (h2.symm.trans e)) (λe=>q2 (h2.symm.trans e))) λsn' ra=>(ih.1 ((if_neg q2).symm.trans h) h3 (Ll hs) (MD hn)).pre ra (Iu (I2 (Lw 6 _)) (IK (9*r.length+7) 3))
  . refine am (fW hd) λh4 h5 h6=>?_;by_cases q3:c=10
    . exact nn ((if_pos q3).symm.trans h)
    . exact af (FF hn h4 hp (λe=>q3 (h5.symm.trans e))) λsn' ra=>(ih.1 ((if_neg q3).symm.trans h) h6 (Ll (Ll hs)) (MD hn)).pre ra (Iu (I2 (Lw 9 _)) (IK (9*r.length+10) 9))
theorem Dr:∀(u) (s) (o:Bool) (sn:Oe),t.toList.drop s=u->s<=t.size->34∉u->∃m',Run (pD t t.size s o sn) m' (2*u.length+3)/\m'.outcome=some .failed:=by
 intro Sl;induction Sl with
 |nil=>intro s o sn hd hs Z;have:=c7 hd hs;exact ae (FE (t:=t) (lim:=t.size) (s:=s) (o:=o) (sn:=sn) (by simp at this;exact L7 (I2 this.symm))) λm' r a=>⟨m',r,a⟩
 |cons c u Sk=>intro s o sn hd hs hn;exact am (fW hd) λh1 h2 h3=>af (vk (t:=t) (o:=o) (sn:=sn) h1 (by exact aa h2 (λe=>hn (by exact aa e (.head _))))) λsn' ra=>ae (Sk (s+1) false sn' h3 h1 λe=>hn (.tail _ e)) λm' rb a=>ae (ra.trans rb) λk k1 k2=>⟨m',⟨k,Iu k1 (I2 (Lw 2 _)),k2⟩,a⟩
theorem zl:∀(u v w) (s) (o:Bool) (sn:Oe),t.toList.drop s=u++34::v->34∉u->cX 0 v=some w->
 yc t (s+u.length) (9*(u.length+v.length)+12) w (pD t t.size s o sn):=by
 intro Sl;induction Sl with
 |nil=>intro v w s o sn hd Z hv;exact am (fW hd) λh1 h2 h3=>af (zj (t:=t) (o:=o) (sn:=sn) h1 h2) λsn' ra=>((FJ (o:=o) v).1 hv h3 (I6 s) (L_ 0)).pre ra (by exact aa M6 (aa (JI _) (Iu (I2 (Lw 2 _)) (IZ (Iv rfl:3<=12) _))))
 |cons c u Sk=>intro v w s o sn hd hn hv;refine am (fW hd) λh1 h2 h3=>af (vk (t:=t) (o:=o) (sn:=sn) h1 (by exact aa h2 (λe=>hn (by exact aa e (.head _))))) λsn' ra=>aa Jh (an (Kk _ _) ?_);exact(Sk v w (s+1) false sn' h3 (λe=>hn (.tail _ e)) hv).pre ra (aa (Jb u.length 1 _) (Iu (I2 (Lw 2 _)) (IZ (Iv rfl:14<=21) (9*(u.length+v.length)))))
end
theorem j7(h:s+2<=t.size):forSearch qc t 0 s t.size false=pD t t.size s true ({words:=16384}:Oe):=by
 unfold forSearch;refine aa (if_neg (by exact Lk.mp (show(decide (s>t.size)||decide (t.size-s<2))=false by exact aa (decide_eq_false (KP.mpr (Iu (IK s 2) h))) (aa (decide_eq_false (KP.mpr (Nat.le_sub_of_add_le' h))) rfl)))) ?_
 rfl
theorem lx(h:¬s+2<=t.size):∃m',Run (forSearch qc t 0 s t.size false) m' 1/\m'.outcome=some .failed:=by
 unfold forSearch;exact aa (if_pos (by show(decide (s>t.size)||decide (t.size-s<2))=true;exact aa (decide_eq_true (show t.size-s<2 from LQ (Nat.sub_le_of_le_add (Lw s 1▸KY (Nat.not_le.mp h))))) (aa (Q5 _) rfl))) ⟨_,Run.step rfl rfl (Run.refl _),rfl⟩
theorem dU{m:M}(h:m.outcome.isSome=true):∀k,m.runFor k=m:=λk=>by
 induction k with
 |zero=>rfl
 |succ k=>refine(?_:(if m.outcome.isSome=true then m else _)=m);exact aa (if_pos h) rfl
theorem pE:∀(a b) (m:M),m.runFor (a+b)=(m.runFor a).runFor b:=by
 intro Sl;induction Sl with
 |zero=>intro b m;exact aa (JI _) rfl
 |succ a Sk=>
  intro b m;refine aa (by exact Jb a 1 b:a+1+b=(a+b)+1) (?_:(if m.outcome.isSome=true then m else M.runFor (a+b) m.step)=M.runFor b (if m.outcome.isSome=true then m else M.runFor a m.step));by_cases h:m.outcome.isSome=true
  . exact aa (if_pos h) (aa (if_pos h) (aa (dU h _) rfl))
  . exact aa (if_neg h) (aa (if_neg h) (Sk b m.step))
section
variable {st:IP}
theorem FK:∀(T n) (m m':M) {Q:M->IP->Prop},n<4*T->(∀k,m.runFor (n+k)=m'.runFor k)->m'.outcome.isSome=true->Q m' st->ID Mo A (Jl.Re.reDrive T m) Q E st:=by
 intro Sl;induction Sl with
 |zero=>intro n m m' Q h Z Z Z;exact absurd (by assumption) (Lm _)
 |succ T Sk=>
  intro n m m' Q h hr ho q;refine(?_:ID _ _ (if(m.runFor Mb).outcome.isSome=true then _ else _) _ _ _);by_cases h4:n<=4
  . have e:m.runFor Mb=m':=by refine(?_:m.runFor 4=m');exact aa ((Oj h4).symm) (aa (hr _) (aa (dU ho _) rfl))
    refine aa e (aa (if_pos ho) ?_);exact Ix q
  . have e:∀k,(m.runFor Mb).runFor (n-4+k)=m'.runFor k:=λk=>by
     refine(?_:(m.runFor 4).runFor (n-4+k)=_);exact an (pE _ _ _) (an (J2 _ _ _) (aa (Oj (RJ h4)) (aa (hr _) rfl)))
    by_cases TD:(m.runFor Mb).outcome.isSome=true
    . refine aa (if_pos TD) ?_;have:=e 0;rw[dU TD]at this;exact aa this (Ix q)
    . exact aa (if_neg TD) (Ir (MN (Sk (n-4) _ m' (Nat.sub_lt_right_of_lt_add (RJ h4) h) e ho q)))
end
end
section
open PySem.Sre
section
variable {Mo:P_}{A:J0}{E:IF->IP->Prop}{st:IP}
theorem pF{c:Nat->Bool}{f:Nat->String}{Q:PUnit->IP->Prop}(q:Q Nc st):∀l:List Nat,ID Mo A (forIn l Nc λi (__s:PUnit)=>if c i=true then(do rule (f i);pure (LL Nc))else pure (LL Nc)) Q E st:=by
 intro Sl;induction Sl with
 |nil=>exact aa Ox (Ix q)
 |cons x r Sk=>
  refine aa (LN _ _ _ _) (Ir ?_);by_cases h:c x=true
  . exact aa (if_pos h) (Ir (MN (Ix (Sk))))
  . exact aa (if_neg h) (Ix (Sk))
theorem ly(r:Run m m' b)(hb:b<4294967296)(h:(m'.outcome=some .matched/\Q (some m') st)\/(m'.outcome=some .failed/\Q none st)):ID Mo A (Mt m) Q E st:=by
 unfold Mt;refine ae r λn h1 h2=>Ir (FK (2^64) n m m' (I8 h1 (Kh hb (Iv rfl))) h2 (by rcases h with⟨h,_⟩|⟨h,_⟩<;>refine aa h ?_<;>rfl:m'.outcome.isSome=true) ?_);refine Ir (pF ?_ _);rcases h with⟨h,q⟩|⟨h,q⟩
 . exact aa h (Ix q)
 . exact aa h (Ix q)
theorem nj{b:Array UInt8}{t:Tok}{id:String}{Q:Option (Array UInt8)->IP->Prop}(q:Q (some b) st):ID Mo A (Ot id (.bytes b t)) Q E st:=by
 unfold Ot
 with_reducible exact Ir (Mr (gM (Ix q)))
theorem s9{Q:Array Nat×Nat->IP->Prop}(q:Q (b.map (·.toNat),1) st):ID Mo A (Qp (.bytes b t)) Q E st:=by
 unfold Qp
 with_reducible refine Ir (Jg rfl ?_)
 with_reducible exact Ir (nj (Ix q))
structure dV(h:Mk)(P T:Jn):Prop where
 p:∃o b t0 t1 t2 t6,h.get? P=some o/\o.data=.fields #[.bytes b t0,.int 0 t1,.int 0 t2,.none,.none,.ref T,.int 1 t6]
 t:∃o vs n,h.get? T=some o/\o.cls=.type "tuple"/\o.data=.seq vs n/\vs.map QR=qc.map λn:Nat=>(n:Int)
theorem zm:(qc.map λn:Nat=>(n:Int)).map (·.toNat)=qc:=by decide +kernel
theorem vm(hp:dV st.heap P T)(q:Q ⟨.ref P,.bytes b t,qc,b.map (·.toNat),1,0,0,(b.map (·.toNat)).size⟩ st):
 ID Mo A (Pa (.ref P) (.bytes b t)) Q E st:=by
 obtain⟨⟨o,b0,t0,t1,t2,t6,h1,h2⟩,o',vs,n,h3,h4,h5,h6⟩:=hp;unfold Pa;refine Ir ?_;unfold fieldsOf;refine Ir (Ng h1 ?_)
 with_reducible refine aa h2 (Ix (Ir (s9 ?_)))
 show ID Mo A (do
  NP (MI b t) 1
  let x<-Jl.Re.reRawItems (Nq T)
  pure ({pattern:=Nq P,string:=MI b t,code:=Array.map (λx=>x.toNat) x,text:=b.map (·.toNat),kind:=1,groups:=0,pos:=0,lim:=(b.map (·.toNat)).size})) Q E st
 refine Ir ?_;unfold NP;refine aa (if_pos (rfl:((1:Nat)==1)=true)) (Ir (MS (rfl:st.TypeIs (.bytes b t) "bytes") lr ?_));refine Ix (Ir (Ir ?_));unfold seqItems?;refine Ir (Ng h3 ?_);refine aa h5 (Ix (Ix ?_));refine Ix ?_;simp only[RM];refine aa h6 (aa zm ?_);exact q
theorem Ds(hl:x.size<=J4)(q:Q (.bytes ((x.extract b e).map (·.toUInt8)) st.toks) {st with toks:=st.toks+1}):ID Mo A (M8 x 1 b e) Q E st:=by unfold M8;exact aa (if_neg (by decide)) (Pi q (by exact aa Array.size_map (aa Array.size_extract (Iu (MF _ _) (Iu (NX _ _) hl)))))
theorem zn{b:Array UInt8}{t:Tok}{id:String}{Q:Option (Array UInt8×Option IF)->IP->Prop}(q:Q (some (b,none)) st):ID Mo A (NS id (.bytes b t) 0) Q E st:=by
 have hT:st.TypeIs (.bytes b t) "bytes":=rfl;unfold NS
 with_reducible refine Ir (Mr ?_)
 unfold Jl.Bytes.takeBuffer?
 with_reducible refine Ir (JS hT gK ?_)
 dsimp only;refine Ir ?_;unfold Ni
 with_reducible refine Ir (JS hT gK ?_)
 dsimp only
 with_reducible refine aa (by decide +kernel:(!"bytes.__buffer__".endsWith ("."++"__buffer__"))=false) ((by decide +kernel:("bytes.__buffer__".dropRight ("__buffer__".length+1))="bytes").symm▸(MS hT lr (Ir (JS hT gK ?_))))
 refine Ir (gM ?_);exact Ix (Ix q)
class inductive BytesAre:List IF->List (Array UInt8)->Prop
 |nil:BytesAre [] []
 |cons {b:Array UInt8} {t:Tok} {vs:List IF} {bs:List (Array UInt8)}:BytesAre vs bs->BytesAre (.bytes b t::vs) (b::bs)
theorem BytesAre.append(h:BytesAre vs bs)(h':BytesAre ws cs):BytesAre (vs++ws) (bs++cs):=by
 induction h with
 |nil=>exact h'
 |cons h ih=>exact .cons ih
theorem BytesAre.len(h:BytesAre vs bs):vs.length=bs.length:=by
 induction h with
 |nil=>rfl
 |cons h ih=>exact congrArg (· +1) ih
theorem BytesAre.at{vs:List IF}{bs:List (Array UInt8)}(h:BytesAre vs bs):∀i,i<vs.length->∃b t,vs[i]? =some (.bytes b t)/\bs[i]? =some b:=by
 induction h with
 |nil=>exact λi h=>absurd h (Lm _)
 |cons h ih=>
  intro i hl;cases i with
  |zero=>exact⟨_,_,rfl,rfl⟩
  |succ i=>exact be (ih i (NE hl)) λb t h1 h2=>⟨b,t,h1,h2⟩
theorem i4(l:List (Array UInt8)):Lh #[] l=(l.map (·.toList)).flatten.toArray:=by
 unfold Lh;have:∀(l:List (Array UInt8)) (k:Nat) (acc:Array UInt8),(l.zipIdx k).foldl (λout (p:Array UInt8×Nat)=>(if p.2>0 then out++ #[]else out)++p.1) acc=acc++(l.map (·.toList)).flatten.toArray:=by
  intro l;induction l with
  |nil=>intro k acc;simp
  |cons x r ih=>
   intro k acc;rw[List.zipIdx_cons,LM,ih];have:(if k>0 then acc++ #[]else acc)=acc:=by split<;>simp
   rw[this,JA,KX];refine(?_:acc++x++_=_);refine aa QN ?_
   congr 1
   apply QP;simp
 simpa using(this l 0 #[])
theorem zo:Slot "bytes" "join" "bytes.join":=
 .of (owner:="bytes") (n:="join") (by refine aa (Ja _ _) (aa IX ?_);kernel_rfl) (by decide +kernel) (by decide +kernel) (by decide +kernel)
  (by first|exact .inl (by decide +kernel)|exact .inr (by decide +kernel)) (by refine aa (JO _ _) ?_;kernel_rfl)
theorem vn:LU OY "bytes.join"=some Jl.«bytes.join»:=JN (by kernel_rfl)
theorem zp(a b:IF):Mi "bytes.join" ⟨[a,b],[]⟩:=by unfold Mi;kernel_rfl
theorem j8{q:Unit->IP->Prop}:∀(taken:List (IF×Option IF)) (keep:List IF),(∀p∈taken,p.2=none)->q () st->ID Mo A (Nh taken keep) q E st:=by
 intro Sl;induction Sl with
 |nil=>intro Z Z h;exact Ix h
 |cons x92 r So=>obtain⟨x,w⟩:=x92;intro keep hw h;have e:w=none:=hw _ (.head _);exact aa e (Ir (wpAny_letGo (So keep (λp hp=>hw p (.tail _ hp)) h)))
theorem s_{σ:Type}{body:Nat->σ->Sem (ForInStep σ)}{n:Nat}{Q:σ->IP->Prop}(P:Nat->σ->Prop)(step:∀i x,i<n->P i x->∀{Q':ForInStep σ->IP->Prop},(∀x',P (i+1) x'->Q' (.yield x') st)->ID Mo A (body i x) Q' E st)
 (fin:∀x,P n x->Q x st):∀(k i:Nat) (x:σ),i+k=n->P i x->ID Mo A (forIn (OS i k) x body) Q E st:=by
 intro Sl;induction Sl with
 |zero=>intro i x h hp;exact aa List.range'_zero (aa Ox (Ix (fin x (an h hp))))
 |succ k Sk=>intro i x h hp;refine aa NV (aa (LN _ _ _ _) ?_);exact Ir (step i x (h▸Ks (NG k)) hp λx' Sp=>Sk (i+1) x' ((Jb i 1 k).trans h) Sp)
theorem eQ{α:Type}{t t':Sem α}{Q:α->IP->Prop}(e:t=t')(h:ID Mo A t' Q E st):ID Mo A t Q E st:=e▸h
theorem join_loop{bs:List (Array UInt8)}{vs:List IF}{f:Nat->Array (Array UInt8)×List (IF×Option IF)->Sem (ForInStep (Array (Array UInt8)×List (IF×Option IF)))}{g:Array (Array UInt8)×List (IF×Option IF)->Sem Fin}{R:Fin->IP->Prop}{F:IF->IP->Prop}{B:J0}(hb:BytesAre vs bs)
 (hf:∀i c5 taken b tb,(∀p∈taken,p.2=none/\p.1.onHeap=false)->vs.toArray.getD i .none=.bytes b tb->∀{Q'},Q' (.yield (c5.push b,taken++[(.bytes b tb,none)])) st->ID Mo B (f i (c5,taken)) Q' F st)
 (hg:∀taken,(∀p∈taken,p.2=none/\p.1.onHeap=false)->ID Mo B (g (bs.toArray,taken)) R F st):ID Mo B (forIn [:vs.toArray.size] (#[],[]) f>>=g) R F st:=by
 refine Ir (aa (MH _ _ _) (aa (by simp[RN.size]:([:vs.toArray.size]:RN).size=vs.length) (s_ (n:=vs.length) (λi (x:Array (Array UInt8)×List (IF×Option IF))=>x.1=(bs.take i).toArray/\∀p∈x.2,p.2=none/\p.1.onHeap=false) ?_ ?_ vs.length 0 (#[],[]) (JI _) ⟨rfl,λp h=>(IA h).elim⟩)))
 . rintro i ⟨c5,taken⟩ hi ⟨h1,h2⟩ Q' Ui
   refine be (hb.at i hi) λb tb e1 e2=>?_;have eg:vs.toArray.getD i .none=.bytes b tb:=by
    simp[Array.getD_eq_getD_getElem?,e1]
   refine hf i c5 taken b tb h2 eg (Ui _ ⟨?_,λp hp=>?_⟩)
   . show c5.push b=_
     refine aa (show c5=_ from h1) (aa JR (aa e2 ?_));simp
   . rcases JD.mp hp with hp|hp
     . exact h2 p hp
     . refine aa (KO.mp hp) ?_;exact⟨rfl,rfl⟩
 . rintro⟨c5,taken⟩ ⟨h1,h2⟩
   haveI hp:c5=bs.toArray:=by exact aa (show c5=_ from h1) (aa hb.len (aa Ka rfl))
   clear h1;exact aa hp (hg taken h2)
theorem ta(l:List (Array UInt8)):∀k:Nat,l.toArray.foldl (λx1 x2=>x1+x2.size) k=k+(l.map (·.toList)).flatten.length:=by
 induction l with
 |nil=>intro k;rfl
 |cons x r ih=>intro k;have:=ih (k+x.size);simp only[List.foldl_toArray,LM,JA,KX,IB,Lq]at this⊢;exact aa this (J2 _ _ _)
theorem tc{bs:List (Array UInt8)}{R:Fin->IP->Prop}(hz:(bs.map (·.toList)).flatten.length<=J4)(q:∀t' k,R (.done (.ret (.bytes (bs.map (·.toList)).flatten.toArray t'))) {st with toks:=k}){taken:List (IF×Option IF)}(h2:∀p∈taken,p.2=none/\p.1.onHeap=false){ps:Array (Array UInt8)}(hp:ps=bs.toArray){u:Sem Fin}{fl:List IF}:
 ID Mo A (if Jl.Bytes.tooLong (ps.foldl (λx1 x2=>x1+x2.size) ((#[]:Array UInt8).size*(ps.size-1)))=true then u else
  O_.new (Lh #[] ps.toList)>>=λr=>(Sh (r::fl) point)>>=λZ=>Nh taken [r]>>=λZ=>ret r) R E st:=by
 refine aa hp ?_;rw[if_neg (by
  refine aa (ta _ _) (?_:¬decide (0*_+(bs.map (·.toList)).flatten.length>J4)=true);refine aa (Nat.zero_mul _) (aa (JI _) (aa decide_eq_true_eq ?_));exact KP.mpr hz)]
 refine Ir (?_:ID _ _ (mkBytes (Lh #[] bs)) _ _ _);refine aa (i4 _) (Pi ?_ (by simpa using hz));exact Ir (I1 (R6 (Ir (j8 taken _ (λp hp=>(h2 p hp).1) (Ix (q _ _))))))
set_option tactic.hygienic true in
theorem pG{l:Jn}{vs:List IF}{bs:List (Array UInt8)}{n:Nat}{t:Tok}{prog:Ql}{w:World}{Q:IF->IP->Prop}(hl:st.heap.get? l=some {cls:=.type "list",data:=.seq vs.toArray n})(hb:BytesAre vs bs)
 (hz:(bs.map (·.toList)).flatten.length<=J4) (q:∀t' k,Q (.bytes (bs.map (·.toList)).flatten.toArray t') {st with toks:=k}):ID (J3 prog w) A (call (.builtin "bytes.join") [.bytes #[] t,.ref l]) Q E st:=by
 refine KT zo rfl vn (wL rfl hl (wL rfl hl ?_)) (zp _ _);rcases vs with Z|⟨x,Z|⟨y,r⟩⟩
 . cases hb;refine eQ (t':=O_.new (Lh #[] [])>>=λr=>(Sh (r::[]) point)>>=λZ=>Nh [] [r]>>=λZ=>ret r) (by kernel_rfl) (Ir (?_:ID _ _ (mkBytes (Lh #[] [])) _ _ _));refine aa (i4 _) (Pi ?_ (by simp));exact Ir (I1 (R6 (Ir (j8 [] _ (λp h=>(IA h).elim) (Ix ⟨_,rfl,q _ _⟩)))))
 . cases hb with
   |cons h=>
    cases h
    rename_i b tb
    refine eQ (t':=rule "bytes.join.one-item">>=λZ=>ret (MI b tb)) (by kernel_rfl) (Ir (MN (Ix ⟨_,rfl,?_⟩)));have:=q tb st.toks;simp only[JA,PB,KX,List.flatten_nil,Jv,Array.toArray_toList]at this;exact this
 . refine join_loop hb (λi c5 taken b tb h2 eg Q' Ui=>?_) λtaken h2=>tc hz (λt' k=>⟨_,rfl,q t' k⟩) h2 rfl;refine Ir (NO hl rfl ?_);dsimp only;refine aa eg ?_;haveI ea:(taken.any λx=>x.1.onHeap)=false:=by
    refine aa (propext Q_) ?_;intro p hp;refine aa ((h2 p hp).2) ?_;decide
   refine aa ea (aa (if_neg (by decide)) ?_)
   with_reducible refine Ir (I1 (zn ?_))
   dsimp only;refine Ir (NO hl rfl ?_);dsimp only;refine aa (if_neg (by refine aa (bne_self_eq_false _) ?_;decide)) ?_;exact Ix Ui
end
end
section
open PySem.Sre
noncomputable def eC (n:Nat)(l:List Nat):Option (List Nat):=@Rb Nat (λZ=>Nat->Option (List Nat)) (λn=>@Lj (λZ=>Option (List Nat)) n (some []) λZ=>none) (λc r f n=>@Lj (λZ=>Option (List Nat)) n (if c=34 then f 1 else(f 0).map (c:: ·)) λk=>@Lj (λZ=>Option (List Nat)) k (if c=34 then f 0 else if c=92 then f 2 else f 1) λZ=>if c=10 then none else f 1) l n
theorem Cn:eC 0 (c::r)=if c=34 then eC 1 r else(eC 0 r).map (c:: ·):=rfl
inductive UV(n c:Nat):Prop
 |go (e:∀r,eC n (c::r)=eC m r)
 |keep (e:∀r,eC n (c::r)=(eC 0 r).map (c:: ·))
 |bad (e:∀r,eC n (c::r)=none)
theorem uv(n c):UV n c:=by
 induction n with
 |zero=>
  by_cases h:c=34
  . exact .go λr=>if_pos h
  . exact .keep λr=>if_neg h
 |succ k=>
  induction k with
  |zero=>
   by_cases h:c=34
   . exact .go λr=>if_pos h
   . by_cases g:c=92
     . exact .go λr=>(if_neg h).trans (if_pos g)
     . exact .go λr=>(if_neg h).trans (if_neg g)
  |succ k=>
   by_cases h:c=10
   . exact .bad λr=>if_pos h
   . exact .go λr=>if_neg h
theorem Dt:∀(v) (n),eC (n+1) v=(cX n v).bind (eC 0):=by
 intro v;induction v with
 |nil=>exact λn=>rfl
 |cons c r ih=>
  intro n;induction n with
  |zero=>
   refine(?_:(if c=34 then eC 0 r else if c=92 then eC 2 r else eC 1 r)=(if c=34 then some r else if c=92 then cX 1 r else cX 0 r).bind (eC 0));by_cases h:c=34
   . exact aa (if_pos h) (aa (if_pos h) rfl)
   . refine aa (if_neg h) (aa (if_neg h) ?_);by_cases g:c=92
     . exact aa (if_pos g) (aa (if_pos g) (ih 1))
     . exact aa (if_neg g) (aa (if_neg g) (ih 0))
  |succ n=>
   refine(?_:(if c=10 then none else eC 1 r)=(if c=10 then none else cX 0 r).bind (eC 0));by_cases h:c=10
   . exact aa (if_pos h) (aa (if_pos h) rfl)
   . exact aa (if_neg h) (aa (if_neg h) (ih 0))
inductive US(l out:List Nat):Prop
 |none (h:34∉l) (e:out=l)
 |some (h:34∉u) (hv:cX 0 v=some w) (hw:eC 0 w=some o) (el:l=u++34::v) (eo:out=u++o)
theorem vo(q:¬c=34)(h:34∉l):34∉c::l:=λe=>av e (λe=>q e.symm) h
theorem td:∀{l out:List Nat},eC 0 l=some out->US l out:=by
 intro l;induction l with
 |nil=>exact λh=>.none IA (Iw h).symm
 |cons c r ih=>
  intro out h;by_cases q:c=34
  . exact ag ((Dt r 0).symm.trans ((if_pos q).symm.trans h)) λw h1 h2=>.some IA h1 h2 (congrArg (· ::r) q) rfl
  . refine c0 ((if_neg q).symm.trans h) λo h1 e=>?_;induction ih h1 with
    |none a b=>exact .none (vo q a) (e.trans (congrArg (c:: ·) b))
    |some a hv hw el eo=>exact .some (vo q a) hv hw (congrArg (c:: ·) el) (e.trans (congrArg (c:: ·) eo))
theorem vp(h:cX 0 v=some w):w.length<v.length:=bw (i0 h) λc x e=>aa e (aa Jh (aa IB (LQ (I4 _ _))))
theorem EV(h:cX 0 v=some w):v.drop (v.length-w.length)=w:=bw (i0 h) λc x e=>by
 refine aa e (an KR (aa IB (aa (Nat.add_sub_cancel _ _) ?_)));exact P2
noncomputable def i5 (l:List Nat):List UInt8:=l.map (·.toUInt8)
theorem jB:LU OY "re.Pattern.sub.loop"=some Jl.«re.Pattern.sub.loop»:=JN (by kernel_rfl)
section
variable {prog:Ql}{w:World}
theorem Du{X:Array Nat}{i j:Nat}{u:List Nat}(h:(X.toList.drop i).take (j-i)=u):(X.extract i j).map (·.toUInt8)=(i5 u).toArray:=by
 apply QP;simp only[Array.toList_map,PU,OL,h]
 rfl
theorem gO{st:IP}{l:Jn}{vs:List IF}{ep:Nat}{M:P_}{B:J0}{F:IF->IP->Prop}{x:IF}{Q:Unit->IP->Prop}(hl:st.heap.get? l=some {cls:=.type "list",data:=.seq vs.toArray ep})(hz:vs.length<=4000000)
 (q:∀h' ep',h'.get? l=some {cls:=.type "list",data:=.seq (vs++[x]).toArray ep'}->Jt l st.heap h'->Q () {st with heap:=h'}):ID M B (updateSeq l λy=>y.push x) Q F st:=by
 obtain⟨e',he⟩:∃e',(st.heap.update l (LX λy=>y.push x)).get? l=some {cls:=.type "list",data:=.seq (vs++[x]).toArray e'}:=by
  have:=Se hl (λy=>y.push x);exact⟨_,this.trans (aa (OQ _ _) rfl)⟩
 exact wpAny_updateSeq hl rfl (q _ _ he (K4 ..)) (aa Jk (aa KH (Iu (by assumption) (Iv rfl)))) (aa (Array.size_push _) (aa Jk (aa KH (I8 (by assumption) (Iv rfl)))))
theorem dV.far(hp:dV h P T)(n1:l≠P)(n2:l≠T)(sb:Jt l h h'):dV h' P T:=by
 constructor
 . exact aa (sb.2 P (Kr n1)) hp.1
 . exact aa (sb.2 T (Kr n2)) hp.2
theorem lz{M:P_}{x:Array Nat}{b e:Nat}{u:List Nat}{Q:IF->IP->Prop}{st:IP}(hl:x.size<=J4)(h:(x.toList.drop b).take (e-b)=u)(q:Q (.bytes (i5 u).toArray st.toks) {st with toks:=st.toks+1}):ID M A (M8 x 1 b e) Q E st:=Ds hl (aa (Du h) q)
theorem Dv{M:P_}{t0:Tok}{Q:Unit->IP->Prop}{st:IP}(q:Q () st):ID M A (M7 (.bytes #[] t0)) Q E st:=by
 unfold M7
 with_reducible refine Ir (Jg rfl ?_)
 refine Ir (MS (rfl:st.TypeIs (.bytes #[] t0) "bytes") lr ?_);exact Ix q
noncomputable def dm (b:Array UInt8):Array Nat:=b.map (·.toNat)
theorem bj(b:Array UInt8):(dm b).size=b.size:=Array.size_map ..
theorem zq{M:P_}{b:Array UInt8}{rest:List Nat}{i:Nat}{Q:Option Sre.M->IP->Prop}{st:IP}(hz:b.size<=1000000)(hd:(dm b).toList.drop i=rest)(hi:i<=b.size)(Tt:34∉rest)(q:Q none st):ID M A (Mt (forSearch qc (dm b) 0 i (dm b).size false)) Q E st:=by
 have SJ:=bj b▸hi;by_cases h2:i+2<=(dm b).size
 . with_reducible exact aa (j7 h2) (ae (Dr rest i true {words:=16384} hd SJ Tt) λm' r a=>ly r (I8 (Jf (JF 2 (Iu (Iu (I4 rest.length i) (I2 (c7 hd SJ))) (bj b▸hz))) 3) (by decide)) (.inr ⟨a,q⟩))
 . exact ae (lx h2) λm' r a=>ly r (by decide) (.inr ⟨a,q⟩)
theorem vq{X:Array Nat}{i h:Nat}{y w:List Nat}(hd:X.toList.drop i=y++w)(hi:i<=X.size)(hh:h+w.length=X.size):X.toList.drop h=w:=by have e:=c7 hd hi;rw[IB,<-J2]at e;refine aa (ME (hh.trans e.symm)) (an P1 (aa hd ?_));exact P2
theorem vt{M:P_}{b:Array UInt8}{u v w':List Nat}{i:Nat}{Q:Option Sre.M->IP->Prop}{st:IP}(hz:b.size<=1000000)(hd:(dm b).toList.drop i=u++34::v)(hi:i<=b.size)(Tt:34∉u)(hv:cX 0 v=some w')(q:∀m,m.start=i+u.length->m.handed<=b.size->(dm b).toList.drop m.handed=w'->(m.handed==m.start)=false->Q (some m) st):ID M A (Mt (forSearch qc (dm b) 0 i (dm b).size false)) Q E st:=by
 refine bw (i0 hv) λc x ev=>?_;have e:=c7 hd (bj b▸hi);have ez:=bj b;rw[ev,IB,Jh,Jh,IB]at e;refine aa (j7 (e▸IZ (Iu (I4 2 _) (I4 _ _)) i)) (yc.casesOn (zl u v w' i true {words:=16384} hd Tt hv) λ{m} r a1 a2 a3=>ly r ?_ (.inl ⟨a1,q m a2 (Iu (IK _ _) (I2 (a3.trans ez))) (vq (y:=u++34::c::x) (hd.trans (by exact aa ev (aa (JL _ _ _) rfl))) (bj b▸hi) a3) ?_⟩))
 . refine aa ev (aa Jh (aa IB ?_));exact I8 (Jf (JF 9 (Iu (Iu (IL _) (Iu (I4 _ i) (I2 e))) (ez▸hz))) 12) (Iv rfl)
 . rw[beq_eq_false_iff_ne,a2];exact λq=>absurd (a3.trans e.symm) (by rw[q,J2];exact KK (MX (MX (LQ (I3 (I4 _ _))) _) _))
theorem zr(u v:List Nat):i5 (u++v)=i5 u++i5 v:=IR
section
noncomputable def GO (P l:Jn)(b:Array UInt8)(t t0:Tok)(n:Int)(i:Nat)(m:Bool):Args:=⟨[.ref P,.bytes b t,.bytes #[] t0,L9 0,L9 0,L9 n,L9 (i:Nat),L9 (i:Nat),.bool m,.ref l,.bool false],[]⟩
noncomputable def flat (bs:List (Array UInt8)):List UInt8:=(bs.map (·.toList)).flatten
theorem dW(bs:List (Array UInt8))(u:List Nat):flat (bs++[(i5 u).toArray])=flat bs++i5 u:=by unfold flat;refine aa IR (aa Oi ?_);exact congrArg (flat bs++ ·) (Jv _)
theorem nq(bs):flat (bs++[#[]])=flat bs:=(dW bs []).trans (Jv _)
inductive SS(P T l:Jn)(b:Array UInt8)(N:Nat)(R:PE->IP->Prop)(i:Nat)(st:IP):Prop
 |mk {rest out:List Nat} {vs:List IF} {bs:List (Array UInt8)} {ep:Nat}:rest.length<N->(dm b).toList.drop i=rest->i<=b.size->eC 0 rest=some out->dV st.heap P T->st.heap.get? l=some {cls:=.type "list",data:=.seq vs.toArray ep}->BytesAre vs bs->vs.length+2*rest.length<=3000000->(flat bs).length+rest.length<=3000000->
  (∀{h' k t'},Jt l st.heap h'->R (.ok (.ret (.bytes (flat bs++i5 out).toArray t'))) {st with heap:=h',toks:=k})->SS P T l b N R i st
def FM (M:P_)(A:J0)(R:PE->IP->Prop)(fin:Fin)(s:IP):Prop:=match fin with|.done f=>R (.ok f) s|.again c'=>c'.quiet=true/\LJ M A c' R s
noncomputable def H9 (P l:Jn)(b:Array UInt8)(t t0:Tok)(n:Int)(i:Nat)(m:Bool):Sem Fin:=do
 let item<-pure (MI #[] t0)
 if(item !=KD)=true then do
  updateSeq l λx=>x.push item
  again (On "re.Pattern.sub.loop" (GO P l b t t0 n i m))
 else again (On "re.Pattern.sub.loop" (GO P l b t t0 n i m))
theorem nr(n1:l≠P)(n2:l≠T)(ih:∀{n:Int} {i:Nat} {st:IP} {R:PE->IP->Prop},SS P T l b N R i st->LJ (J3 prog w) A (.builtin "re.Pattern.sub.loop" (GO P l b t t0 n i false)) R st){st:IP}{m:Bool}(hm:m=false)
 {rest out:List Nat} {vs:List IF} {bs:List (Array UInt8)} {ep:Nat} (hN:rest.length<N) (hd:(dm b).toList.drop i=rest) (hi:i<=b.size) (hu:eC 0 rest=some out) (hp:dV st.heap P T) (hl:st.heap.get? l=some {cls:=.type "list",data:=.seq vs.toArray ep}) (hb:BytesAre vs bs) (s1:vs.length+1+2*rest.length<=3000000) (s2:(flat bs).length+rest.length<=3000000)
 (q:∀{h' k t'},Jt l st.heap h'->R (.ok (.ret (.bytes (flat bs++i5 out).toArray t'))) {st with heap:=h',toks:=k}):
 ID (J3 prog w) B (H9 P l b t t0 n i m) (FM (J3 prog w) A R) (λe s'=>R (.error e) s') st:=by
 refine aa hm (Ir (Ix ?_));refine Ir (gO hl (Iu (Iu (IK vs.length (1+2*rest.length)) (I2 (J2 _ _ _).symm)) (Iu s1 (by decide))) λh' ep2 hl' sb=>?_);refine Ix ⟨J1 _ (by decide +kernel),?_⟩;exact ih (.mk hN hd hi hu (hp.far n1 n2 sb) hl' (hb.append (.cons .nil)) (aa IB s1) (aa (nq _) s2) λ{h2 k t'} S9=>aa (nq _) (q (sb.trans S9)))
noncomputable def H_ (l:Jn)(b:Array UInt8):Sem Fin:=do
 let joiner<-M8 (dm b) 1 0 0
 let x<-seqItems? (.ref l)
 if(x.getD #[]).isEmpty=true then(do let y<-pure joiner;ret y)
 else do
  let y<-call (.builtin "bytes.join") [joiner,.ref l]
  ret y
theorem nu(hz:b.size<=1000000){R:PE->IP->Prop}{vs:List IF}{bs:List (Array UInt8)}{ep:Nat}{st:IP}{B:J0}(hl:st.heap.get? l=some {cls:=.type "list",data:=.seq vs.toArray ep})(hb:BytesAre vs bs)(hs:(flat bs).length<=3000000)
 (q:∀{k t'},R (.ok (.ret (.bytes (flat bs).toArray t'))) {st with toks:=k}):ID (J3 prog w) B (H_ l b) (FM (J3 prog w) A R) (λe s'=>R (.error e) s') st:=by
 refine Ir (lz (x:=dm b) (u:=[]) (by exact aa (bj _) (aa KH (Iu hz (by decide)))) rfl ?_);refine Ir (NO (s:={st with toks:=st.toks+1}) hl rfl ?_);induction hb with
 |nil=>exact Ir (Ix (Ix q))
 |cons h=>exact Ir (pG (st:={st with toks:=st.toks+1}) hl (.cons h) (by exact aa KH (Iu hs (by decide))) λt' k=>Ix q)
theorem vv(hz:b.size<=1000000)(n1:l≠P)(n2:l≠T):∀(N:Nat) {n:Int} {i:Nat} {st:IP} {R:PE->IP->Prop},SS P T l b N R i st->LJ (J3 prog w) A (.builtin "re.Pattern.sub.loop" (GO P l b t t0 n i false)) R st:=by
 intro N;induction N with
 |zero=>exact λh=>SS.casesOn h λh Z Z Z Z Z Z Z Z Z=>absurd h (Lm _)
 |succ N ih=>
  intro n i st R h;refine SS.casesOn h λ{rest out vs bs ep} hN hd hi hu hp hl hb s1 s2 q=>Kw jB (Ir (vm hp ?_));refine Ir (Dv ?_);have hlen:=(c7 hd (bj b▸hi)).trans (bj b);have hsl:(dm b).size<=J4:=by exact aa (bj _) (aa KH (Iu hz (by decide)))
  have hv:vs.length<=4000000:=Iu (IK _ _) (Iu s1 (by decide));induction td hu with
  |none Tt eo=>
   rw[eo]at q;refine Ir (zq hz hd hi Tt ?_);by_cases hlt:i<(dm b).size
   . refine Fe hlt (Ir (lz (x:=dm b) (b:=i) (e:=(dm b).size) hsl (by exact aa hd (aa (Ju (by exact aa (bj _) (an hlen (aa (Pp _ _) (IC _))))) rfl)) ?_));refine Ir (gO hl hv λh' ep' hl' sb=>?_);exact nu hz hl' (hb.append (.cons .nil)) (aa (dW _ _) (aa IB (aa (show(i5 rest).length=rest.length from Iz _) s2))) λ{k t'}=>aa (dW _ _) (q sb)
   . refine yz hlt ?_;have e0:=KS.mp (L1 (hlen.trans (LO (bj b▸KP.mp hlt) hi)));rw[e0]at q;exact nu hz hl hb (Iu (IK _ _) s2) λ{k t'}=>Jv (flat bs)▸q ⟨rfl,λZ Z=>rfl⟩
  | @some u v w' o2 Tt hv' hw er eo=>
   rw[eo]at q;have hvl:=vp hv';rw[er]at hd hN s1 s2;rw[IB,Jh]at hN s1 s2;refine Ir (vt (i:=i) hz hd hi Tt hv' λm a2 hm hdm hne=>?_);by_cases hlt:i<m.start
   . refine Fe hlt (Ir (lz (x:=dm b) (b:=i) (e:=m.start) (u:=u) hsl (by rw[hd,a2,Pp];exact List.take_left) ?_));refine Ir (gO hl hv λh' ep' hl' sb=>?_);exact nr n1 n2 ih hne (Kh hvl (NE (I8 (I4 _ _) hN))) hdm hm hw (hp.far n1 n2 sb) hl' (hb.append (.cons .nil)) (aa IB (aa J5 (Iu (I2 ((J2 vs.length 2 _).trans (congrArg (vs.length+ ·) (Lw 2 (2*w'.length))))) (Iu (IZ (JF 2 (Iu hvl (Iu (IL _) (I4 _ _)))) vs.length) s1)))) (aa (dW _ _) (aa IB (aa (show(i5 u).length=u.length from Iz _) (Iu (I2 (J2 _ _ _)) (Iu (IZ (IZ (Iu (Js hvl) (IL _)) _) _) s2))))) λ{h2 k t'} S9=>by
      refine aa (dW _ _) (aa (JL _ _ _) (an (zr _ _) ?_));exact q (sb.trans S9)
   . rw[KS.mp (Nat.eq_zero_of_not_pos λq=>hlt (a2▸Ks q))]at q;exact yz hlt (nr n1 n2 ih hne (Kh hvl (NE (I8 (I4 _ _) hN))) hdm hm hw hp hl hb (Iu (Jf (IL _) _) (Iu (I2 ((J2 vs.length 2 _).trans (congrArg (vs.length+ ·) (Lw 2 (2*w'.length))))) (Iu (IZ (JF 2 (Iu hvl (Iu (IL _) (I4 _ _)))) vs.length) s1))) (Iu (Jf (IK _ u.length) _) (Iu (I2 (J2 _ _ _)) (Iu (IZ (IZ (Iu (Js hvl) (IL _)) _) _) s2))) q)
end
end
end
section
open PySem.Sre
theorem lA:Slot "re.Pattern" "sub" "re.Pattern.sub":=
 .of (owner:="re.Pattern") (n:="sub") (by refine aa (Ja _ _) (aa IX ?_);kernel_rfl) (by decide +kernel) (by decide +kernel) (by decide +kernel)
  (by first|exact .inl (by decide +kernel)|exact .inr (by decide +kernel)) (by refine aa (JO _ _) ?_;kernel_rfl)
theorem vw:LU OY "re.Pattern.sub"=some Jl.«re.Pattern.sub»:=JN (by kernel_rfl)
theorem zs(a b c:IF):Mi "re.Pattern.sub" ⟨[a,b,c],[]⟩:=by unfold Mi;kernel_rfl
theorem zt:Oh (.builtin "re.Pattern.sub")=pure (.type "method_descriptor"):=by refine(?_:Nr _=_);refine aa K6 ?_;kernel_rfl
theorem vy:Q1 "re.Pattern":=by
 refine⟨?_,?_⟩
 . exact⟨"object.__getattribute__",by refine aa (Ja _ _) (aa IX ?_);kernel_rfl,by decide +kernel⟩
 . refine aa (Ja _ _) (aa IX ?_);kernel_rfl
theorem zu:K0 (.type "bytes") "__call__"=pure none:=by refine aa (Ja _ _) (aa IX ?_);kernel_rfl
noncomputable def zv (P:Jn)(a e d:AV):Option AV:=a.top?.bind λp=>gd (IT p P) (e.bytes?.bind λx=>gd x.isEmpty (d.bytes?.bind λy=>gd (Qk y.size 1000000) ((eC 0 (y.toList.map (·.toNat))).map λo=>.bytes (i5 o).toArray)))
section
inductive Dw(P:Jn):AV->AV->AV->AV->Prop
 |mk {y:Array UInt8} {o:List Nat} (h5:y.size<=1000000) (h6:eC 0 (y.toList.map (·.toNat))=some o):Dw P (.top P) (.bytes #[]) (.bytes y) (.bytes (i5 o).toArray)
theorem zw(h:zv P a e d=some r):Dw P a e d r:=by refine ag h λp q h=>aR h λh1 h=>ag h λx h2 h=>aR h λh3 h=>ag h λy h4 h=>aR h λh5 h=>c0 h λo h6 e=>aa e (aa (top?_is q) (aa (bytes?_is h2) (aa (bytes?_is h4) (aa (IY h1) (aa (by simpa using h3:x= #[]) ?_)))));exact .mk (Iv h5) h6
theorem dV.mono(f:∀{a o},h.get? a=some o->h'.get? a=some o)(hp:dV h P T):dV h' P T:=by obtain⟨⟨o,b0,t0,t1,t2,t6,q1,q2⟩,o',vs,n,q3,q4⟩:=hp;exact⟨⟨o,b0,t0,t1,t2,t6,f q1,q2⟩,o',vs,n,f q3,q4⟩
theorem pH(O:Ok C W)(hP:dV C.base P T)(htp:C.base.get? P=some tp)(htc:tp.cls=.type "re.Pattern")(h:zv P a e d=some r)(hu:VR W a u)(hv:VR W e v)(hz:VR W d z)(k:ax C W r (W.loc,W.hp) Q):
 ID C.M A (call (.builtin "re.Pattern.sub") [u,v,z]) Q X W.s:=by
 revert hu hv hz k
 refine Dw.casesOn (zw h) λ{y o} hb5 h6 hu hv hz k=>af hv.bytes' λt0 e1=>af hz.bytes' λt e2=>aa hu.top' (aa e1 (aa e2 ?_));have old:∀{a ob},C.base.get? a=some ob->W.s.heap.get? a=some ob:=λe=>(O.old _ _ e).1;have hp:=hP.mono old;have hT:W.s.TypeIs (.ref P) "re.Pattern":=⟨_,old htp,htc⟩
 refine Ln (LR lA.plain vw (lA.check _ _ _ _ _ _ _ _ hT (zs _ _ _) ?_));refine Ir (Jg (a:=[some (MI #[] t0),some (MI y t),none]) (by first|rfl|kernel_rfl) ?_);refine Ir (Ix ?_);refine Ir (JS (rfl:W.s.TypeIs (.bytes #[] t0) "bytes") zu ?_);refine Ir (m:=asStr? (.bytes #[] t0)) (Jg (a:=none) rfl ?_);refine Ir (nj ?_);refine Ir (Ix ?_);refine yz (by decide) (Fe (by simp) (Ir (Ix ?_)));refine Ir (I1 (vm hp ?_));refine Ir (QM ?_);refine Ix ⟨J1 _ (by decide +kernel),?_⟩;have lt:∀{a ob},W.s.heap.get? a=some ob->W.s.heap.objs.size≠a:=λe q=>absurd (Jz e) (by exact aa q (Ke _));have kp:∀a ob,W.s.heap.get? a=some ob->(W.s.heap.push {cls:=.type "list",data:=.seq #[]}).get? a=some ob:=λa o e=>IH _ e;have Sp:=hp.mono λ{a o} e=>kp a o e;have nT:W.s.heap.objs.size≠T:=by obtain⟨Z,o',vs,n,q3,q4⟩:=hp;exact lt q3
 refine codeAny_with_toks (n:=W.s.toks) (IC _) (vv (P:=P) (T:=T) (l:=W.s.heap.objs.size) (b:=y) (t:=t) (t0:=t0) hb5 (lt (old htp)) nT ((y.toList.map (·.toNat)).length+1) (n:=0) (i:=0) (st:={W.s with heap:=W.s.heap.push {cls:=.type "list",data:=.seq #[]}})
  (.mk (vs:=[]) (bs:=[]) (I6 _) (by simp[dm]) (JG _) h6 Sp (IW _ rfl) .nil (Iu (I2 (by exact aa (Iz _) (aa M6 (aa (JI _) (aa Lq rfl))))) (Iu (JF 2 hb5) (by decide))) (Iu (I2 (by exact aa (Iz _) ((JI _).trans Lq))) (Iu hb5 (by decide))) λ{h' tk t'} sb htk=>?_))
 exact ax.grown O (s:={W.s with heap:=h',toks:=tk}) (λa ob e=>(sb.2 a λq=>absurd (Jz e) (by exact aa q (Ke _))).trans (kp a ob e)) htk rfl rfl VR.bytes k
end
end
noncomputable def zx (hp:Hp)(j:Nat):Option (Option AV×Hp):=((hg hp j).bind AO.iter?).bind λp=>((hg hp p.1).bind AO.list?).map λxs=>match xs[p.2]? with
 |some x=>(some x,hs hp j (.iter p.1 (p.2+1)))
 |.none=>(.none,hs hp j .dead)
theorem GP:builtinKind "list_iterator.__next__"=some .slot:=by decide +kernel
theorem vz(a):OD "list_iterator.__next__" ⟨[a],[]⟩=pure ():=by first|rfl|kernel_rfl
section
theorem pI(O:Ok C W)(e:zx W.hp j=some (r,hp))(hu:VR W (.nx j) u)(hh:A.handled=.none)
 (k:∀x,r=some x->ax C W x (W.loc,hp) Q) (kx:r=.none->∀v W',Le W W'->Ok C W'->XR C W W' .stop v->(W.loc,hp)=(W'.loc,W'.hp)->X v W'.s):ID C.M A (call u []) Q X W.s:=by
 refine ag e λp h1 e=>ag h1 λo1 h2 h3=>aH e λxs h4 e=>ag h4 λo2 h5 h6=>?_;rw[iter?_is h3]at h2;rw[list?_is h6]at h5;have hm:=aG h2;have hml:=aG h5;refine ad (O.cell j _ hm) λZ hi=>af (⟨_,rfl⟩:∃oi:Obj,oi={cls:=.type "list_iterator",data:=.fields #[.ref (W.ρ p.1),.int p.2 0]}) λoi eoi=>?_;rw[<-eoi]at hi;have hid:oi.data=.fields #[.ref (W.ρ p.1),.int p.2 0]:=by exact aa eoi rfl
 refine ae (O.cell p.1 _ hml) λvs Sn hx=>af Sn λnl hl=>bJ hu.i λo a Sn hΦ T2 ho=>?_;clear hu;refine aa Sn ?_;have hL:W.ρ j≠W.L:=λq=>(O.free _ _ hm).2.1 (.inl q);refine Ln (PM ?_);refine(?_:ID _ _ (Sg (.ref a) _) _ _ _);refine Ir (Ng ho ?_);refine(?_:ID _ _ (OD "list_iterator.__next__" ⟨[.ref (W.ρ j)],[]⟩>>=λZ=>again (.builtin "list_iterator.__next__" ⟨[.ref (W.ρ j)],[]⟩)) _ _ _)
 with_reducible refine Ir (Jg (vz _) ?_)
 refine Ix ⟨J1 _ (by decide +kernel),Kw entry_listiter_next ?_⟩;refine(?_:ID _ _ (field (.ref (W.ρ j)) 0>>=_) _ _ _);refine Ir (MM hi hid (x:=.ref (W.ρ p.1)) rfl ?_);refine Ir (MM hi hid (x:=.int p.2 0) rfl ?_);refine Ir (NO hl rfl ?_);dsimp only;refine uq (o:=xs[p.2]?) (λhxs=>?_) λx hxs=>?_
 rotate_left
 . rw[hxs]at e;have er:=(congrArg MG e).symm;have eh:hs W.hp j (.iter p.1 (p.2+1))=hp:=congrArg Qc e;refine ae (hx.at hxs) λv hv hvr=>aa ((congrArg (vs.toArray[·]?) (OP p.2)).trans (Jq.trans hv):vs.toArray[((p.2:Nat):Int).toNat]? =some v) ?_;refine Ir (OH hi hid (by simp) (Ix ?_));have gi:(W.s.heap.update (W.ρ j) (Ly λx=>x.setIfInBounds 1 (L9 (p.2+1)))).get? (W.ρ j)=some (oi.mapFields λx=>x.setIfInBounds 1 (L9 (p.2+1))):=K9 _ hi (Mu (Mh hid _));have ch:mi W (W.ρ j) (W.s.heap.update (W.ρ j) (Ly λx=>x.setIfInBounds 1 (L9 (p.2+1)))):=mi.of (K4 ..) hL;have S:=O.set (s:={W.s with heap:=W.s.heap.update (W.ρ j) (Ly λx=>x.setIfInBounds 1 (L9 (p.2+1)))}) (o:=.iter p.1 (p.2+1)) hm rfl ch gi ⟨ol p.1 _ hml,gi.trans (by exact aa eoi rfl)⟩ (IC _) rfl rfl;exact k _ er v _ (S.le O) (S.ok O) (O.setVR hm ch hvr) (congrArg (Si W.loc) eh.symm)
 . rw[hxs]at e;have er:=(congrArg MG e).symm;have eh:hs W.hp j .dead=hp:=congrArg Qc e;rw[show vs.toArray[((p.2:Nat):Int).toNat]? =none from(congrArg (vs.toArray[·]?) (OP p.2)).trans (by
    refine aa Jq (aa (propext Ji) (an hx.1 ?_));exact Ji.mp hxs)]
   refine Ir (MN (Ir (OH hi hid (by simp) ?_)));refine Ir (Ir (m:=newTuple []) (MA ?_ (by size_fits)));refine Ir (m:=firstArgMember _ _) (Jg (a:=KD) (by first|rfl|(simp only[firstArgMember];rfl)) ?_);refine MA ?_ (by size_fits);refine Ir (wpAny_handled ?_);refine aa (hh:(A.under (On "list_iterator.__next__" ⟨[.ref (W.ρ j)],[]⟩)).handled=none) (Ir (Ix (wpAny_throw ?_)))
   let f:Obj->Obj:=Ly λx=>x.setIfInBounds 0 KD
   have S:=O.set (s:={W.s with heap:=W.s.heap.update (W.ρ j) f}) (o:=.dead) hm rfl (mi.of (K4 ..) hL:mi W (W.ρ j) (W.s.heap.update (W.ρ j) f)) (K9 _ hi (Mu (Mh hid _)):(W.s.heap.update (W.ρ j) f).get? (W.ρ j)=some (f oi)) trivial (IC _) rfl rfl;have O1:=S.ok O
   let tp:Obj:={cls:=.type "tuple",data:=.seq #[]}
   let ex:Obj:={cls:=.type "StopIteration",data:=.fields (#[.ref (W.s.heap.update (W.ρ j) f).objs.size,.none,.none,.none,.bool false,.none]++ownMembersOf (.type "StopIteration") [])}
   have S2:=O1.grown (s:={W.s with heap:=((W.s.heap.update (W.ρ j) f).push tp).push ex}) (λa o e=>IH _ (IH _ e)) (IC _) rfl rfl;have none_of:∀{a:Jn},W.s.heap.objs.size<=a->W.s.heap.get? a=.none:=λ{a} h=>by
    induction q:W.s.heap.get? a with
    |none=>rfl
    |some o=>exact absurd (Jz q) (KP.mpr h)
   have sz:W.s.heap.objs.size<=((W.s.heap.update (W.ρ j) f).push tp).objs.size:=by exact aa (I7 _ _) (aa (RA _ _ _) (IK W.s.heap.objs.size 1))
   refine kx er _ _ ((S.le O).trans O1 (S2.le O1)) (S2.ok O1) (.mk (oe:=ex) ⟨none_of sz,λq=>?_,λq=>?_⟩ (IW _ rfl) rfl rfl (.inl rfl)) (congrArg (Si W.loc) eh.symm)
   . refine af (O.fz _ (q:W.Φ _)) λo z=>?_;exact jx (none_of sz) z
   . rcases q with q|⟨i,o',SJ,z⟩
     . refine af (O.ownIn (q:W.own _)) λo z=>?_;exact jx (none_of sz) z
     . have SJ:(i,o')∈hs W.hp j .dead:=SJ;obtain⟨o2,hm2⟩:∃o2,(i,o2)∈W.hp:=by
        rcases oj O.nd SJ with⟨rfl,Z⟩|⟨Z,h⟩
        . exact⟨_,hm⟩
        . exact⟨_,h⟩
       refine am (O.free i o2 hm2) λZ Z Sm=>af Sm λob w=>?_;have z:((W.s.heap.update (W.ρ j) f).push tp).objs.size=W.ρ i:=z;haveI w:=(none_of sz)▸z▸w;exact nn w
end
theorem pJ:mroOf (.type "collections.deque")=pure [.type "collections.deque",.type "object"]:=by refine aa (mroOf_type _) ?_;kernel_rfl
theorem Dx:K0 (.type "collections.deque") "__new__"=pure (some (.builtin "collections.deque.__new__")):=by refine aa (Ja _ _) (aa IX ?_);kernel_rfl
theorem zy:Slot "collections.deque" "__init__" "collections.deque.__init__":=
 .of (owner:="collections.deque") (n:="__init__") (by refine aa (Ja _ _) (aa IX ?_);kernel_rfl) (by decide +kernel) (by decide +kernel) (by decide +kernel)
  (by first|exact .inl (by decide +kernel)|exact .inr (by decide +kernel)) (by refine aa (JO _ _) ?_;kernel_rfl)
theorem te:TypeCalled "collections.deque" "collections.deque.__new__" "collections.deque.__init__":=
 ⟨by decide +kernel,by decide +kernel,⟨_,_,pJ⟩,madeBy_type pJ Dx (by decide +kernel),by decide +kernel,by refine aa (JO _ _) ?_;kernel_rfl,zy⟩
theorem FN:checkTypeCall "collections.deque" ⟨[],[]⟩=pure ():=by kernel_rfl
theorem FO:MQ "collections.deque.__new__" ⟨[.type "collections.deque"],[]⟩=pure ():=by kernel_rfl
theorem FP:LU OY "collections.deque.__new__"=some Jl.«collections.deque.__new__»:=JN (by kernel_rfl)
theorem FQ:LU OY "collections.deque.__init__"=some Jl.«collections.deque.__init__»:=JN (by kernel_rfl)
theorem FS:plainId "collections.deque.__new__"=true:=by decide +kernel
theorem zz(a):Mi "collections.deque.__init__" ⟨[a],[]⟩:=by unfold Mi;kernel_rfl
theorem Dy:Os (.type "collections.deque") (.type "collections.deque")=pure true:=by refine aa (JO _ _) ?_;kernel_rfl
section
theorem zA(h:Q₁ (.ref s.heap.objs.size) {s with heap:=s.heap.push (bO 0 [])}):
 LJ (J3 prog w) A (.call (.builtin "collections.deque.__new__") ⟨[.type "collections.deque"],[]⟩) (wants Q₁ E) s:=by
 with_reducible refine LR FS FP (Jg FO ?_)
 haveI hsub:Os (.type "collections.deque") (.type Jl.Deque.ty)=pure true:=Dy;have hmro:=pJ;obtain⟨hp,g,d,tk,os⟩:=s;unfold Jl.«collections.deque.__new__»
 with_reducible refine Ir ?_
 wp_delta
 with_reducible refine Ir ?_
 wp_delta
 with_reducible refine Ix ?_
 with_reducible refine I5 rfl ?_
 with_reducible refine Ir (Jg (by assumption) ?_)
 with_reducible refine I5 rfl ?_
 with_reducible refine Ix (Ir ?_)
 wp_delta
 refine I5 rfl ?_;refine I5 rfl ?_
 with_reducible refine Ir (Ix ?_)
 wp_delta
 wp_delta
 refine I5 rfl ?_
 wp_delta
 wp_delta
 with_reducible refine Ir (wpAny_alloc' (Ix ?_))
 wp_delta
 with_reducible refine Ix ?_
 assumption
theorem Dz(a):Jl.«collections.deque.__init__» ⟨[.ref a],[]⟩=(do setField (.ref a) 0 .none;Jl.Deque.clear (.ref a);ret .none):=by first|rfl|kernel_rfl
theorem zB(h:∀h' n,h'.get? s.heap.objs.size=some (bO n [])->(∀b o,s.heap.get? b=some o->h'.get? b=some o)->Q (.ref s.heap.objs.size) {s with heap:=h'}):ID (J3 prog w) A (call (.type "collections.deque") []) Q E s:=by
 refine Qf (Q₁:=λobj s₁=>obj=.ref s.heap.objs.size/\s₁={s with heap:=s.heap.push (bO 0 [])}) te FN FQ (zA ⟨rfl,rfl⟩) ?_
 rintro obj s₁ ⟨rfl,rfl⟩
 haveI h0:(s.heap.push (bO 0 [])).get? s.heap.objs.size=some (bO 0 []):=IW _ rfl;refine⟨⟨_,h0,rfl⟩,zz _,?_⟩;refine aa (Dz _) (Ir (OH h0 rfl (by simp) ?_));haveI gi:((s.heap.push (bO 0 [])).update s.heap.objs.size (Ly λx=>x.setIfInBounds 0 .none)).get? s.heap.objs.size=some (bO 0 []):=by
  refine(K9 _ h0 (Mu (Mh rfl _))).symm▸?_
  rfl
 refine Ir (Ir (Ir (gw gi (Ix ?_))));refine aa (if_neg (by simp)) (Ix (Ix ⟨rfl,h _ 0 gi λb o e=>?_⟩));haveI:b≠s.heap.objs.size:=λq=>absurd (Jz e) (aa q (Ke _));refine aa (Mk.get?_update_ne _ _ _ _ this) ?_;exact IH _ e
end
section
theorem ny(O:Ok C W)(e:cW W.hp j (.deque [])=some hp)(k:ax C W (.ref j) (W.loc,hp) Q):ID C.M A (call (.type "collections.deque") []) Q X W.s:=by
 refine zB λh' n ho kp=>?_
 (haveI hk:=(cf e).1;haveI Sq:=(cf e).2)
 clear e;subst Sq;haveI l:=O.new (s:={W.s with heap:=h'}) (o:=.deque []) hk kp (cV _) ho ⟨n,[],ho,.nil⟩ (IC _) rfl rfl;haveI q:=k _ _ (l.le O) (l.ok O) (.ref (.head _)) rfl;rw[show(W.new {W.s with heap:=h'} j (.deque []) W.s.heap.objs.size).ρ j=W.s.heap.objs.size from if_pos rfl]at q;exact q
end
theorem zC:K0 (.type "list") "keys"=pure none:=by refine aa (Ja _ _) (aa IX ?_);kernel_rfl
theorem nz:LU OY "dict.update.loop"=some Jl.«dict.update.loop»:=JN (by kernel_rfl)
section
variable {prog:Ql}{w:World}{A:J0}{E:IF->IP->Prop}{s:IP}
theorem zD(hx:s.heap.get? a=some {cls:=.type "list",data:=.seq xs k})(hA:A.handled=none)
 (h:∀h' tk,(∀b o,s.heap.get? b=some o->h'.get? b=some o)->Q none {s with heap:=h',toks:=tk}):ID (J3 prog w) A (getAttr? (.ref a) "keys") Q E s:=by
 obtain⟨hp,g,d,tk,os⟩:=s;have hT:∀Ts,(⟨hp,g,d,Ts,os⟩:IP).TypeIs (.ref a) "list":=λZ=>⟨_,hx,rfl⟩
 have f1:=sub_AttributeError;have f3:=M0.lookup;haveI f4:=M0.bind (.ref a);haveI f5:=am_list_getattr_none;unfold getAttr? getAttrBy? getAttrBy
 with_reducible refine Ir ?_
 wp_delta
 with_reducible refine Ir (Ru (Ix (Ir (Mr (I1 (Ir ?_))))))
 wp_delta
 with_reducible refine Ir ?_
 with_reducible refine Lp (by heap_get) ?_
 with_reducible refine Ix (Ir (Jg (by assumption) ?_))
 with_reducible refine I5 rfl ?_
 wp_delta
 with_reducible refine Ir ?_
 wp_delta
 refine I5 rfl ?_
 with_reducible refine Ix (Ir (Mr (I1 ?_)))
 wp_delta
 refine I5 rfl ?_
 wp_delta
 with_reducible refine Ir (Jg (by assumption) ?_)
 ((with_reducible show ID _ _ (call (Pe "list.__getattribute__") _ _) _ _ _);refine PF M0 (hT _) am_entry_list_getattribute (F.args_list_getattribute_2 _ _) (meets_getattribute_miss_list a xs k #[] "keys" _ zC (by decide +kernel) (by refine aa KH ?_;decide +kernel)) ⟨hx,hA,λh' Ts e T3=>?_⟩)
 refine bw T3.there λt' u' he=>?_;unfold getattributeRaised
 with_reducible refine Ir ?_
 wp_delta
 with_reducible refine Ir ?_
 wp_delta
 with_reducible refine Ir ?_
 refine Lp (by heap_get) ?_
 with_reducible refine Ix (Jg (by assumption) ?_)
 with_reducible refine NL rfl ?_
 with_reducible refine Ir ?_
 wp_delta
 refine I5 rfl ?_
 with_reducible refine Jg (by assumption) ?_
 wp_delta
 wp_delta
 refine NL rfl ?_
 with_reducible refine Ir (wpAny_throw (Ir ?_))
 wp_delta
 with_reducible refine Ir ?_
 wp_delta
 with_reducible refine Ir ?_
 refine Lp (by heap_get) ?_
 with_reducible refine Ix (Jg (by assumption) ?_)
 refine NL rfl ?_
 with_reducible refine Ix ?_
 exact h _ _ T3.keeps
class inductive PairsAt (h:Mk):List IF->List (Str×IF)->Prop
 |nil:PairsAt h [] []
 |cons {t:Jn} {k:Str} {u:Tok} {v:IF} {vs:List IF} {ps:List (Str×IF)}:RW h t #[.str k u,v]->PairsAt h vs ps->PairsAt h (.ref t::vs) ((k,v)::ps)
theorem i6(k:Str)(v:IF)(l:List (Str×IF)):(Mv l k v).length<=l.length+1:=by
 unfold Mv
 split<;>simp
theorem zE{h0:Mk}{d I l:Jn}{all:List IF}(hall:h0.IsList l all.toArray)(TI:h0.get? d=none)(TF:h0.get? I=none)(hdI:d≠I)(hA:A.handled=none){R:PE->IP->Prop}:
 ∀(rest:List IF) (ps:List (Str×IF)) (i:Nat) (kvs:List (Str×IF)) (n:Int) (s:IP),PairsAt h0 rest ps->all.drop i=rest->(∀b o,h0.get? b=some o->s.heap.get? b=some o)->s.heap.IsListIter I l i->s.heap.DictOf (JE prog w) d kvs->
  kvs.length+rest.length<=J4->(∀h' tk,(∀b o,h0.get? b=some o->h'.get? b=some o)->h'.DictOf (JE prog w) d (ps.foldl (λm p=>Mv m p.1 p.2) kvs)->R (.ok (.ret .none)) {s with heap:=h',toks:=tk})->
  LJ (J3 prog w) A (.builtin "dict.update.loop" ⟨[.ref d,.ref I,L9 n,.none],[]⟩) R s:=by
 have hL:∀{h:Mk},(∀b o,h0.get? b=some o->h.get? b=some o)->h.IsList l all.toArray:=λkp=>ae (hall) λo e r=>⟨o,kp _ _ e,r⟩
 intro rest;induction rest with
 |nil=>
  intro ps i kvs n s hp hdrop kp hi hd hz q;cases hp;refine Kw nz ?_;unfold Jl.«dict.update.loop»;refine Ir (NR hA hi (hL kp) (by
   refine aa Jq (aa (propext Ji) ?_);exact N9.mp hdrop) λh' he=>?_)
  refine Ir (Ix (Ix (q h' s.toks (λb o e=>he b o (λz=>by haveI e:=TF▸z▸e;cases e) (kp b o e)) ?_)));exact gp hd λo es ep ho r=>⟨o,es,ep,he d o hdI ho,r⟩
 |cons x rest ih=>
  intro ps i kvs n s hp hdrop kp hi hd hz q;obtain⟨t,k,u,v,TQ,rfl,rfl,hT,hp⟩:∃t k u v TQ,x=.ref t/\ps=(k,v)::TQ/\RW h0 t #[.str k u,v]/\PairsAt h0 rest TQ:=by
   cases hp;exact⟨_,_,_,_,_,rfl,rfl,by assumption,by assumption⟩
  refine Kw nz ?_;haveI hx:all.toArray[i]? =some (.ref t):=by
   refine(Jq)▸?_;have:=congrArg (λl=>l[0]?) hdrop
   simpa using this
  refine Ir (NN hi (hL kp) hx λh' SJ sb=>?_);have Tx:∀b o,h0.get? b=some o->h'.get? b=some o:=λb o e=>(sb.2 b λz=>by haveI e:=TF▸z▸e;cases e).trans (kp b o e);haveI Sz:h'.DictOf (JE prog w) d kvs:=by
   exact gp hd λo es ep ho r=>⟨o,es,ep,(sb.2 d hdI).trans ho,r⟩
  refine cm hT λot ht hc Sr=>af Sr λm hdt=>Ir (I1 (Ir (wpAny_tryCatch ?_)));refine Ir (LV (T:="tuple") ⟨_,Tx _ _ ht,hc⟩ ?_);refine(if_pos (rfl:(KE "tuple"==KE "list"||KE "tuple"==KE "tuple")=true)).symm▸(Ir (NO (s:={s with heap:=h'}) (Tx _ _ ht) hdt (Ix ?_)));refine I1 (I1 (Ir ((JE prog w).pyHash (JM prog w k _) ?_)));refine MW (s:={s with heap:=h',toks:=s.toks+1}) (JM prog w k _) Sz (λh2 Td S9=>?_) (Iu (IK _ _) hz);refine Ix ⟨J1 _ (by decide +kernel),?_⟩;refine ih TQ (i+1) (Mv kvs k v) (n+1) {s with heap:=h2,toks:=s.toks+1} hp (by exact an P1 (aa hdrop rfl)) (λb o e=>(S9.2 b λz=>by haveI e:=TI▸z▸e;cases e).trans (Tx b o e):∀b o,h0.get? b=some o->h2.get? b=some o) ?_ Td ?_ q
  . exact ae SJ λo e r=>⟨o,(S9.2 I (Kr hdI)).trans e,r⟩
  . exact Iu (Jf (i6 k v kvs) _) (by exact aa (Jb _ _ _) hz)
theorem pK{l:Jn}{all:List IF}{ps:List (Str×IF)}{Q:IF->IP->Prop}{m:Nat}(hl:s.heap.get? l=some {cls:=.type "list",data:=.seq all.toArray m})(hp:PairsAt s.heap all ps)(hA:A.handled=none)(hz:all.length<=J4)
 (h:∀h' tk,(∀b o,s.heap.get? b=some o->h'.get? b=some o)->h'.DictOf (JE prog w) s.heap.objs.size (ps.foldl (λm p=>Mv m p.1 p.2) [])->Q (.ref s.heap.objs.size) {s with heap:=h',toks:=tk}):
 ID (J3 prog w) A (call (.type "dict") [.ref l]) Q E s:=by
 refine Qf (Q₁:=λobj s₁=>obj=.ref s.heap.objs.size/\s₁={s with heap:=s.heap.push {cls:=.type "dict",data:=.dict #[]}}) Rz (F.kt_typeCall_dict_1 _) Q6 (kt_code_dict_new _ ⟨rfl,rfl⟩) ?_
 rintro obj s₁ ⟨rfl,rfl⟩
 have hnew:(s.heap.push {cls:=.type "dict",data:=.dict #[]}).DictOf (JE prog w) s.heap.objs.size []:=M4 s.heap;have kp:∀b o,s.heap.get? b=some o->(s.heap.push {cls:=.type "dict",data:=.dict #[]}).get? b=some o:=λb o e=>IH _ e
 with_reducible refine⟨hnew.typeIs,F.args_dict_init_2 _ _,?_⟩
 unfold Jl.«dict.__init__»
 with_reducible refine Ir (Ir (PR hnew.typeIs ?_))
 refine Ix (?_:ID _ _ (Jl.Dict.updateFrom "dict.__init__" s.heap.objs.size (.ref l) [] .none) _ _ _);refine Ir (LV (T:="list") ⟨_,kp _ _ hl,rfl⟩ ?_)
 with_reducible refine aa (if_pos (by decide)) (Ir (zD (s:={s with heap:=s.heap.push {cls:=.type "dict",data:=.dict #[]}}) (kp _ _ hl) hA λh1 tk1 zc=>?_))
 refine aa (if_pos (rfl:(none:Option IF).isNone=true)) (Ir (MN ?_));refine Ir (NM (s:={s with heap:=h1,toks:=tk1}) ⟨_,zc _ _ (kp _ _ hl),rfl,m,rfl⟩ ?_);refine Ix ⟨J1 _ (by decide +kernel),?_⟩;haveI lt:s.heap.objs.size<h1.objs.size:=by
  exact gp hnew λo es ep ho r=>Jz (zc _ _ ho)
 haveI nn:∀{a},s.heap.objs.size<=a->s.heap.get? a=none:=λ{a} ha=>by
  induction q:s.heap.get? a with
  |none=>rfl
  |some o=>exact absurd (Jz q) (KP.mpr ha)
 haveI Fv:(h1.push {cls:=.type "list_iterator",data:=.fields #[.ref l,.int 0 0]}).DictOf (JE prog w) s.heap.objs.size []:=by exact gp hnew λo es ep ho r=>⟨o,es,ep,IH _ (zc _ _ ho),r⟩
 haveI TK:(h1.push {cls:=.type "list_iterator",data:=.fields #[.ref l,.int 0 0]}).IsListIter h1.objs.size l 0:=⟨_,IW _ rfl,rfl,rfl⟩
 haveI TO:∀b o,s.heap.get? b=some o->(h1.push {cls:=.type "list_iterator",data:=.fields #[.ref l,.int 0 0]}).get? b=some o:=λb o e=>IH _ (zc _ _ (kp b o e));refine zE (prog:=prog) (w:=w) (h0:=s.heap) (l:=l) (all:=all) (R:=wants (λr s₂=>r=KD/\Q (Nq s.heap.objs.size) s₂) E) ⟨_,hl,rfl,m,rfl⟩ (nn (IC _)) (nn (Js lt)) (KK lt) (A:=A.in1) hA all ps 0 [] 0 {s with heap:=h1.push {cls:=.type "list_iterator",data:=.fields #[.ref l,.int 0 0]},toks:=tk1} hp rfl TO TK Fv (by simpa using hz) λh' tk k' Sz=>?_;exact⟨rfl,h h' tk k' Sz⟩
end
noncomputable def pairsOf (l:List AV):Option (List (Str×AV)):=@Rb AV (λZ=>Option (List (Str×AV))) (some []) (λx Z ih=>x.tup?.bind λl=>o2 l λk v=>k.str?.bind λs=>ih.map ((s,v):: ·)) l
noncomputable def putAll (ps:List (Str×AV)):List (Str×AV):=ps.foldl (λm p=>st m p.1 p.2) []
noncomputable def zF (hp:Hp)(j:Nat)(a:AV):Option Hp:=a.lst?.bind λxs=>(pairsOf xs).bind λps=>gd (ai xs.length) (cW hp j (.dict (putAll ps) 0))
section
variable {C:Cx}{A:J0}{W:Wd}{X:IF->IP->Prop}{Q:IF->IP->Prop}
theorem pL:∀{xs:List AV} {ps:List (Str×AV)} {vs:List IF},pairsOf xs=some ps->aF W xs vs->∃qs,PairsAt W.s.heap vs qs/\qs.map (·.1)=ps.map (·.1)/\aF W (ps.map (·.2)) (qs.map (·.2)):=by
 intro xs;induction xs with
 |nil=>intro ps vs e h;(replace e:=Iw e;refine an e ?_);exact aa h.inv_nil ⟨[],.nil,rfl,.nil⟩
 |cons x r ih=>
  intro ps vs e h;refine ag e λl q e=>EU e λk v q' e=>ag e λk' q2 e=>?_;obtain rfl:=tup?_is q;subst q';obtain rfl:=str?_is q2
  . refine aH e λTQ h1 qq=>?_;clear e;refine an qq (aP h.inv λu vs' Sn h2 h3=>?_);clear h;subst Sn;refine af (ih h1 h3) λqs Sm=>am Sm λh4 h5 h6=>?_;obtain⟨t,us,rfl,Z,ht,hu⟩:=h2.tup';obtain⟨a,us',rfl,ha,hu⟩:=hu.inv;obtain⟨b,us',rfl,hb,hu⟩:=hu.inv;obtain rfl:=hu.inv_nil;obtain⟨tk,rfl⟩:=ha.str';exact⟨(k',b)::qs,.cons ht h4,by simp[h5],.cons hb h6⟩
theorem nA{f:List (Str×IF)->List (Str×IF)}:∀(ps:List (Str×AV)) (qs:List (Str×IF)) (es:List (Str×AV)) (kvs:List (Str×IF)),qs.map (·.1)=ps.map (·.1)->aF W (ps.map (·.2)) (qs.map (·.2))->kvs.map (·.1)=es.map (·.1)->(kvs.map (·.1)).Nodup->aF W (es.map (·.2)) (kvs.map (·.2))->
 (qs.foldl (λm p=>Mv m p.1 p.2) kvs).map (·.1)=(ps.foldl (λm p=>st m p.1 p.2) es).map (·.1)/\aF W ((ps.foldl (λm p=>st m p.1 p.2) es).map (·.2)) ((qs.foldl (λm p=>Mv m p.1 p.2) kvs).map (·.2)):=by
 intro Sl;induction Sl with
 |nil=>
  intro SK;induction SK with
  |nil=>intro es kvs Z Z h3 Z h5;exact⟨h3,h5⟩
  |cons x93 x94=>intro Z Z h Z Z Z Z;simp at h
 |cons x95 ps Sx=>
  obtain⟨k,a⟩:=x95;intro SQ;cases SQ with
  |nil=>intro Z Z h Z Z Z Z;simp at h
  |cons x98 qs=>obtain⟨k',v⟩:=x98;intro es kvs h1 h2 h3 h4 h5;simp only[JA,R9]at h1;obtain⟨rfl,h1⟩:=h1;refine aP (aF.inv (xs:=ps.map (·.2)) h2) λv' vs' e hv h2=>?_;simp only[JA,R9]at e;obtain⟨rfl,rfl⟩:=e;refine(LM).symm▸(LM).symm▸?_;have e:Mv kvs k' v=st kvs k' v:=jL h4;exact Sx qs (st es k' a) (Mv kvs k' v) h1 h2 (by exact aa e (kM k' v a h3)) (by exact aa e (mq h4)) (by exact aa e (oA h3 h5 hv))
theorem pM(O:Ok C W){a:AV}{j:Nat}{hp:Hp}(e:zF W.hp j a=some hp){u:IF}(hu:VR W a u)(hh:A.handled=.none)(k:ax C W (.ref j) (W.loc,hp) Q):ID C.M A (call (.type "dict") [u]) Q X W.s:=by
 refine ae (IG.mp e) λxs h1 e1=>?_;refine ae (IG.mp e1) λps h2 e2=>?_;refine ad (au e2) λhl e3=>?_;clear e e1 e2;have e:=e3;clear e3;obtain rfl:=lst?_is h1;refine bJ hu.lstP λl vs Sn Z Ss hx=>?_;clear hu;refine aa Sn ?_;rcases Ss with⟨m,ho⟩
 refine af (pL h2 hx) λqs Sm=>?_
 (haveI h3:=(Sm).1;haveI h4:=(Sm).2.1;haveI h5:=(Sm).2.2)
 refine ad (cf e) λhk Sq=>?_;subst Sq;refine KL (n:=W.s.toks) (IC _) (pK ho h3 hh (by exact an hx.1 (aq hl)) λh' tk kp hd htk=>?_);refine ad (nA (f:=id) ps qs [] [] h4 h5 rfl .nil .nil) λq1 q2=>?_;refine gp (id hd) λo es ep SA r=>?_;haveI S:=O.new (s:={W.s with heap:=h',toks:=tk}) (o:=.dict (putAll ps) 0) hk kp (cV _) SA ⟨_,⟨hd,ff O⟩,q1,q2.1,λi x v a b=>Ok.newVR hk kp (q2.2 i x v a b)⟩ htk rfl rfl;haveI q:=k _ _ (S.le O) (S.ok O) (.ref (.head _)) rfl;rw[show(W.new {W.s with heap:=h',toks:=tk} j (.dict (putAll ps) 0) W.s.heap.objs.size).ρ j=W.s.heap.objs.size from if_pos rfl]at q;exact q
end
theorem FT:checkTypeCall "dict" ⟨[],[]⟩=pure ():=by kernel_rfl
theorem FU:MQ "dict.__new__" ⟨[.type "dict"],[]⟩=pure ():=by kernel_rfl
theorem zG(a):Mi "dict.__init__" ⟨[a],[]⟩:=by unfold Mi;kernel_rfl
section
theorem zH(h:Q₁ (.ref s.heap.objs.size) {s with heap:=s.heap.push {cls:=.type "dict",data:=.dict #[]}}):
 LJ (J3 prog w) A (.call (.builtin "dict.__new__") ⟨[.type "dict"],[]⟩) (wants Q₁ E) s:=by
 with_reducible refine LR F.kt_plain_dict_new F.kt_entry_dict_new (Jg FU ?_)
 have hsub:=F.kt_sub_dict;have hmro:=F.kt_mro_dict;obtain⟨hp,g,d,tk,os⟩:=s;unfold Jl.«dict.__new__»
 wp_walk
 exact h
theorem DA(h:Q (.ref s.heap.objs.size) {s with heap:=s.heap.push {cls:=.type "dict",data:=.dict #[]}}):ID (J3 prog w) A (call (.type "dict") []) Q E s:=by
 refine Qf (Q₁:=λobj s₁=>obj=.ref s.heap.objs.size/\s₁={s with heap:=s.heap.push {cls:=.type "dict",data:=.dict #[]}}) Rz FT Q6 (zH ⟨rfl,rfl⟩) ?_
 rintro obj s₁ ⟨rfl,rfl⟩
 have hnew:(s.heap.push {cls:=.type "dict",data:=.dict #[]}).DictOf (JE prog w) s.heap.objs.size []:=M4 s.heap
 with_reducible refine⟨hnew.typeIs,zG _,?_⟩
 unfold Jl.«dict.__init__»;refine Ir ?_;unfold Jl.Dict.selfAndRest
 with_reducible refine Ir (PR hnew.typeIs ?_)
 refine(?_:ID _ _ (pure (s.heap.objs.size,[])) _ _ _);refine Ix (?_:ID _ _ (Jl.Dict.addKeywords s.heap.objs.size []>>=_) _ _ _);exact Ir (Ix (Ix ⟨rfl,h⟩))
theorem nB:LU OY "dict.fromkeys.loop"=some Jl.«dict.fromkeys.loop»:=JN (by kernel_rfl)
theorem zI{h0:Mk}{d I:Jn}{x:Str}{t0:Tok}(TI:h0.get? d=none)(TF:h0.get? I=none)(hdI:d≠I)(hA:A.handled=none){R:PE->IP->Prop}:
 ∀(rest) (i) (kvs) (s),x.cps.toList.drop i=rest->(∀b o,h0.get? b=some o->s.heap.get? b=some o)->s.heap.IsStrIter I "str_ascii_iterator" x t0 i->s.heap.DictOf (JE prog w) d kvs->
  kvs.length+rest.length<=J4->(∀h' tk,(∀b o,h0.get? b=some o->h'.get? b=some o)->h'.DictOf (JE prog w) d (rest.foldl (λm c=>Mv m ⟨#[c]⟩ .none) kvs)->R (.ok (.ret (.ref d))) {s with heap:=h',toks:=tk})->
  LJ (J3 prog w) A (.builtin "dict.fromkeys.loop" ⟨[.ref d,.ref I,.none],[]⟩) R s:=by
 intro rest;induction rest with
 |nil=>
  intro i kvs s hdrop kp hi hd hz q;refine Kw nB ?_;unfold Jl.«dict.fromkeys.loop»;refine Ir (PI hA hi (by
   refine an K8 (aa (propext Ji) ?_);exact N9.mp hdrop) λh' he=>?_)
  refine Ix (q h' s.toks (λb o e=>he b o (λz=>by haveI e:=TF▸z▸e;cases e) (kp b o e)) ?_);exact gp hd λo es ep ho r=>⟨o,es,ep,he d o hdI ho,r⟩
 |cons c rest ih=>
  intro i kvs s hdrop kp hi hd hz q;refine Kw nB ?_;unfold Jl.«dict.fromkeys.loop»;have hx:x.cps[i]? =some c:=by
   refine an K8 ?_;have:=congrArg (λl=>l[0]?) hdrop
   simpa using this
  with_reducible refine Ir (Pz hi hx λh' SJ sb=>?_)
  have Tx:∀b o,h0.get? b=some o->h'.get? b=some o:=λb o e=>(sb.2 b λz=>by haveI e:=TF▸z▸e;cases e).trans (kp b o e);have Sz:h'.DictOf (JE prog w) d kvs:=by exact gp hd λo es ep ho r=>⟨o,es,ep,(sb.2 d hdI).trans ho,r⟩
  dsimp only;refine Ir (LV (T:="dict") (s:={s with heap:=h',toks:=s.toks+1}) Sz.typeIs ?_)
  with_reducible refine aa (if_pos (rfl:(KE "dict"==KE "dict")=true)) (Ir (Ix ?_))
  with_reducible refine Ir (I1 ?_)
  unfold dictSet
  with_reducible refine I1 (Ir ((JE prog w).pyHash (JM prog w ⟨#[c]⟩ _) ?_))
  refine MW (s:={s with heap:=h',toks:=s.toks+1+1}) (JM prog w ⟨#[c]⟩ _) Sz (λh2 Td S9=>?_) (by simp at hz;exact ND hz);refine Ix ⟨J1 _ (by decide +kernel),?_⟩;refine ih (i+1) (Mv kvs ⟨#[c]⟩ .none) {s with heap:=h2,toks:=s.toks+1+1} (by exact an P1 (aa hdrop rfl)) (λb o e=>(S9.2 b λz=>by haveI e:=TI▸z▸e;cases e).trans (Tx b o e):∀b o,h0.get? b=some o->h2.get? b=some o) ?_ Td ?_ q
  . exact ae SJ λo e r=>⟨o,(S9.2 I (Kr hdI)).trans e,r⟩
  . exact Iu (Jf (i6 ⟨#[c]⟩ .none kvs) _) (by exact aa (Jb _ _ _) hz)
theorem DB:LU OY "dict.fromkeys"=some Jl.«dict.fromkeys»:=JN (by kernel_rfl)
theorem vA(x)(t):OD "dict.fromkeys" ⟨[.type "dict",.str x t],[]⟩=pure ():=by first|rfl|kernel_rfl
theorem fromkeys{Q:IF->IP->Prop}(ha:x.cps.all (· <128)=true)(hz:x.length<=J4)(hA:A.handled=none)
 (h:∀h' tk,(∀b o,s.heap.get? b=some o->h'.get? b=some o)->h'.DictOf (JE prog w) s.heap.objs.size (x.cps.toList.foldl (λm c=>Mv m ⟨#[c]⟩ .none) [])->Q (.ref s.heap.objs.size) {s with heap:=h',toks:=tk}):
 LJ (J3 prog w) A (.builtin "dict.fromkeys" ⟨[.type "dict",.str x t],[]⟩) (wants Q E) s:=by
 refine Kw DB ?_;unfold Jl.«dict.fromkeys»;have hsub:=F.kt_sub_dict;obtain⟨hp,g,d,tk,os⟩:=s
 with_reducible refine Ir ?_
 wp_delta
 with_reducible refine Ix ?_
 with_reducible refine I5 rfl ?_
 with_reducible refine Ir (Jg (by assumption) ?_)
 refine I5 rfl ?_;refine I5 rfl ?_
 with_reducible refine Ir (MN (Ir (Ix (Ir ?_))))
 ((with_reducible show ID _ _ (call (KE "dict") _ _) _ _ _);refine DA ?_)
 with_reducible refine I1 (Ir ?_)
 wp_delta
 with_reducible refine Ix (Ir ?_)
 wp_delta
 with_reducible refine Ir ?_
 refine Lp (by heap_get) ?_
 with_reducible refine Ix ?_
 refine I5 rfl ?_
 with_reducible refine Ir ?_
 wp_delta
 with_reducible refine Ir ?_
 refine Lp (by heap_get) ?_
 with_reducible refine Ix ?_
 with_reducible refine I5 rfl ?_
 with_reducible refine Ir ?_
 ((with_reducible show ID _ _ (pyIter (IF.str _ _)) _ _ _);refine Q3 ha ?_)
 wp_delta
 with_reducible refine Ix ?_
 refine Jp (J1 _ (by decide +kernel)) ?_;have nn:∀{a},hp.objs.size<=a->hp.get? a=none:=λ{a} ha=>by
  induction q:hp.get? a with
  |none=>rfl
  |some o=>exact absurd (Jz q) (KP.mpr ha)
 have sz:(hp.push {cls:=.type "dict",data:=.dict #[]}).objs.size=hp.objs.size+1:=I7 ..;have hnew:(hp.push {cls:=.type "dict",data:=.dict #[]}).DictOf (JE prog w) hp.objs.size []:=M4 hp;have Fv:((hp.push {cls:=.type "dict",data:=.dict #[]}).push {cls:=.type "str_ascii_iterator",data:=.fields #[.str x t,.int 0 0]}).DictOf (JE prog w) hp.objs.size []:=hnew.push _;exact zI (prog:=prog) (w:=w) (h0:=hp) (x:=x) (t0:=t) (nn (IC _)) (nn (by exact aa sz (IK _ _))) (I:=(hp.push {cls:=.type "dict",data:=.dict #[]}).objs.size) (by exact aa sz (KK (I6 _))) hA x.cps.toList 0 [] ⟨(hp.push {cls:=.type "dict",data:=.dict #[]}).push {cls:=.type "str_ascii_iterator",data:=.fields #[.str x t,.int 0 0]},g,d,tk,os⟩ rfl
  (λb o e=>IH _ (IH _ e)) ⟨_,IW _ rfl,rfl,rfl⟩ Fv (by simp;exact hz) λh' Ts k' Sz=>h h' Ts k' Sz
end
noncomputable def i7 (x:Str):List (Str×AV):=x.cps.toList.map λc=>(⟨#[c]⟩,.none)
noncomputable def FV (hp:Hp)(j:Nat)(b:AV):Option Hp:=b.str?.bind λx=>gd (j5 x&&ai x.length) (cW hp j (.dict (putAll (i7 x)) 0))
section
theorem vB:∀(l:List Nat),aF W ((l.map λc=>((⟨#[c]⟩:Str),AV.none)).map (·.2)) ((l.map λc=>((⟨#[c]⟩:Str),KD)).map (·.2)):=by
 intro Sl;induction Sl with
 |nil=>exact .nil
 |cons x92 r So=>exact .cons .none (So)
theorem pN(O:Ok C W)(e:FV W.hp j b=some hp)(hu:VR W .bf u)(hv:VR W b v)(hh:A.handled=.none)(k:ax C W (.ref j) (W.loc,hp) Q):ID C.M A (call u [v]) Q X W.s:=by
 refine cm hu.i λa Sn hΦ ho=>?_;clear hu;refine aa Sn (af (IG.mp e) λx Sm=>ad Sm λh1 e1=>ad (au e1) λhg e2=>ad (IQ.mp hg) λh2 h3=>?_);clear e;obtain rfl:=str?_is h1;refine af hv.str' λt Sq=>?_;clear hv;refine aa Sq (ad (cf e2) λhk Sq=>?_);subst Sq;refine KL (n:=W.s.toks) (IC _) (Ln (PM ?_));refine(?_:ID _ _ (Sg (.ref _) _) _ _ _);unfold Sg;refine Ir (Ng ho ?_);refine(?_:ID _ _ (OD "dict.fromkeys" ⟨[.type "dict",.str x t],[]⟩>>=λZ=>again (.builtin "dict.fromkeys" ⟨[.type "dict",.str x t],[]⟩)) _ _ _)
 with_reducible refine Ir (Jg (vA _ _) ?_)
 refine Ix ⟨J1 _ (by decide +kernel),fromkeys (x:=x) (by
  refine an Pj (aa (propext Jj) ?_);intro c hc;exact decide_eq_true (Iv (Jj.mp h2 c hc))) (aq h3) hh λh' tk kp hd htk=>?_⟩
 have hd:h'.DictOf (JE C.prog C.w) W.s.heap.objs.size ((x.cps.toList.map λc=>((⟨#[c]⟩:Str),KD)).foldl (λm p=>Mv m p.1 p.2) []):=by exact aa List.foldl_map hd
 refine ad (nA (W:=W) (f:=id) (i7 x) (x.cps.toList.map λc=>(⟨#[c]⟩,KD)) [] [] (by unfold i7;exact aa Ky (aa Ky rfl)) (vB _) rfl .nil .nil) λq1 q2=>gp (id hd) λo es ep SA r=>?_;have S:=O.new (s:={W.s with heap:=h',toks:=tk}) (o:=.dict (putAll (i7 x)) 0) hk kp (cV _) SA ⟨_,⟨hd,ff O⟩,q1,q2.1,λi x v a b=>Ok.newVR hk kp (q2.2 i x v a b)⟩ htk rfl rfl;have q:=k _ _ (S.le O) (S.ok O) (.ref (.head _)) rfl;rw[show(W.new {W.s with heap:=h',toks:=tk} j (.dict (putAll (i7 x)) 0) W.s.heap.objs.size).ρ j=W.s.heap.objs.size from if_pos rfl]at q;exact q
end
theorem vC:LU OY "str.maketrans"=some Jl.«str.maketrans»:=JN (by kernel_rfl)
theorem vE:plainId "str.maketrans"=true:=by decide +kernel
theorem vF(a):MQ "str.maketrans" ⟨[a],[]⟩=pure ():=by kernel_rfl
section
theorem zJ{h0:Mk}{tb:Jn}{cs:List Int}{f:Nl->PUnit->Sem (ForInStep PUnit)}(hf:∀(e:Nl) (c:Nat) (t:Tok) (s:IP) {Q':ForInStep PUnit->IP->Prop},e.key=.str ⟨#[c]⟩ t->e.val=.none->
 ID (J3 prog w) A (dictSet tb (.int (c) s.toks) .none) (λZ s'=>Q' (.yield Nc) s') E {s with toks:=s.toks+1}->ID (J3 prog w) A (f e Nc) Q' E s) {Q:PUnit->IP->Prop}:
 ∀(l:List Nl) (kvs:List (Int×IF)) (s:IP),(∀e∈l,∃(c:Nat) (t:Tok),e.key=.str ⟨#[c]⟩ t/\e.val=.none/\(c:Int)∈cs)->(∀b o,b≠tb->h0.get? b=some o->s.heap.get? b=some o)->s.heap.DictOf (NJ prog w) tb kvs->(∀p∈kvs,p.1∈cs)->
  kvs.length+l.length<=1000->(∀h' tk SL,(∀b o,b≠tb->h0.get? b=some o->h'.get? b=some o)->h'.DictOf (NJ prog w) tb SL->(∀p∈SL,p.1∈cs)->Q Nc {s with heap:=h',toks:=tk})->ID (J3 prog w) A (forIn l Nc f) Q E s:=by
 intro l;induction l with
 |nil=>intro kvs s Z kp hd hc Z q;exact aa Ox (Ix (q s.heap s.toks kvs kp hd hc))
 |cons e r ih=>
  intro kvs s he kp hd hc hz q;refine aP (he e (.head _)) λc t h1 h2 h3=>?_;refine aa (LN _ _ _ _) ?_;refine Ir (hf e c t s h1 h2 ?_);unfold dictSet;have hk:(NJ prog w).is (c:Int) (.int (c:Int) s.toks)=true:=Pv prog w c s.toks
  with_reducible refine I1 (Ir ((NJ prog w).pyHash hk ?_))
  refine MW (s:={s with toks:=s.toks+1+1}) hk hd (λh2 Td S9=>?_) (by exact aa KH (Iu (Iu (IK _ _) hz) (Iv rfl)));refine ih (Mv kvs (c:Int) .none) {s with heap:=h2,toks:=s.toks+1+1} (λe he'=>he e (.tail _ he')) (λb o hb e=>(S9.2 b hb).trans (kp b o hb e)) Td ?_ ?_ q
  . intro p hp;unfold Mv at hp
    split at hp
    . refine ae (IU.mp hp) λq hq Sn=>?_;clear hp;subst Sn
      split
      . exact hc q hq
      . exact hc q hq
    . rcases JD.mp hp with hp|hp
      . exact hc p hp
      . refine aa (KO.mp hp) ?_;exact h3
  . have:(Mv kvs (c:Int) .none).length<=kvs.length+1:=by unfold Mv;split<;>simp
    exact Iu (Jf this _) (by exact aa (Jb _ _ _) hz)
noncomputable def cg {α:Type}(kvs:List (Str×α)):List Int:=(kvs.filterMap λp=>p.1.cps.toList.head?).map λn:Nat=>(n:Int)
theorem nC{α:Type}:∀{kvs:List (Str×α)} {c:Nat},(⟨#[c]⟩:Str)∈kvs.map (·.1)->(c:Int)∈cg kvs:=by intro kvs c h;exact ae (IU.mp h) λp hp e=>IU.mpr ⟨c,QX.mpr ⟨p,hp,aa e rfl⟩,rfl⟩
theorem tf{kvs:List (Str×IF)}{Q:IF->IP->Prop}(hlo:(d==Mj)=false)(hd:s.heap.DictOf (JE prog w) d kvs)(h1:∀p∈kvs,∃c,p.1=⟨#[c]⟩/\p.2=.none)(hz:kvs.length<=1000)
 (h:∀h' tk es n,(∀b o,s.heap.get? b=some o->h'.get? b=some o)->h'.get? s.heap.objs.size=some {cls:=.type "dict",data:=.dict es n}->(∀e∈es,∃c t,c∈cg kvs/\e.key=.int c t/\e.hash=hashInt c)->Q (.ref s.heap.objs.size) {s with heap:=h',toks:=tk}):
 ID (J3 prog w) A (call (.builtin "str.maketrans") [.ref d]) Q E s:=by
 with_reducible refine Ln (LR vE vC (Jg (vF _) ?_))
 refine Ir (Jg (a:=()) rfl ?_);refine Ir (Jg (a:=()) rfl ?_);refine Ir (Jg (a:=(none:Option Str)) rfl ?_);refine Ir (Jg (a:=(none:Option Str)) rfl ?_);refine yj (id hd) λo es ep ho hx hdat hke hpr hnd=>?_;have kp:∀b ob,s.heap.get? b=some ob->(s.heap.push {cls:=.type "dict",data:=.dict #[]}).get? b=some ob:=λb ob e=>IH _ e;have hne:d≠s.heap.objs.size:=KK (Jz ho);refine Ir (m:=newDict) (Ir (OZ (Ix ?_)));refine Ir (I1 ?_);refine Ir (LV (T:="dict") ⟨_,kp _ _ ho,hx.1⟩ ?_);refine Ir (Jg (a:=()) rfl ?_);refine Ir (LV (T:="dict") ⟨_,kp _ _ ho,hx.1⟩ ?_);refine Ir (m:=notTheModulesDict _ d) (yz (c:=(d==Mj)=true) (by refine aa hlo ?_;decide) (Ix (Ir (wpAny_dictEntries (kp _ _ ho) hdat ?_))));refine Ir ?_;refine an QQ ?_;have codes:∀{l:List Nl} {q:List (Str×IF)},Rh (JE prog w) l q->(∀p∈q,∃c,p.1=⟨#[c]⟩/\p.2=.none)->∀e∈l,∃(c:Nat) (t:Tok),e.key=.str ⟨#[c]⟩ t/\e.val=.none/\(⟨#[c]⟩:Str)∈q.map (·.1):=by
  intro l q hpq;induction hpq with
  |nil=>intro Z e he;cases he
  | @cons e0 kv es0 kvs0 a b _ ih=>
   intro hq e he;rcases IJ.mp he with rfl|he
   . refine ae (hq kv (.head _)) λc h5 h6=>?_;refine af (Lu a) λt ht=>?_;exact⟨c,t,by exact aa ht (aa h5 rfl),by exact aa b (aa h6 rfl),by exact an h5 (.head _)⟩
   . refine aP (ih (λp hp=>hq p (.tail _ hp)) e he) λc t h5 h6 h7=>?_;exact⟨c,t,h5,h6,.tail _ h7⟩
 refine zJ (h0:=s.heap) (tb:=s.heap.objs.size) (cs:=cg kvs) ?_ es.toList [] _ ?_ (λb ob Z e=>kp b ob e) (M4 s.heap) (λp hp=>(IA hp).elim) (aa M6 (aa hpr.length ((JI _).symm▸hz))) λh' tk SL Tx Sz SV=>?_
 . intro e c t s' Q' hk hv h2;refine aa hk (aa hv ?_)
   with_reducible refine Ir (Jg rfl ?_)
   refine Ir (O9 ?_);exact Ir (KG h2 (λZ Z x=>Ix x) λZ Z x=>x)
 . intro e he;exact aP (codes hpr h1 e he) λc t q1 q2 q3=>⟨c,t,q1,q2,nC q3⟩
 . refine yj Sz λo' Sy ep' SA T3 hdat' Um hpr' Z=>Ix (Ix ?_);refine am T3 λq1 q2 q3=>?_;have eo:=ul q1 q2 hdat' q3;refine h h' tk Sy ep' (λb ob e=>Tx b ob (λz=>absurd (Jz e) (aa z (Ke _))) e) (aa SA (aa eo rfl)) ?_;have:∀{l:List Nl} {q:List (Int×IF)},Rh (NJ prog w) l q->(∀p∈q,p.1∈cg kvs)->∀e∈l,∃k,(NJ prog w).is k e.key=true/\k∈cg kvs:=by
    intro l q hpq;induction hpq with
    |nil=>intro Z e he;cases he
    | @cons e0 kv es0 kvs0 a b _ ih=>
     intro hq e he;rcases IJ.mp he with rfl|he
     . exact⟨_,a,hq _ (.head _)⟩
     . exact ih (λp hp=>hq p (.tail _ hp)) e he
   intro e he;refine ae (Um e he) λk q4 q5=>ae (this hpr' SV e (PT.mpr he)) λk2 q6 q7=>?_;obtain rfl:=(NJ prog w).inj _ _ _ q4 q6;exact af (IF.isInt_shape q4) λt ht=>⟨k,t,q7,ht,q5⟩
end
section
theorem DC:Os (.type "KeyError") (.type "LookupError")=pure true:=by refine aa (JO _ _) ?_;kernel_rfl
theorem zK{c:Nat}{f:Int->Option IF}{Q:Jl.Str.Mapped->IP->Prop}(hlo:(d==Mj)=false)(hh:A.handled=none)(hm:s.heap.MapOf (NJ prog w) d f)(hv:f (c:Int)=none)
 (h:∀h' tk,(∀b o,s.heap.get? b=some o->h'.get? b=some o)->s.toks<=tk->Q .keep {s with heap:=h',toks:=tk}):ID (J3 prog w) A (Nk (.ref d) c) Q E s:=by
 unfold Nk
 with_reducible refine Ir (Mr (Ir (O9 (wpAny_getItem_missing_of (Pv prog w c s.toks) hlo hh hm hv λh' e N=>?_))))
 obtain⟨k1,k2,o,t,k3,k4,k5⟩:=N;dsimp only;refine Ir (MS ⟨_,k3,k4⟩ DC ?_);exact aa (if_pos rfl) (Ir (MN (Ix (h h' _ k1 (Iu (IL _) (IL _))))))
noncomputable abbrev GR:=List Str×Nat×Bool×List (Nat×Option Nat)×Bool
theorem zL{h0:Mk}{d:Jn}{f:Nat->GR->Sem (ForInStep GR)}(hlo:(d==Mj)=false)(hh:A.handled=none)
 (hf:∀(c:Nat) (ps:List Str) (n:Nat) (s:IP) {Q':ForInStep GR->IP->Prop},n<=J4->ID (J3 prog w) A (Nk (.ref d) c) (λm s'=>m=.keep/\Q' (.yield (⟨#[c]⟩::ps,n+1,false,[],false)) s') E s->ID (J3 prog w) A (f c (ps,n,false,[],false)) Q' E s) {Q:GR->IP->Prop}:
 ∀(l:List Nat) (ps:List Str) (n:Nat) (s:IP),(∀c∈l,∃g,h0.MapOf (NJ prog w) d g/\g ((c:Nat):Int)=none)->(∀b o,h0.get? b=some o->s.heap.get? b=some o)->n+l.length<=J4->
  (∀h' tk,(∀b o,h0.get? b=some o->h'.get? b=some o)->s.toks<=tk->Q ((l.map λc=>(⟨#[c]⟩:Str)).reverse++ps,n+l.length,false,[],false) {s with heap:=h',toks:=tk})->ID (J3 prog w) A (forIn l (ps,n,false,[],false) f) Q E s:=by
 intro l;induction l with
 |nil=>intro ps n s Z kp Z q;exact aa Ox (Ix (q s.heap s.toks kp (IC _)))
 |cons c r ih=>
  intro ps n s hm kp hn q;rw[Jh]at hn;refine ae (hm c (.head _)) λg hg hv=>aa (LN _ _ _ _) (Ir (hf c ps n s (by exact ND hn) (zK hlo hh (by refine gm hg λo es ep Sm=>?_;refine ad Sm λho z=>?_;exact⟨o,es,ep,kp _ _ ho,z⟩:s.heap.MapOf (NJ prog w) d g) hv λh' tk k1 k2=>⟨rfl,?_⟩)));refine ih (⟨#[c]⟩::ps) (n+1) {s with heap:=h',toks:=tk} (λe he=>hm e (.tail _ he)) (λb o e=>k1 b o (kp b o e)) (aa (Jb _ _ _) hn) λh2 tk2 k3 k4=>?_;have:=q h2 tk2 k3 (Iu k2 k4);rw[JA,Kq,JL,Jh]at this;exact aa (Kk n r.length:n+1+r.length=n+(r.length+1)) this
theorem zM:∀(l:List Nat) (acc:Array Nat),(l.map λc=>(⟨#[c]⟩:Str)).foldl (λacc p=>acc++p.cps) acc=acc++l.toArray:=by
 intro Sl;induction Sl with
 |nil=>intro acc;exact Array.self_eq_append_right.mpr rfl
 |cons c r Sk=>intro acc;refine aa JA (aa LM (aa (Sk _) ?_));simp
theorem zN{t:Tok}{d:Jn}{Q:IF->IP->Prop}(hlo:(d==Mj)=false)(hh:A.handled=none)(hm:∀c∈x.cps.toList,∃f,s.heap.MapOf (NJ prog w) d f/\f ((c:Nat):Int)=none)
 (h0:x.length≠0) (hz:x.length<=J4) (ha:x.cps.all (· <128)=false) (h:∀h' tk t',(∀b o,s.heap.get? b=some o->h'.get? b=some o)->s.toks<=tk->Q (.str x t') {s with heap:=h',toks:=tk}):
 ID (J3 prog w) A (call (.builtin "str.translate") [.str x t,.ref d]) Q E s:=by
 refine KT F.slot_str_translate (Nf _ _ _) F.entry_str_translate ?_ (F.args_str_translate_2 _ _);unfold Jl.«str.translate»;refine Ir (Jg rfl ?_);dsimp only;refine aa (if_neg (by simpa using h0)) (aa ha ?_);refine an QQ (Ir (zL (A:=A.in1) (h0:=s.heap) (d:=d) hlo hh ?_ x.cps.toList [] 0 s hm (λZ Z e=>e) (by show 0+x.cps.toList.length<=J4;exact aa Lq ((JI x.length).symm▸hz)) λh' tk k1 k2=>?_))
 . intro c ps n s Q' hn hq;have:Lr n=false:=by unfold Lr;exact decide_eq_false (KP.mpr hn)
   with_reducible exact aa (if_neg (λz=>ER this z)) (Ir (KG hq (λm s' q8=>ad q8 λe q=>by refine aa e ?_;exact Ix q) λZ Z x=>x))
 . have hl:Lr (0+x.cps.toList.length)=false:=by unfold Lr;exact aa Lq (aa (JI _) (decide_eq_false (KP.mpr hz)))
   dsimp only;refine aa (if_neg (by refine aa hl ?_;decide)) (aa (Jv _) (aa (List.reverse_reverse _) (aa (zM _ _) ?_)));have:(#[]++x.cps.toList.toArray)=x.cps:=QO;exact aa this (Ir (wpAny_mkStr (Ix ⟨_,rfl,h h' _ _ k1 (Iu k2 (IL _))⟩) hz))
end
noncomputable def vG (es:List (Str×AV)):Bool:=es.all λp=>p.2.isNone&&(o1 p.1.cps.toList some).isSome
noncomputable def FW (hp:Hp)(a:AV):Option AV:=((cellOf hp a).bind AO.dict?).bind λes=>gd (vG es.1&&Qk es.1.length 1000) (some (.tab (cg es.1)))
noncomputable def DD (a b:AV):Option AV:=b.tab?.bind λxs=>a.str?.bind λx=>gd (ai x.length&& !IT x.length 0&& !j5 x&&x.cps.toList.all λc=>xs.all λy=>!decide (y=(c:Int))) (some (.str x))
section
theorem pO(O:Ok C W)(e:FW W.hp a=some r)(hu:VR W a u)(k:ax C W r (W.loc,W.hp) Q):ID C.M A (call (.builtin "str.maketrans") [u]) Q X W.s:=by
 obtain⟨⟨es,ver⟩,h1,e⟩:=IG.mp e;refine ad (au e) λhg e=>?_;replace e:=Iw e;subst e;refine bc hg λh2 h3=>ag h1 λo h4 h5=>?_;obtain rfl:=dict?_is h5;refine ub (bG O h4 hu) λj q84 Z hm Sr=>?_;clear h1 h4 hu;subst q84;refine cm Sr λkvs q86 hk hx=>?_;rcases q86 with⟨hd,Z⟩
 have hl:kvs.length=es.length:=by have:=congrArg Kn hk;simpa using this
 have hc:cg kvs=cg es:=by
  unfold cg;have:∀{α:Type} (l:List (Str×α)),(l.filterMap λp=>p.1.cps.toList.head?)=(l.map (·.1)).filterMap λx=>x.cps.toList.head?:=λl=>by rw[Ow];rfl
  rw[this,this,hk]
 refine KL (n:=W.s.toks) (IC _) (tf (yx O hm) hd (λp hp=>?_) (by exact aa hl (Iv h3)) λh' tk Sy n kp ho hes htk=>?_)
 . obtain⟨i,hi,e⟩:=Qz hp;have SJ:i<es.length:=by exact an hl hi
   have a1:kvs[i]? =some p:=by exact aa (IM hi) (aa e rfl)
   have a2:es[i]? =some es[i]:=IM SJ;have a3:p.1=es[i].1:=by have:=congrArg (λl=>l[i]?) hk;simp only[I9,a1,a2,Sc,OV]at this;exact this
   have a4:=hx.2 i es[i].2 p.2 (by rw[I9,a2];rfl) (by rw[I9,a1];rfl);refine ad (IQ.mp (Jj.mp h2 es[i] (RF SJ))) λa6 a7=>?_;rw[cj a6]at a4;obtain⟨Z,z0⟩:=LY.mp a7;refine ET z0 λc q Z=>?_
   . refine⟨c,?_,a4.none'⟩;rw[a3];have:es[i].1=⟨#[c]⟩:=by
      induction z:es[i].1 with
      |mk cps=>haveI q:=z▸q;obtain⟨l⟩:=cps;cases q;rfl
     exact this
 . rw[hc]at hes;have S:=O.frz (s:={W.s with heap:=h',toks:=tk}) kp (cV _:W.s.heap.get? W.s.heap.objs.size=none) ho htk rfl rfl;exact k _ _ (S.le O) (S.ok O) (.tab (ff O) (.inr rfl) ho hes) rfl
theorem pP(O:Ok C W)(e:DD a b=some r)(hu:VR W a u)(hv:VR W b v)(hh:A.handled=.none)(k:ax C W r (W.loc,W.hp) Q):ID C.M A (call (.builtin "str.translate") [u,v]) Q X W.s:=by
 refine ag e λxs h0 e9=>?_;clear e;obtain rfl:=tab?_is h0
 . refine ae (IG.mp e9) λx h1 e=>ad (au e) λhg e=>?_;replace e:=Iw e;subst e;simp only[Kx]at hg;refine ad hg λSq h5=>?_;rcases Sq with⟨⟨h2,h3⟩,h4⟩
   obtain rfl:=str?_is h1;refine af hu.str' λt Sq=>?_;clear hu;subst Sq;refine gm hv.i λd es n Sm=>iH Sm λSn hlo hΦ ho hk=>?_;clear hv;subst Sn;refine KL (n:=W.s.toks) (IC _) (zN hlo hh (λc hc=>?_) (by intro q;exact IE (q▸h3)) (aq h2) ?_ λh' tk t' kp htk htk2=>?_)
   . refine⟨findBy (NJ C.prog C.w).is es,⟨_,es,n,ho,⟨rfl,rfl,rfl⟩,rfl,λe he=>?_,λZ=>rfl⟩,?_⟩
     . exact aP (hk e he) λc t Z h6 h7=>⟨c,by refine aa h6 ?_;exact Pv C.prog C.w c t,h7⟩
     . unfold findBy;refine aa (propext PD) (aa (propext Array.find?_eq_none) ?_);intro e he hq;refine aP (hk e he) λc' t h6 h7 Z=>?_;have:=Jj.mp (Jj.mp h5 c hc) c' h6;rw[h7]at hq;have hq:IF.isInt (c:Int) (.int c' t)=true:=hq;rw[(by simpa [IF.isInt]using hq:c'=(c:Int))]at this;simp at this
   . induction q:x.cps.all λc=>decide (c<128)with
     |false=>rfl
     |true=>
      have:j5 x=true:=by refine Jj.mpr λc hc=>?_;have:=Array.all_eq_true_iff_forall_mem.mp q c (by exact Array.mem_def.mpr hc);exact Jy (of_decide_eq_true this)
      exact IE (this▸h4)
   . have S:=O.grown (s:={W.s with heap:=h',toks:=tk}) kp htk rfl rfl;exact k _ _ (S.le O) (S.ok O) .str rfl
end
section
open Builtin
structure ClsAt(K:QS)(Cc fI:Jn):Prop where
 make:makesIn K Cc=true
 ini:Pg K (.ref Cc) "__init__"=some (some (.ref fI))
 fn:typeIn K (.ref fI)=some (.type "function")
structure hQ(K:QS)(S:Setting)(Cc fN fI:Jn):Prop where
 cd:∃cd,clsIn K Cc=some cd/\cd.mro.isEmpty=false/\cd.abstract=false/\cd.hasDel=false
 call:N2 K (.ref Cc) "__call__"=some (some (.builtin "type.__call__"))
 typ:instIn K (.ref Cc) (.type "type")=some true
 self:mroIn K Cc (.ref Cc)=some true
 made:peek K S (RU (.ref Cc))=some none
 top:mroIn K Cc (.type "object")=some true
 base:peek K S (Bind.staticBase (.ref Cc))=some (.type "object")
 obj:peek K S (RU (.type "object"))=some (some "object.__new__")
 new:∃mc p rest,readsIn K Cc mc=true/\typeIn K (.ref Cc)=some mc/\findCls K (.ref Cc) mc "__new__"=some (.get (.builtin "staticmethod.__get__") (.ref p) .none (.ref Cc))/\recIn K p "staticmethod"=some (.ref fN::rest)
 ini:Pg K (.ref Cc) "__init__"=some (some (.ref fI))
 fn:typeIn K (.ref fI)=some (.type "function")
section
variable {prog:Ql}{w:World}{A:J0}{K:QS}{Cc:Jn}{R:PE->IP->Prop}{h:Mk}{g:Array GenState}{d:Drawn}{t:Nat}{os:OsState}
theorem Co{α:Type}{M:P_}{c:Prop}[Decidable c]{a b:Sem α}{r:α}(hc:¬c)(k:M2 M h b r):M2 M h (if c then a else b) r:=(if_neg hc).symm▸k
theorem vH{fN fI:Jn}(X:K.In h)(N:hQ K ⟨prog,w.params⟩ Cc fN fI):M2 (J3 prog w) h (Bind.madeHere "object.__new__" (.ref Cc)) ():=(N3 X N.base).andThen ((N3 X N.obj).andThen (Co (Lk.mp (bne_self_eq_false _)) .now))
theorem zO{fN fI:Jn}(X:K.In h)(N:hQ K ⟨prog,w.params⟩ Cc fN fI)(isT:M2 (J3 prog w) h (isType (.ref Cc)) true):M2 (J3 prog w) h (MQ "object.__new__" ⟨[.ref Cc],[]⟩) ():=by
 have F:=Qd;unfold MQ;refine aa F.kind (aa F.split (aa F.row ?_));refine isT.andThen ((looks_mroIn X N.top).andThen ?_);refine(N3 X N.base).andThen ((N3 X N.obj).andThen ?_)
 with_reducible exact Co (c:=(OA "object.__new__" !=OA "object.__new__")=true) (Lk.mp (bne_self_eq_false _)) (QJ (by kernel_rfl))
theorem DE(X:K.In h)(N:hQ K ⟨prog,w.params⟩ Cc fN fI)(hq:R (.ok (.ret (.ref (h.objs.size+1)))) ⟨(h.push Kl).push (OX Cc h.objs.size),g,d,t,os⟩):
 LJ (J3 prog w) A (.call (.builtin "object.__new__") ⟨[.ref Cc],[]⟩) R ⟨h,g,d,t,os⟩:=by
 refine kE N.cd λcd hc Z h1 h2=>gm (me hc) λoc od sl ho=>?_;have hC:=X _ _ ho;have isT:M2 (J3 prog w) h (isType (.ref Cc)) true:=(Oz hC).andThen .now
 with_reducible refine codeAny_call_builtin_code (J1 _ Qd.quiet) ((zO X N isT).at ?_)
 refine Kw Qd.entry (Ir (isT.at ?_));refine Ir ((vH X N).at ?_);refine Ir ((looks_clsIn X hc).at ?_);refine yz (λq=>IE (h1.symm.trans q)) (?_:ID _ _ ((alloc Kl>>=λx=>pure (some x))>>=_) _ _ _);refine Ir (Ir (OZ (Ix (Ir ?_))));refine(?_:ID _ _ (newObjAsIs _ _ _) _ _ _);refine Ir (OZ (Ir (Ir (Ng (IH _ (IH _ hC)) (Ix ?_)))));refine yz (λq=>IE (h2.symm.trans q)) (Ix (Ix ?_));refine(?_:R _ _);exact aa (I7 _ _) hq
theorem vJ(X:K.In h)(N:hQ K ⟨prog,w.params⟩ Cc fN fI)
 (hq:LJ (J3 prog w) (A.under (.builtin "type.__call__" ⟨.ref Cc::rest,kw⟩)) (.call (.ref fN) ⟨.ref Cc::rest,kw⟩) (λr s1=>match r with
  |.ok (.ret v)=>∃x ox,v=.ref x/\s1.heap.get? x=some ox/\ox.cls=.ref Cc/\K.In s1.heap/\LJ (J3 prog w) (A.under (.builtin "type.__call__" ⟨.ref Cc::rest,kw⟩)) (.call (.ref fI) ⟨.ref x::rest,kw⟩) (InitBack x R) s1
  |.ok _=>False
  |.error e=>R (.error e) s1) ⟨h,g,d,t+1,os⟩):
 LJ (J3 prog w) A (.call (.ref Cc) ⟨rest,kw⟩) R ⟨h,g,d,t,os⟩:=by
 refine kE N.cd λcd hc e0 e1 e2=>CM N.new λmc p rs n1 n2 n3 n4=>gm (me hc) λoc od sl ho=>?_;have hC:=X _ _ ho;refine PM (?_:ID _ _ (Sg (.ref Cc) _) _ _ _);refine nd_load hC (?_:ID _ _ (Sg.viaDunder (.ref Cc) _) _ _ _);refine Ir ((looks_specialIn X N.call:M2 (J3 prog w) h (specialOf (.ref Cc) "__call__") (some (.builtin "type.__call__"))).at ?_)
 with_reducible refine Ir (Jg (tc_bind _) (Ix (a:=Fin.again (.call (.builtin "type.__call__") ⟨.ref Cc::rest,kw⟩)) ⟨rfl,?_⟩))
 with_reducible refine codeAny_call_builtin_at (J1 _ (by decide +kernel)) entry_typeCall (check_slot tc_kind tc_split (looks_instIn X N.typ:M2 (J3 prog w) h (isInstance (.ref Cc) (.type "type")) true) (tc_args _ _ _) ?_)
 refine Ir ((((Oz (part:=none) hC).andThen .now).andThen .now:M2 (J3 prog w) h (mroOf (.ref Cc)) cd.mro).at ?_);refine yz (Lk.mp e0) (Ir ((N3 X N.made:M2 (J3 prog w) h (RU (.ref Cc)) none).at ?_));refine Ir (cls_bind X n1 n3 (Ln (sm_get (s:=⟨h,g,d,t+1,os⟩) X n4 (RR rfl ?_))));refine Ir (I1 (Ln ?_));refine codeAny_mono hq λr s1 z=>?_;rcases r with e|(v|_|_|_)<;>first|exact z|exact z.elim|skip
 refine GZ z λx ox Sn z1 z2 z3 z4=>aa Sn ?_;obtain⟨h1,g1,d1,t1,os1⟩:=s1;have q1:M2 (J3 prog w) h1 (Oh (.ref x)) (.ref Cc):=z2▸(Oz z1).andThen .now;have q2:M2 (J3 prog w) h1 (Os (.ref Cc) (.ref Cc)) true:=looks_mroIn z3 N.self;have q3:M2 (J3 prog w) h1 (K0 (.ref Cc) "__init__") (some (.ref fI)):=PH z3 N.ini;have q4:M2 (J3 prog w) h1 (bindSpecial (.ref fI) (.ref x)) (.ref fI,[.ref x]):=bind_fn z3 (.ref x) N.fn;refine Ir ((q1.andThen q2:M2 (J3 prog w) h1 (isInstance (.ref x) (.ref Cc)) true).at ?_);refine Ir (I1 (Ir ((q1.andThen q3:M2 (J3 prog w) h1 (specialOf (.ref x) "__init__") (some (.ref fI))).at ?_)));refine I1 (Ir (q4.at (Ir (Ln ?_))));refine codeAny_mono z4 λr s' z=>?_;rcases r with e|(v|_|_|_)<;>first|exact z|exact z.elim|skip
 exact ad z λe z9=>aa e (Ix (Ix z9))
end
section
theorem VR.ref_at(h:(k,o)∈W.hp)(e:W.ρ k=a):VR W (.ref k) (.ref a):=e▸.ref h
theorem j9(O:Ok C W)(e1:cW W.hp d (.dict [] 0)=some S_)(e2:cW S_ k (.inst Cc d)=some SW):
 ∃W',W'.s={W.s with heap:=(W.s.heap.push Kl).push (OX Cc W.s.heap.objs.size)}/\W'.loc=W.loc/\W'.hp=SW/\Le W W'/\Ok C W'/\VR W' (.ref k) (.ref (W.s.heap.objs.size+1)):=by
 refine ad (cf e1) λh1 Sq=>?_;clear e1;subst Sq;obtain⟨h2,rfl⟩:=cf e2;have S1:=O.new (s:={W.s with heap:=W.s.heap.push Kl}) (o:=.dict [] 0) h1 (λa o e=>IH _ e) (cV _) (IW W.s.heap (o:=Kl) rfl) ⟨[],⟨M4 W.s.heap,ff O⟩,rfl,.nil⟩ (IC _) rfl rfl;have O1:=S1.ok O;have hb:=IW (W.s.heap.push Kl) (o:=OX Cc W.s.heap.objs.size) rfl;have r1:(W.new {W.s with heap:=W.s.heap.push Kl} d (.dict [] 0) W.s.heap.objs.size).ρ d=W.s.heap.objs.size:=if_pos rfl;have S2:=O1.new (s:={W.s with heap:=(W.s.heap.push Kl).push (OX Cc W.s.heap.objs.size)}) (o:=.inst Cc d) h2 (λa o e=>IH _ e) (cV _) hb ⟨⟨_,.tail _ (.head _)⟩,by
  exact aa ((Wd.new_ky h2 d _ (.head _)).2) (aa r1 hb)⟩ (IC _) rfl rfl
 refine⟨(W.new {W.s with heap:=W.s.heap.push Kl} d (.dict [] 0) W.s.heap.objs.size).new {W.s with heap:=(W.s.heap.push Kl).push (OX Cc W.s.heap.objs.size)} k (.inst Cc d) (W.s.heap.push Kl).objs.size,rfl,rfl,rfl,(S1.le O).trans O1 (S2.le O1),S2.ok O1,?_⟩;exact VR.ref_at (.head _) ((if_pos rfl).trans (I7 ..))
theorem tg(O:Ok C W)(e2:cW W.hp k (.slots Cc [])=some SW):
 ∃W',W'.s={W.s with heap:=(W.s.heap.push Kl).push (OX Cc W.s.heap.objs.size)}/\W'.loc=W.loc/\W'.hp=SW/\Le W W'/\Ok C W'/\VR W' (.ref k) (.ref (W.s.heap.objs.size+1)):=by
 refine ad (cf e2) λh2 Sq=>aa Sq ?_;have ha:=IW W.s.heap (o:=Kl) rfl;have S1:=O.frz (s:={W.s with heap:=W.s.heap.push Kl}) (λa o e=>IH _ e) (cV _) ha (IC _) rfl rfl;have O1:=S1.ok O;have hb:=IW (W.s.heap.push Kl) (o:=OX Cc W.s.heap.objs.size) rfl;have S2:=O1.new (s:={W.s with heap:=(W.s.heap.push Kl).push (OX Cc W.s.heap.objs.size)}) (o:=.slots Cc []) h2 (λa o e=>IH _ e) (cV _) hb
  ⟨[],W.s.heap.objs.size,hb,.tab (ff O) (.inr rfl) (IH _ ha) (λe h=>by simp at h),rfl,λi x v h=>by simp at h⟩ (IC _) rfl rfl
 refine⟨(W.frz {W.s with heap:=W.s.heap.push Kl} W.s.heap.objs.size).new {W.s with heap:=(W.s.heap.push Kl).push (OX Cc W.s.heap.objs.size)} k (.slots Cc []) (W.s.heap.push Kl).objs.size,rfl,rfl,rfl,(S1.le O).trans O1 (S2.le O1),S2.ok O1,?_⟩;exact VR.ref_at (.head _) ((if_pos rfl).trans (I7 ..))
end
end
inductive CK where
 |inst (fI:Jn)|slots (fI:Jn)|new (fN fI:Jn)
noncomputable def zP (Cc:Jn)(hp:Hp)(r:AV):Option Nat:=r.ref?.bind λk=>((hg hp k).bind AO.inst?).bind λp=>gd (IT p.1 Cc) (some k)
noncomputable def zQ (hp:Hp)(Cc:Jn)(k d:Nat):Option Hp:=(cW hp d (.dict [] 0)).bind λS_=>cW S_ k (.inst Cc d)
def gP (call:AV->Callee)(Cc:Jn)(ck:CK)(args:List AV)(kws:List (Str×AV))(hp:Hp)(K:AV->Hp->Prop)(Xk:AX->Hp->Prop):Prop:=match ck with
 |.inst fI=>∃k d,aj false (zQ hp Cc k d) λSW=>call (.top fI) (.ref k::args) kws SW (λr Sp=>r.isNone=true/\K (.ref k) Sp) Xk
 |.slots fI=>∃k,aj false (cW hp k (.slots Cc [])) λSW=>call (.top fI) (.ref k::args) kws SW (λr Sp=>r.isNone=true/\K (.ref k) Sp) Xk
 |.new fN fI=>call (.top fN) (.top Cc::args) kws hp (λr S_=>aj false (zP Cc S_ r) λk=>call (.top fI) (.ref k::args) kws S_ (λr Sp=>r.isNone=true/\K (.ref k) Sp) Xk) Xk
noncomputable def FX (C:Cx)(Cc:Jn):CK->Prop
 |.inst fI=>ClsAt C.K Cc fI
 |.slots fI=>ClsAt C.K Cc fI
 |.new fN fI=>hQ C.K ⟨C.prog,C.w.params⟩ Cc fN fI
theorem dn(r:fc A (n+1)):fc (A.under (.builtin "type.__call__" ⟨.ref c::vs,kv⟩)) n:=by
 refine⟨?_,?_⟩
 . refine(?_:A.depth+1+n<_);exact I8 (I2 (Jb A.depth 1 n)) r.depth
 . refine(?_:A.units+1+40*n<_);exact(fc.in1 r).units
theorem eb.le(O:Ok C W)(l:Le W W'):∀{kws} {kvs},eb W kws kvs->eb W' kws kvs:=by
 intro Sl;induction Sl with
 |nil=>
  intro SK;induction SK with
  |nil=>intro Z;exact trivial
  |cons x93 x94=>intro h;exact h.elim
 |cons x95 x96 Ur=>
  obtain⟨Z,Z⟩:=x95;intro t98;induction t98 with
  |nil=>intro h;exact h.elim
  |cons x99 x910=>obtain⟨Z,Z⟩:=x99;intro Uy;exact am Uy λh1 h2 h3=>⟨h1,O.vr l h2,Ur h3⟩
theorem ci{A:J0}{x:Args}{l:List Env}(h:A.frames=some l):(A.under (.builtin "type.__call__" x)).frames=some l:=by have:(On "type.__call__" x).envs=[]:=rfl;refine(?_:pushEnvs (On "type.__call__" x).envs A.frames=some l);exact aa this h
section
theorem i8{call:AV->Callee}(hc:dO C n call){fI:Jn}{k:Nat}{x:Jn}{args:List AV}{kws:List (Str×AV)}{K:AV->Hp->Prop}{Xk:AX->Hp->Prop}{SW:Hp}(e:call (.top fI) (.ref k::args) kws SW (λr Sp=>r.isNone=true/\K (.ref k) Sp) Xk)
 (l2:Le W W2) (O2:Ok C W2) (q2:W2.hp=SW) (lo:W2.loc=W.loc) (hx:VR W2 (.ref k) (.ref x)) (ha:aF W2 args vs) (hk:eb W2 kws kvs) (R0:fc A n) (hh:A.handled=.none) (hfr:A.frames=some l) (hst:Stk l (W.f.L::W.f.fs))
 (k1:∀r Sp,K r Sp->∀v W',Le W W'->Ok C W'->VR W' r v->(W.loc,Sp)=(W'.loc,W'.hp)->R (.ok (.ret v)) W'.s)
 (kx:∀x Sp,Xk x Sp->∀v W',Le W W'->Ok C W'->XR C W W' x v->(W.loc,Sp)=(W'.loc,W'.hp)->R (.error v) W'.s):LJ C.M A (.call (.ref fI) ⟨.ref x::vs,kvs⟩) (InitBack x R) W2.s:=by
 refine hc _ _ _ _ _ _ e A W2 l (.ref fI) (.ref x::vs) kvs _ O2 R0 hh hfr (aa l2.f hst) q2 .top (.cons hx ha) hk (λr Sp q8 v W3 l3 O3 r3 q3=>ad q8 λh1 h2=>?_) λx Sp h1 v W3 l3 O3 r3 q3=>kx _ _ h1 v W3 (l2.trans O2 l3) O3 (r3.sooner O2 l2) (lo▸q3);rw[cj h1]at r3;exact⟨r3.none',k1 _ _ h2 (.ref x) W3 (l2.trans O2 l3) O3 (O2.vr l3 hx) (lo▸q3)⟩
theorem th{call}(hc:dO C n call){Cc}{ck}(hck:FX C Cc ck){args}{kws}{K}{Xk:AX->Hp->Prop}(e:gP call Cc ck args kws W.hp K Xk)(O:Ok C W)
 (R0:fc A (n+1)) (hh:A.handled=.none) (hfr:A.frames=some l) (hst:Stk l (W.f.L::W.f.fs)) (ha:aF W args vs) (hk:eb W kws kvs)
 (k1:∀r Sp,K r Sp->∀v W',Le W W'->Ok C W'->VR W' r v->(W.loc,Sp)=(W'.loc,W'.hp)->R (.ok (.ret v)) W'.s)
 (kx:∀x Sp,Xk x Sp->∀v W',Le W W'->Ok C W'->XR C W W' x v->(W.loc,Sp)=(W'.loc,W'.hp)->R (.error v) W'.s):LJ C.M A (.call (.ref Cc) ⟨vs,kvs⟩) R W.s:=by
 have kvs_le:∀{W2:Wd},Le W W2->eb W2 kws kvs:=λl=>eb.le O l hk;unfold gP at e;induction ck with
 |inst fI=>refine bw e λk d e=>cw e λSW e1 e2=>ae (IG.mp e1) λS_ e3 e4=>?_;obtain⟨h1,h2,h3⟩:=hck;refine ua (j9 O e3 e4) λW2 s2 lo2 q2 l2 O2 r2=>make_core (h:=W.s.heap) (makes_of O.X h1) (PH O.X h2) (λself=>bind_fn O.X self h3) (.inl rfl) ?_;have:=i8 hc (W:=W) (x:=W.s.heap.objs.size+1) e2 l2 O2 q2 lo2 r2 (O.vrs l2 ha) (kvs_le l2) (A:=A.under (.builtin "type.__call__" ⟨.ref Cc::vs,kvs⟩)) (dn R0) hh (ci hfr) hst k1 kx;rw[s2]at this;exact this
 |slots fI=>refine af e λk e=>cw e λSW e1 e2=>?_;obtain⟨h1,h2,h3⟩:=hck;refine ua (tg O e1) λW2 s2 lo2 q2 l2 O2 r2=>make_core (h:=W.s.heap) (makes_of O.X h1) (PH O.X h2) (λself=>bind_fn O.X self h3) (.inl rfl) ?_;have:=i8 hc (W:=W) (x:=W.s.heap.objs.size+1) e2 l2 O2 q2 lo2 r2 (O.vrs l2 ha) (kvs_le l2) (A:=A.under (.builtin "type.__call__" ⟨.ref Cc::vs,kvs⟩)) (dn R0) hh (ci hfr) hst k1 kx;rw[s2]at this;exact this
 |new fN fI=>
  refine vJ (h:=W.s.heap) O.X hck ?_;have O1:=O.tick (IL W.s.toks);have l1:=O.ltick (IL W.s.toks);refine hc _ _ _ _ _ _ e _ (W.to {W.s with toks:=W.s.toks+1}) l (.ref fN) (.ref Cc::vs) kvs _ O1 (dn R0) hh (ci hfr) hst rfl .top (.cons .top (O.vrs l1 ha)) (kvs_le l1) (λr Sp h v W3 l3 O3 r3 q3=>?_) λx Sp h1 v W3 l3 O3 r3 q3=>kx _ _ h1 v W3 (l1.trans O1 l3) O3 (r3.sooner O1 l1) q3;refine cw h λk h1 e2=>ae (IG.mp h1) λk' h3 h4=>ae (IG.mp h4) λp h5 h6=>ad (au h6) λh7 h8=>?_;replace h8:=Iw h8;subst h8;refine ae (IG.mp h5) λo h9 Tl=>?_;clear h1;obtain rfl:=ref?_is h3;obtain rfl:=inst?_is Tl;have eh:Sp=W3.hp:=congrArg Qc q3;subst eh;refine ad r3.ref' λSq Z=>?_;subst Sq;refine ad (O3.cell _ _ (aG h9)) λZ ho=>?_;have L3:=l1.trans O1 l3;refine⟨_,_,rfl,ho,by exact aa (IY h7) rfl,O3.X,?_⟩;exact i8 hc (W:=W) e2 L3 O3 rfl (congrArg MG q3).symm r3 (O.vrs L3 ha) (kvs_le L3) (dn R0) hh (ci hfr) hst k1 kx
theorem pQ(O:Ok C W)(N:hQ C.K ⟨C.prog,C.w.params⟩ Cc fN fI)(e:zQ W.hp Cc k d=some SW)(K:ax C W (.ref k) (W.loc,SW) Q):ID C.M A (call (.builtin "object.__new__") [.ref Cc]) Q X W.s:=by refine ae (IG.mp e) λS_ e3 e4=>ua (j9 O e3 e4) λW2 s2 lo2 q2 l2 O2 r2=>Ln (DE O.X N ?_);have:=K _ W2 l2 O2 r2 (aa lo2 (aa q2 rfl));rw[s2]at this;exact this
end
set_option tactic.hygienic true
theorem lB:Slot "str" "__getattribute__" "object.__getattribute__":=
 .of (owner:="object") (n:="__getattribute__") (by refine aa (Ja _ _) (aa IX ?_);kernel_rfl) (by decide +kernel) (by decide +kernel) (by decide +kernel)
  (by first|exact .inl (by decide +kernel)|exact .inr (by decide +kernel)) (by refine aa (JO _ _) ?_;kernel_rfl)
theorem zR:K0 (.type "str") "__getattr__"=pure none:=by refine aa (Ja _ _) (aa IX ?_);kernel_rfl
theorem vK:K0 (.type "str") "maketrans"=pure (some (.builtin "str.maketrans")):=by refine aa (Ja _ _) (aa IX ?_);kernel_rfl
theorem rn:Oh (.builtin "str.maketrans")=pure (.type "builtin_function_or_method"):=by refine(?_:Nr _=_);refine aa K6 ?_;kernel_rfl
theorem DF:K0 (.type "builtin_function_or_method") "__get__"=pure none:=by refine aa (Ja _ _) (aa IX ?_);kernel_rfl
theorem vL(x)(t u):
 Meets (Jl.«object.__getattribute__» ⟨[.str x t,.str "maketrans" u],[]⟩) (λA R s=>R (.ok (.ret (.builtin "str.maketrans"))) s):=
 P9 λprog w A R s hs=>by
  obtain⟨hp,g,d,tk,os⟩:=s;haveI hT:(⟨hp,g,d,tk,os⟩:IP).TypeIs (.str x t) "str":=Nf _ _ _;haveI f1:=vK;have f2:=rn;haveI f3:=DF;unfold Jl.«object.__getattribute__»
  with_reducible refine Ir ?_
  wp_delta
  with_reducible refine I5 rfl ?_
  with_reducible refine I5 rfl ?_
  with_reducible refine Ix (Ir ?_)
  wp_delta
  with_reducible refine Ix (Ir (LV (by assumption) (Ir ?_)))
  wp_delta
  with_reducible refine Ir (Jg (by assumption) (Ir ?_))
  wp_delta
  with_reducible refine MY (by assumption) (by assumption) (Ir ?_)
  wp_delta
  with_reducible refine Ix ?_
  wp_delta
  wp_delta
  with_reducible refine Ir ?_
  wp_delta
  with_reducible refine Ix (Ir ?_)
  wp_delta
  with_reducible refine Ix ?_
  wp_delta
  with_reducible refine Ir (MN (Ir ?_))
  wp_delta
  refine I5 rfl ?_
  with_reducible refine Ix (Ix ?_)
  wp_delta
  wp_delta
  with_reducible refine Ix ?_
  all_goals first|exact⟨_,rfl,hs⟩|exact hs
section
theorem zS(h:∀tk,s.toks<=tk->Q (.builtin "str.maketrans") {s with toks:=tk}):ID (J3 prog w) A (Rp (.str x t) "maketrans" b) Q E s:=by
 obtain⟨hp,g,d,tk,os⟩:=s;haveI hT:∀Ts,(⟨hp,g,d,Ts,os⟩:IP).TypeIs (.str x t) "str":=λZ=>Nf _ _ _;haveI f3:=lB.lookup;have f4:=lB.bind (.str x t);haveI f5:=zR
 wp_delta
 with_reducible refine Ir ?_
 wp_delta
 with_reducible refine Ir (Ru (Ix ?_))
 wp_delta
 with_reducible refine I1 (Ir ?_)
 wp_delta
 with_reducible refine Ix (Ir (Jg (by assumption) ?_))
 refine I5 rfl ?_
 wp_delta
 with_reducible refine Ir ?_
 wp_delta
 refine I5 rfl ?_
 with_reducible refine Ix (Ir (Mr (I1 ?_)))
 wp_delta
 refine aa (if_neg (by induction b<;>decide)) ?_
 wp_delta
 with_reducible refine Ir (Jg (by assumption) ?_)
 ((with_reducible show ID _ _ (call (Pe "object.__getattribute__") _ _) _ _ _);refine PF lB (hT _) mw (qP _ _) (vL x t _) ?_)
 exact Ix (h (tk+1) (IL _))
theorem vM(h:∀tk,s.toks<=tk->Q (.builtin "str.maketrans",[]) {s with toks:=tk}):ID (J3 prog w) A (MR (.str x t) "maketrans" pl) Q E s:=by
 with_reducible refine ae Pk.ga λg hg hcan=>?_
 haveI hT:=Nf s x t;refine Ir (JS hT hg ?_);refine(?_:ID _ A (if(OA g !="object.__getattribute__")=true then _ else _) Q E s)
 with_reducible refine(hcan).symm▸(if_neg KM).symm▸(Ir (JS hT Pk.noGetattr ?_))
 refine Ir ?_;generalize hn:(Lg "maketrans")=nm
 with_reducible refine JS hT (an hn vK) ?_
 dsimp only
 with_reducible refine Ir (Jg rn ?_)
 with_reducible exact aa (if_pos (by decide:(KE "builtin_function_or_method" !=KE "function"&&KE "builtin_function_or_method" !=KE "method_descriptor"&&KE "builtin_function_or_method" !=KE "wrapper_descriptor")=true)) (an hn (Ir (zS λtk htk=>Ix (h tk htk))))
end
set_option tactic.hygienic false
structure Fix(C:Cx):Prop where
 pat:∃T tp,dV C.base 49 T/\C.base.get? 49=some tp/\tp.cls=.type "re.Pattern"/\tp.dict=none
 sio:hQ C.K ⟨C.prog,C.w.params⟩ 725 218 495
def a0 (args:List AV)(P:Prop):Prop:=@J6 AV (λZ=>Prop) args P λZ Z=>False
def a1 (args:List AV)(P:AV->Prop):Prop:=@J6 AV (λZ=>Prop) args False λa r=>a0 r (P a)
def a2 (args:List AV)(P:AV->AV->Prop):Prop:=@J6 AV (λZ=>Prop) args False λa r=>a1 r (P a)
def a3 (args:List AV)(P:AV->AV->AV->Prop):Prop:=@J6 AV (λZ=>Prop) args False λa r=>a2 r (P a)
def kk (k:Option Nat)(P:Nat->Prop):Prop:=@KI Nat (λZ=>Prop) k False P
section
def HE (b:BI)(calm:Bool)(k:Option Nat)(args:List AV)(hp:Hp)(K:AV->Hp->Prop):Prop:=@BI.casesOn (λZ=>Prop) b
 (a1 args λa=>aj true (o8 hp a) λi=>K (.int i) hp)
 (a1 args λa=>aj true (gd calm (Df hp a)) λi=>K (.int i) hp)
 (a1 args λa=>aj true (iy hp a) λr=>K r hp)
 (a1 args λa=>aj true (gd calm (yZ hp a)) λi=>K (.int i) hp)
 (a1 args λa=>kk k λj=>aj true (y6 hp j a) λSp=>K (.ref j) Sp)
 (a2 args λa t=>aj false (Fz a t) λr=>K (.bool r) hp)
 (a2 args λa v=>aj true (sV hp a v) λSp=>K .none Sp)
 (a1 args λa=>aj true (u4 hp a) λp=>K p.1 p.2)
 (a1 args λa=>aj true (Dc hp a) λSp=>K .none Sp)
 (a2 args λa b=>aj true (vd hp a b) λr=>K r hp)
 (a2 args λa b=>aj true (Dj a b) λr=>K r hp)
 (a1 args λa=>aj false (FW hp a) λr=>K r hp)
 (a2 args λa b=>aj true (gd calm (DD a b)) λr=>K r hp)
 False
 (a2 args λa i=>aj true (qV hp a i) λr=>K r hp)
 (a1 args λa=>aj false (y8 hp a) λr=>K r hp)
 (a2 args λa b=>aj true (Dk a b) λr=>K r hp)
 (a2 args λa i=>aj true (qX hp a i) λSp=>K .none Sp)
 (a2 args λa v=>aj true (u5 hp a v) λSp=>K .none Sp)
 (a1 args λa=>aj true (u6 hp a) λp=>K p.1 p.2)
 (a3 args λa e d=>aj true (zv 49 a e d) λr=>K r hp)
 (a1 args λa=>@AV.casesOn (λZ=>Prop) a False (λZ=>False) (λZ=>False) (λZ=>False) (λZ=>False) (λZ=>False) (λZ=>False) (λZ=>False) (λZ=>False) (λZ=>False) (λZ=>False) False (λZ=>False)
  (λc=>kk k λj=>aj false (gd (IT c 725) (zQ hp 725 j (j+1))) λSp=>K (.ref j) Sp) (λZ=>False) (λZ=>False))
def HF (b:TY)(calm:Bool)(k:Option Nat)(args:List AV)(hp:Hp)(K:AV->Hp->Prop):Prop:=@TY.casesOn (λZ=>Prop) b
 (a1 args λa=>aj false (Fx a) λr=>K r hp)
 (a1 args λa=>kk k λj=>aj true (gd calm (zF hp j a)) λSp=>K (.ref j) Sp)
 (a1 args λa=>aj true (y0 hp a) λr=>K r hp)
 (a0 args (kk k λj=>aj false (cW hp j (.set [])) λSp=>K (.ref j) Sp))
 (a1 args λa=>aj false (Fy a) λr=>K r hp)
 (a1 args λa=>aj false a.int? λi=>K (.int i) hp)
 (a1 args λa=>aj true (y5 hp a) λb=>K (.bool b) hp)
 False
 (a0 args (kk k λj=>aj false (cW hp j (.deque [])) λSp=>K (.ref j) Sp))
 False False False
def G9 (p:Option AV×Hp)(K:AV->Hp->Prop)(Xk:AX->Hp->Prop):Prop:=@KI AV (λZ=>Prop) p.1 (Xk .stop p.2) λx=>K x p.2
def HG (f:AV)(calm:Bool)(k:Option Nat)(args:List AV)(hp:Hp)(K:AV->Hp->Prop)(Xk:AX->Hp->Prop):Prop:=@AV.casesOn (λZ=>Prop) f False (λZ=>False) (λZ=>False) (λZ=>False) (λZ=>False) (λZ=>False) (λZ=>False) (λZ=>False) (λZ=>False) (λZ=>False)
 (λj=>a0 args (aj true (gd calm (zx hp j)) λp=>G9 p K Xk))
 (a1 args λb=>kk k λj=>aj false (gd calm (FV hp j b)) λSp=>K (.ref j) Sp)
 (λZ=>False) (λZ=>False) (λb=>HE b calm k args hp K) (λt=>HF t calm k args hp K)
def HH (f:AV)(calm:Bool)(k:Option Nat)(args:List AV)(kws:List (Str×AV))(hp:Hp)(K:AV->Hp->Prop)(Xk:AX->Hp->Prop):Prop:=@J6 (Str×AV) (λZ=>Prop) kws (HG f calm k args hp K Xk) λZ Z=>False
end
theorem aF.one(h:aF W [a] vs):∃v,vs=[v]/\VR W a v:=by
 (refine aP h.inv λv vs' Sr r t=>?_;refine aa Sr ?_)
 exact aa t.inv_nil ⟨v,rfl,r⟩
theorem aF.two(h:aF W [a,b] vs):∃u v,vs=[u,v]/\VR W a u/\VR W b v:=by
 (refine aP h.inv λu vs' Sr r t=>?_;refine aa Sr ?_)
 (refine ae t.one λv Sm r'=>?_;refine aa Sm ?_)
 exact⟨u,v,rfl,r,r'⟩
theorem aF.three(h:aF W [a,b,c] vs):∃u v w,vs=[u,v,w]/\VR W a u/\VR W b v/\VR W c w:=by
 obtain⟨u,vs',rfl,r,t⟩:=h.inv
 (refine aP t.two λv w Sr r' TR=>?_;refine aa Sr ?_)
 exact⟨u,v,w,rfl,r,r',TR⟩
section
variable {W:Wd}{args:List AV}{vs:List IF}
theorem HI{P:Prop}{G:List IF->Prop}(e:a0 args P)(ha:aF W args vs)(h:P->G []):G vs:=by
 induction args with
 |cons Z Z=>exact e.elim
 |nil=>exact aa ha.inv_nil (h e)
theorem HJ{P:AV->Prop}{G:List IF->Prop}(e:a1 args P)(ha:aF W args vs)(h:∀a v,VR W a v->P a->G [v]):G vs:=by
 induction args with
 |nil=>exact e.elim
 |cons a r=>
  (refine aP ha.inv λv vs' Sr r t=>?_;refine aa Sr ?_)
  exact HI (G:=λvs=>G (v::vs)) e t (h a v r)
theorem HK{P:AV->AV->Prop}{G:List IF->Prop}(e:a2 args P)(ha:aF W args vs)(h:∀a b u v,VR W a u->VR W b v->P a b->G [u,v]):G vs:=by
 induction args with
 |nil=>exact e.elim
 |cons a r=>
  (refine aP ha.inv λv vs' Sr r t=>?_;refine aa Sr ?_)
  exact HJ (G:=λvs=>G (v::vs)) e t λb u r'=>h a b v u r r'
theorem Ia{P:AV->AV->AV->Prop}{G:List IF->Prop}(e:a3 args P)(ha:aF W args vs)(h:∀a b c u v w,VR W a u->VR W b v->VR W c w->P a b c->G [u,v,w]):G vs:=by
 induction args with
 |nil=>exact e.elim
 |cons a r=>
  (refine aP ha.inv λv vs' Sr r t=>?_;refine aa Sr ?_)
  exact HK (G:=λvs=>G (v::vs)) e t λb c u w r' TR=>h a b c v u w r r' TR
theorem EW{G:Prop}(e:kk k P)(h:∀j,P j->G):G:=by
 induction k with
 |none=>exact e.elim
 |some j=>exact h j e
variable {C:Cx}{A:J0}{Q X:IF->IP->Prop}
theorem w0{P:Prop}(e:a0 args P)(ha:aF W args vs)(h:P->ID C.M A (call f []) Q X W.s):ID C.M A (call f vs) Q X W.s:=HI (G:=λvs=>ID C.M A (call f vs) Q X W.s) e ha h
theorem w1{P:AV->Prop}(e:a1 args P)(ha:aF W args vs)(h:∀a v,VR W a v->P a->ID C.M A (call f [v]) Q X W.s):ID C.M A (call f vs) Q X W.s:=HJ (G:=λvs=>ID C.M A (call f vs) Q X W.s) e ha h
theorem w2{P:AV->AV->Prop}(e:a2 args P)(ha:aF W args vs)(h:∀a b u v,VR W a u->VR W b v->P a b->ID C.M A (call f [u,v]) Q X W.s):ID C.M A (call f vs) Q X W.s:=HK (G:=λvs=>ID C.M A (call f vs) Q X W.s) e ha h
theorem w3{P:AV->AV->AV->Prop}(e:a3 args P)(ha:aF W args vs)(h:∀a b c u v w,VR W a u->VR W b v->VR W c w->P a b c->ID C.M A (call f [u,v,w]) Q X W.s):ID C.M A (call f vs) Q X W.s:=Ia (G:=λvs=>ID C.M A (call f vs) Q X W.s) e ha h
variable (F:Fix C){K:AV->Hp->Prop}(O:Ok C W)(hc:calm=true->A.handled=.none)(ha:aF W args vs)(kr:∀r Sp,K r Sp->ax C W r (W.loc,Sp) Q)
include F O hc ha kr
theorem DG:∀b:BI,HE b calm k args W.hp K->ID C.M A (call (.builtin b.id) vs) Q X W.s:=by
 intro b;cases b
 . exact λe=>w1 e ha λa v r e=>cw e λx e1 e2=>o9 O e1 r (kr _ _ e2)
 . exact λe=>w1 e ha λa v r e=>cw e λx e1 e2=>aR e1 λh1 h2=>pg O h2 r (hc h1) (kr _ _ e2)
 . exact λe=>w1 e ha λa v r e=>cw e λx e1 e2=>jA O e1 r (kr _ _ e2)
 . exact λe=>w1 e ha λa v r e=>cw e λx e1 e2=>aR e1 λh1 h2=>pi O h2 r (hc h1) (kr _ _ e2)
 . exact λe=>w1 e ha λa v r e=>EW e λj e=>cw e λx e1 e2=>pz O e1 r (kr _ _ e2)
 . exact λe=>w2 e ha λa b u v r r' e=>cw e λx e1 e2=>pq O e1 r r' (kr _ _ e2)
 . exact λe=>w2 e ha λa b u v r r' e=>cw e λx e1 e2=>o_ O e1 r r' (kr _ _ e2)
 . exact λe=>w1 e ha λa v r e=>cw e λx e1 e2=>pe O e1 r (kr _ _ e2)
 . exact λe=>w1 e ha λa v r e=>cw e λx e1 e2=>pf O e1 r (kr _ _ e2)
 . exact λe=>w2 e ha λa b u v r r' e=>cw e λx e1 e2=>na O e1 r r' (kr _ _ e2)
 . exact λe=>w2 e ha λa b u v r r' e=>cw e λx e1 e2=>pA O e1 r r' (kr _ _ e2)
 . exact λe=>w1 e ha λa v r e=>cw e λx e1 e2=>pO O e1 r (kr _ _ e2)
 . exact λe=>w2 e ha λa b u v r r' e=>cw e λx e1 e2=>aR e1 λh1 h2=>pP O h2 r r' (hc h1) (kr _ _ e2)
 . exact Mc
 . exact λe=>w2 e ha λa b u v r r' e=>cw e λx e1 e2=>mV O e1 r r' (kr _ _ e2)
 . exact λe=>w1 e ha λa v r e=>cw e λx e1 e2=>pB O e1 r (kr _ _ e2)
 . exact λe=>w2 e ha λa b u v r r' e=>cw e λx e1 e2=>pC O e1 r r' (kr _ _ e2)
 . exact λe=>w2 e ha λa b u v r r' e=>cw e λx e1 e2=>mY O e1 r r' (by decide) (kr _ _ e2)
 . exact λe=>w2 e ha λa b u v r r' e=>cw e λx e1 e2=>mW O e1 r r' (kr _ _ e2)
 . exact λe=>w1 e ha λa v r e=>cw e λx e1 e2=>mX O e1 r (kr _ _ e2)
 . exact λe=>w3 e ha λa b c u v w r r' TR e=>cw e λx e1 e2=>bJ (F.pat) λT tp p1 p2 p3 Z=>pH O p1 p2 p3 e1 r r' TR (kr _ _ e2)
 . intro e;refine w1 e ha λa v r e=>?_;cases a<;>first|exact e.elim|skip
   exact EW e λj e=>cw e λx e1 e2=>aR e1 λh1 h2=>r.top'▸IY h1▸pQ O F.sio h2 (kr _ _ e2)
omit F in
theorem DH:∀t:TY,HF t calm k args W.hp K->ID C.M A (call (.type t.id) vs) Q X W.s:=by
 intro t;cases t
 . exact λe=>w1 e ha λa v r e=>cw e λx e1 e2=>pj O e1 r (kr _ _ e2)
 . exact λe=>w1 e ha λa v r e=>EW e λj e=>cw e λx e1 e2=>aR e1 λh1 h2=>pM O h2 r (hc h1) (kr _ _ e2)
 . exact λe=>w1 e ha λa v r e=>cw e λx e1 e2=>pm O e1 r (kr _ _ e2)
 . exact λe=>w0 e ha λe=>EW e λj e=>cw e λx e1 e2=>m9 O e1 (kr _ _ e2)
 . exact λe=>w1 e ha λa v r e=>cw e λx e1 e2=>po O e1 r (kr _ _ e2)
 . exact λe=>w1 e ha λa v r e=>cw e λx e1 e2=>pt O e1 r (kr _ _ e2)
 . exact λe=>w1 e ha λa v r e=>cw e λx e1 e2=>pw O e1 r (kr _ _ e2)
 . exact Mc
 . exact λe=>w0 e ha λe=>EW e λj e=>cw e λx e1 e2=>ny O e1 (kr _ _ e2)
 all_goals exact Mc
theorem DJ{f}{fv}{Xk:AX->Hp->Prop}(e:HG f calm k args W.hp K Xk)(hf:VR W f fv)
 (kx:∀x Sp,Xk x Sp->∀v W',Le W W'->Ok C W'->XR C W W' x v->(W.loc,Sp)=(W'.loc,W'.hp)->X v W'.s):ID C.M A (call fv vs) Q X W.s:=by
 cases f<;>first|exact e.elim|skip
 . refine w0 e ha λe=>cw e λp e1 e2=>aR e1 λh1 h2=>pI O h2 hf (hc h1) (λx q=>kr _ _ ?_) λq=>kx _ _ ?_
   . unfold G9 at e2;haveI e2:=q▸e2;exact e2
   . unfold G9 at e2;haveI e2:=q▸e2;exact e2
 . exact w1 e ha λa v r e=>EW e λj e=>cw e λx e1 e2=>aR e1 λh1 h2=>pN O h2 hf r (hc h1) (kr _ _ e2)
 . exact aa hf.bi' (DG F O hc ha kr _ e)
 . exact aa hf.ty' (DH O hc ha kr _ e)
end
theorem DK(F:Fix C)(n):Fi C n HH:=by
 intro f calm k args kw hp K Xk e A W fv vs kvs Q X O R0 hc ehp hf ha hk kr kx;subst ehp;induction kw with
 |cons Z Z=>exact e.elim
 |nil=>
  induction kvs with
  |cons Z Z=>exact hk.elim
  |nil=>exact DJ F O hc ha kr e hf kx
open KFB in
theorem FY:(kfb_private%"ownerAndName") "dict.fromkeys"=("dict","fromkeys"):=by first|decide +kernel|kernel_rfl
noncomputable abbrev rp:Obj:={cls:=.type "builtin_function_or_method",data:=.fields #[.builtin "dict.fromkeys",.type "dict"]}
theorem zT:Oh (.builtin "dict.fromkeys")=pure (.type "classmethod_descriptor"):=by refine(?_:Nr _=_);refine aa K6 ?_;kernel_rfl
theorem ti:isType (.type "dict")=pure true:=by first|rfl|kernel_rfl|(unfold isType;rw[JO];kernel_rfl)
theorem zU:Os (.type "dict") (.type "dict")=pure true:=by refine aa (JO _ _) ?_;kernel_rfl
section
variable {M:P_}{prog:Ql}{w:World}{A:J0}{E:IF->IP->Prop}{s:IP}{K:QS}
theorem DL(h:P (.done (.ret (.ref s.heap.objs.size))) {s with heap:=s.heap.push rp}):
 ID M A (Jl.«classmethod_descriptor.__get__» ⟨[.builtin "dict.fromkeys",.none,.type "dict"],[]⟩) P E s:=by
 unfold Jl.«classmethod_descriptor.__get__»
 with_reducible refine Ir (Jg (a:=(.builtin "dict.fromkeys",none,some (.type "dict"))) (by first|rfl|kernel_rfl) ?_)
 with_reducible refine Ir (Jg (a:=.type "dict") rfl ?_)
 refine Ir (Jg (a:=true) ti ?_);refine KFB.if_not rfl (Ir (Jg (a:=true) zU ?_));exact KFB.if_not rfl (Ir (MA (Ix h)))
theorem zV:findCls K (.type "dict") (.type "type") "fromkeys"=some (.get (.builtin "classmethod_descriptor.__get__") (.builtin "dict.fromkeys") .none (.type "dict")):=by first|rfl|kernel_rfl
theorem zW:findCls K (.type "object") (.type "type") "__new__"=some (.val (.builtin "object.__new__")):=by first|rfl|kernel_rfl
theorem zX(X:K.In s.heap)(h:Q (.ref s.heap.objs.size,[]) {s with heap:=s.heap.push rp,toks:=s.toks+1}):ID (J3 prog w) A (MR (.type "dict") "fromkeys" pl) Q E s:=by
 have hstub:Pw (.type "dict")=pure none:=by unfold Pw;dsimp only;exact aa (show Sa "dict"=false by decide +kernel) rfl
 haveI L0:M2 (J3 prog w) s.heap (Oh (.type "dict")) (.type "type"):=QJ (by first|rfl|kernel_rfl:Oh (.type "dict")=pure (.type "type"));haveI hg:Pg K (.type "type") "__getattribute__"=some (some (.builtin "type.__getattribute__")):=type_tga;refine Ir (Ir (L0.here ((PH X hg).here ?_)));dsimp only;refine(if_pos canon_tga).symm▸(Ir (KG (Q:=λv=>Q (v,[])) (E:=E) ?_ (λZ Z z=>Ix z) λZ Z z=>z));exact cls_open X (QJ hstub:M2 (J3 prog w) s.heap (Pw (.type "dict")) none) L0 hg (looks_hook X (r:=none) (by rfl)) (by show subIn K _ _=_;rfl) zV (Ir (I1 (KT KFB.slot_get zT KFB.entry_get (DL ⟨_,rfl,Ix (Ix h)⟩) (KFB.args_get _ _ _))))
theorem zY:Oh (.type "object")=pure (.type "type"):=by first|rfl|kernel_rfl
theorem zZ:Sa "object"=false:=by decide +kernel
theorem tj:handedIn (.builtin "object.__new__")=true:=by decide +kernel
theorem z8(F:Fr h₀ L s.heap m)(X:K.In h₀)(h:Q (.builtin "object.__new__",[]) {s with toks:=s.toks+1}):ID (J3 prog w) A (MR (.type "object") "__new__" pl) Q E s:=by
 generalize hn:Lg "__new__"=nm;have e:findCls K (.type "object") (.type "type") nm=some (.val (.builtin "object.__new__")):=by exact an hn zW
 generalize hv:Pe "object.__new__"=v at*;generalize hT:"object"=T at*;exact method_type F X (hT▸zY) (hT▸zZ) e (hv▸tj) h
end
noncomputable def DM:List (Str×BI):=[("join",.sJoin),("encode",.sEncode),("translate",.sTranslate)]
noncomputable def nE:List (Str×BI):=[("append",.lAppend),("pop",.lPop),("clear",.lClear)]
noncomputable def i_:List (Str×BI):=[("get",.dGet),("values",.dValues)]
noncomputable def vN:List (Str×BI):=[("add",.stAdd)]
noncomputable def G_:List (Str×BI):=[("append",.qAppend),("pop",.qPop)]
noncomputable def DN:List (Str×BI):=[("count",.bCount)]
noncomputable def Cp (o:AO):List (Str×BI):=@AO.casesOn (λZ=>List (Str×BI)) o (λZ=>nE) (λZ Z=>i_) (λZ Z=>[]) (λZ Z=>[]) (λZ=>G_) (λZ=>vN) (λZ Z=>[]) []
noncomputable def eR (hp:Hp)(k:Nat):List (Str×BI):=@KI AO (λZ=>List (Str×BI)) (hg hp k) [] Cp
noncomputable def HL (t:TY)(x:Str):Option (AV×List AV):=@TY.casesOn (λZ=>Option (AV×List AV)) t .none (gd (aZ x "fromkeys") (some (.bf,[]))) .none .none .none .none .none .none .none (gd (aZ x "__new__") (some (.bi .oNew,[]))) .none .none
noncomputable def Cq (hp:Hp)(a:AV)(x:Str):Option (AV×List AV):=@AV.casesOn (λZ=>Option (AV×List AV)) a .none (λZ=>.none) (λZ=>.none)
 (λs=>((lk DM x).map λb=>(.bi b,[.str s])).or (gd (aZ x "maketrans") (some (.bi .sMaketrans,[]))))
 (λs=>(lk DN x).map λb=>(.bi b,[.bytes s])) (λZ=>.none) (λZ=>.none) (λZ=>.none) (λZ=>.none)
 (λk=>(lk (eR hp k) x).map λb=>(.bi b,[.ref k])) (λZ=>.none) .none (λZ=>.none)
 (λp=>gd (IT p 49&&aZ x "sub") (some (.bi .pSub,[.top p]))) (λZ=>.none) (λt=>HL t x)
noncomputable def dC (T:Tb)(hp:Hp)(a:AV)(x:Str):Option (AV×List AV):=((fnOf T hp a x).map λf=>(AV.top f,[a])).or (Cq hp a x)
theorem EX{α:Type}{l:List (Str×α)}{x:Str}{b:α}{P:Str->α->Prop}(e:lk l x=some b)(h:∀p∈l,P p.1 p.2):P x b:=h (x,b) (aB e)
theorem vO{α β:Type}{o:Option α}{f:α->β}{b:β}(e:o.map f=some b):∃a,o=some a/\b=f a:=by refine ae (JJ.mp e) λa h1 h2=>?_;exact⟨a,h1,h2.symm⟩
structure BM(T:String)(x:Str)(b:BI):Prop where
 pl:Q1 T
 sl:Slot T x b.id
 ty:Oh (.builtin b.id)=pure (.type "method_descriptor")
theorem z_:∀p∈DM,BM "str" p.1 p.2:=by
 intro p hp;simp only[DM,IJ,IA,or_false]at hp;rcases hp with rfl|rfl|rfl
 . exact⟨NH,PySem.F.slot_str_join,PySem.F.type_str_join⟩
 . exact⟨NH,PySem.F.slot_str_encode,PySem.F.type_str_encode⟩
 . exact⟨NH,PySem.F.slot_str_translate,PySem.F.type_str_translate⟩
theorem vP:∀p∈nE,BM "list" p.1 p.2:=by
 intro p hp;simp only[nE,IJ,IA,or_false]at hp;rcases hp with rfl|rfl|rfl
 . exact⟨No,PySem.F.slot_list_append,PySem.F.type_list_append⟩
 . exact⟨No,PySem.F.slot_list_pop,PySem.F.type_list_pop⟩
 . exact⟨No,PySem.F.slot_list_clear,PySem.F.type_list_clear⟩
theorem vQ:∀p∈i_,BM "dict" p.1 p.2:=by
 intro p hp;simp only[i_,IJ,IA,or_false]at hp;rcases hp with rfl|rfl
 . exact⟨Pu,PQ,PySem.F.type_dict_get⟩
 . exact⟨Pu,Pd,PySem.F.type_dict_values⟩
theorem Aa:∀p∈vN,BM "set" p.1 p.2:=by intro p hp;simp only[vN,IJ,IA,or_false]at hp;subst hp;exact⟨PySem.F.plainAttrs_set,PySem.F.slot_set_add,PySem.F.type_set_add⟩
theorem DO:∀p∈G_,BM "collections.deque" p.1 p.2:=by
 intro p hp;simp only[G_,IJ,IA,or_false]at hp;rcases hp with rfl|rfl
 . exact⟨mU,gZ,mR⟩
 . exact⟨mU,g_,mT⟩
theorem Ab:∀p∈DN,BM "bytes" p.1 p.2:=by intro p hp;simp only[DN,IJ,IA,or_false]at hp;subst hp;exact⟨vf,re,y_⟩
section
variable {C:Cx}{W:Wd}{x:Str}{b:BI}{u:IF}{A:J0}{pl:Sem Bool}{X:IF->IP->Prop}{Q:IF×List IF->IP->Prop}
theorem pR(m:BM T x b)(ht:W.s.TypeIs u T)(hd:∀d,u=.ref d->∃o,W.s.heap.get? d=some o/\o.dict=none)(q:Q (.builtin b.id,[u]) W.s):ID C.M A (MR u x pl) Q X W.s:=
 Rq ht m.pl m.sl m.ty hd q
theorem ja(m:BM T x b)(ho:W.s.heap.get? d=some o)(hc:o.cls=.type T)(hd:o.dict=none)(q:Q (.builtin b.id,[.ref d]) W.s):ID C.M A (MR (.ref d) x pl) Q X W.s:=
 pR m ⟨_,ho,hc⟩ (λe h=>⟨_,Nq.inj h▸ho,hd⟩) q
theorem Ac(O:Ok C W){o:AO}(hm:(j,o)∈W.hp)(h:lk (Cp o) x=some b)(q:Q (.builtin b.id,[.ref (W.ρ j)]) W.s):ID C.M A (MR (.ref (W.ρ j)) x pl) Q X W.s:=by
 have R:=O.cell _ _ hm;cases o<;>first|exact nn h|skip
 . obtain⟨vs,⟨n,ho⟩,Z⟩:=R;exact ja (EX h vP) ho rfl rfl q
 . obtain⟨kvs,⟨⟨ob,es,ep,ho,hx,Z⟩,Z⟩,Z⟩:=R;exact ja (EX h vQ) ho hx.1 hx.2.1 q
 . refine be R λn vs ho Z=>?_;exact ja (EX h DO) ho rfl rfl q
 . obtain⟨ob,es,ep,t,ho,hx,Z⟩:=R;exact ja (EX h Aa) ho hx.1 hx.2.1 q
variable {g:AV×List AV}(k:∀gv fvs W',Le W W'->Ok C W'->VR W' g.1 gv->aF W' g.2 fvs->(W.loc,W.hp)=(W'.loc,W'.hp)->Q (gv,fvs) W'.s)
include k
theorem Ad(O:Ok C W)(hu:VR W a u)(h:g=(.bi b,[a])):Q (.builtin b.id,[u]) W.s:=by subst h;exact k _ _ W (Le.refl W) O .bi (.cons hu .nil) rfl
theorem DP(O:Ok C W)(e:HL t x=some g):ID C.M A (MR (.type t.id) x pl) Q X W.s:=by
 cases t<;>first|exact nn e|refine aR e λh1 h2=>?_
 . refine aa (aL.mp h1) ?_;obtain rfl:=Iw h2;refine zX O.X ?_;have ha:=IW W.s.heap (o:=rp) rfl;haveI S:=O.frz (s:={W.s with heap:=W.s.heap.push rp,toks:=W.s.toks+1}) (λa o e=>IH _ e) (cV _) ha (IL _) rfl rfl;exact k _ _ _ (S.le O) (S.ok O) (.bf (.inr rfl) ha) .nil rfl
 . refine aa (aL.mp h1) ?_;obtain rfl:=Iw h2;obtain⟨mm,Fr,Z⟩:=O.fr';exact z8 Fr C.X (k (.builtin "object.__new__") [] _ (O.ltick (IL _)) (O.tick (IL _)) (.bi (b:=.oNew)) .nil rfl)
theorem vR(F:Fix C)(O:Ok C W){a:AV}(e:Cq W.hp a x=some g)(hu:VR W a u):ID C.M A (MR u x pl) Q X W.s:=by
 cases a<;>first|exact nn e|skip
 . obtain⟨t,rfl⟩:=hu.str';rcases d6 e with e|e
   . with_reducible exact c0 e λb h1 h2=>pR (EX h1 z_) (Nf _ _ _) (λd q=>nomatch q) (Ad k O hu h2)
   . refine aR e λh1 h2=>?_;clear e;obtain rfl:=aL.mp h1;clear e;obtain rfl:=Iw h2;exact vM λtk htk=>k _ _ _ (O.ltick htk) (O.tick htk) .bi .nil rfl
 . refine c0 e λb h1 h2=>?_;haveI q:=Ad k O hu h2;obtain⟨t,rfl⟩:=hu.bytes';exact pR (EX h1 Ab) rfl (λd q=>nomatch q) q
 . refine c0 e λb h1 h2=>?_;obtain⟨rfl,o,hm⟩:=hu.ref';unfold eR at h1;induction hq:hg W.hp _ with
   |none=>exact nn (hq▸h1)
   |some o=>haveI h1:=hq▸h1;exact Ac O (aG hq) h1 (Ad k O hu h2)
 . refine aR e λh1 h2=>bc h1 λh3 h4=>?_;clear e;obtain rfl:=IY h3;obtain rfl:=aL.mp h4;obtain rfl:=hu.top';obtain⟨T',tp,p1,p2,p3,p4⟩:=F.pat;exact ja (b:=.pSub) ⟨vy,lA,zt⟩ (O.old _ _ p2).1 p3 p4 (Ad k O hu (Iw h2).symm)
 . exact aa hu.ty' (DP k O e)
end
theorem vS(F:Fix C)(T0:bd C T)(hT:T.meth=dC T):uB C T:=by
 intro W a name g u A pl X Q O e hu k;rw[hT]at e;rcases d6 e with e|e
 . refine c0 e λf h1 h2=>?_;clear e;subst h2;exact uT O T0 h1 hu (k (.ref f) [u] W (Le.refl W) O .top (.cons hu .nil) rfl)
 . exact vR k F O e hu
noncomputable def namesOf (ar:Qi):List Str:=ar.posonlyargs.map (·.arg)++ar.args.map (·.arg)
noncomputable def vT:List Str->List AV->Option (List (Str×AV))
 |[],[]=>some []
 |x::r,a::l=>(vT r l).map ((x,a):: ·)
 |_,_=>.none
noncomputable def DQ (v:Str):List Str->List AV->Option (List (Str×AV))
 |[],l=>gd (ai l.length) (some [(v,.tup l)])
 |x::r,a::l=>(DQ v r l).map ((x,a):: ·)
 |_::_,[]=>.none
theorem vU:∀{ps} {as} {ab},vT ps as=some ab->as.length=ps.length/\ab=ps.zip as:=by
 intro Sl;induction Sl with
 |nil=>
  intro SK;induction SK with
  |nil=>
   intro Z e
   (replace e:=Iw e;subst e);exact⟨rfl,rfl⟩
  |cons x93 x94=>intro Z e;cases e
 |cons x r SU=>
  intro TB;induction TB with
  |nil=>intro Z e;cases e
  |cons a l=>intro ab e;exact ae (vO e) λt h1 h2=>ad (SU h1) λh3 h4=>⟨by simp[h3],aa h2 (aa h4 rfl)⟩
theorem rq:∀{ps:List Str} {as:List AV} {vs:List IF},aF W as vs->eb W (ps.zip as) (ps.zip vs):=by
 intro Sl;induction Sl with
 |nil=>intro Z Z Z;exact trivial
 |cons x r Sk=>
  intro TU;induction TU with
  |nil=>intro vs h;refine aa h.inv_nil ?_;trivial
  |cons a l=>
   intro vs h
   (refine aP h.inv λv vs' Sr h1 h2=>?_;refine aa Sr ?_)
   exact⟨rfl,h1,Sk h2⟩
structure FD where
 ar:Qi
 body:List Ld
 sc:Od
noncomputable def fdOf (c:Ld):Option (Str×FD):=@Oq (λZ=>Option (Str×FD)) c (λn ar b Z Z Z sc Z Z Z=>some (n,⟨ar,b,sc⟩)) (λZ Z Z Z Z Z Z Z Z Z=>.none) (λZ Z Z Z Z Z Z Z Z Z Z=>.none) (λZ Z=>.none) (λZ Z=>.none) (λZ Z Z=>.none) (λZ Z Z Z Z Z Z=>.none) (λZ Z Z Z=>.none) (λZ Z Z Z Z=>.none) (λZ Z Z Z Z=>.none) (λZ Z Z Z Z=>.none) (λZ Z Z Z=>.none) (λZ Z Z Z=>.none) (λZ Z Z=>.none) (λZ Z Z=>.none) (λZ Z Z=>.none) (λZ Z Z=>.none) (λZ Z Z Z Z=>.none) (λZ Z Z Z Z=>.none) (λZ Z Z=>.none) (λZ Z=>.none) (λZ Z Z Z=>.none) (λZ Z=>.none) (λZ Z=>.none) (λZ Z=>.none) (λZ=>.none) (λZ=>.none) (λZ=>.none)
noncomputable def FZ (c:Ld):Option (Str×List Ld):=@Oq (λZ=>Option (Str×List Ld)) c (λZ Z Z Z Z Z Z Z Z Z=>.none) (λZ Z Z Z Z Z Z Z Z Z=>.none) (λn Z Z b Z Z Z Z Z Z Z=>some (n,b)) (λZ Z=>.none) (λZ Z=>.none) (λZ Z Z=>.none) (λZ Z Z Z Z Z Z=>.none) (λZ Z Z Z=>.none) (λZ Z Z Z Z=>.none) (λZ Z Z Z Z=>.none) (λZ Z Z Z Z=>.none) (λZ Z Z Z=>.none) (λZ Z Z Z=>.none) (λZ Z Z=>.none) (λZ Z Z=>.none) (λZ Z Z=>.none) (λZ Z Z=>.none) (λZ Z Z Z Z=>.none) (λZ Z Z Z Z=>.none) (λZ Z Z=>.none) (λZ Z=>.none) (λZ Z Z Z=>.none) (λZ Z=>.none) (λZ Z=>.none) (λZ Z=>.none) (λZ=>.none) (λZ=>.none) (λZ=>.none)
noncomputable def Cr {α:Type}(f:Ld->Option (Str×α))(l:List Ld)(x:Str):Option α:=@Rb Ld (λZ=>Option α) .none (λc Z ih=>@KI _ (λZ=>Option α) (f c) ih λp=>cond (aZ p.1 x) (some p.2) ih) l
noncomputable def Cs (l:List Ld)(x:Str):Option FD:=Cr fdOf l x
noncomputable def DR (l:List Ld)(x:Str):Option (List Ld):=Cr FZ l x
noncomputable def Cu:List Ld:=Sd.main.body
noncomputable def bX (x:Str):Option FD:=Cs Cu x
noncomputable def cB (c x:Str):Option FD:=(DR Cu c).bind λb=>Cs b x
inductive BK where
 |plain|var|hand (f:List AV->List (Str×AV)->Option (List (Str×AV)))
noncomputable def F1 (F:FD)(b:BK)(args:List AV)(kws:List (Str×AV)):Option (List (Str×AV)):=match b with
 |.plain=>(match kws with|[]=>vT (namesOf F.ar) args|_=>.none)
 |.var=>(match kws,F.ar.vararg with
  |[],some v=>(DQ v.arg (namesOf F.ar) args).map λl=>l++(match F.ar.kwarg with|some k=>[(k.arg,.tab [])]|.none=>[])
  |_,_=>.none)
 |.hand f=>f args kws
noncomputable def F3:BK->Bool|.var=>true|_=>false
noncomputable def F4 (args:List AV)(kws:List (Str×AV)):Option (List (Str×AV)):=o0 kws (@J6 AV (λZ=>Option (List (Str×AV))) args .none λa r=>@J6 AV (λZ=>Option (List (Str×AV))) r (some [("data",a),("depth",.int 0)]) λb r=>o0 r (some [("data",a),("depth",b)]))
noncomputable def Cv (args:List AV)(kws:List (Str×AV)):Option (List (Str×AV)):=o0 kws (o1 args λa=>some [("self",a),("graph",.none)])
noncomputable def Cw (args:List AV)(kws:List (Str×AV)):Option (List (Str×AV)):=o0 kws (o2 args λa b=>some [("self",a),("initial_value",b),("newline",.str "\n")])
noncomputable def Cy (args:List AV)(kws:List (Str×AV)):Option (List (Str×AV)):=o0 kws (o2 args λa b=>some [("self",a),("size",b)])
noncomputable def Cz (args:List AV)(kws:List (Str×AV)):Option (List (Str×AV)):=o2 args λa b=>o2 kws λp q=>gd (aZ p.1 "posix"&&aZ q.1 "punctuation_chars") (some [("self",a),("instream",b),("infile",.none),("posix",p.2),("punctuation_chars",q.2)])
structure yd where
 a:Jn
 fd:Option FD
 bk:BK
 df:List AV
noncomputable def cO:List yd:=[⟨57,bX "_paren_depth",.hand F4,[.int 0]⟩,⟨72,cB "_NodeInfo" "__init__",.plain,[]⟩,⟨109,cB "TopologicalSorter" "__init__",.hand Cv,[.none]⟩,⟨116,cB "TopologicalSorter" "_get_nodeinfo",.plain,[]⟩,
 ⟨123,cB "TopologicalSorter" "add",.var,[]⟩,⟨128,cB "TopologicalSorter" "prepare",.plain,[]⟩,⟨135,cB "TopologicalSorter" "get_ready",.plain,[]⟩,⟨142,cB "TopologicalSorter" "is_active",.plain,[]⟩,
 ⟨156,cB "TopologicalSorter" "done",.var,[]⟩,⟨163,cB "TopologicalSorter" "_find_cycle",.plain,[]⟩,⟨191,bX "_index",.plain,[]⟩,⟨218,cB "IOBase" "__new__",.var,[]⟩,⟨495,cB "StringIO" "__init__",.hand Cw,[.str "",.str "\n"]⟩,
 ⟨502,cB "StringIO" "__translated",.plain,[]⟩,⟨509,cB "StringIO" "__check",.plain,[]⟩,⟨671,cB "StringIO" "read",.hand Cy,[.int (-1)]⟩,⟨784,cB "shlex" "__init__",.hand Cz,[.none,.none,.bool false,.bool false]⟩,
 ⟨791,cB "shlex" "punctuation_chars",.plain,[]⟩,⟨821,cB "shlex" "get_token",.plain,[]⟩,⟨828,cB "shlex" "read_token",.plain,[]⟩,⟨871,bX "_law_groups",.plain,[]⟩,⟨878,bX "_law_pieces",.plain,[]⟩,⟨883,bX "_law_read",.plain,[]⟩,
 ⟨890,bX "_law_sorted",.plain,[]⟩,⟨895,bX "_law_waits",.plain,[]⟩,⟨902,bX "_law_told",.plain,[]⟩,⟨907,bX "_law_due",.plain,[]⟩,⟨912,bX "law",.plain,[]⟩]
theorem EY:cO.all (λr=>r.fd.isSome)=true:=by decide +kernel
noncomputable def gT:List (Str×AV):=[("_paren_depth",.top 57),("_quoted",.top 49),("_NODE_OUT",.int (-1)),("_NODE_DONE",.int (-2)),("_NodeInfo",.top 76),("CycleError",.top 91),("TopologicalSorter",.top 173),("_index",.top 191),("BytesIO",.top 478),("StringIO",.top 725),
 ("shlex",.top 860),("_law_groups",.top 871),("_law_pieces",.top 878),("_law_read",.top 883),("_law_sorted",.top 890),("_law_waits",.top 895),("_law_told",.top 902),("_law_due",.top 907),("deque",.ty .deque)]
noncomputable def bT:List (Str×AV):=[("object",.ty .object),("len",.bi .len),("sum",.bi .sum),("sorted",.bi .sorted),("max",.bi .max),("iter",.bi .iter),("isinstance",.bi .isinstance),("range",.ty .range),("dict",.ty .dict),("tuple",.ty .tuple),("set",.ty .set),("type",.ty .type),
 ("int",.ty .int),("bool",.ty .bool),("str",.ty .str),("StopIteration",.ty .stop)]
noncomputable def vV (x:Str):Option AV:=(lk gT x).or (lk bT x)
noncomputable def jC {α:Type}:List (Nat×α)->Nat->Option α
 |[],_=>.none
 |(j,a)::r,k=>match IT j k with|true=>some a|false=>jC r k
noncomputable def ye:List yd->Nat->Option yd
 |[],_=>.none
 |f::r,k=>match IT f.a k with|true=>some f|false=>ye r k
theorem F5:ye (f::r) k=cond (IT f.a k) (some f) (ye r k):=rfl
noncomputable def dX:List (Nat×CK):=[(76,.slots 72),(173,.inst 109),(725,.new 218 495),(860,.inst 784)]
noncomputable def cP:List (Jn×List (Str×AK)):=[
 (860,[("punctuation_chars",.prop 791),("_pushback_chars",.own),("instream",.own),("lineno",.own),("debug",.own),("state",.own),("token",.own),("posix",.own),("whitespace",.own),("commenters",.own),("escape",.own),("wordchars",.own),("quotes",.own),
  ("whitespace_split",.own),("escapedquotes",.own),("pushback",.own),("source",.own),("eof",.own),("filestack",.own),("infile",.own),("_punctuation_chars",.own),("get_token",.fn 821),("read_token",.fn 828)]),
 (725,[("_StringIO__buf",.own),("_StringIO__pos",.own),("_StringIO__newline",.own),("_StringIO__check",.fn 509),("_StringIO__translated",.fn 502),("read",.fn 671)]),
 (173,[("_node2info",.own),("_ready_nodes",.own),("_npassedout",.own),("_nfinished",.own),("_get_nodeinfo",.fn 116),("add",.fn 123),("prepare",.fn 128),("get_ready",.fn 135),("is_active",.fn 142),("done",.fn 156),("_find_cycle",.fn 163)])]
noncomputable def eS:List (Str×Nat):=[("node",0),("npredecessors",1),("successors",2)]
noncomputable def Ae (c:AV):Bool:=match c with|.ty t=>(match t with|.stop=>true|_=>false)|_=>false
noncomputable def vW (x:AX)(c:AV):Bool:=match x with
 |.stop=>Ae c
 |.cyc=>Ck c 91
noncomputable def HM (p:Pos)(s:St):Option Nat:=.none
noncomputable def F6 (a:Jn):Bool:=(ye cO a).isSome||(jC dX a).isSome
structure Places where
 site:Pos->St->Option Nat
 sym:Pos->Bool
 keep:Pos->Option (List Str)
noncomputable def rr (P:Places)(call:AV->Callee):Tb where
 glob:=vV
 call:=call
 bi:=HH
 meth:=λZ Z Z=>.none
 fnc:=F6
 attr:=λc x=>(jC cP c).bind λl=>lk l x
 slot:=λc x=>match IT c 76 with|true=>lk eS x|false=>.none
 site:=P.site
 sym:=P.sym
 keep:=P.keep
 nt:=λa=>IT a 478||IT a 725
 hook:=Cl vV vW 91
noncomputable def TT (P:Places)(call:AV->Callee):Tb:={rr P call with meth:=dC (rr P call)}
def j_ (P:Places)(call:AV->Callee)(r:yd)(F:FD)(args:List AV)(kws:List (Str×AV))(hp:Hp)(K:AV->Hp->Prop)(Xk:AX->Hp->Prop):Prop:=
 aj (F3 r.bk) (F1 F r.bk args kws) λab=>aj false (gd (uV F.sc ab) (some ())) λZ=>∃m,(bL (TT P call) m).exs ⟨F.sc,true,true⟩ (λx s=>Xk x s.2) F.body (ab,hp) λfl s=>K fl.val s.2
def aY (P:Places)(call:AV->Callee)(f:AV)(args:List AV)(kws:List (Str×AV))(hp:Hp)(K:AV->Hp->Prop)(Xk:AX->Hp->Prop):Prop:=match f with
 |.top a=>(match ye cO a with
  |some r=>(match r.fd with|some F=>j_ P call r F args kws hp K Xk|.none=>False)
  |.none=>match jC dX a with
   |some ck=>gP call a ck args kws hp K Xk
   |.none=>False)
 |_=>False
@[irreducible] noncomputable def aQ (P:Places) (i:Nat):AV->Callee:=Nat.rec (λZ Z Z Z Z Z=>False) (λZ c=>aY P c) i
theorem ah{P:Places}{i:Nat}{f:AV}{args:List AV}{kws:List (Str×AV)}{hp:Hp}{K:AV->Hp->Prop}{Xk:AX->Hp->Prop}(h:aY P (aQ P i) f args kws hp K Xk):aQ P (i+1) f args kws hp K Xk:=by with_unfolding_all exact h
theorem ke{P:Places}{i:Nat}{f:AV}{args:List AV}{kws:List (Str×AV)}{hp:Hp}{K:AV->Hp->Prop}{Xk:AX->Hp->Prop}(h:aQ P (i+1) f args kws hp K Xk):aY P (aQ P i) f args kws hp K Xk:=by with_unfolding_all exact h
theorem pS{P:Places}{f:AV}{args:List AV}{kws:List (Str×AV)}{hp:Hp}{K:AV->Hp->Prop}{Xk:AX->Hp->Prop}(h:aQ P 0 f args kws hp K Xk):False:=by with_unfolding_all exact h
structure vX(C:Cx)(r:yd)(F:FD)(fd:N5):Prop where
 at_:FnAt C r.a fd F.body
 sc:fd.scope=F.sc
 ar:fd.params=F.ar
 df:match r.df with
  |[]=>fd.defaults=.none
  |_::_=>∃T o items n,fd.defaults=.ref T/\C.base.get? T=some o/\o.data=.seq items n/\∀W:Wd,aF W r.df items.toList
structure nF(C:Cx):Prop extends Fix C where
 fn:∀r∈cO,∀F,r.fd=some F->∃fd,vX C r F fd
 glob:∀p∈gT,∃v,C.mg p.1=some v/\∀W,VR W p.2 v
 blt:∀p∈bT,∃v,C.mg p.1=.none/\C.mb p.1=some v/\∀W,VR W p.2 v
 attr:∀q∈cP,∀p∈q.2,match p.2 with|.own=>uz C.K q.1 p.1=true|.fn f=>yK C.K q.1 p.1 f=true|.prop f=>kT C.K q.1 p.1 f=true
 slot:∀p∈eS,iN C.K 76 p.1 p.2=true
 nt:∀a,a=478\/a=725->∃o,C.K.lookup a=some o/\o.cls≠.type "tuple"
 keep:∀a,F6 a=true->keepIn C.K (.ref a)=true
 cls:∀q∈dX,FX C q.1 q.2
 cyc:u2 C 91
 cat:ix C vW
theorem lC{α:Type}{l:List (Nat×α)}{k:Nat}{a:α}(e:jC l k=some a):(k,a)∈l:=by
 induction l with
 |nil=>cases e
 |cons p r ih=>
  obtain⟨j,b⟩:=p;replace e:cond (IT j k) (some b) (jC r k)=some a:=e;induction q:IT j k with
  |true=>haveI e:=q▸e;(replace e:=Iw e;refine aa e ?_);exact aa (IY q) (.head _)
  |false=>haveI e:=q▸e;exact .tail _ (ih e)
theorem lD(e:ye l k=some f):f∈l/\f.a=k:=by
 induction l with
 |nil=>cases e
 |cons p r ih=>
  rw[F5]at e;induction q:IT p.a k with
  |true=>haveI e:=q▸e;(replace e:=Iw e;refine an e ?_);exact⟨.head _,IY q⟩
  |false=>haveI e:=q▸e;exact⟨.tail _ (ih e).1,(ih e).2⟩
section
variable (P:Places){call:AV->Callee}
theorem rt(G:nF C):iM C vV:=by
 intro x a h;rcases d6 h with h|h
 . exact ae (G.glob _ (aB h)) λv h1 h2=>⟨v,.inl h1,h2⟩
 . exact cm (G.blt _ (aB h)) λv h1 h2 h3=>⟨v,.inr ⟨h1,h2⟩,h3⟩
theorem rx(G:nF C):bd C (rr P call):=by
 have get:∀{c x k},((jC cP c).bind λl=>lk l x)=some k->∃l,(c,l)∈cP/\(x,k)∈l:=λe=>by
  refine ae (IG.mp e) λl h1 h2=>?_;exact⟨l,lC h1,aB h2⟩
 refine⟨λc x e=>?_,λc x f e=>?_,λc x f e=>?_,λc x i e=>?_⟩
 . refine af (get e) λl Sm=>?_;refine ad Sm λh1 h2=>?_;exact G.attr _ h1 _ h2
 . refine af (get e) λl Sm=>?_;refine ad Sm λh1 h2=>?_;exact G.attr _ h1 _ h2
 . refine af (get e) λl Sm=>?_;refine ad Sm λh1 h2=>?_;exact G.attr _ h1 _ h2
 . have e:(match IT c 76 with|true=>lk eS x|false=>.none)=some i:=e;induction q:IT c 76 with
   |true=>haveI e:=q▸e;exact aa (IY q) (G.slot _ (aB e))
   |false=>exact nn (q▸e)
theorem ry(G:nF C)(hn:1<=n)(hc:dO C n call):Good C n (TT P call)where
 pos:=hn
 glob:=rt G
 nt:=λa h=>G.nt a (by
  have h:(IT a 478||IT a 725)=true:=h;refine t_ h (λh=>?_) λh=>?_
  . exact .inl (IY h)
  . exact .inr (IY h))
 attr:=let h:=rx P (call:=call) G;⟨h.own,h.fn,h.prop,h.slot⟩
 call:=hc
 bi:=DK G.toFix n
 meth:=by
  have h:bd C (rr P call):=rx P G;exact λ{Z Z Z Z Z Z Z Z Z} O e hu k=>vS (T:=TT P call) G.toFix ⟨h.own,h.fn,h.prop,h.slot⟩ rfl O e hu k
 fnc:=λf h=>G.keep f h
theorem rz(G:nF C):fq C n (TT P call):=u3 (T:=TT P call) rfl (rt G) G.cat G.cyc
end
noncomputable def vY:Nat->(List IF->Prop)->Prop
 |0,P=>P []
 |n+1,P=>∀v,vY n λl=>P (v::l)
theorem vY.at:∀{P} {vs},vY n P->vs.length=n->P vs:=by
 induction n with
 |zero=>intro P vs h e;exact aa (List.eq_nil_of_length_eq_zero e) h
 |succ n ih=>
  intro P vs h e;induction vs with
  |nil=>cases e
  |cons v vs=>exact ih (P:=λl=>P (v::l)) (h v) (Nat.succ.inj e)
noncomputable def tm (fd:N5)(ar:Qi)(d:IF):N5:={fd with params:=ar,defaults:=d}
theorem lE(h1:fd.params=ar)(h2:fd.defaults=d):fd=tm fd ar d:=by subst h1 h2;rfl
noncomputable def nG (o:Option FD):Qi:=match o with|some F=>F.ar|.none=>⟨[],[],.none,[],[],.none,[]⟩
noncomputable def tupK (kw:Option Arg)(l:List (Str×IF)):Sem (List (Str×IF)):=match kw with
 |.none=>pure l
 |some ka=>alloc Kl>>=λd=>pure (l++[(ka.arg,.ref d)])
noncomputable def DS (ar:Qi)(us rest:List IF):Sem (List (Str×IF)):=match ar.vararg with
 |.none=>unsupported ""
 |some va=>newTuple rest>>=λt=>tupK ar.kwarg ((namesOf ar).zip us++[(va.arg,t)])
def gQ (o:Option FD)(ds:List AV)(f:List AV->List (Str×AV)->Option (List (Str×AV))):Prop:=ds.isEmpty=false/\∀{args:List AV} {kws ab:List (Str×AV)},f args kws=some ab->∀{W:Wd} {vs dv:List IF} {kvs:List (Str×IF)},aF W args vs->eb W kws kvs->aF W ds dv->
 ∃binds,eb W ab binds/\∀fd T c x n y,E9 (OC (tm fd (nG o) (.ref T)) ⟨vs,kvs⟩)=some T/\iJ (OC (tm fd (nG o) (.ref T)) ⟨vs,kvs⟩) ⟨c,x,.seq dv.toArray n,y⟩=pure binds
theorem eb.none(h:eb W [] kvs):kvs=[]:=by induction kvs with|nil=>rfl|cons _ _=>exact h.elim
theorem eb.two(h:eb W [(x,a),(y,b)] kvs):∃u v,kvs=[(x,u),(y,v)]/\VR W a u/\VR W b v:=by
 cases kvs with
 |nil=>exact h.elim
 |cons p kvs=>
  obtain⟨p1,p2⟩:=p;obtain⟨rfl,h2,h⟩:=h;cases kvs with
  |nil=>exact h.elim
  |cons q kvs=>obtain⟨q1,q2⟩:=q;obtain⟨rfl,h4,h⟩:=h;cases eb.none h;exact⟨p2,q2,rfl,h2,h4⟩
theorem Ib:gQ (bX "_paren_depth") [.int 0] F4:=by
 refine⟨rfl,λ{args Z Z} e W vs dv kvs hv hk hd=>?_⟩;refine ae hd.one λd Sn dr=>aa Sn (ES e λq8 e8=>?_);clear e;subst q8;cases hk.none;cases args with
 |nil=>exact nn e8
 |cons a r=>cases r with
 |nil=>refine an (Iw e8) (ae hv.one λu Sn ru=>?_);clear hv;exact aa Sn ⟨[("data",u),("depth",d)],⟨rfl,ru,rfl,dr,trivial⟩,λZ Z Z Z Z Z=>⟨by kernel_rfl,by kernel_rfl⟩⟩
 |cons b r=>refine ES e8 λq9 e9=>?_;subst q9;refine an (Iw e9) (aP hv.two λu v Sn ru rv=>?_);clear hv;exact aa Sn ⟨[("data",u),("depth",v)],⟨rfl,ru,rfl,rv,trivial⟩,λZ Z Z Z Z Z=>⟨by kernel_rfl,by kernel_rfl⟩⟩
theorem Ha:gQ (cB "TopologicalSorter" "__init__") [.none] Cv:=by refine⟨rfl,λe W vs dv kvs hv hk hd=>?_⟩;refine ae hd.one λd Sn dr=>aa Sn (ES e λq e=>ET e λa q' e=>?_);subst q q';refine an (Iw e) ?_;cases hk.none;refine ae hv.one λu Sn ru=>?_;exact aa Sn ⟨[("self",u),("graph",d)],⟨rfl,ru,rfl,dr,trivial⟩,λZ Z Z Z Z Z=>⟨by kernel_rfl,by kernel_rfl⟩⟩
theorem Hb:gQ (cB "StringIO" "read") [.int (-1)] Cy:=by refine⟨rfl,λe W vs dv kvs hv hk hd=>?_⟩;refine ae hd.one λd Sn dr=>aa Sn (ES e λq e=>EU e λa b q' e=>?_);subst q q';refine an (Iw e) ?_;cases hk.none;refine aP hv.two λu v Sn ru rv=>?_;exact aa Sn ⟨[("self",u),("size",v)],⟨rfl,ru,rfl,rv,trivial⟩,λZ Z Z Z Z Z=>⟨by kernel_rfl,by kernel_rfl⟩⟩
theorem Hc:gQ (cB "StringIO" "__init__") [.str "",.str "\n"] Cw:=by refine⟨rfl,λe W vs dv kvs hv hk hd=>?_⟩;refine aP hd.two λd d' Sn dr dr'=>aa Sn (ES e λq e=>EU e λa b q' e=>?_);subst q q';refine an (Iw e) ?_;cases hk.none;refine aP hv.two λu v Sn ru rv=>?_;exact aa Sn ⟨[("self",u),("initial_value",v),("newline",d')],⟨rfl,ru,rfl,rv,rfl,dr',trivial⟩,λZ Z Z Z Z Z=>⟨by kernel_rfl,by kernel_rfl⟩⟩
theorem Hd:gQ (cB "shlex" "__init__") [.none,.none,.bool false,.bool false] Cz:=by
 refine⟨rfl,λe W vs dv kvs hv hk hd=>?_⟩;obtain⟨x1,dv,rfl,Z,hd⟩:=hd.inv;refine CJ hd.three λx2 x3 x4 Sn r2 Z=>?_;clear hd;refine aa Sn (EU e λa b q e=>EU e λp q' q e=>?_);subst q;subst q;obtain⟨Z,Z⟩:=p;obtain⟨Z,Z⟩:=q'
 . (haveI e1:=(au e).1;haveI e2:=(au e).2)
   replace e2:=Iw e2;clear e;subst e2;obtain⟨e3,e4⟩:=IQ.mp e1;obtain rfl:=aL.mp e3;obtain rfl:=aL.mp e4;refine aP hv.two λu v Sn ru rv=>?_;clear hv;refine aa Sn (aP hk.two λc d Sn rc rd=>?_);clear hk;exact aa Sn ⟨[("self",u),("instream",v),("infile",x2),("posix",c),("punctuation_chars",d)],⟨rfl,ru,rfl,rv,rfl,r2,rfl,rc,rfl,rd,trivial⟩,λZ Z Z Z Z Z=>⟨by kernel_rfl,by kernel_rfl⟩⟩
def jb (r:yd):Prop:=match r.bk with
 |.plain=>r.df=[]/\∃n,(namesOf (nG r.fd)).length=n/\vY n λvs=>∀fd,OC (tm fd (nG r.fd) .none) ⟨vs,[]⟩=pure ((namesOf (nG r.fd)).zip vs)
 |.var=>r.df=[]/\∃n,(namesOf (nG r.fd)).length=n/\vY n λus=>∀fd rest,OC (tm fd (nG r.fd) .none) ⟨us++rest,[]⟩=DS (nG r.fd) us rest
 |.hand f=>gQ r.fd r.df f
class inductive AllR (p:yd->Prop):List yd->Prop
 |nil:AllR p []
 |cons {r:yd} {l:List yd} (h:p r) (t:AllR p l):AllR p (r::l)
theorem AllR.at(h:AllR p l):∀r∈l,p r:=by
 induction h with
 |nil=>exact λr hr=>(IA hr).elim
 |cons h t ih=>intro r hr;exact(IJ.mp hr).elim (λe=>e▸h) (ih r)
theorem rows:AllR jb cO:=.cons Ib<|.cons ⟨rfl,2,by kernel_rfl,λZ Z fd=>by kernel_rfl⟩<|.cons Ha<|.cons ⟨rfl,2,by kernel_rfl,λZ Z fd=>by kernel_rfl⟩<|.cons ⟨rfl,2,by kernel_rfl,λZ Z fd rest=>by induction rest<;>kernel_rfl⟩<|.cons ⟨rfl,1,by kernel_rfl,λZ fd=>by kernel_rfl⟩<|.cons ⟨rfl,1,by kernel_rfl,λZ fd=>by kernel_rfl⟩<|.cons ⟨rfl,1,by kernel_rfl,λZ fd=>by kernel_rfl⟩<|.cons ⟨rfl,1,by kernel_rfl,λZ fd rest=>by induction rest<;>kernel_rfl⟩<|.cons ⟨rfl,1,by kernel_rfl,λZ fd=>by kernel_rfl⟩<|.cons ⟨rfl,2,by kernel_rfl,λZ Z fd=>by kernel_rfl⟩<|.cons ⟨rfl,1,by kernel_rfl,λZ fd rest=>by induction rest<;>kernel_rfl⟩<|.cons Hc<|.cons ⟨rfl,2,by kernel_rfl,λZ Z fd=>by kernel_rfl⟩<|.cons ⟨rfl,1,by kernel_rfl,λZ fd=>by kernel_rfl⟩<|.cons Hb<|.cons Hd<|.cons ⟨rfl,1,by kernel_rfl,λZ fd=>by kernel_rfl⟩<|.cons ⟨rfl,1,by kernel_rfl,λZ fd=>by kernel_rfl⟩<|.cons ⟨rfl,1,by kernel_rfl,λZ fd=>by kernel_rfl⟩<|.cons ⟨rfl,1,by kernel_rfl,λZ fd=>by kernel_rfl⟩<|.cons ⟨rfl,1,by kernel_rfl,λZ fd=>by kernel_rfl⟩<|.cons ⟨rfl,1,by kernel_rfl,λZ fd=>by kernel_rfl⟩<|.cons ⟨rfl,1,by kernel_rfl,λZ fd=>by kernel_rfl⟩<|.cons ⟨rfl,1,by kernel_rfl,λZ fd=>by kernel_rfl⟩<|.cons ⟨rfl,3,by kernel_rfl,λZ Z Z fd=>by kernel_rfl⟩<|.cons ⟨rfl,3,by kernel_rfl,λZ Z Z fd=>by kernel_rfl⟩<|.cons ⟨rfl,1,by kernel_rfl,λZ fd=>by kernel_rfl⟩<|.nil
section
theorem Af:∀{ps} {as} {ab} {vs},DQ v ps as=some ab->aF W as vs->∃us rest as1 SR,vs=us++rest/\as=as1++SR/\ab=ps.zip as1++[(v,.tup SR)]/\as1.length=ps.length/\aF W as1 us/\aF W SR rest/\ai SR.length=true:=by
 intro Sl;induction Sl with
 |nil=>intro as ab vs e h;refine ad (au e) λh1 h2=>?_;replace h2:=Iw h2;clear e;exact an h2 ⟨[],vs,[],as,rfl,rfl,rfl,rfl,.nil,h,h1⟩
 |cons p ps Sk=>
  intro TU;cases TU with
  |nil=>intro Z Z e Z;cases e
  |cons a as=>intro ab vs e h;refine ae (vO e) λt h1 h2=>aP h.inv λu vs' Sn h3 h4=>?_;clear h;refine aa Sn (jy (Sk h1 h4) λus rest as1 SR Sm=>jF Sm λSn Ss q84 q1 q2 q3 q4=>aa Sn (aa Ss ?_));clear h1 Sm;subst q84;exact⟨u::us,rest,a::as1,SR,rfl,rfl,h2,by exact Nat.succ_inj.mpr q1,.cons h3 q2,q3,q4⟩
theorem eb.append:∀{a b} {u v},eb W a u->eb W b v->eb W (a++b) (u++v):=by
 intro Sl;induction Sl with
 |nil=>
  intro w92 TU;induction TU with
  |nil=>intro Z Z h;exact h
  |cons x94 x95=>intro Z h Z;exact h.elim
 |cons x96 x97 Us=>
  obtain⟨Z,Z⟩:=x96;intro w99 Ux;induction Ux with
  |nil=>intro Z h Z;exact h.elim
  |cons x911 x912=>obtain⟨Z,Z⟩:=x911;intro Z y913 h;exact am y913 λh1 h2 h3=>⟨h1,h2,Us h3 h⟩
theorem Ic{fd:N5}{vs}{kvs r}{M}{A}{E}{s}{Q}(h:OC fd ⟨vs,kvs⟩=pure r)(q:Q r s):ID M A (OC fd ⟨vs,kvs⟩) Q E s:=aa h (Ix q)
theorem nH(S:vX C r F fd)(hr:jb r)(hb:r.bk=.plain)(hF:r.fd=some F)(e:F1 F .plain args kws=some ab):Binds C fd args kws ab:=by
 intro W A vs kvs Q X O ha hk k;unfold jb at hr;rw[hb,hF]at hr;refine ad hr λhd Sm=>ae Sm λn hn hr=>?_;induction kws with
 |cons Z Z=>exact nn e
 |nil=>
  induction kvs with
  |cons Z Z=>exact hk.elim
  |nil=>refine ad (vU (e:vT (namesOf F.ar) args=some ab)) λhl Sq=>?_;clear e;subst Sq;have hdf:=S.df;rw[hd]at hdf;refine(lE S.ar hdf).symm▸?_;exact Ic (hr.at (by exact an ha.1 (aa hl hn)) fd) (k _ W (Le.refl W) O rfl (rq ha))
theorem DT(O:Ok C W)(K:ax C W (.tab []) (W.loc,W.hp) Q):Q (.ref W.s.heap.objs.size) {W.s with heap:=W.s.heap.push Kl}:=
 have ha:=IW W.s.heap rfl;have S:=O.frz (s:={W.s with heap:=W.s.heap.push Kl}) (λa o e=>IH _ e) (cV _) ha (IC _) rfl rfl
 K _ _ (S.le O) (S.ok O) (.tab (ff O) (.inr rfl) ha (λe h=>absurd h (Array.not_mem_empty _))) rfl
theorem tn(S:vX C r F fd)(hr:jb r)(hb:r.bk=.var)(hF:r.fd=some F)(e:F1 F .var args kws=some ab):Binds C fd args kws ab:=by
 intro W A vs kvs Q X O ha hk k;unfold jb at hr;rw[hb,hF]at hr;refine ad hr λhd Sm=>ae Sm λn hn hr=>?_;have hdf:=S.df;rw[hd]at hdf;refine aa (lE S.ar hdf) ?_;induction kws with
 |cons Z Z=>exact nn e
 |nil=>
  induction kvs with
  |cons Z Z=>exact hk.elim
  |nil=>
   unfold F1 at e;induction hv:F.ar.vararg with
   |none=>exact nn (hv▸e)
   |some va=>
    rw[hv]at e;refine ae (vO e) λt e1 Sn=>?_;clear e;subst Sn;refine G3 (Af e1 ha) λus rest as1 SR Sn Ss q84 q1 q2 q3 q4=>?_;clear ha;subst Sn;subst Ss;subst q84;refine(show OC (tm fd F.ar .none) ⟨us++rest,[]⟩=DS F.ar us rest from hr.at (by exact an q2.1 (aa q1 (hn:(namesOf F.ar).length=n))) fd rest).symm▸?_;unfold DS;refine(hv).symm▸(Ir (wpAny_newTuple (uh (Q:=λv s'=>ID C.M A (tupK F.ar.kwarg ((namesOf F.ar).zip us++[(va.arg,v)])) Q X s') O q3 λv W1 l1 O1 r1 e1=>?_) (q3.1▸aq q4)));have base:=eb.append (rq (ps:=namesOf F.ar) (O.vrs l1 q2)) (b:=[(va.arg,.tup SR)]) (v:=[(va.arg,v)]) ⟨rfl,r1,trivial⟩;induction hw:F.ar.kwarg with
    |none=>haveI k:=hw▸k;exact Ix (k _ W1 l1 O1 e1 (by exact aa (Jv _) base))
    |some ka=>haveI k:=hw▸k;exact Ir (OZ (DT O1 (Q:=λv2 s'=>ID C.M A (pure ((namesOf F.ar).zip us++[(va.arg,v)]++[(ka.arg,v2)])) Q X s') λv2 W2 l2 O2 r2 e2=>Ix (k _ W2 (l1.trans O1 l2) O2 (e1.trans e2) (eb.append (eb.le O1 l2 base) (b:=[(ka.arg,.tab [])]) (v:=[(ka.arg,v2)]) ⟨rfl,r2,trivial⟩))))
theorem pT(S:vX C r F fd)(hr:jb r)(hb:r.bk=.hand f)(hF:r.fd=some F)(e:f args kws=some ab):Binds C fd args kws ab:=by
 intro W A vs kvs Q X O ha hk k;unfold jb at hr;rw[hb,hF]at hr;refine ad hr λhd hr=>?_;have h:=S.df;induction q:r.df with
 |nil=>exact IE (q▸hd)
 |cons a l=>
  rw[q]at h;refine jy h λT Sn Ss n Sm=>?_;rcases Sn with⟨c,x,dt,y⟩
  rcases Ss with⟨items⟩
  refine cL Sm λh1 h2 h3 h4=>?_;cases h3;exact ae (hr e ha hk (by exact aa q (h4 W))) λbinds kb hr=>ad (hr fd T c x n y) λr1 r2=>(lE S.ar h1)▸(HX r1 (O.old _ _ h2).1 r2 (k binds W (Le.refl W) O rfl kb))
theorem F7(hr:r∈cO)(hF:r.fd=some F)(S:vX C r F fd)(e:F1 F r.bk args kws=some ab):Binds C fd args kws ab:=by
 have h:=rows.at r hr;induction q:r.bk with
 |plain=>haveI e:=q▸e;exact λ{Z Z Z Z Z Z}=>nH S h q hF e
 |var=>haveI e:=q▸e;exact λ{Z Z Z Z Z Z}=>tn S h q hF e
 |hand f=>haveI e:=q▸e;exact λ{Z Z Z Z Z Z}=>pT S h q hF e
end
set_option tactic.hygienic true
theorem vZ{C}(G:nF C)(P){call}{n}(hn:1<=n)(hc:dO C n call):dO C (n+2) (aY P call):=by
 intro f args kw hp K Xk e A W l fv vs kvs R O R0 hh hfr hst ehp hf ha hk kr kx;subst ehp;cases f<;>try exact e.elim
 rename_i a
 refine aa hf.top' ?_;have e:(match ye cO a with
  |some r=>(match r.fd with|some F=>j_ P call r F args kw W.hp K Xk|.none=>False)
  |.none=>match jC dX a with
   |some ck=>gP call a ck args kw W.hp K Xk
   |.none=>False):=e
 generalize hr:ye cO a=o at e;induction o with
 |some r=>
  (refine ad (lD hr) λhm Sm=>?_;subst Sm)
  have e:(match r.fd with|some F=>j_ P call r F args kw W.hp K Xk|.none=>False):=e;generalize hF:r.fd=o at e;induction o with
  |some F=>have e:j_ P call r F args kw W.hp K Xk:=e;obtain⟨ab,h1,e⟩:=aS e;obtain⟨h2,e⟩:=ao e;obtain⟨m,e⟩:=e;obtain⟨fd,S⟩:=G.fn r hm F hF;have sc:=S.sc;exact Da (ry P G hn hc) (rz P G) S.at_ (λ{Z Z Z Z Z Z}=>F7 hm hF S h1) (aa sc h2) O R0 hh hfr hst (aa sc e) ha hk kr kx
  |none=>exact e.elim
 |none=>
  have e:(match jC dX a with
   |some ck=>gP call a ck args kw W.hp K Xk
   |.none=>False):=e
  generalize SV:jC dX a=o at e;induction o with
  |some ck=>exact th (λf args kw hp K Xk e A W l fv vs kvs R O R0=>hc f args kw hp K Xk e A W l fv vs kvs R O (R0.less (IL _))) (G.cls _ (lC SV)) e O R0 hh hfr hst ha hk kr kx
  |none=>exact e.elim
theorem v1(G:nF C)(P):∀i,dO C (2*i+1) (aQ P i):=by
 intro Sl;induction Sl with
 |zero=>exact λf args kw hp K Xk e=>(pS e).elim
 |succ i Sk=>exact λf args kw hp K Xk e=>vZ G P (I4 1 (2*i)) (Sk) f args kw hp K Xk (ke e)
set_option tactic.hygienic false
noncomputable def at_ (p:Pos)(l a b:Nat):Bool:=IT p.line l&&IT p.col a&&IT p.endCol b
noncomputable def He:List (Nat×List (Nat×Nat)):=[
 (18,[(8,17)]),(19,[(8,26)]),(20,[(8,23),(26,28)]),(26,[(8,23),(26,28)]),(27,[(8,25)]),(28,[(8,24)]),(29,[(8,23)]),(30,[(11,28)]),(31,[(12,45),(38,49),(38,51)]),(32,[(16,24),(16,45)]),(35,[(11,56),(22,37),(22,41),(22,47)]),(36,[(12,27),(12,33),(45,60)]),(40,[(11,28),(11,40)]),(41,[(18,79)]),(42,[(19,37),(19,43)]),(43,[(8,30),(8,51),(34,51)]),(44,[(8,45)]),(45,[(24,42),(24,48)]),(46,[(12,32),(12,39),(12,45)]),(49,[(11,28),(11,40)]),(50,[(18,63)]),(51,[(8,25),(28,94),(29,35),(45,60),(45,67),(45,69),(73,88),(73,93)]),(52,[(16,32),(16,34)]),(54,[(18,60)]),(57,[(11,28),(11,36)]),(58,[(18,62)]),(59,[(17,41),(23,40)]),(60,[(14,29)]),(61,[(8,47)]),(62,[(12,21),(12,35)]),(63,[(8,25),(8,31),(8,33)]),(64,[(8,24),(8,39),(28,39)]),(68,[(11,28),(11,36)]),(69,[(18,62)]),(70,[(15,30),(15,49),(33,49),(53,76),(58,75)]),(73,[(15,29),(15,31)]),(76,[(11,28),(11,36)]),(77,[(18,62)]),(78,[(14,29)]),(79,[(8,32)]),(80,[(15,50),(28,35),(28,41)]),(81,[(22,76)]),(82,[(19,41)]),(83,[(15,32)]),(84,[(19,28)]),(85,[(26,91)]),(86,[(21,39)]),(87,[(26,78)]),(90,[(12,34)]),(91,[(12,55),(29,48)]),(92,[(33,47)]),(93,[(16,44),(16,49)]),(94,[(19,47),(19,52)]),(95,[(20,37),(20,44),(20,55)]),(96,[(12,27),(12,32)]),(99,[(14,29)]),(100,[(16,18)]),(101,[(18,20)]),(102,[(15,20)]),(103,[(22,24)]),(104,[(8,25)]),(105,[(15,27)]),(108,[(19,31)]),(109,[(23,42)]),(110,[(31,56),(31,65),(37,54),(59,65)]),(112,[(20,28),(20,34)]),(113,[(20,34),(20,71),(35,61),(35,70),(40,49),(40,60)]),(114,[(20,37),(40,50)]),(115,[(20,32),(20,38)]),(116,[(16,25),(22,27)]),(118,[(31,42),(31,44)]),(121,[(24,52),(28,52),(40,49),(40,51)]),(122,[(24,35),(24,37)]),
 (478,[(8,21)]),(480,[(11,44)]),(483,[(15,37)]),(605,[(8,18)]),(611,[(8,22)]),(613,[(12,156),(12,94),(12,26)]),(616,[(8,19)]),(619,[(8,18)]),(622,[(8,18)]),(625,[(8,19)]),(632,[(12,32)]),(633,[(12,39),(12,26)]),(635,[(12,26)]),(708,[(20,30)]),(722,[(20,30)]),(723,[(21,47),(33,47)]),(724,[(20,30)]),(725,[(20,30)]),(727,[(20,30)]),(728,[(20,30)]),(732,[(20,30)]),(754,[(24,34)]),(757,[(20,30)]),(759,[(20,42),(20,30)]),(766,[(20,44),(20,30)]),(767,[(16,38),(16,26)]),(768,[(16,26)]),(771,[(20,30)]),(776,[(20,30)]),(777,[(23,33)]),(813,[(23,33)]),(792,[(24,46),(24,34)]),(796,[(24,34)]),(803,[(21,47),(33,47)]),(812,[(20,30)]),(818,[(8,18)]),(873,[(11,55),(11,61)]),(852,[(17,38)]),(853,[(23,46)]),
 (859,[(16,68),(16,74),(22,48),(22,68)]),(860,[(11,41)]),(862,[(16,42),(16,68),(16,74),(16,101),(45,68),(77,101)]),(863,[(22,35),(22,62),(38,62)]),(865,[(18,36)]),
 (880,[(13,32)]),(881,[(11,13)]),(882,[(4,30)]),(883,[(15,31),(15,40),(21,30),(34,40)]),(884,[(8,18),(8,30),(20,29)]),(887,[(8,22),(8,24)]),(890,[(13,15)]),(891,[(10,26),(10,28)]),(892,[(16,32),(16,34)]),(893,[(8,19),(8,27)]),(894,[(8,21),(8,36),(22,35)]),(897,[(12,64),(17,63),(25,27)]),(898,[(4,49),(13,31),(19,30)]),(899,[(16,84),(17,26),(17,29),(39,47),(51,60),(51,63),(51,83),(67,76),(67,79),(67,83)]),(900,[(11,20),(11,23),(11,27)]),(901,[(12,28),(12,35),(12,49),(18,27),(36,45),(36,48)]),(904,[(13,32)]),(905,[(11,18),(11,26)]),(906,[(18,33)]),(907,[(20,37)]),(908,[(13,162),(14,65),(27,34),(27,48),(27,55),(27,64),(35,47),(67,118),(80,87),(80,101),(80,108),(80,117),(88,100),(120,161),(133,144),(133,153)]),(909,[(11,47)]),(911,[(12,30)]),(912,[(12,47),(17,46)]),(913,[(4,104)]),(914,[(16,104),(21,103),(29,83),(33,36),(33,82),(39,82),(40,52),(40,56),(70,81)]),(915,[(13,94),(14,66),(21,65),(48,59),(48,64),(76,93),(82,92)]),(916,[(16,74),(17,20),(17,68),(23,68),(24,33)]),(917,[(11,173),(12,65),(20,29),(70,100),(102,121),(102,134),(106,118),(106,120),(124,134),(136,172),(162,171),(169,171)]),(919,[(12,45),(12,62),(13,24),(17,24),(34,44),(48,62)]),(920,[(11,29)]),(921,[(12,22),(12,41),(26,36),(26,40)]),(922,[(11,19),(11,29),(22,29)]),(923,[(11,39),(11,70),(43,70)])]
noncomputable def PL:Places where
 site:=λp s=>match p.line with
  |20=>(lk s.1 "self").bind λa=>a.ref?.map (· +1)
  |26=>some 22
  |849=>some 1
  |856=>some 2
  |150=>some 12
  |870=>some 3
  |620=>some 14
  |624=>some 15
  |632=>some 16
  |634=>some 17
  |51=>some 54
  |100=>some 50
  |101=>some 51
  |102=>some 52
  |103=>some 53
  |113=>some (1000+s.2.length)
  |890=>some 55
  |897=>match p.col with
   |12=>some (2000+s.2.length)
   |25=>some (2000+s.2.length)
   |_=>.none
  |912=>match p.col with
   |12=>some (2000+s.2.length)
   |_=>.none
  |914=>match p.col with
   |16=>some (2000+s.2.length)
   |_=>.none
  |_=>.none
 sym:=λp=>(jC He p.line).any λl=>l.any λq=>IT p.col q.1&&IT p.endCol q.2
 keep:=λp=>match p.line with
  |851=>some ["names","groups","before"]
  |858=>some ["pieces","before"]
  |872=>some ["lexer","depth","rows","token"]
  |694=>some ["self","quoted","escapedstate"]
  |61=>some ["self","result","n2i"]
  |79=>some ["self","nodes","n2i"]
  |91=>some ["self","nodes","n2i","nodeinfo"]
  |104=>some ["n2i","stack","itstack","seen","node2stacki"]
  |107=>some ["n2i","stack","itstack","seen","node2stacki","node"]
  |116=>some ["n2i","stack","itstack","seen","node2stacki","node"]
  |882=>some ["sorter","path"]
  |891=>some ["sorter","whole","rounds"]
  |898=>some ["groups","waits"]
  |913=>some ["groups","cut","start","waits","steps"]
  |_=>.none
noncomputable def aI:JC×List Ld×List Ld×Pos:=(.Constant .none 0 default,[],[],default)
noncomputable def loopAt (l:List Ld)(i:Nat):JC×List Ld×List Ld×Pos:=l[i]?.elim aI λs=>@Oq (λZ=>JC×List Ld×List Ld×Pos) s (λZ Z Z Z Z Z Z Z Z Z=>aI) (λZ Z Z Z Z Z Z Z Z Z=>aI) (λZ Z Z Z Z Z Z Z Z Z Z=>aI) (λZ Z=>aI) (λZ Z=>aI) (λZ Z Z=>aI) (λZ Z Z Z Z Z Z=>aI) (λZ Z Z Z=>aI) (λZ Z Z Z Z=>aI) (λt Z b e p=>(t,b,e,p)) (λZ Z Z Z Z=>aI) (λc b e p=>(c,b,e,p)) (λZ Z Z Z=>aI) (λZ Z Z=>aI) (λZ Z Z=>aI) (λZ Z Z=>aI) (λZ Z Z=>aI) (λZ Z Z Z Z=>aI) (λZ Z Z Z Z=>aI) (λZ Z Z=>aI) (λZ Z=>aI) (λZ Z Z Z=>aI) (λZ Z=>aI) (λZ Z=>aI) (λZ Z=>aI) (λZ=>aI) (λZ=>aI) (λZ=>aI)
theorem jc{T}{E}{ct}{Xk}{c}{r}{s}{K}(s')(h:∀K':aD->St->Prop,K' .next s'->GN T E ct Xk c s K')(k:sO T E ct Xk r s' K):sO T E ct Xk (c::r) s K:=h _ k
theorem Ag{T:Tb}{E:jw}{ct:Ct}{Xk:XK}{c:Ld}{r:List Ld}{s:St}{K:aD->St->Prop}(I:St->Prop)(h:∀K':aD->St->Prop,(∀s,I s->K' .next s)->GN T E ct Xk c s K')(k:∀s,I s->sO T E ct Xk r s K):sO T E ct Xk (c::r) s K:=h _ k
theorem cJ.yes{K}(h:K true):cJ true K:=.mk (λZ=>h) λq=>IE q
theorem fX(T)(p)(s):(tidy T p s).2=s.2:=by unfold tidy;split<;>rfl
theorem bp{α:Type}{b}{o}{a:α}{K}(e:o=some a)(h:K a):aj b o K:=by
 refine aa e ?_;induction b with
 |true=>exact⟨a,rfl,h⟩
 |false=>exact h
theorem cQ{K}(xs)(P:Nat->St->Prop){s:St}
 (h0:P 0 (tidy T p s)) (hc:∀i s,P i s->chk s.2=some xs) (hE:∀s,P xs.length s->E.exs ct noX e s K)
 (hS:∀i x s (K'),xs[i]? =some x->P i s->(∀s',P (i+1) (tidy T p s')->K' .next s')->ib T E ct noX t x s λs1=>E.exs ct noX b s1 K'):∃m,mD T E ct t b e p chk m 0 s K:=by
 have main:∀j i s,i+j=xs.length->P i (tidy T p s)->mD T E ct t b e p chk (j+1) i s K:=by
  intro j;induction j with
  |zero=>intro i s hi hp;refine bp (by exact an (fX T p s) (hc i _ hp)) (aa (La (by exact I2 (id (LI hi))):xs[i]? =.none) ?_);exact hE _ (an hi hp)
  |succ j ih=>intro i s hi hp;refine bp (an (fX T p s) (hc i _ hp)) ?_;have hl:=hi▸Ks (NG j);refine aa (IM hl) ?_;exact hS i _ _ _ (IM hl) hp λs' Sp=>ih (i+1) s' ((Jb i 1 j).trans hi) Sp
 exact⟨_,main xs.length 0 s (JI xs.length) h0⟩
def v5 (T:Tb)(E:jw)(ct:Ct)(elt t:JC)(ifs:List JC)(p:Pos)(x:AV)(s:St)(K:Option AV->St->Prop):Prop:=ib T E ct noX t x s λs1=>uO E ct ifs s1 λb s2=>ask (T.sym p) b λb=>match b with
 |true=>E.ev ct noX elt s2 λr s3=>K (some r) s3
 |false=>K .none s2
theorem ak(h:n<=1000000):ai n=true:=Jy (Iu h (Iv rfl))
section
variable {K:List AV->Hp->Prop}
theorem kf(xs)(P:Nat->List AV->Hp->Prop)(L:Lo)(hl:xs.length<=1000000)(hL:bW ct.scope s.1=L)
 (h0:P 0 [] s.2) (hc:∀i acc X,P i acc X->chk X=some xs) (hE:∀acc X,P xs.length acc X->K acc X)
 (hS:∀i x acc X (K'),xs[i]? =some x->P i acc X->(∀o s',bW ct.scope s'.1=L->P (i+1) (acc++o.toList) s'.2->K' o s')->v5 T E ct elt t ifs p x (L,X) K'):∃m,dB T E ct elt t ifs p chk m 0 [] s K:=by
 have main:∀j i acc s,i+j=xs.length->acc.length<=i->bW ct.scope s.1=L->P i acc s.2->dB T E ct elt t ifs p chk (j+1) i acc s K:=by
  intro j;induction j with
  |zero=>intro i acc s hi Z Z hp;refine bp (hc i acc _ hp) ?_;refine aa (La (by exact I2 (id (LI hi))):xs[i]? =.none) ?_;exact hE acc _ (by exact an hi hp)
  |succ j ih=>
   intro i acc s hi ha hs hp;refine bp (hc i acc _ hp) ?_;have hl:i<xs.length:=hi▸Ks (NG j);refine aa (IM hl:xs[i]? =some xs[i]) ?_;refine hS i _ acc s.2 (λo s3=>match o with
    |some r=>aj (T.sym p) (gd (ai acc.length) (some ())) λZ=>dB T E ct elt t ifs p chk (j+1) (i+1) (acc++[r]) s3 K
    |.none=>dB T E ct elt t ifs p chk (j+1) (i+1) acc s3 K) (IM hl) hp (λo s' h1 h2=>?_) |> λh=>by haveI h:=hs▸h;exact h
   induction o with
   |none=>exact ih (i+1) acc s' ((Jb i 1 j).trans hi) (by exact I3 (by assumption)) h1 (by haveI h2:=(Jv _:acc++(Nn:Option AV).toList=acc)▸h2;exact h2)
   |some r=>exact bp (show gd (ai acc.length) (some ())=some () by exact aa (ak (Iu ha (Iu (Js hl) (by assumption)))) rfl) (ih (i+1) (acc++[r]) s' ((Jb i 1 j).trans hi) (aa IB (IS ha)) h1 h2)
 exact⟨_,main xs.length 0 [] s (JI xs.length) (IC _) hL h0⟩
theorem bS{β:Type}(ys:List β)(h g:β->AV)(c:β->Bool)(L:Lo)(X:Hp)(hl:ys.length<=1000000)(hL:bW ct.scope s.1=L)(hX:s.2=X)(hc:chk X=some (ys.map h))
 (hE:K ((ys.filter c).map g) X) (hS:∀y,y∈ys->∀K':Option AV->St->Prop,(∀s',bW ct.scope s'.1=L->s'.2=X->K' (match c y with|true=>some (g y)|false=>.none) s')->v5 T E ct elt t ifs p (h y) (L,X) K'):
 ∃m,dB T E ct elt t ifs p chk m 0 [] s K:=by
 refine kf (ys.map h) (λi acc Y=>Y=X/\acc=((ys.take i).filter c).map g) L (by exact aa (Iz _) hl) hL ⟨hX,rfl⟩ ?_ ?_ ?_
 . intro i acc Y SB
   (refine ad SB λTh Z=>?_;refine aa Th ?_)
   exact hc
 . intro acc Y SB
   (refine ad SB λTh Sm=>?_;refine aa Th ?_;refine aa Sm ?_)
   refine aa (Iz _) (aa Ka ?_);exact hE
 . intro i x acc Y K' hx SB hk
   (refine ad SB λTh Sm=>?_;subst Th;subst Sm)
   rw[I9]at hx;refine aH hx λy hy qq=>?_;clear hx;subst qq;refine hS y (JP hy) K' λs' e1 e2=>hk _ _ e1 ⟨e2,?_⟩;refine aa JR (aa hy (aa (Lb _ _) (aa IR ?_)));refine(?_:_=_++([y].filter c).map g);refine aa JB ?_;cases c y<;>rfl
theorem bU{β:Type}(ys:List β)(h g:β->AV)(L:Lo)(X:Hp)(hl:ys.length<=1000000)(hL:bW ct.scope s.1=L)(hX:s.2=X)(hc:chk X=some (ys.map h))
 (hE:K (ys.map g) X) (hS:∀y,y∈ys->∀K':Option AV->St->Prop,(∀s',bW ct.scope s'.1=L->s'.2=X->K' (some (g y)) s')->v5 T E ct elt t ifs p (h y) (L,X) K'):
 ∃m,dB T E ct elt t ifs p chk m 0 [] s K:=
 bS ys h g (λZ=>true) L X hl hL hX hc (aa (Qw.mpr λZ Z=>rfl) hE) hS
end
theorem fu{K}(hs:tidy T p s=s0)
 (h:E.tr ct noX c s0 λt s1=>ask (T.sym p) t λt=>match t with
  |true=>E.exs ct noX b s1 λf s2=>match f with
   |.next=>aV T E ct c b e p m s2 K
   |.cont=>aV T E ct c b e p m s2 K
   |.brk=>K .next s2
   |.ret a=>K (.ret a) s2
  |false=>E.exs ct noX e s1 K):aV T E ct c b e p (m+1) s K:=by
 subst hs;exact h
theorem jd(b)(h:b≠0):kJ hp .Mod (.int a) (.int b)=some (.int (KV a b)):=by refine(?_:gd (decide (b≠0)) _=_);exact aa (decide_eq_true h) rfl
theorem F8(b)(h:b≠0/\b.natAbs<1073741824):kJ hp .FloorDiv (.int a) (.int b)=some (.int (LC a b)):=by refine(?_:gd (decide (b≠0/\b.natAbs<1073741824)) _=_);exact aa (decide_eq_true h) rfl
theorem v6(h:n<1000/\-1000<n/\x.length<1000):kJ hp .Mult (.str x) (.int n)=some (.str (Rk x n)):=by refine(?_:gd (decide (n<1000/\-1000<n/\x.length<1000)) _=_);exact aa (decide_eq_true h) rfl
theorem v7(h:x.length+y.length<=1000000):yu hp (.str x) (.str y)=some (.str (x++y)):=by refine(?_:(gd (ai (x.length+y.length)) _).or _=_);exact aa (ak h) rfl
noncomputable abbrev S (l:List Nat):Str:=⟨l.toArray⟩
theorem eU(l):(S l).length=l.length:=by refine(?_:l.toArray.size=_);simp
theorem rA(a b):S a++S b=S (a++b):=by refine(?_:Str.mk (a.toArray++b.toArray)=_);simp
theorem F9(c)(n):Rk (S [c]) n=S (II n.toNat c):=by
 have h:=PyProof.Rows.mul_one_list c n;refine(?_:Rk ⟨#[c]⟩ n=_);induction q:Rk ⟨#[c]⟩ n with
 |mk cps=>haveI h:=q▸h;obtain⟨l⟩:=cps;show Str.mk ⟨l⟩=_;exact aa (show l=_ from h) rfl
theorem nI(c)(hx:x=S [c])(h:n<1000/\-1000<n):kJ hp .Mult (.str x) (.int n)=some (.str (S (II n.toNat c))):=by exact aa hx (aa (v6 ⟨h.1,h.2,by refine aa (eU _) ?_;refine(?_:1<1000);decide⟩) (aa (F9 _ _) rfl))
theorem je{hp}{x y}{a b}(hx:x=S a)(hy:y=S b)(h:a.length+b.length<=1000000):kJ hp .Add (.str x) (.str y)=some (.str (S (a++b))):=by subst hx hy;refine(?_:yu hp _ _=_);exact aa (v7 (by exact aa (eU _) (aa (eU _) h))) (aa (rA _ _) rfl)
theorem jf{hp:Hp}{xs:List AV}{k:Nat}{x:AV}(h:xs[k]? =some x)(hl:xs.length<=1000000):h_ hp (.lst xs) (.int (k:Int))=some x:=by
 refine(?_:(gd (ai xs.length) ((gd (Kd k xs.length) (some k)).bind λj=>xs[j]?)).or _=_);refine aa (ak hl) (aa (show Kd k xs.length=true from Jy ((Jm.mp h).1)) ?_);show(xs[k]?).or _=_
 exact aa h rfl
theorem bz(h:hg hp k=some (.list xs))(hl:xs.length<=1000000):sV hp (.ref k) v=some (hs hp k (.list (xs++[v]))):=by refine(?_:((((hg hp k).bind AO.list?).map λxs=>(k,xs)).bind λp=>gd (ai p.2.length) (some (hs hp p.1 (.list (p.2++[v])))))=_);refine aa h (?_:gd (ai xs.length) _=_);exact aa (ak hl) rfl
noncomputable def fF (k:Nat):Str:=n5 k "F" "B((\\" ")C\"" "\\D))" "E )\\\""
noncomputable def HN:List AV:=[.str "F",.str "B((\\",.str ")C\"",.str "\\D))",.str "E )\\\""]
noncomputable def GS (n:Int):Nat:=(KV (LC n 64) 5).toNat
noncomputable abbrev Gr:=Nat×Int×Int
noncomputable def jg (g:Gr):AV:=.tup [.str (fF g.1),.int g.2.1,.int g.2.2]
noncomputable def gL:Int->List Int->List Gr
 |_,[]=>[]
 |b,n::r=>(GS n,KV n (b+2),n)::gL (KV n (b+2)) r
noncomputable def F_ (b:Int)(l:List Int):List AV:=(gL b l).map jg
theorem v9(n):GS n<5:=(Q9 (KW (LC n 64) (by decide:(0:Int)<5))).mpr (Md (LC n 64) (by decide:(0:Int)<5))
theorem DV(h:k<5):HN[k]? =some (.str (fF k)):=by
 revert h
 refine cq k (λZ=>rfl) (λZ=>rfl) (λZ=>rfl) (λZ=>rfl) λk h=>?_;obtain rfl:k=0:=NC (Nat.le_of_add_le_add_right (b:=5) (c:=0) h)
 rfl
theorem Ah(n):KV (LC n 64) 5=(GS n):=(KC (KW (LC n 64) (by decide:(0:Int)<5))).symm
theorem pU(i)(pool)(hl:pool.length<=100)(K Xk)(hK:K (.ref 1) [(1,.list (F_ (-1) pool))]):aQ PL (i+1) (.top 871) [.lst (pool.map .int)] [] [] K Xk:=by
 refine ah (Je 20 (cQ (pool.map .int) (λi s=>∃gs b,s=(([("names",.lst HN),("groups",.ref 1),("before",.int b)]:Lo),([(1,.list gs)]:Hp))/\gs++F_ b (pool.drop i)=F_ (-1) pool/\0<=b+1/\gs.length=i) ?h0 ?hc ?hE ?hS))
 case h0=>exact⟨[],-1,rfl,rfl,L_ _,rfl⟩
 case hc=>intro i s h;rfl
 case hE=>
  intro s SB;refine bJ SB λgs b Sn h hb Z=>?_;refine aa Sn ?_
  conv=>whnf
  rw[Iz,RD]at h;rw[<-h]at hK;refine(?_:K (.ref 1) [(1,.list gs)]);exact aa ((Jv _).symm:gs=gs++F_ b []) hK
 case hS=>
  intro i x s K' hx SB Su;refine bJ SB λgs b Sn h hb hi=>?_;refine aa Sn ?_;obtain⟨n,hn,rfl⟩:∃n,pool[i]? =some n/\x=.int n:=by
   rw[I9]at hx;refine af (JJ.mp hx) λn Sm=>?_
   (haveI h1:=(Sm).1;haveI h2:=(Sm).2)
   exact⟨n,h1,h2.symm⟩
  have hlt:=(Jm.mp hn).1;refine ac.three _ (jd (b+2) (Int.ne_of_gt (Kt hb (Qs (by decide) b)))) (.str (fF (GS n))) ((congrArg (h_ _ _) (congrArg AV.int (Ah n))).trans (jf (DV (v9 n)) (by decide))) _ (bz rfl (Iu (I2 hi) (Iu (Js hlt) (Iu hl (Iv rfl))))) (Su _ ⟨_,_,rfl,?_,?_,?_⟩)
  . refine an h (aa (JL _ _ _) (aa (Kf hlt) ?_));rw[IM hlt]at hn;replace hn:=Iw hn;refine aa hn ?_
    rfl
  . haveI:=KW n (Kt hb (Qs (by decide) b):(0:Int)<b+2);exact MD this
  . exact aa IB (aa hi rfl)
noncomputable def qL (k:Nat):List Nat:=n5 k [34,70,34] [34,66,40,40,92,92,34] [34,41,67,92,34,34] [34,92,92,68,41,41,34] [34,69,32,41,92,92,92,34,34]
noncomputable def lF (k:Nat)(n:Int):Bool:=aZ (fF k) "F"&&decide (1<KV n 5)
noncomputable def hU (k:Nat)(n:Int):List Nat:=match lF k n with|true=>[70]|false=>qL k
noncomputable def bl (n:Int)(m:Int):Nat:=(KV (LC n m) 3).toNat
noncomputable def pV (b:Int)(g:Gr):List Nat:=II (b+1-g.2.1).toNat 41++II (bl g.2.2 7) 32++[40]++II (bl g.2.2 11) 32++hU g.1 g.2.2++II (bl g.2.2 13) 32
noncomputable def dG:Int->List Gr->List (List Nat)
 |b,[]=>[II (b+1).toNat 41]
 |b,g::r=>pV b g::dG g.2.1 r
noncomputable def l_:Int->List Gr->Prop
 |_,[]=>True
 |b,g::r=>g.1<5/\0<=g.2.1/\g.2.1<=b+1/\l_ g.2.1 r
theorem Ga:∀{b} (l),-1<=b->l_ b (gL b l):=by
 intro b Sl;induction Sl generalizing b with
 |nil=>intro Z;exact trivial
 |cons n r Sk=>intro h;have h0:(0:Int)<b+2:=LE (by decide) (MC h 2);haveI h1:=KW n h0;exact⟨v9 n,h1,N8 (aa (Mm _ _ _) (Md n h0)),Sk (JK (by decide) h1)⟩
theorem pW(h:k<5):Np (Np (fF k) "\\" "\\\\") "\"" "\\\""=S ((qL k).drop 1).dropLast/\iX (fF k) "\\" "\\\\"=true/\iX (Np (fF k) "\\" "\\\\") "\"" "\\\""=true:=cq k (by decide +kernel) (by decide +kernel) (by decide +kernel) (by decide +kernel) λZ=>(by decide +kernel:Np (Np (fF 4) "\\" "\\\\") "\"" "\\\""=S ((qL 4).drop 1).dropLast/\iX (fF 4) "\\" "\\\\"=true/\iX (Np (fF 4) "\\" "\\\\") "\"" "\\\""=true)
theorem CA:[34]++((qL k).drop 1).dropLast++[34]=qL k:=cq k rfl rfl rfl rfl λZ=>rfl
theorem pX(k):(qL k).length<=9:=cq k (by decide) (by decide) (by decide) (by decide) λZ=>IC 9
theorem kg(n m):bl n m<=2:=Q8.mpr (N8 (Md (LC n m) (by decide:(0:Int)<3)))
theorem pY(n m):KV (LC n m) 3<1000/\-1000<KV (LC n m) 3:=⟨MO (Md (LC n m) (by decide:(0:Int)<3)) (by decide),LE (by decide) (KW (LC n m) (by decide:(0:Int)<3))⟩
noncomputable def Hf:FD:=match bX "_law_pieces" with|some F=>F|.none=>⟨⟨[],[],.none,[],[],.none,[]⟩,[],⟨.function,[],false,false,[]⟩⟩
noncomputable def HO:List Ld:=(loopAt Hf.body 2).2.1.drop 2
inductive LP(gs:List Gr)(i:Nat):St->Prop
 |mk:ps++dG b (gs.drop i)=dG (-1) gs->-1<=b->b+1<=i->l_ b (gs.drop i)->ps.length=i->LP gs i (([("pieces",.ref 2),("before",.int b)]:Lo),([(2,.list (ps.map λl=>.str (S l))),(1,.list (gs.map jg))]:Hp))
theorem Ai{call:AV->Callee}{ps:List (List Nat)}{b d n:Int}{k:Nat}{l:List AV}(hp:ps.length<=1000)(hd:(b+1-d).toNat<=200)(hi:b+1-d<1000/\-1000<b+1-d){x:AV}(hx:x=.str (S (hU k n))){K':aD->St->Prop}
 (h:∀a x,K' .next (([("pieces",.ref 2),("before",.int d),("name",.str (fF k)),("depth",.int d),("number",.int n),("label",x),("ahead",a)]:Lo),([(2,.list ((ps.map λl=>.str (S l))++[.str (S (pV b (k,d,n)))])),(1,.list l)]:Hp))):
 sO (TT PL call) (bL (TT PL call) 18) ⟨Hf.sc,true,true⟩ noX HO (([("pieces",.ref 2),("before",.int b),("name",.str (fF k)),("depth",.int d),("number",.int n),("label",x)]:Lo),([(2,.list (ps.map λl=>.str (S l))),(1,.list l)]:Hp)) K':=by
 with_reducible refine aa hx ?_
 haveI ll:(hU k n).length<=9:=by unfold hU;induction lF k n with|false=>exact pX k|true=>refine(?_:1<=9);decide
 haveI b7:=kg n 7;have T_:=kg n 11;haveI b13:=kg n 13;refine ac.four _ (nI (n:=b+1-d) 41 (by decide +kernel) hi) _ (nI (n:=KV (LC n 7) 3) 32 (by decide +kernel) (pY n 7)) _ (je rfl rfl (by exact aa Jd (aa Jd (Iu (Jr hd b7) (by decide))))) _ (je (b:=[40]) rfl (by decide +kernel) (by exact aa IB (aa Jd (aa Jd (Iu (IS (Jr hd b7)) (by decide)))))) (ac.four _ (nI (n:=KV (LC n 11) 3) 32 (by decide +kernel) (pY n 11)) _ (je rfl rfl (by exact aa IB (aa IB (aa Jd (aa Jd (aa Jd (Iu (Jr (IS (Jr hd b7)) T_) (by decide)))))))) _ (je rfl rfl (by exact aa IB (aa IB (aa IB (aa Jd (aa Jd (aa Jd (Iu (Jr (Jr (IS (Jr hd b7)) T_) ll) (by decide))))))))) _ (nI (n:=KV (LC n 13) 3) 32 (by decide +kernel) (pY n 13)) ?_);exact ac.two _ (je rfl rfl (aa IB (aa IB (aa IB (aa IB (aa Jd (aa Jd (aa Jd (aa Jd (Iu (Jr (Jr (Jr (IS (Jr hd b7)) T_) ll) b13) (by decide))))))))))) _ (bz rfl (aa (Iz _) (Iu hp (by decide)))) (h _ _)
theorem pZ(i9)(gs:List Gr)(hl:gs.length<=100)(hg:l_ (-1) gs)(K Xk)(hK:K (.ref 2) [(2,.list ((dG (-1) gs).map λl=>.str (S l))),(1,.list (gs.map jg))]):aQ PL (i9+1) (.top 878) [.ref 1] [] [(1,.list (gs.map jg))] K Xk:=by
 refine ah (Je 20 (cQ (gs.map jg) (LP gs) ?h0 ?hc ?hE ?hS))
 case h0=>exact .mk (ps:=[]) rfl (by decide) (by decide) hg rfl
 case hc=>exact λi s h=>LP.casesOn h λZ Z Z Z Z=>rfl
 case hE=>
  intro s SB;refine LP.casesOn SB λ{ps b} h1 h2 h3 h4 h5=>?_;rw[Iz]at h1 h3 h5;rw[RD]at h1;refine ac.two _ (nI 41 (by decide +kernel) ⟨Kt h3 (KJ.mpr (I8 hl (Iv rfl))),LE (by decide) (MC h2 1)⟩) _ (bz rfl (aa (Iz _) (Iu (I2 h5) (Iu hl (Iv rfl))))) ?_;rw[<-h1,IR]at hK;exact hK
 case hS=>
  intro i x s K' hx SB Su;refine LP.casesOn SB λ{ps b} h1 h2 h3 h4 h5=>?_;obtain⟨g,hn,rfl⟩:∃g,gs[i]? =some g/\x=jg g:=by
   rw[I9]at hx;exact ae (JJ.mp hx) λn h1 h2=>⟨n,h1,h2.symm⟩
  have hlt:=(Jm.mp hn).1;rw[Kf hlt]at h1 h4;rw[IM hlt]at hn;rw[Iw hn]at h1 h4;obtain⟨k,d,n⟩:=g;obtain⟨g1,g2,g3,g4⟩:k<5/\0<=d/\d<=b+1/\l_ d (gs.drop (i+1)):=h4
  (haveI e1:=(pW g1).1;haveI e2:=(pW g1).2.1;haveI e3:=(pW g1).2.2)
  refine ac.four _ rfl () (by exact aa e2 rfl) _ rfl () (by exact aa e3 rfl) (ac.two _ (je (a:=[34]) (by decide +kernel) e1 (by simp;exact Iu (IZ (Iu (MF _ _) (Iu (MF _ _) (pX k))) 1) (Iv rfl))) _ (je (b:=[34]) rfl (by decide +kernel) (by have:=pX k;simp;exact Iu (by assumption) (Iv rfl))) ?_);haveI hp:ps.length<=1000:=by exact aa h5 (Iu (Js hlt) (Iu hl (by decide)))
  haveI hd:=JK (Int.sub_le_self _ g2) (JK h3 (JY.mpr (Js (Jc hlt hl))));haveI fin:∀a x,K' .next (([("pieces",.ref 2),("before",.int d),("name",.str (fF k)),("depth",.int d),("number",.int n),("label",x),("ahead",a)]:Lo),([(2,.list ((ps.map λl=>.str (S l))++[.str (S (pV b (k,d,n)))])),(1,.list (gs.map jg))]:Hp)):=λa x=>by
   exact aa (show(ps.map λl=>AV.str (S l))++[AV.str (S (pV b (k,d,n)))]=(ps++[pV b (k,d,n)]).map λl=>AV.str (S l)from by exact aa IR rfl) (Su _ (.mk (by exact aa (JL _ _ _) h1) (JK (by decide) g2) (MC (JK g3 h3) 1) g4 (by exact aa IB (aa h5 rfl))))
  have tl:∀{x:AV},x=.str (S (hU k n))->sO (TT PL (aQ PL i9)) (bL (TT PL (aQ PL i9)) 18) ⟨Hf.sc,true,true⟩ noX HO (([("pieces",.ref 2),("before",.int b),("name",.str (fF k)),("depth",.int d),("number",.int n),("label",x)]:Lo),([(2,.list (ps.map λl=>.str (S l))),(1,.list (gs.map jg))]:Hp)) K':=λhx=>Ai hp (Q8.mpr (JK hd (by decide))) ⟨Kt hd (by decide),LE (by decide) (KQ g3)⟩ hx fin;refine cJ.mk (λc1=>?_) (λc1=>?_)
  . refine cJ.mk (λc2=>?_) (λc2=>?_)
    . refine tl ?_;unfold hU lF;refine aa (show aZ (fF k) "F"=true from c1) (aa (show decide (1<KV n 5)=true from c2) ?_);exact congrArg AV.str ((aL.mp c1).trans (show("F")=S [70] by decide +kernel))
    . refine tl ?_;unfold hU lF;refine aa (show aZ (fF k) "F"=true from c1) (aa (show decide (1<KV n 5)=false from c2) (aa CA ?_))
      rfl
  . refine tl ?_;unfold hU lF;refine(show aZ (fF k) "F"=false from c1).symm▸(CA).symm▸?_
    rfl
set_option tactic.hygienic true
theorem tq(i)(w)(hp)(K Xk)(hK:K (.int 1) hp):aQ PL (i+1) (.top 191) [.int 1,.str w] [] hp K Xk:=ah (Je 20 hK)
noncomputable def fY (l:List Nat)(p:Nat):List (Str×AV):=[("_StringIO__newline",.str "\n"),("_StringIO__buf",.str (S l)),("_StringIO__pos",.int p)]
theorem jh(i)(x)(es)(n)(o1 o2)(K Xk)(hK:K (.str x) [(12,.inst 725 13),(13,.dict (("_StringIO__newline",.str "\n")::es) n),(10,.inst 860 11),(11,.dict [] 0),(2,o2),(1,o1)]):
 aQ PL (i+1) (.top 502) [.ref 12,.str x] [] [(12,.inst 725 13),(13,.dict (("_StringIO__newline",.str "\n")::es) n),(10,.inst 860 11),(11,.dict [] 0),(2,o2),(1,o1)] K Xk:=by
 exact ah (Je 20 hK)
theorem Aj(i)(x)(o1 o2)(K Xk)(hK:K (.ref 12) [(12,.inst 725 13),(13,.dict [] 0),(10,.inst 860 11),(11,.dict [] 0),(2,o2),(1,o1)]):
 aQ PL (i+1) (.top 218) [.top 725,.str x] [] [(10,.inst 860 11),(11,.dict [] 0),(2,o2),(1,o1)] K Xk:=by
 exact ah (ac.mk _ rfl (Je 20 hK))
theorem tu(i)(l)(o1 o2)(K Xk)(hK:K .none [(12,.inst 725 13),(13,.dict (fY l 0) 4),(10,.inst 860 11),(11,.dict [] 0),(2,o2),(1,o1)]):
 aQ PL (i+2) (.top 495) [.ref 12,.str (S l)] [] [(12,.inst 725 13),(13,.dict [] 0),(10,.inst 860 11),(11,.dict [] 0),(2,o2),(1,o1)] K Xk:=by
 exact ah (Je 20 (jh i (S l) _ _ o1 o2 _ _ hK))
theorem Ak(i)(l)(o1 o2)(K Xk)(hK:K (.ref 12) [(12,.inst 725 13),(13,.dict (fY l 0) 4),(10,.inst 860 11),(11,.dict [] 0),(2,o2),(1,o1)]):
 aQ PL (i+3) (.top 725) [.str (S l)] [] [(10,.inst 860 11),(11,.dict [] 0),(2,o2),(1,o1)] K Xk:=by
 refine ah (Aj (i+1) (S l) o1 o2 _ _ (tu i l o1 o2 _ _ ⟨rfl,?_⟩));exact hK
noncomputable def lG:Str:=("abcdfeghijklmnopqrstuvwxyzABCDEFGHIJKLMNOPQRSTUVWXYZ0123456789_":Str)++("ßàáâãäåæçèéêëìíîïðñòóôõöøùúûüýþÿÀÁÂÃÄÅÆÇÈÉÊËÌÍÎÏÐÑÒÓÔÕÖØÙÚÛÜÝÞ":Str)
noncomputable def lH:Str:=lG++("~-./*?=":Str)
theorem DW:DD (.str lH) (.tab [40,41])=some (.str lH):=by kernel_rfl
theorem p_(i)(l)(o1 o2)(K Xk)(hK:K .none [(17,.dict [("(",.none),(")",.none)] 0),(16,.deque []),(15,.deque []),(14,.deque []),(12,.inst 725 13),(13,.dict (fY l 0) 4),(10,.inst 860 11),(11,.dict [("instream",.ref 12),("infile",.none),("posix",.bool true),("eof",.none),("commenters",.str "#"),("wordchars",.str lH),("whitespace",.str " \t\r\n"),("whitespace_split",.bool false),("quotes",.str "'\""),("escape",.str "\\"),("escapedquotes",.str "\""),("state",.str " "),("pushback",.ref 14),("lineno",.int 1),("debug",.int 0),("token",.str ""),("filestack",.ref 15),("source",.none),("_punctuation_chars",.str "()"),("_pushback_chars",.ref 16)] 23),(2,o2),(1,o1)]):
 aQ PL (i+4) (.top 784) [.ref 10,.str (S l)] [("posix",.bool true),("punctuation_chars",.str "()")] [(10,.inst 860 11),(11,.dict [] 0),(2,o2),(1,o1)] K Xk:=by
 exact ah (Je 40 (Ak i l o1 o2 _ _ (ac.mk ([(12,.inst 725 13),(13,.dict (fY l 0) 4),(10,.inst 860 11),(11,.dict [("instream",.ref 12),("infile",.none),("posix",.bool true)] 3),(2,o2),(1,o1)]) (by kernel_rfl) (ac.mk ([(12,.inst 725 13),(13,.dict (fY l 0) 4),(10,.inst 860 11),(11,.dict [("instream",.ref 12),("infile",.none),("posix",.bool true),("eof",.none),("commenters",.str "#"),("wordchars",.str "abcdfeghijklmnopqrstuvwxyzABCDEFGHIJKLMNOPQRSTUVWXYZ0123456789_")] 6),(2,o2),(1,o1)]) (by kernel_rfl) (ac.two (.str "abcdfeghijklmnopqrstuvwxyzABCDEFGHIJKLMNOPQRSTUVWXYZ0123456789_") (by kernel_rfl) (.str lG) (by kernel_rfl) (ac.mk ([(12,.inst 725 13),(13,.dict (fY l 0) 4),(10,.inst 860 11),(11,.dict [("instream",.ref 12),("infile",.none),("posix",.bool true),("eof",.none),("commenters",.str "#"),("wordchars",.str lG)] 7),(2,o2),(1,o1)]) (by kernel_rfl) (ac.mk ([(12,.inst 725 13),(13,.dict (fY l 0) 4),(10,.inst 860 11),(11,.dict [("instream",.ref 12),("infile",.none),("posix",.bool true),("eof",.none),("commenters",.str "#"),("wordchars",.str lG),("whitespace",.str " \t\r\n"),("whitespace_split",.bool false),("quotes",.str "'\"")] 10),(2,o2),(1,o1)]) (by kernel_rfl) (ac.mk ([(12,.inst 725 13),(13,.dict (fY l 0) 4),(10,.inst 860 11),(11,.dict [("instream",.ref 12),("infile",.none),("posix",.bool true),("eof",.none),("commenters",.str "#"),("wordchars",.str lG),("whitespace",.str " \t\r\n"),("whitespace_split",.bool false),("quotes",.str "'\""),("escape",.str "\\"),("escapedquotes",.str "\""),("state",.str " ")] 13),(2,o2),(1,o1)]) (by kernel_rfl) (ac.mk ([(14,.deque []),(12,.inst 725 13),(13,.dict (fY l 0) 4),(10,.inst 860 11),(11,.dict [("instream",.ref 12),("infile",.none),("posix",.bool true),("eof",.none),("commenters",.str "#"),("wordchars",.str lG),("whitespace",.str " \t\r\n"),("whitespace_split",.bool false),("quotes",.str "'\""),("escape",.str "\\"),("escapedquotes",.str "\""),("state",.str " "),("pushback",.ref 14),("lineno",.int 1),("debug",.int 0)] 16),(2,o2),(1,o1)]) (by kernel_rfl) (ac.mk ([(15,.deque []),(14,.deque []),(12,.inst 725 13),(13,.dict (fY l 0) 4),(10,.inst 860 11),(11,.dict [("instream",.ref 12),("infile",.none),("posix",.bool true),("eof",.none),("commenters",.str "#"),("wordchars",.str lG),("whitespace",.str " \t\r\n"),("whitespace_split",.bool false),("quotes",.str "'\""),("escape",.str "\\"),("escapedquotes",.str "\""),("state",.str " "),("pushback",.ref 14),("lineno",.int 1),("debug",.int 0),("token",.str ""),("filestack",.ref 15),("source",.none)] 19),(2,o2),(1,o1)]) (by kernel_rfl) (ac.three ([(16,.deque []),(15,.deque []),(14,.deque []),(12,.inst 725 13),(13,.dict (fY l 0) 4),(10,.inst 860 11),(11,.dict [("instream",.ref 12),("infile",.none),("posix",.bool true),("eof",.none),("commenters",.str "#"),("wordchars",.str lG),("whitespace",.str " \t\r\n"),("whitespace_split",.bool false),("quotes",.str "'\""),("escape",.str "\\"),("escapedquotes",.str "\""),("state",.str " "),("pushback",.ref 14),("lineno",.int 1),("debug",.int 0),("token",.str ""),("filestack",.ref 15),("source",.none),("_punctuation_chars",.str "()"),("_pushback_chars",.ref 16)] 21),(2,o2),(1,o1)]) (by kernel_rfl) (.str lG) (by kernel_rfl) (.str lH) (by kernel_rfl) (ac.mk ([(16,.deque []),(15,.deque []),(14,.deque []),(12,.inst 725 13),(13,.dict (fY l 0) 4),(10,.inst 860 11),(11,.dict [("instream",.ref 12),("infile",.none),("posix",.bool true),("eof",.none),("commenters",.str "#"),("wordchars",.str lH),("whitespace",.str " \t\r\n"),("whitespace_split",.bool false),("quotes",.str "'\""),("escape",.str "\\"),("escapedquotes",.str "\""),("state",.str " "),("pushback",.ref 14),("lineno",.int 1),("debug",.int 0),("token",.str ""),("filestack",.ref 15),("source",.none),("_punctuation_chars",.str "()"),("_pushback_chars",.ref 16)] 22),(2,o2),(1,o1)]) (by kernel_rfl) (ac.two (.str lH) DW ([(17,.dict [("(",.none),(")",.none)] 0),(16,.deque []),(15,.deque []),(14,.deque []),(12,.inst 725 13),(13,.dict (fY l 0) 4),(10,.inst 860 11),(11,.dict [("instream",.ref 12),("infile",.none),("posix",.bool true),("eof",.none),("commenters",.str "#"),("wordchars",.str lH),("whitespace",.str " \t\r\n"),("whitespace_split",.bool false),("quotes",.str "'\""),("escape",.str "\\"),("escapedquotes",.str "\""),("state",.str " "),("pushback",.ref 14),("lineno",.int 1),("debug",.int 0),("token",.str ""),("filestack",.ref 15),("source",.none),("_punctuation_chars",.str "()"),("_pushback_chars",.ref 16)] 23),(2,o2),(1,o1)]) (by kernel_rfl) hK)))))))))))))
noncomputable def Id (sta:AV)(tok:List Nat):List (Str×AV):=[("instream",.ref 12),("infile",.none),("posix",.bool true),("eof",.none),("commenters",.str "#"),("wordchars",.str lH),("whitespace",.str " \t\r\n"),("whitespace_split",.bool false),("quotes",.str "'\""),("escape",.str "\\"),("escapedquotes",.str "\""),("state",sta),("pushback",.ref 14),("lineno",.int 1),("debug",.int 0),("token",.str (S tok)),("filestack",.ref 15),("source",.none),("_punctuation_chars",.str "()"),("_pushback_chars",.ref 16)]
noncomputable def v_ (l:List Nat)(p:Nat)(sta:AV)(tok:List Nat)(pb:List AV)(n1 n2:Nat)(o1 o2:AO):Hp:=[(17,.dict [("(",.none),(")",.none)] 0),(16,.deque pb),(15,.deque []),(14,.deque []),(12,.inst 725 13),(13,.dict (fY l p) n1),(10,.inst 860 11),(11,.dict (Id sta tok) n2),(2,o2),(1,o1)]
noncomputable def al (l:List Nat)(p:Nat)(sta:AV)(tok:List Nat)(pb:List AV)(n1 n2:Nat)(o1 o2 o3:AO):Hp:=(3,o3)::v_ l p sta tok pb n1 n2 o1 o2
theorem tw(i)(l)(o1 o2)(K Xk)(hK:K (.ref 10) (v_ l 0 (.str " ") [] [] 4 23 o1 o2)):
 aQ PL (i+5) (.top 860) [.str (S l)] [("posix",.bool true),("punctuation_chars",.str "()")] [(2,o2),(1,o1)] K Xk:=by
 refine ah ?_
 conv=>whnf
 refine⟨10,11,?_⟩;refine p_ i l o1 o2 _ _ ⟨rfl,?_⟩;exact hK
theorem tx(i)(l)(p)(sta)(tok)(pb)(n1 n2)(o1 o2 o3)(K Xk)(hK:K .none (al l p sta tok pb n1 n2 o1 o2 o3)):aQ PL (i+1) (.top 509) [.ref 12] [] (al l p sta tok pb n1 n2 o1 o2 o3) K Xk:=ah (Je 20 hK)
theorem DX(hl:l.length<=1000000):o8 hp (.str (S l))=some (l.length:Int):=by refine(?_:(gd (ai (S l).length) (some ((S l).length:Int))).or _=_);exact aa (eU _) (aa (ak hl) rfl)
theorem nJ{hp:Hp}{l:List Nat}{p:Nat}{c:Nat}(h:l[p]? =some c)(hl:l.length<=1000000):oG hp (.str (S l)) (some (p:Int)) (some ((p:Int)+1))=some (.str (S [c])):=by
 have hp:=(Jm.mp h).1;refine(?_:gd (ai (S l).length) (some (AV.str (S (cut l (some (p:Int)) (some ((p:Int)+1))))))=_);refine aa (eU _) (aa (ak hl) ?_);have:cut l (some (p:Int)) (some ((p:Int)+1))=[c]:=by unfold cut;refine aa (by unfold Og;simp only;rw[if_neg (Mx p)];exact J8 (Js hp):Og (some (p:Int)) l.length=p) (aa (by unfold N1;simp only;refine aa (if_neg (of_decide_eq_false rfl)) ?_;exact J8 hp:N1 (some ((p:Int)+1)) l.length=p+1) (aa (PP p 1:p+1-p=1) (aa (Kf hp) ?_)));rw[IM hp]at h;exact aa (Iw h) rfl
 refine aa this ?_
 rfl
theorem wa(i)(l)(hl:l.length<=1000000)(p)(sta)(tok)(pb)(n1 n2)(o1 o2 o3:AO)(K Xk)(hK:match l[p]? with|some c=>K (.str (S [c])) (al l (p+1) sta tok pb (n1+1) n2 o1 o2 o3)|.none=>K (.str "") (al l p sta tok pb n1 n2 o1 o2 o3)):
 aQ PL (i+2) (.top 671) [.ref 12,.int 1] [] (al l p sta tok pb n1 n2 o1 o2 o3) K Xk:=by
 refine ah (Je 20 (tq i _ _ _ _ (tx i _ _ _ _ _ _ _ _ _ _ _ _ (ac.mk _ (DX hl) (cJ.mk (λc=>?_) (λc=>?_))))))
 . have c:decide ((l.length:Int)<=(p:Int))=true:=c;rw[La (by have:=of_decide_eq_true c;exact JY.mp this)]at hK;exact hK
 . have c:decide ((l.length:Int)<=(p:Int))=false:=c;have hp:p<l.length:=by have:=of_decide_eq_false c;exact Pr λq=>this (JY.mpr q)
   have hc:=IM hp;rw[hc]at hK;refine cJ.mk (λZ=>?_) (λc=>absurd c (by decide));refine cJ.mk (λc=>?_) (λc=>?_)
   . refine ac.mk _ (nJ hc hl) ?_;exact hK
   . have c:decide ((p:Int)+1<(l.length:Int))=false:=c;have e:l.length=p+1:=by have:=of_decide_eq_false c;exact LO (RK λq=>this (KJ.mpr q)) hp
     refine ac.mk (.str (S [l[p]])) (by exact aa e (nJ hc hl)) ?_
     conv=>whnf
     exact aa e hK
set_option tactic.hygienic false
noncomputable def cZ:FD:=match cB "shlex" "read_token" with|some F=>F|.none=>⟨⟨[],[],.none,[],[],.none,[]⟩,[],⟨.function,[],false,false,[]⟩⟩
noncomputable def dD:List Ld:=(loopAt cZ.body 2).2.1
theorem tz(i:Nat)(l:List Nat)(p:Nat)(sta:AV)(tok:List Nat)(pb:List AV)(n1 n2:Nat)(o1 o2 o3:AO)(K Xk)(hK:K (.str "()") (al l p sta tok pb n1 n2 o1 o2 o3)):aQ PL (i+1) (.top 791) [.ref 10] [] (al l p sta tok pb n1 n2 o1 o2 o3) K Xk:=by refine ah ?_;exact⟨20,hK⟩
noncomputable def dY (qd:Bool)(es:Str)(c:Str):Lo:=[("self",.ref 10),("quoted",.bool qd),("escapedstate",.str es),("nextchar",.str c)]
noncomputable def bq (qd:Bool)(es:Str):Lo:=[("self",.ref 10),("quoted",.bool qd),("escapedstate",.str es)]
noncomputable def Hg (c:Nat):Bool:=c==70
theorem eV{hp:Hp}{nt:Jn->Bool}{c:Nat}(h:c∈[70,40,41,34,32,92]):oy nt hp .In (.str (S [c])) (.str lH)=some (Hg c):=by
 simp only[IJ,IA,or_false]at h;rcases h with rfl|rfl|rfl|rfl|rfl|rfl<;>kernel_rfl
section
variable {P:Places}{call:AV->Callee}{l:List Nat}{p:Nat}{sta:AV}{tok:List Nat}{pb:List AV}{n1 n2:Nat}{o1 o2 o3:AO}
theorem aJ{x:Str}(t:List Nat)(h:x=S t):gz (TT P call) (.ref 10) "token" (.str x) (al l p sta tok pb n1 n2 o1 o2 o3)=some (al l p sta t pb n1 (n2+1) o1 o2 o3):=by subst h;rfl
theorem aN(a:AV):gz (TT P call) (.ref 10) "state" a (al l p sta tok pb n1 n2 o1 o2 o3)=some (al l p a tok pb n1 (n2+1) o1 o2 o3):=rfl
theorem a_:iO (TT P call) (.ref 10) "token" (al l p sta tok pb n1 n2 o1 o2 o3)=some (.str (S tok)):=rfl
theorem lI(a:AV):u6 (al l p sta tok [a] n1 n2 o1 o2 o3) (.ref 16)=some (a,al l p sta tok [] n1 n2 o1 o2 o3):=rfl
theorem iz(a:AV):u5 (al l p sta tok [] n1 n2 o1 o2 o3) (.ref 16) a=some (al l p sta tok [a] n1 n2 o1 o2 o3):=rfl
theorem iA(h:tok≠[])(hl:tok.length<=1000000){hp:Hp}:d8 hp (.str (S tok))=some true:=by
 cases tok with
 |nil=>exact absurd rfl h
 |cons t ts=>
  show((gd (ai (S (t::ts)).length) (some (!IT (S (t::ts)).length 0))).or _)=_
  exact aa (eU _) (aa (ak hl) rfl)
theorem bC{x:Str}(t:List Nat)(h:x=S t)(hl:tok.length+t.length<=1000000):uQ .Add (.str (S tok)) (.str x)=some (.str (S (tok++t))):=by
 subst h;show(gd (ai ((S tok).length+(S t).length)) (some (AV.str (S tok++S t))))=_
 exact aa (eU _) (aa (eU _) (aa (ak hl) (aa (rA _ _) rfl)))
end
def fZ (call:AV->Callee):Prop:=∀{l:List Nat} {p:Nat} {sta:AV} {tok:List Nat} {pb:List AV} {n1 n2:Nat} {o1 o2 o3:AO} {K Xk},K (.str "()") (al l p sta tok pb n1 n2 o1 o2 o3)->call (.top 791) [.ref 10] [] (al l p sta tok pb n1 n2 o1 o2 o3) K Xk
def fw (call:AV->Callee):Prop:=∀{l:List Nat} {p:Nat} {sta:AV} {tok:List Nat} {pb:List AV} {n1 n2:Nat} {o1 o2 o3:AO} {K Xk},l.length<=1000000->
 (match l[p]? with|some c=>K (.str (S [c])) (al l (p+1) sta tok pb (n1+1) n2 o1 o2 o3)|.none=>K (.str "") (al l p sta tok pb n1 n2 o1 o2 o3))->call (.top 671) [.ref 12,.int 1] [] (al l p sta tok pb n1 n2 o1 o2 o3) K Xk
theorem eO{call:AV->Callee}(hR:fw call){l:List Nat}(hl:l.length<=1000000){p c:Nat}(hc:l[p]? =some c){sta:AV}{tok:List Nat}{pb:List AV}{n1 n2:Nat}{o1 o2 o3:AO}{K Xk}(h:K (.str (S [c])) (al l (p+1) sta tok pb (n1+1) n2 o1 o2 o3)):call (.top 671) [.ref 12,.int 1] [] (al l p sta tok pb n1 n2 o1 o2 o3) K Xk:=hR hl (by exact aa hc h)
theorem DY{call:AV->Callee}(hR:fw call){l:List Nat}(hl:l.length<=1000000){p:Nat}(hc:l[p]? =.none){sta:AV}{tok:List Nat}{pb:List AV}{n1 n2:Nat}{o1 o2 o3:AO}{K Xk}(h:K (.str "") (al l p sta tok pb n1 n2 o1 o2 o3)):call (.top 671) [.ref 12,.int 1] [] (al l p sta tok pb n1 n2 o1 o2 o3) K Xk:=hR hl (by exact aa hc h)
section
variable {call:AV->Callee}(hP:fZ call)(hR:fw call){l:List Nat}(hl:l.length<=1000000){p:Nat}{n1 n2:Nat}{o1 o2 o3:AO}{K':aD->St->Prop}
include hP
theorem nK{es:Str}(h:K' .next (dY false es (S [40]),al l p (.str "c") [40] [] n1 (n2+2) o1 o2 o3)):
 (bL (TT PL call) 38).exs ⟨cZ.sc,true,true⟩ noX dD (bq false es,al l p (.str " ") [] [.str (S [40])] n1 n2 o1 o2 o3) K':=by
 refine hP (Jp rfl ?_);refine ac.mk (AV.str (S [40]),_) (lI _) ?_;refine a8.mk rfl (AV.str lH) rfl ?_;refine ac.mk _ (eV (c:=40) (by decide)) ?_;refine hP (Jp rfl ?_);refine ac.two _ (aJ [40] rfl) _ (aN _) ?_;exact h
theorem nM{es:Str}(h:K' .next (dY false es (S [41]),al l p (.str "c") [41] [] n1 (n2+2) o1 o2 o3)):
 (bL (TT PL call) 38).exs ⟨cZ.sc,true,true⟩ noX dD (bq false es,al l p (.str " ") [] [.str (S [41])] n1 n2 o1 o2 o3) K':=by
 refine hP (Jp rfl ?_);refine ac.mk (AV.str (S [41]),_) (lI _) ?_;refine a8.mk rfl (AV.str lH) rfl ?_;refine ac.mk _ (eV (c:=41) (by decide)) ?_;refine hP (Jp rfl ?_);refine ac.two _ (aJ [41] rfl) _ (aN _) ?_;exact h
theorem nN{es:Str}(h:K' .next (dY false es (S [70]),al l p (.str "a") [70] [] n1 (n2+2) o1 o2 o3)):
 (bL (TT PL call) 38).exs ⟨cZ.sc,true,true⟩ noX dD (bq false es,al l p (.str " ") [] [.str (S [70])] n1 n2 o1 o2 o3) K':=by
 refine hP (Jp rfl ?_);refine ac.mk (AV.str (S [70]),_) (lI _) ?_;refine a8.mk rfl (AV.str lH) rfl ?_;refine ac.mk _ (eV (c:=70) (by decide)) ?_;refine ac.two _ (aJ [70] rfl) _ (aN _) ?_;exact h
theorem nO{es:Str}(h:K' .next (dY false es (S [34]),al l p (.str (S [34])) [] [] n1 (n2+1) o1 o2 o3)):
 (bL (TT PL call) 38).exs ⟨cZ.sc,true,true⟩ noX dD (bq false es,al l p (.str " ") [] [.str (S [34])] n1 n2 o1 o2 o3) K':=by
 refine hP (Jp rfl ?_);refine ac.mk (AV.str (S [34]),_) (lI _) ?_;refine a8.mk rfl (AV.str lH) rfl ?_;refine ac.mk _ (eV (c:=34) (by decide)) ?_;refine hP (Jp rfl ?_);refine ac.mk _ (aN _) ?_;exact h
include hR hl
theorem wb{es:Str}(hc:l[p]? =some 32)(h:K' .cont (dY false es (S [32]),al l (p+1) (.str " ") [] [] (n1+1) n2 o1 o2 o3)):
 (bL (TT PL call) 38).exs ⟨cZ.sc,true,true⟩ noX dD (bq false es,al l p (.str " ") [] [] n1 n2 o1 o2 o3) K':=by
 refine hP (Jp rfl ?_);refine eO hR hl hc ?_;exact h
theorem wc{es:Str}(hc:l[p]? =some 34)(h:K' .next (dY false es (S [34]),al l (p+1) (.str (S [34])) [] [] (n1+1) (n2+1) o1 o2 o3)):
 (bL (TT PL call) 38).exs ⟨cZ.sc,true,true⟩ noX dD (bq false es,al l p (.str " ") [] [] n1 n2 o1 o2 o3) K':=by
 refine hP (Jp rfl ?_);refine eO hR hl hc ?_;refine a8.mk rfl (AV.str lH) rfl ?_;refine ac.mk _ (eV (c:=34) (by decide)) ?_;refine hP (Jp rfl ?_);refine ac.mk _ (aN _) ?_;exact h
theorem we{es:Str}(hc:l[p]? =some 70)(h:K' .next (dY false es (S [70]),al l (p+1) (.str "a") [70] [] (n1+1) (n2+2) o1 o2 o3)):
 (bL (TT PL call) 38).exs ⟨cZ.sc,true,true⟩ noX dD (bq false es,al l p (.str " ") [] [] n1 n2 o1 o2 o3) K':=by
 refine hP (Jp rfl ?_);refine eO hR hl hc ?_;refine a8.mk rfl (AV.str lH) rfl ?_;refine ac.mk _ (eV (c:=70) (by decide)) ?_;refine ac.two _ (aJ [70] rfl) _ (aN _) ?_;exact h
theorem wf{es:Str}(hc:l[p]? =some 40)(h:K' .next (dY false es (S [40]),al l (p+1) (.str "c") [40] [] (n1+1) (n2+2) o1 o2 o3)):
 (bL (TT PL call) 38).exs ⟨cZ.sc,true,true⟩ noX dD (bq false es,al l p (.str " ") [] [] n1 n2 o1 o2 o3) K':=by
 refine hP (Jp rfl ?_);refine eO hR hl hc ?_;refine a8.mk rfl (AV.str lH) rfl ?_;refine ac.mk _ (eV (c:=40) (by decide)) ?_;refine hP (Jp rfl ?_);refine ac.two _ (aJ [40] rfl) _ (aN _) ?_;exact h
theorem wg{es:Str}(hc:l[p]? =some 41)(h:K' .next (dY false es (S [41]),al l (p+1) (.str "c") [41] [] (n1+1) (n2+2) o1 o2 o3)):
 (bL (TT PL call) 38).exs ⟨cZ.sc,true,true⟩ noX dD (bq false es,al l p (.str " ") [] [] n1 n2 o1 o2 o3) K':=by
 refine hP (Jp rfl ?_);refine eO hR hl hc ?_;refine a8.mk rfl (AV.str lH) rfl ?_;refine ac.mk _ (eV (c:=41) (by decide)) ?_;refine hP (Jp rfl ?_);refine ac.two _ (aJ [41] rfl) _ (aN _) ?_;exact h
theorem tA{es:Str}(hc:l[p]? =none)(h:K' .brk (dY false es "",al l p (.none) [] [] n1 (n2+1) o1 o2 o3)):
 (bL (TT PL call) 38).exs ⟨cZ.sc,true,true⟩ noX dD (bq false es,al l p (.str " ") [] [] n1 n2 o1 o2 o3) K':=by
 refine hP (Jp rfl ?_);refine DY hR hl hc ?_;refine ac.mk _ (aN _) ?_;exact h
theorem Al{tok:List Nat}{qd:Bool}{es:Str}(hc:l[p]? =some 34)(h:K' .next (dY true es (S [34]),al l (p+1) (.str "a") tok [] (n1+1) (n2+1) o1 o2 o3)):
 (bL (TT PL call) 38).exs ⟨cZ.sc,true,true⟩ noX dD (bq qd es,al l p (.str (S [34])) tok [] n1 n2 o1 o2 o3) K':=by
 refine hP (Jp rfl ?_);refine eO hR hl hc ?_;refine ac.mk _ (aN _) ?_;exact h
theorem Am{tok:List Nat}{qd:Bool}{es:Str}(hc:l[p]? =some 92)(h:K' .next (dY true (S [34]) (S [92]),al l (p+1) (.str (S [92])) tok [] (n1+1) (n2+1) o1 o2 o3)):
 (bL (TT PL call) 38).exs ⟨cZ.sc,true,true⟩ noX dD (bq qd es,al l p (.str (S [34])) tok [] n1 n2 o1 o2 o3) K':=by
 refine hP (Jp rfl ?_);refine eO hR hl hc ?_;refine ac.mk _ (aN _) ?_;exact h
theorem An{tok:List Nat}{qd:Bool}{es:Str}(hk:tok.length+1<=1000000)(hc:l[p]? =some 66)(h:K' .next (dY true es (S [66]),al l (p+1) (.str (S [34])) (tok++[66]) [] (n1+1) (n2+1) o1 o2 o3)):
 (bL (TT PL call) 38).exs ⟨cZ.sc,true,true⟩ noX dD (bq qd es,al l p (.str (S [34])) tok [] n1 n2 o1 o2 o3) K':=by
 refine hP (Jp rfl ?_);refine eO hR hl hc ?_;refine ac.three _ a_ _ (bC [66] rfl hk) _ (aJ (tok++[66]) rfl) ?_;exact h
theorem Ao{tok:List Nat}{qd:Bool}{es:Str}(hk:tok.length+1<=1000000)(hc:l[p]? =some 67)(h:K' .next (dY true es (S [67]),al l (p+1) (.str (S [34])) (tok++[67]) [] (n1+1) (n2+1) o1 o2 o3)):
 (bL (TT PL call) 38).exs ⟨cZ.sc,true,true⟩ noX dD (bq qd es,al l p (.str (S [34])) tok [] n1 n2 o1 o2 o3) K':=by
 refine hP (Jp rfl ?_);refine eO hR hl hc ?_;refine ac.three _ a_ _ (bC [67] rfl hk) _ (aJ (tok++[67]) rfl) ?_;exact h
theorem Ap{tok:List Nat}{qd:Bool}{es:Str}(hk:tok.length+1<=1000000)(hc:l[p]? =some 68)(h:K' .next (dY true es (S [68]),al l (p+1) (.str (S [34])) (tok++[68]) [] (n1+1) (n2+1) o1 o2 o3)):
 (bL (TT PL call) 38).exs ⟨cZ.sc,true,true⟩ noX dD (bq qd es,al l p (.str (S [34])) tok [] n1 n2 o1 o2 o3) K':=by
 refine hP (Jp rfl ?_);refine eO hR hl hc ?_;refine ac.three _ a_ _ (bC [68] rfl hk) _ (aJ (tok++[68]) rfl) ?_;exact h
theorem Aq{tok:List Nat}{qd:Bool}{es:Str}(hk:tok.length+1<=1000000)(hc:l[p]? =some 69)(h:K' .next (dY true es (S [69]),al l (p+1) (.str (S [34])) (tok++[69]) [] (n1+1) (n2+1) o1 o2 o3)):
 (bL (TT PL call) 38).exs ⟨cZ.sc,true,true⟩ noX dD (bq qd es,al l p (.str (S [34])) tok [] n1 n2 o1 o2 o3) K':=by
 refine hP (Jp rfl ?_);refine eO hR hl hc ?_;refine ac.three _ a_ _ (bC [69] rfl hk) _ (aJ (tok++[69]) rfl) ?_;exact h
theorem Ar{tok:List Nat}{qd:Bool}{es:Str}(hk:tok.length+1<=1000000)(hc:l[p]? =some 70)(h:K' .next (dY true es (S [70]),al l (p+1) (.str (S [34])) (tok++[70]) [] (n1+1) (n2+1) o1 o2 o3)):
 (bL (TT PL call) 38).exs ⟨cZ.sc,true,true⟩ noX dD (bq qd es,al l p (.str (S [34])) tok [] n1 n2 o1 o2 o3) K':=by
 refine hP (Jp rfl ?_);refine eO hR hl hc ?_;refine ac.three _ a_ _ (bC [70] rfl hk) _ (aJ (tok++[70]) rfl) ?_;exact h
theorem As{tok:List Nat}{qd:Bool}{es:Str}(hk:tok.length+1<=1000000)(hc:l[p]? =some 32)(h:K' .next (dY true es (S [32]),al l (p+1) (.str (S [34])) (tok++[32]) [] (n1+1) (n2+1) o1 o2 o3)):
 (bL (TT PL call) 38).exs ⟨cZ.sc,true,true⟩ noX dD (bq qd es,al l p (.str (S [34])) tok [] n1 n2 o1 o2 o3) K':=by
 refine hP (Jp rfl ?_);refine eO hR hl hc ?_;refine ac.three _ a_ _ (bC [32] rfl hk) _ (aJ (tok++[32]) rfl) ?_;exact h
theorem At{tok:List Nat}{qd:Bool}{es:Str}(hk:tok.length+1<=1000000)(hc:l[p]? =some 40)(h:K' .next (dY true es (S [40]),al l (p+1) (.str (S [34])) (tok++[40]) [] (n1+1) (n2+1) o1 o2 o3)):
 (bL (TT PL call) 38).exs ⟨cZ.sc,true,true⟩ noX dD (bq qd es,al l p (.str (S [34])) tok [] n1 n2 o1 o2 o3) K':=by
 refine hP (Jp rfl ?_);refine eO hR hl hc ?_;refine ac.three _ a_ _ (bC [40] rfl hk) _ (aJ (tok++[40]) rfl) ?_;exact h
theorem Au{tok:List Nat}{qd:Bool}{es:Str}(hk:tok.length+1<=1000000)(hc:l[p]? =some 41)(h:K' .next (dY true es (S [41]),al l (p+1) (.str (S [34])) (tok++[41]) [] (n1+1) (n2+1) o1 o2 o3)):
 (bL (TT PL call) 38).exs ⟨cZ.sc,true,true⟩ noX dD (bq qd es,al l p (.str (S [34])) tok [] n1 n2 o1 o2 o3) K':=by
 refine hP (Jp rfl ?_);refine eO hR hl hc ?_;refine ac.three _ a_ _ (bC [41] rfl hk) _ (aJ (tok++[41]) rfl) ?_;exact h
theorem Av{tok:List Nat}{qd:Bool}(hk:tok.length+1<=1000000)(hc:l[p]? =some 92)(h:K' .next (dY qd (S [34]) (S [92]),al l (p+1) (.str (S [34])) (tok++[92]) [] (n1+1) (n2+2) o1 o2 o3)):
 (bL (TT PL call) 38).exs ⟨cZ.sc,true,true⟩ noX dD (bq qd (S [34]),al l p (.str (S [92])) tok [] n1 n2 o1 o2 o3) K':=by
 refine hP (Jp rfl ?_);refine eO hR hl hc ?_;refine ac.four _ a_ _ (bC [92] rfl hk) _ (aJ (tok++[92]) rfl) _ (aN _) ?_;exact h
theorem Aw{tok:List Nat}{qd:Bool}(hk:tok.length+1<=1000000)(hc:l[p]? =some 34)(h:K' .next (dY qd (S [34]) (S [34]),al l (p+1) (.str (S [34])) (tok++[34]) [] (n1+1) (n2+2) o1 o2 o3)):
 (bL (TT PL call) 38).exs ⟨cZ.sc,true,true⟩ noX dD (bq qd (S [34]),al l p (.str (S [92])) tok [] n1 n2 o1 o2 o3) K':=by
 refine hP (Jp rfl ?_);refine eO hR hl hc ?_;refine ac.four _ a_ _ (bC [34] rfl hk) _ (aJ (tok++[34]) rfl) _ (aN _) ?_;exact h
theorem Ax{tok:List Nat}{qd:Bool}{es:Str}(ht:tok≠[])(hk:tok.length<=1000000)(hc:l[p]? =some 32)(h:K' .brk (dY qd es (S [32]),al l (p+1) (.str " ") tok [] (n1+1) (n2+1) o1 o2 o3)):
 (bL (TT PL call) 38).exs ⟨cZ.sc,true,true⟩ noX dD (bq qd es,al l p (.str "a") tok [] n1 n2 o1 o2 o3) K':=by
 refine hP (Jp rfl ?_);refine eO hR hl hc ?_;refine ac.mk _ (aN _) ?_;refine a8.mk rfl _ a_ ?_;refine ac.mk _ (iA ht hk) ?_;exact h
theorem Ay{tok:List Nat}{qd:Bool}{es:Str}(ht:tok≠[])(hk:tok.length<=1000000)(hc:l[p]? =some 40)(h:K' .brk (dY qd es (S [40]),al l (p+1) (.str " ") tok [.str (S [40])] (n1+1) (n2+1) o1 o2 o3)):
 (bL (TT PL call) 38).exs ⟨cZ.sc,true,true⟩ noX dD (bq qd es,al l p (.str "a") tok [] n1 n2 o1 o2 o3) K':=by
 refine hP (Jp rfl ?_);refine eO hR hl hc ?_;refine a8.mk rfl (AV.str lH) rfl ?_;refine ac.mk _ (eV (c:=40) (by decide)) ?_;refine hP (Jp rfl ?_);refine ac.mk _ (iz _) ?_;refine ac.mk _ (aN _) ?_;refine a8.mk rfl _ a_ ?_;refine ac.mk _ (iA ht hk) ?_;exact h
theorem Az{tok:List Nat}{qd:Bool}{es:Str}(ht:tok≠[])(hk:tok.length<=1000000)(hc:l[p]? =some 41)(h:K' .brk (dY qd es (S [41]),al l (p+1) (.str " ") tok [.str (S [41])] (n1+1) (n2+1) o1 o2 o3)):
 (bL (TT PL call) 38).exs ⟨cZ.sc,true,true⟩ noX dD (bq qd es,al l p (.str "a") tok [] n1 n2 o1 o2 o3) K':=by
 refine hP (Jp rfl ?_);refine eO hR hl hc ?_;refine a8.mk rfl (AV.str lH) rfl ?_;refine ac.mk _ (eV (c:=41) (by decide)) ?_;refine hP (Jp rfl ?_);refine ac.mk _ (iz _) ?_;refine ac.mk _ (aN _) ?_;refine a8.mk rfl _ a_ ?_;refine ac.mk _ (iA ht hk) ?_;exact h
theorem AA{tok:List Nat}{qd:Bool}{es:Str}(ht:tok≠[])(hk:tok.length<=1000000)(hc:l[p]? =some 32)(h:K' .brk (dY qd es (S [32]),al l (p+1) (.str " ") tok [] (n1+1) (n2+1) o1 o2 o3)):
 (bL (TT PL call) 38).exs ⟨cZ.sc,true,true⟩ noX dD (bq qd es,al l p (.str "c") tok [] n1 n2 o1 o2 o3) K':=by
 refine hP (Jp rfl ?_);refine eO hR hl hc ?_;refine ac.mk _ (aN _) ?_;refine a8.mk rfl _ a_ ?_;refine ac.mk _ (iA ht hk) ?_;exact h
theorem AB{tok:List Nat}{qd:Bool}{es:Str}(hk:tok.length+1<=1000000)(hc:l[p]? =some 40)(h:K' .next (dY qd es (S [40]),al l (p+1) (.str "c") (tok++[40]) [] (n1+1) (n2+1) o1 o2 o3)):
 (bL (TT PL call) 38).exs ⟨cZ.sc,true,true⟩ noX dD (bq qd es,al l p (.str "c") tok [] n1 n2 o1 o2 o3) K':=by
 refine hP (Jp rfl ?_);refine eO hR hl hc ?_;refine hP (Jp rfl ?_);refine ac.three _ a_ _ (bC [40] rfl hk) _ (aJ (tok++[40]) rfl) ?_;exact h
theorem AC{tok:List Nat}{qd:Bool}{es:Str}(hk:tok.length+1<=1000000)(hc:l[p]? =some 41)(h:K' .next (dY qd es (S [41]),al l (p+1) (.str "c") (tok++[41]) [] (n1+1) (n2+1) o1 o2 o3)):
 (bL (TT PL call) 38).exs ⟨cZ.sc,true,true⟩ noX dD (bq qd es,al l p (.str "c") tok [] n1 n2 o1 o2 o3) K':=by
 refine hP (Jp rfl ?_);refine eO hR hl hc ?_;refine hP (Jp rfl ?_);refine ac.three _ a_ _ (bC [41] rfl hk) _ (aJ (tok++[41]) rfl) ?_;exact h
theorem AD{tok:List Nat}{qd:Bool}{es:Str}(hc:l[p]? =some 70)(h:K' .brk (dY qd es (S [70]),al l (p+1) (.str " ") tok [.str (S [70])] (n1+1) (n2+1) o1 o2 o3)):
 (bL (TT PL call) 38).exs ⟨cZ.sc,true,true⟩ noX dD (bq qd es,al l p (.str "c") tok [] n1 n2 o1 o2 o3) K':=by
 refine hP (Jp rfl ?_);refine eO hR hl hc ?_;refine hP (Jp rfl ?_);refine ac.two _ (iz _) _ (aN _) ?_;exact h
theorem AE{tok:List Nat}{qd:Bool}{es:Str}(hc:l[p]? =some 34)(h:K' .brk (dY qd es (S [34]),al l (p+1) (.str " ") tok [.str (S [34])] (n1+1) (n2+1) o1 o2 o3)):
 (bL (TT PL call) 38).exs ⟨cZ.sc,true,true⟩ noX dD (bq qd es,al l p (.str "c") tok [] n1 n2 o1 o2 o3) K':=by
 refine hP (Jp rfl ?_);refine eO hR hl hc ?_;refine hP (Jp rfl ?_);refine ac.two _ (iz _) _ (aN _) ?_;exact h
theorem wh{tok:List Nat}{qd:Bool}{es:Str}(hc:l[p]? =none)(h:K' .brk (dY qd es "",al l p (.none) tok [] n1 (n2+1) o1 o2 o3)):
 (bL (TT PL call) 38).exs ⟨cZ.sc,true,true⟩ noX dD (bq qd es,al l p (.str "c") tok [] n1 n2 o1 o2 o3) K':=by
 refine hP (Jp rfl ?_);refine DY hR hl hc ?_;refine ac.mk _ (aN _) ?_;exact h
end
set_option genCtorIdx true in
inductive Q where
 |sp|q|e|a|c
noncomputable def Ie (st:Q)(t:List Nat):Option (List Nat×Bool×List Nat):=@Q.rec (λZ=>Option (List Nat×Bool×List Nat)) (some ([],true,[])) none none none (some (t,true,[])) st
noncomputable def Ig (c:Nat)(r:List Nat)(ih:Q->List Nat->Option (List Nat×Bool×List Nat))(st:Q)(t:List Nat):Option (List Nat×Bool×List Nat):=@Q.rec (λZ=>Option (List Nat×Bool×List Nat))
 (if c=32 then ih .sp []else if c=34 then ih .q []else if c=70 then ih .a [70]else if c=40\/c=41 then ih .c [c]else none)
 (if c=34 then(if t=[]then none else ih .a t)else if c=92 then ih .e t else if c=66\/c=67\/c=68\/c=69\/c=70\/c=32\/c=40\/c=41 then ih .q (t++[c])else none)
 (if c=92\/c=34 then ih .q (t++[c])else none)
 (if c=32 then some (t,false,r)else if c=40\/c=41 then some (t,false,c::r)else none)
 (if c=32 then some (t,false,r)else if c=40\/c=41 then ih .c (t++[c])else if c=70\/c=34 then some (t,false,c::r)else none) st
noncomputable def tk (st:Q)(t l:List Nat):Option (List Nat×Bool×List Nat):=@Rb Nat (λZ=>Q->List Nat->Option (List Nat×Bool×List Nat)) Ie Ig l st t
section
theorem wj:tk .sp t (c::r)=if c=32 then tk .sp [] r else if c=34 then tk .q [] r else if c=70 then tk .a [70] r else if c=40\/c=41 then tk .c [c] r else none:=rfl
theorem Ih:tk .q t (c::r)=if c=34 then(if t=[]then none else tk .a t r)else if c=92 then tk .e t r else if c=66\/c=67\/c=68\/c=69\/c=70\/c=32\/c=40\/c=41 then tk .q (t++[c]) r else none:=rfl
theorem Ii:tk .e t (c::r)=if c=92\/c=34 then tk .q (t++[c]) r else none:=rfl
theorem AF:tk .a t (c::r)=if c=32 then some (t,false,r)else if c=40\/c=41 then some (t,false,c::r)else none:=rfl
theorem AG:tk .c t (c::r)=if c=32 then some (t,false,r)else if c=40\/c=41 then tk .c (t++[c]) r else if c=70\/c=34 then some (t,false,c::r)else none:=rfl
end
noncomputable def GT:JC:=(loopAt cZ.body 2).1
noncomputable def GU:List Ld:=(loopAt cZ.body 2).2.2.1
noncomputable def EZ:Pos:=(loopAt cZ.body 2).2.2.2
section
variable {call:AV->Callee}
theorem eE{K}{m}(hs:tidy (TT PL call) EZ s=s0)(h:(bL (TT PL call) 38).exs ⟨cZ.sc,true,true⟩ noX dD s0 λf s2=>match f with
 |.next=>aV (TT PL call) (bL (TT PL call) 38) ⟨cZ.sc,true,true⟩ GT dD GU EZ m s2 K
 |.cont=>aV (TT PL call) (bL (TT PL call) 38) ⟨cZ.sc,true,true⟩ GT dD GU EZ m s2 K
 |.brk=>K .next s2
 |.ret a=>K (.ret a) s2):aV (TT PL call) (bL (TT PL call) 38) ⟨cZ.sc,true,true⟩ GT dD GU EZ (m+1) s K:=by
 subst hs;exact h
noncomputable def wk:Q->AV
 |.sp=>.str " "|.q=>.str (S [34])|.e=>.str (S [92])|.a=>.str "a"|.c=>.str "c"
def GQ (st:Q)(tok:List Nat)(qd:Bool)(es:Str):Prop:=match st with
 |.sp=>tok=[]/\qd=false
 |.q=>True
 |.e=>es=S [34]
 |.a=>tok≠[]
 |.c=>tok≠[]
def c8 (l:List Nat)(p:Nat)(pb:List AV)(inp:List Nat):Prop:=(pb=[]/\l.drop p=inp)\/∃c,(c=40\/c=41\/c=70\/c=34)/\pb=[.str (S [c])]/\inp=c::l.drop p
theorem tB{l:List Nat}{p c:Nat}{r:List Nat}(h:l.drop p=c::r):l[p]? =some c/\l.drop (p+1)=r:=by have h1:=congrArg (λx=>x[0]?) h;have h2:=congrArg (λx=>x.drop 1) h;simp at h1 h2;exact⟨h1,h2⟩
theorem ji{l:List Nat}{p:Nat}(h:l.drop p=[]):l[p]? =none:=La (N9.mp h)
@[elab_as_elim] theorem eW {tok:List Nat} {qd:Bool} {es:Str} {motive:List Nat->Bool->Prop} (g:GQ .sp tok qd es) (k:motive [] false):motive tok qd:=ad g λe f=>e▸f▸k
section
variable (call)(l:List Nat)(o1 o2 o3:AO)
def Tn (pb:Option Nat)(st:Q)(tok:List Nat)(c:Nat)(st':Q)(tok':List Nat):Prop:=∀{p n1 n2:Nat} {qd:Bool} {es:Str} {K':aD->St->Prop},GQ st tok qd es->(pb=none->l[p]? =some c)->tok.length+1<=1000000->
 (∀{Tq Sy n1' n2'},GQ st' tok' Tq Sy->K' .next (dY Tq Sy (S [c]),al l (pb.elim (p+1) λZ=>p) (wk st') tok' [] n1' n2' o1 o2 o3)/\K' .cont (dY Tq Sy (S [c]),al l (pb.elim (p+1) λZ=>p) (wk st') tok' [] n1' n2' o1 o2 o3))->
 (bL (TT PL call) 38).exs ⟨cZ.sc,true,true⟩ noX dD (bq qd es,al l p (wk st) tok (pb.elim [] λc=>[.str (S [c])]) n1 n2 o1 o2 o3) K'
def Te (st:Q)(tok:List Nat)(c:Nat)(pb:List AV):Prop:=∀{p n1 n2:Nat} {qd:Bool} {es:Str} {K':aD->St->Prop},GQ st tok qd es->l[p]? =some c->tok.length+1<=1000000->
 (∀{n1' n2'},K' .brk (dY qd es (S [c]),al l (p+1) (.str " ") tok pb n1' n2' o1 o2 o3))->(bL (TT PL call) 38).exs ⟨cZ.sc,true,true⟩ noX dD (bq qd es,al l p (wk st) tok [] n1 n2 o1 o2 o3) K'
inductive TV(st:Q)(tok:List Nat)(c:Nat):Prop
 |bad (e:∀r,tk st tok (c::r)=none)
 |go (e:∀r,tk st tok (c::r)=tk st' tok' r) (z:tok'.length<=tok.length+1) (m:∀x∈tok',x∈tok\/x=c) (t:Tn call l o1 o2 o3 none st tok c st' tok')
 |stop (e:∀r,tk st tok (c::r)=some (tok,false,r)) (n:∀{qd es},GQ st tok qd es->tok≠[]) (t:Te call l o1 o2 o3 st tok c [])
 |back (e:∀r,tk st tok (c::r)=some (tok,false,c::r)) (n:∀{qd es},GQ st tok qd es->tok≠[]) (h:c=40\/c=41\/c=70\/c=34) (t:Te call l o1 o2 o3 st tok c [.str (S [c])])
end
theorem f0(t:List Nat)(c x:Nat)(h:x∈t++[c]):x∈t\/x=c:=bg h .inl λh=>.inr (KO.mp h)
theorem f6(t:List Nat)(c:Nat):(t++[c]).length<=t.length+1:=I2 IB
section
variable (hP:fZ call)(hR:fw call){l:List Nat}(hl:l.length<=1000000){o1 o2 o3:AO}{tok:List Nat}
include hP hR hl
theorem Gb:TV call l o1 o2 o3 .sp tok c:=by
 by_cases h1:c=32
 . exact h1▸.go (st':=.sp) (tok':=[]) (λr=>rfl) (JG _) (λx h=>absurd h IA) λg hc hz k=>eW g (wb hP hR hl (hc rfl) (k ⟨rfl,rfl⟩).2)
 . by_cases h2:c=34
   . exact h2▸.go (st':=.q) (tok':=[]) (λr=>rfl) (JG _) (λx h=>absurd h IA) λg hc hz k=>eW g (wc hP hR hl (hc rfl) (k trivial).1)
   . by_cases h3:c=70
     . exact h3▸.go (st':=.a) (tok':=[70]) (λr=>rfl) (I4 1 _) (λx h=>.inr (KO.mp h)) λg hc hz k=>eW g (we hP hR hl (hc rfl) (k (Jx _ _)).1)
     . by_cases h4:c=40
       . exact h4▸.go (st':=.c) (tok':=[40]) (λr=>rfl) (I4 1 _) (λx h=>.inr (KO.mp h)) λg hc hz k=>eW g (wf hP hR hl (hc rfl) (k (Jx _ _)).1)
       . by_cases h5:c=41
         . exact h5▸.go (st':=.c) (tok':=[41]) (λr=>rfl) (I4 1 _) (λx h=>.inr (KO.mp h)) λg hc hz k=>eW g (wg hP hR hl (hc rfl) (k (Jx _ _)).1)
         . exact .bad λr=>(if_neg h1).trans ((if_neg h2).trans ((if_neg h3).trans (if_neg λh=>h.elim h4 h5)))
theorem Hh:TV call l o1 o2 o3 .q tok c:=by
 by_cases h1:c=34
 . by_cases hn:tok=[]
   . exact h1▸.bad λr=>if_pos hn
   . exact h1▸.go (st':=.a) (tok':=tok) (λr=>if_neg hn) (IL _) (λx h=>.inl h) λg hc hz k=>Al hP hR hl (hc rfl) (k hn).1
 . by_cases h2:c=92
   . exact h2▸.go (st':=.e) (tok':=tok) (λr=>rfl) (IL _) (λx h=>.inl h) λg hc hz k=>Am hP hR hl (hc rfl) (k rfl).1
   . by_cases h3:c=66\/c=67\/c=68\/c=69\/c=70\/c=32\/c=40\/c=41
     . refine .go (st':=.q) (tok':=tok++[c]) (λr=>(if_neg h1).trans ((if_neg h2).trans (if_pos h3))) (f6 tok c) (f0 tok c) ?_;rcases h3 with h|h|h|h|h|h|h|h
       . exact h▸λg hc hz k=>An hP hR hl hz (hc rfl) (k trivial).1
       . exact h▸λg hc hz k=>Ao hP hR hl hz (hc rfl) (k trivial).1
       . exact h▸λg hc hz k=>Ap hP hR hl hz (hc rfl) (k trivial).1
       . exact h▸λg hc hz k=>Aq hP hR hl hz (hc rfl) (k trivial).1
       . exact h▸λg hc hz k=>Ar hP hR hl hz (hc rfl) (k trivial).1
       . exact h▸λg hc hz k=>As hP hR hl hz (hc rfl) (k trivial).1
       . exact h▸λg hc hz k=>At hP hR hl hz (hc rfl) (k trivial).1
       . exact h▸λg hc hz k=>Au hP hR hl hz (hc rfl) (k trivial).1
     . exact .bad λr=>(if_neg h1).trans ((if_neg h2).trans (if_neg h3))
theorem Hi:TV call l o1 o2 o3 .e tok c:=by
 by_cases h:c=92\/c=34
 . refine .go (st':=.q) (tok':=tok++[c]) (λr=>if_pos h) (f6 tok c) (f0 tok c) ?_;rcases h with h|h
   . rw[h];intro p n1 n2 qd es K' g hc hz k;exact aa (g:es=S [34]) (Av hP hR hl hz (hc rfl) (k trivial).1)
   . rw[h];intro p n1 n2 qd es K' g hc hz k;exact aa (g:es=S [34]) (Aw hP hR hl hz (hc rfl) (k trivial).1)
 . exact .bad λr=>if_neg h
theorem Hj:TV call l o1 o2 o3 .a tok c:=by
 by_cases h1:c=32
 . exact h1▸.stop (λr=>rfl) (λg=>g) λg hc hz k=>Ax hP hR hl g (Js hz) hc k
 . by_cases h2:c=40
   . exact h2▸.back (λr=>rfl) (λg=>g) (.inl rfl) λg hc hz k=>Ay hP hR hl g (Js hz) hc k
   . by_cases h3:c=41
     . exact h3▸.back (λr=>rfl) (λg=>g) (.inr (.inl rfl)) λg hc hz k=>Az hP hR hl g (Js hz) hc k
     . exact .bad λr=>(if_neg h1).trans (if_neg λh=>h.elim h2 h3)
theorem Hk:TV call l o1 o2 o3 .c tok c:=by
 by_cases h1:c=32
 . exact h1▸.stop (λr=>rfl) (λg=>g) λg hc hz k=>AA hP hR hl g (Js hz) hc k
 . by_cases h2:c=40
   . exact h2▸.go (st':=.c) (tok':=tok++[40]) (λr=>rfl) (f6 tok 40) (f0 tok 40) λg hc hz k=>AB hP hR hl hz (hc rfl) (k (M_ _ (Jx _ _))).1
   . by_cases h3:c=41
     . exact h3▸.go (st':=.c) (tok':=tok++[41]) (λr=>rfl) (f6 tok 41) (f0 tok 41) λg hc hz k=>AC hP hR hl hz (hc rfl) (k (M_ _ (Jx _ _))).1
     . by_cases h4:c=70
       . exact h4▸.back (λr=>rfl) (λg=>g) (.inr (.inr (.inl rfl))) λg hc hz k=>AD hP hR hl hc k
       . by_cases h5:c=34
         . exact h5▸.back (λr=>rfl) (λg=>g) (.inr (.inr (.inr rfl))) λg hc hz k=>AE hP hR hl hc k
         . exact .bad λr=>(if_neg h1).trans ((if_neg λh=>h.elim h2 h3).trans (if_neg λh=>h.elim h4 h5))
theorem tv(st:Q):TV call l o1 o2 o3 st tok c:=by
 induction st with
 |sp=>exact Gb hP hR hl
 |q=>exact Hh hP hR hl
 |e=>exact Hi hP hR hl
 |a=>exact Hj hP hR hl
 |c=>exact Hk hP hR hl
omit hR hl
theorem Gc(h:c=40\/c=41\/c=70\/c=34):∃st' tok',(∀r,tk .sp tok (c::r)=tk st' tok' r)/\tok'.length<=tok.length+1/\Tn call l o1 o2 o3 (some c) .sp tok c st' tok':=by
 rcases h with h|h|h|h
 . exact h▸⟨.c,[40],λr=>rfl,I4 1 _,λg Z Z k=>eW g (nK hP (k (Jx _ _)).1)⟩
 . exact h▸⟨.c,[41],λr=>rfl,I4 1 _,λg Z Z k=>eW g (nM hP (k (Jx _ _)).1)⟩
 . exact h▸⟨.a,[70],λr=>rfl,I4 1 _,λg Z Z k=>eW g (nN hP (k (Jx _ _)).1)⟩
 . exact h▸⟨.q,[],λr=>rfl,JG _,λg Z Z k=>eW g (nO hP (k trivial).1)⟩
include hR hl
theorem AH{K}{res}
 (hK:∀{p' Sv Tq Sy nc n1' n2'},c8 l p' Sv res.2.2->(res.1=[]->Tq=false)->K .next (dY Tq Sy nc,al l p' (match res.2.1 with|true=>.none|false=>.str " ") res.1 Sv n1' n2' o1 o2 o3)):
 ∀{inp} {st:Q} {tok},tk st tok inp=some res->∀{p} {pb} {qd} {es} {n1 n2} {s:St},c8 l p pb inp->(st=.sp\/pb=[])->GQ st tok qd es->tok.length+inp.length<=1000000->
  tidy (TT PL call) EZ s=(bq qd es,al l p (wk st) tok pb n1 n2 o1 o2 o3)->aV (TT PL call) (bL (TT PL call) 38) ⟨cZ.sc,true,true⟩ GT dD GU EZ (inp.length+1) s K:=by
 intro inp;induction inp with
 |nil=>
  intro st tok h p pb qd es n1 n2 s hi hb hg hz hs;obtain⟨rfl,hd⟩:pb=[]/\l.drop p=[]:=hi.elim id λh=>cm h λc Z Z h=>absurd h.symm (Jx _ _);induction st with
  |sp=>rw[<-Iw h]at hK;exact eE hs (eW hg (tA hP hR hl (ji hd) (hK (.inl ⟨rfl,hd⟩) λZ=>rfl)))
  |q=>exact nn h
  |e=>exact nn h
  |a=>exact nn h
  |c=>rw[<-Iw h]at hK;exact eE hs (wh hP hR hl (ji hd) (hK (.inl ⟨rfl,hd⟩) λz=>absurd z hg))
 |cons c r ih=>
  intro st tok h p pb qd es n1 n2 s hi hb hg hz hs;have Ta:=Iu (IZ (I4 1 r.length) _) hz;have T4:∀{t:List Nat},t.length<=tok.length+1->t.length+r.length<=1000000:=λz=>Iu (Jf z _) (Iu (I2 (Kk _ _)) hz);refine hi.elim (λhi=>ad hi λe hd=>?_) λhi=>cm hi λc' SV e he=>?_
  . rw[e]at hs;refine ad (tB hd) λh1 h2=>?_;induction tv hP hR hl st with
    |bad e=>exact nn ((e r).symm.trans h)
    |go e z Z t=>exact eE hs (t hg (λZ=>h1) Ta λhq=>⟨ih ((e r).symm.trans h) (.inl ⟨rfl,h2⟩) (.inr rfl) hq (T4 z) rfl,ih ((e r).symm.trans h) (.inl ⟨rfl,h2⟩) (.inr rfl) hq (T4 z) rfl⟩)
    |stop e n t=>rw[<-Iw ((e r).symm.trans h)]at hK;exact eE hs (t hg h1 Ta (hK (.inl ⟨rfl,h2⟩) λz=>absurd z (n hg)))
    |back e n hc t=>rw[<-Iw ((e r).symm.trans h)]at hK;exact eE hs (t hg h1 Ta (hK (.inr ⟨c,hc,rfl,congrArg (c:: ·) h2.symm⟩) λz=>absurd z (n hg)))
  . rw[e]at hs;have es:=hb.elim id λh=>absurd (e.symm.trans h) (Jx _ _);subst es;refine ad (KU he) λec er=>?_;rw[<-ec]at hs SV;exact aP (Gc (l:=l) (o1:=o1) (o2:=o2) (o3:=o3) (tok:=tok) hP SV) λst' tok' e z t=>eE hs (t hg (λq=>nn q.symm) Ta λhq=>⟨ih ((e r).symm.trans h) (.inl ⟨rfl,er.symm⟩) (.inr rfl) hq (T4 z) rfl,ih ((e r).symm.trans h) (.inl ⟨rfl,er.symm⟩) (.inr rfl) hq (T4 z) rfl⟩)
end
end
noncomputable def tC (t:List Nat):AV:=match t with|[]=>.none|t=>.str (S t)
noncomputable def nP (b:Bool):AV:=match b with|true=>.none|false=>.str " "
section
variable {call:AV->Callee}
theorem DZ(hP:fZ call)(hR:fw call){l}(hl:l.length<=1000000){o1 o2 o3}{K}{Xk}{inp}{res}(h:tk .sp [] inp=some res){p}{pb}{n1 n2}(hi:c8 l p pb inp)(hz:inp.length<=1000000)
 (hK:∀{p' Sv n1' n2'},c8 l p' Sv res.2.2->K (tC res.1) (al l p' (nP res.2.1) [] Sv n1' n2' o1 o2 o3)):aY PL call (.top 828) [.ref 10] [] (al l p (.str " ") [] pb n1 n2 o1 o2 o3) K Xk:=by
 refine Je 39 ⟨_,AH (o1:=o1) (o2:=o2) (o3:=o3) hP hR hl ?_ h (n1:=n1) (n2:=n2) hi (.inl rfl) ⟨rfl,rfl⟩ (Iu (I2 (JI _)) hz) rfl⟩;intro p' Sv Tq Sy nc n1' n2' SJ hq;obtain⟨t,b,r⟩:=res;cases t with
 |nil=>exact(hq rfl).symm▸(ac.mk _ (aJ [] rfl) (hK SJ))
 |cons c ts=>
  refine ac.mk _ (aJ [] rfl) ?_;induction Tq with
  |true=>
   conv=>whnf
   exact hK SJ
  |false=>
   conv=>whnf
   exact hK SJ
theorem nQ(hP:fZ call)(hR:fw call){l}(hl:l.length<=1000000){o1 o2 o3}{K}{Xk}{p}{n1 n2}(hd:l.drop p=[])
 (hK:∀{n1' n2'},K .none (al l p .none [] [] n1' n2' o1 o2 o3)):aY PL call (.top 828) [.ref 10] [] (al l p .none [] [] n1 n2 o1 o2 o3) K Xk:=by
 refine Je 39 (Je 1 (hP ⟨rfl,?_⟩));exact hR hl (aa (ji hd) (ac.mk _ (aJ [] rfl) hK))
def D0 (call:AV->Callee):Prop:=∀{l:List Nat},l.length<=1000000->∀{o1 o2 o3:AO} {K:AV->Hp->Prop} {Xk:AX->Hp->Prop} {p:Nat} {sta:AV} {pb:List AV} {n1 n2:Nat},
 (∃inp res,sta=.str " "/\tk .sp [] inp=some res/\c8 l p pb inp/\inp.length<=1000000/\∀{p' Sv n1' n2'},c8 l p' Sv res.2.2->K (tC res.1) (al l p' (nP res.2.1) [] Sv n1' n2' o1 o2 o3))\/
 (sta=.none/\pb=[]/\l.drop p=[]/\∀{n1' n2'},K .none (al l p .none [] [] n1' n2' o1 o2 o3))->call (.top 828) [.ref 10] [] (al l p sta [] pb n1 n2 o1 o2 o3) K Xk
theorem D1(hT:D0 call){l}(hl:l.length<=1000000){o1 o2 o3}{K}{Xk}{inp}{res}(h:tk .sp [] inp=some res){p}{pb}{n1 n2}(hi:c8 l p pb inp)(hz:inp.length<=1000000)
 (hK:∀{p' Sv n1' n2'},c8 l p' Sv res.2.2->K (tC res.1) (al l p' (nP res.2.1) [] Sv n1' n2' o1 o2 o3)):aY PL call (.top 821) [.ref 10] [] (al l p (.str " ") [] pb n1 n2 o1 o2 o3) K Xk:=by
 refine Je 39 (hT hl (.inl ⟨inp,res,rfl,h,hi,hz,?_⟩));intro p' Sv n1' n2' SJ;have hk:=hK (n1':=n1') (n2':=n2') SJ;obtain⟨t,b,r⟩:=res;induction t with
 |nil=>exact Je 1 hk
 |cons c ts=>exact Je 1 hk
theorem nR(hT:D0 call){l}(hl:l.length<=1000000){o1 o2 o3}{K}{Xk}{p}{n1 n2}(hd:l.drop p=[])
 (hK:∀{n1' n2'},K .none (al l p .none [] [] n1' n2' o1 o2 o3)):aY PL call (.top 821) [.ref 10] [] (al l p .none [] [] n1 n2 o1 o2 o3) K Xk:=by
 refine Je 39 (hT hl (.inr ⟨rfl,rfl,hd,?_⟩));intro n1' n2';have hk:=hK (n1':=n1') (n2':=n2');exact Je 1 hk
end
theorem rB:∀{s} {n} {o},eC n s=some o->∀c∈o,c∈s:=by
 intro s;induction s with
 |nil=>
  intro n o h c hc;induction n with
  |zero=>exact Iw h▸hc
  |succ n=>exact nn h
 |cons x r ih=>
  intro n o h c hc;induction uv n x with
  |go e=>exact .tail _ (ih ((e r).symm.trans h) c hc)
  |keep e=>exact c0 ((e r).symm.trans h) λt h1 q=>av (q▸hc) (λe=>by exact aa e (.head _)) λe=>.tail _ (ih h1 c e)
  |bad e=>exact nn ((e r).symm.trans h)
theorem wl(h:c<128):c.toUInt8.toNat=c:=by refine(?_:c%256=c);exact Nat.mod_eq_of_lt (Iu (by assumption) (Iv rfl))
theorem AI:∀{s},(∀c∈s,c<128)->(i5 s).map (·.toNat)=s:=by
 intro Sl;induction Sl with
 |nil=>intro Z;exact rfl
 |cons c r Sk=>intro h;refine(?_:(c.toUInt8.toNat)::(i5 r).map (·.toNat)=_);exact aa (wl (h c (.head _))) (aa (Sk λc hc=>h c (.tail _ hc)) rfl)
theorem CB(h:eC 0 s=some o)(ha:∀c∈s,c<128)(hl:s.length<=1000000):zv 49 (.top 49) (.bytes #[]) (.bytes (bytesOf (S s)))=some (.bytes (i5 o).toArray):=by
 have e1:=AI ha;refine(?_:gd (Qk (bytesOf (S s)).size 1000000) ((eC 0 ((bytesOf (S s)).toList.map (·.toNat))).map λo=>AV.bytes (i5 o).toArray)=_);have e2:(bytesOf (S s)).size=s.length:=by simp[bytesOf]
 exact aa e1 (aa h (aa e2 (aa (Jy hl) rfl)))
theorem D2{c:UInt8}{k:Nat}(hk:c.toNat=k):∀{o:List Nat},(∀x∈o,x<128)->((i5 o).filter λd=>IT d.toNat c.toNat).length=o.count k:=by
 intro o;induction o with
 |nil=>exact λZ=>rfl
 |cons x r ih=>
  intro h;refine(?_:((x.toUInt8::i5 r).filter _).length=_);refine aa JB (aa List.count_cons (an (ih λy hy=>h y (.tail _ hy)) (aa (wl (h x (.head _))) (aa hk ?_))));by_cases e:x=k
  . clear hk;refine aa e ?_;simp
  . have:IT x k=false:=by induction q:IT x k with|false=>rfl|true=>exact absurd (IY q) e
    simp[this,e]
theorem rC{k:Nat}(hk:c.toNat=k)(ha:∀x∈o,x<128)(hl:o.length<=1000000):Dk (.bytes (i5 o).toArray) (.bytes #[c])=some (.int (o.count k)):=by refine(?_:gd (ai (i5 o).toArray.size) (some (AV.int (((i5 o).toArray.toList.filter λd=>IT d.toNat c.toNat).length)))=_);exact aa (D2 hk ha) (aa (ak (by simp[i5];exact hl)) rfl)
theorem rD:∀{s} {n} {o},eC n s=some o->o.length<=s.length:=by
 intro s;induction s with
 |nil=>
  intro n o h;induction n with
  |zero=>exact Iw h▸IC 0
  |succ n=>exact nn h
 |cons x r ih=>
  intro n o h;induction uv n x with
  |go e=>exact I3 (ih ((e r).symm.trans h))
  |keep e=>exact c0 ((e r).symm.trans h) λt h1 q=>q▸IS (ih h1)
  |bad e=>exact nn ((e r).symm.trans h)
section
variable {call:AV->Callee}
theorem wm(h:eC 0 s=some o)(ha:∀c∈s,c<128)(hl:s.length<=1000000){K}{Xk}
 (hK:K (.int (d+o.count 40-o.count 41)) hp):aY PL call (.top 57) [.bytes (bytesOf (S s)),.int d] [] hp K Xk:=by
 refine Je 20 ?_
 conv=>whnf
 have ho:=λc hc=>ha c (rB h c hc);have lo:=Iu (rD h) hl;refine⟨_,CB h ha hl,?_⟩;exact ac.mk _ (rC rfl ho lo) (ac.mk _ (rC rfl ho lo) hK)
end
noncomputable def ik (c:Nat):Bool:=IT c 40||IT c 41
noncomputable def cK:List (List Nat)->List (List Nat×Int)->Int->List (List Nat×Int)×Int
 |[],rs,d=>(rs,d)
 |t::r,rs,d=>match t.all ik with
  |true=>cK r rs (d+t.count 40-t.count 41)
  |false=>cK r (rs++[(t,d)]) d
theorem jj:cK (t::r) rs d=cond (t.all ik) (cK r rs (d+t.count 40-t.count 41)) (cK r (rs++[(t,d)]) d):=by cases h:t.all ik<;>exact(show(match t.all ik with|true=>_|false=>_)=_ by exact aa h rfl)
noncomputable def cC (r:List Nat×Int):AV:=.tup [.str (S r.1),.int r.2]
def tD (call:AV->Callee):Prop:=∀{l:List Nat} {o1 o2:AO} {K:AV->Hp->Prop} {Xk:AX->Hp->Prop},K (.ref 10) (v_ l 0 (.str " ") [] [] 4 23 o1 o2)->call (.top 860) [.str (S l)] [("posix",.bool true),("punctuation_chars",.str "()")] [(2,o2),(1,o1)] K Xk
def AJ (call:AV->Callee):Prop:=∀{l:List Nat},l.length<=1000000->∀{o1 o2 o3:AO} {K:AV->Hp->Prop} {Xk:AX->Hp->Prop} {inp:List Nat} {res:List Nat×Bool×List Nat},tk .sp [] inp=some res->∀{p:Nat} {pb:List AV} {n1 n2:Nat},c8 l p pb inp->inp.length<=1000000->
 (∀{p' Sv n1' n2'},c8 l p' Sv res.2.2->K (tC res.1) (al l p' (nP res.2.1) [] Sv n1' n2' o1 o2 o3))->call (.top 821) [.ref 10] [] (al l p (.str " ") [] pb n1 n2 o1 o2 o3) K Xk
def AL (call:AV->Callee):Prop:=∀{l:List Nat},l.length<=1000000->∀{o1 o2 o3:AO} {K:AV->Hp->Prop} {Xk:AX->Hp->Prop} {p:Nat} {n1 n2:Nat},l.drop p=[]->(∀{n1' n2'},K .none (al l p .none [] [] n1' n2' o1 o2 o3))->call (.top 821) [.ref 10] [] (al l p .none [] [] n1 n2 o1 o2 o3) K Xk
def AM (call:AV->Callee):Prop:=∀{s o:List Nat},eC 0 s=some o->(∀c∈s,c<128)->s.length<=1000000->∀{d:Int} {hp:Hp} {K:AV->Hp->Prop} {Xk:AX->Hp->Prop},K (.int (d+o.count 40-o.count 41)) hp->call (.top 57) [.bytes (bytesOf (S s)),.int d] [] hp K Xk
structure AN(call:AV->Callee):Prop where
 make:tD call
 gt:AJ call
 gn:AL call
 pd:AM call
noncomputable def eX:Nat->Bool->List Nat->Option (List (List Nat))
 |_,true,_=>some []
 |0,false,_=>none
 |n+1,false,inp=>(tk .sp [] inp).bind λr=>match r.1 with
  |[]=>some []
  |c::t=>(eX n r.2.1 r.2.2).map ((c::t):: ·)
noncomputable def qa:FD:=match bX "_law_read" with|some F=>F|.none=>⟨⟨[],[],.none,[],[],.none,[]⟩,[],⟨.function,[],false,false,[]⟩⟩
noncomputable def AP:JC:=(loopAt qa.body 4).1
noncomputable def wn:List Ld:=(loopAt qa.body 4).2.1
noncomputable def AQ:List Ld:=(loopAt qa.body 4).2.2.1
noncomputable def qb:Pos:=(loopAt qa.body 4).2.2.2
noncomputable def rE (d:Int)(t:List Nat):Lo:=[("lexer",.ref 10),("depth",.int d),("rows",.ref 3),("token",tC t)]
section
variable {call:AV->Callee}
theorem tE(h:x<128):KA (S [x])=true:=by unfold KA;refine an Pj (?_:(decide (x<0x110000)&&true)=true);exact aa (decide_eq_true (by exact Iu (by assumption) (Iv rfl))) rfl
theorem wo:∀(xs:List Nat),cI (db hp n) (xs.map λx=>AV.str (S [x]))=some (xs.map λx=>JW (S [x])):=by
 intro Sl;induction Sl with
 |nil=>exact rfl
 |cons x r Sk=>refine(?_:((db hp n (.str (S [x]))).bind λd=>(cI (db hp n) (r.map λx=>AV.str (S [x]))).map (d:: ·))=_);refine aa Sk ?_;cases n<;>rfl
theorem qe:∀{xs:List Nat},(∀x∈xs,x<128)->JZ (xs.map λx=>JW (S [x]))=true:=by
 intro Sl;induction Sl with
 |nil=>intro Z;exact rfl
 |cons x r Sk=>intro h;refine(?_:(KA (S [x])&&JZ (r.map λx=>JW (S [x])))=true);exact aa (tE (h x (.head _))) (aa (Sk λy hy=>h y (.tail _ hy)) rfl)
theorem tF:∀(xs:List Nat),J9 (xs.map λx=>JW (S [x]))=0:=by
 intro Sl;induction Sl with
 |nil=>exact rfl
 |cons x r Sk=>refine(?_:max 0 (J9 (r.map λx=>JW (S [x])))=0);exact aa Sk rfl
theorem wp{nt:Jn->Bool}{hp:Hp}{xs:List Nat}(h:∀x∈xs,x<128):oy nt hp .Eq (.lst (xs.map λx=>.str (S [x]))) (.lst [])=some xs.isEmpty:=by
 refine(?_:((db hp 8 (.lst (xs.map λx=>.str (S [x])))).bind λd=>(db hp 8 (.lst [])).bind λe=>gd (J7 d&&J7 e) (some (NZ d e)))=_);have e1:db hp 8 (.lst (xs.map λx=>.str (S [x])))=some (.list (xs.map λx=>JW (S [x]))):=by
  refine(?_:(cI (db hp 7) _).map Ko=_);exact aa (wo _) rfl
 have e2:J7 (.list (xs.map λx=>JW (S [x])))=true:=by refine(?_:(JZ (xs.map λx=>JW (S [x]))&&decide (J9 (xs.map λx=>JW (S [x]))+1<=64))=true);exact aa (qe h) (aa (tF _) rfl)
 refine(e1).symm▸(?_:gd (J7 (.list (xs.map λx=>JW (S [x])))&&J7 (.list [])) (some (NZ (.list (xs.map λx=>JW (S [x]))) (.list [])))=_);refine(e2).symm▸?_;cases xs<;>rfl
theorem Gd(h:∀x∈l,x<128):dR hp (.str (S l))=some λZ=>some (yP (S l)):=by
 refine(?_:gd ((S l).cps.all (· <128)) _=_);have:((S l).cps.all (· <128))=true:=by
  refine an Pj (aa (propext Jj) ?_);intro c hc;exact decide_eq_true (h c hc)
 exact aa this rfl
theorem Ge(y):(Lg "()").cps.toList.any (IT y)=ik y:=by refine aa (by decide +kernel:(Lg "()").cps.toList=[40,41]) ?_;simp[ik]
theorem Gf:∀{t},t.all ik=true->eC 0 t=some t:=by
 intro Sl;induction Sl with
 |nil=>intro Z;exact rfl
 |cons c r Sk=>
  intro h;rw[LW,Kx]at h;refine aa Cn ?_;have:c≠34:=by
   rintro rfl
   exact absurd h.1 (by decide)
  exact aa (if_neg this) (aa (Sk h.2) rfl)
theorem rF(ha:∀x∈l,x<128)(hz:l.length<=1000000):Dj (.str (S l)) (.str "ascii")=some (.bytes (bytesOf (S l))):=by refine(?_:gd (aZ (Lg "ascii") "ascii"&&j5 (S l)&&ai (S l).length) _=_);refine aa (az _) (aa (eU _) (aa (ak hz) ?_));have:j5 (S l)=true:=Jj.mpr λc hc=>Jy (ha c hc);exact aa this rfl
theorem qf{t:List Nat}:(t.filter λx=>!ik x).isEmpty=t.all ik:=by
 induction t with
 |nil=>rfl
 |cons c r ih=>refine aa JB (aa LW ?_);cases ik c<;>simp[ih]
theorem rG(hC:AN call){o1 o2}{K'}{c}{t t'}(hz:(c::t).length<=1000000)(ha:∀x∈c::t,x<128){rs}(hrs:rs.length<=1000000){d}{p}{sta sta'}{pb}{n1 n2}{R:Nat->List AV->Prop}
 (hn:∀{o3:AO} {K:AV->Hp->Prop} {Xk:AX->Hp->Prop},(∀{p' Sv n1' n2'},R p' Sv->K (tC t') (al l p' sta' [] Sv n1' n2' o1 o2 o3))->call (.top 821) [.ref 10] [] (al l p sta [] pb n1 n2 o1 o2 o3) K Xk)
 (Su:∀{p' Sv n1' n2'},R p' Sv->match(c::t).all ik with
  |true=>K' .next (rE (d+(c::t).count 40-(c::t).count 41) t',al l p' sta' [] Sv n1' n2' o1 o2 (.list (rs.map cC)))
  |false=>K' .next (rE d t',al l p' sta' [] Sv n1' n2' o1 o2 (.list ((rs++[(c::t,d)]).map cC)))):
 (bL (TT PL call) 39).exs ⟨qa.sc,true,true⟩ noX wn (rE d (c::t),al l p sta [] pb n1 n2 o1 o2 (.list (rs.map cC))) K':=by
 refine ac.mk _ (Gd ha) (bS (c::t) (λx=>AV.str (S [x])) (λx=>AV.str (S [x])) (λx=>!ik x) [] (al l p sta [] pb n1 n2 o1 o2 (.list (rs.map cC))) hz rfl rfl rfl ?_ ?_)
 . have b0:(((c::t).filter λx=>!ik x).map λx=>AV.str (S [x])).length<=1000000:=by exact aa (Iz _) (Iu (Kp _ _) hz)
   refine ac.two () (by exact aa (ak b0) rfl) _ (wp (xs:=(c::t).filter λx=>!ik x) (λx hx=>ha x (JX.mp hx).1)) ((qf).symm▸?_);cases hp:(c::t).all ik with
   |true=>refine ac.mk _ (rF ha hz) (hC.pd (Gf hp) ha hz (hn ?_));intro p' Sv n1' n2' hr;have hk:=Su (n1':=n1') (n2':=n2') hr;rw[hp]at hk;exact hk
   |false=>refine ac.mk _ (bz rfl (aa (Iz _) hrs)) (hn (o3:=.list (rs.map cC++[cC (c::t,d)])) ?_);intro p' Sv n1' n2' hr;have hk:=Su (n1':=n1') (n2':=n2') hr;rw[hp,IR]at hk;exact hk
 . intro y Z K2 hk;refine cJ.mk (λq=>?_) λq=>?_
   all_goals
    simp only[((congrArg (!·) (Ge y)).symm.trans q)]at hk;exact hk _ rfl rfl
inductive Gg(t inp:List Nat)(r:List Nat×Bool×List Nat):Prop
 |mk (a1:r.2.2.length<=inp.length) (a2:r.2.1=true->r.2.2=[]) (a3:∀x∈r.1,x∈t\/x∈inp) (a4:r.1.length<=t.length+inp.length) (a5:∀x∈r.2.2,x∈inp):Gg t inp r
theorem rH:∀{inp} {st:Q} {t} {r},tk st t inp=some r->Gg t inp r:=by
 intro inp;induction inp with
 |nil=>
  intro st t r h;cases st with
  |sp=>exact Iw h▸⟨IC _,λZ=>rfl,λx hx=>absurd hx IA,JG _,λx hx=>hx⟩
  |q=>exact nn h
  |e=>exact nn h
  |a=>exact nn h
  |c=>exact Iw h▸⟨IC _,λZ=>rfl,λx hx=>.inl hx,IC _,λx hx=>hx⟩
 |cons c l ih=>
  intro st t r h;cases tv (call:=λZ Z Z Z Z Z=>True) (λZ=>trivial) (λZ Z=>trivial) (l:=[]) (JG 1000000) (o1:=.dead) (o2:=.dead) (o3:=.dead) (tok:=t) (c:=c) st with
  |bad e=>exact nn ((e l).symm.trans h)
  |go e z m Z=>
   refine Gg.casesOn (ih ((e l).symm.trans h)) λa1 a2 a3 a4 a5=>⟨I3 a1,a2,λx hx=>(a3 x hx).elim (λh=>(m x h).elim .inl λh=>.inr (h▸.head _)) λh=>.inr (.tail _ h),?_,λx hx=>.tail _ (a5 x hx)⟩
   exact Iu a4 (Iu (Jf z _) (I2 (Kk _ _)))
  |stop e n Z=>exact Iw ((e l).symm.trans h)▸⟨IL _,λz=>IE z,λx hx=>.inl hx,IK _ _,λx hx=>.tail _ hx⟩
  |back e n hc Z=>exact Iw ((e l).symm.trans h)▸⟨IC _,λz=>IE z,λx hx=>.inl hx,IK _ _,λx hx=>hx⟩
theorem rI{K}{d}{c}{t}{hp}(hs:tidy (TT PL call) qb s=(rE d (c::t),hp))(h:(bL (TT PL call) 39).exs ⟨qa.sc,true,true⟩ noX wn (rE d (c::t),hp) λf s2=>match f with
 |.next=>aV (TT PL call) (bL (TT PL call) 39) ⟨qa.sc,true,true⟩ AP wn AQ qb m s2 K
 |.cont=>aV (TT PL call) (bL (TT PL call) 39) ⟨qa.sc,true,true⟩ AP wn AQ qb m s2 K
 |.brk=>K .next s2
 |.ret a=>K (.ret a) s2):aV (TT PL call) (bL (TT PL call) 39) ⟨qa.sc,true,true⟩ AP wn AQ qb (m+1) s K:=by
 with_reducible refine fu hs ?_
 conv=>whnf
 exact h
theorem wq{m}{s}{K}{d}{hp}(hs:tidy (TT PL call) qb s=(rE d [],hp))(h:K .next (rE d [],hp)):aV (TT PL call) (bL (TT PL call) 39) ⟨qa.sc,true,true⟩ AP wn AQ qb (m+1) s K:=fu hs h
theorem AR(hC:AN call){l:List Nat}(hl:l.length<=1000000)(hla:∀x∈l,x<128){o1 o2:AO}{K:aD->St->Prop}{fin:List (List Nat×Int)×Int}
 (hK:∀{p' sta' Sv n1' n2'},K .next (rE fin.2 [],al l p' sta' [] Sv n1' n2' o1 o2 (.list (fin.1.map cC)))):
 ∀(n:Nat) (b:Bool) (inp:List Nat) (ts:List (List Nat)),eX n b inp=some ts->(∀x∈inp,x<128)->inp.length<=1000000->(b=true->inp=[])->∀(t:List Nat) (rs:List (List Nat×Int)) (d:Int),(∀x∈t,x<128)->t.length<=1000000->rs.length+n<=999999->
  (match t with|[]=>(rs,d)=fin|_=>cK (t::ts) rs d=fin)->∀{p pb n1 n2} {s:St},c8 l p pb inp->tidy (TT PL call) qb s=(rE d t,al l p (nP b) [] pb n1 n2 o1 o2 (.list (rs.map cC)))->aV (TT PL call) (bL (TT PL call) 39) ⟨qa.sc,true,true⟩ AP wn AQ qb (n+2) s K:=by
 have nilcase:∀{rs d p sta pb n1 n2 m} {s:St},(rs,d)=fin->tidy (TT PL call) qb s=(rE d [],al l p sta [] pb n1 n2 o1 o2 (.list (rs.map cC)))->aV (TT PL call) (bL (TT PL call) 39) ⟨qa.sc,true,true⟩ AP wn AQ qb (m+1) s K:=λe hs=>by
  subst e
  with_reducible exact wq hs hK
 have last:∀{n:Nat} {c:Nat} {t:List Nat} {rs d p pb n1 n2} {s:St},(∀x∈c::t,x<128)->(c::t).length<=1000000->rs.length<=999999->cK [c::t] rs d=fin->c8 l p pb []->tidy (TT PL call) qb s=(rE d (c::t),al l p .none [] pb n1 n2 o1 o2 (.list (rs.map cC)))->
  aV (TT PL call) (bL (TT PL call) 39) ⟨qa.sc,true,true⟩ AP wn AQ qb (n+2) s K:=λ{n c t rs d p pb n1 n2 s} ht htz hrs hf hi hs=>by
  have hd:pb=[]/\l.drop p=[]:=by
   rcases hi with h|⟨c,Z,Z,h⟩
   . exact h
   . cases h
  obtain⟨rfl,hd⟩:=hd;refine rI hs (rG hC htz ht (by exact I3 (by assumption)) (R:=λZ Z=>True) (t':=[]) (sta':=.none) (λ{o3 K Xk} q=>hC.gn hl hd λ{n1' n2'}=>q trivial) λ{p' Sv n1' n2'} Z=>?_);rw[jj]at hf;cases hp:(c::t).all ik with
  |true=>haveI hf:=hp▸hf;exact nilcase hf rfl
  |false=>haveI hf:=hp▸hf;exact nilcase hf rfl
 intro n;induction n with
 |zero=>
  intro b inp ts h hx hz hb t rs d ht htz hrs hf p pb n1 n2 s hi hs;cases t with
  |nil=>exact nilcase hf hs
  |cons c t=>
   induction b with
   |false=>cases h
   |true=>replace h:=Iw h;subst h;clear hx hz;obtain rfl:=hb rfl;exact last ht htz (by assumption) hf hi hs
 |succ n ih=>
  intro b inp ts h hx hz hb t rs d ht htz hrs hf p pb n1 n2 s hi hs;cases t with
  |nil=>exact nilcase hf hs
  |cons c t=>
   induction b with
   |true=>replace h:=Iw h;subst h;clear hx hz;obtain rfl:=hb rfl;exact last ht htz (by exact ND hrs) hf hi hs
   |false=>
    haveI h:((tk .sp [] inp).bind λr=>match r.1 with
     |[]=>some []
     |c::t=>(eX n r.2.1 r.2.2).map ((c::t):: ·))=some ts:=h
    refine ag h λr h1 h2=>?_;refine Gg.casesOn (rH h1) λa1 a2 a3 a4 a5=>?_;haveI Tg:∀x∈r.1,x<128:=λx q=>by
     refine OW (a3 x q) (λq=>?_) λq=>?_
     . cases q
     . exact hx x q
    haveI Ta:r.1.length<=1000000:=Iu a4 (by simpa using hz);refine rI hs (rG hC htz ht (Iu (IK _ _) (Iu hrs (Iv rfl))) (R:=λp' Sv=>c8 l p' Sv r.2.2) (t':=r.1) (sta':=nP r.2.1) (λ{o3 K Xk} q=>hC.gt hl h1 hi hz q) λ{p' Sv n1' n2'} hr=>?_);haveI key:∀(Tj:List (List Nat×Int)) (d':Int),Tj.length<=rs.length+1->cK ts Tj d'=fin->aV (TT PL call) (bL (TT PL call) 39) ⟨qa.sc,true,true⟩ AP wn AQ qb (n+2) (rE d' r.1,al l p' (nP r.2.1) [] Sv n1' n2' o1 o2 (.list (Tj.map cC))) K:=λTj d' hl' Tf=>by
     induction q:r.1 with
     |nil=>rw[q]at h2;replace h2:=Iw h2;clear h hf;subst h2;exact nilcase Tf rfl
     |cons c' t'=>rw[q]at h2;refine ae (vO h2) λT8 h3 Sn=>?_;clear h h2 hf;subst Sn;rw[q]at Tg Ta;exact ih r.2.1 r.2.2 T8 h3 (λx q=>hx x (a5 x q):∀x∈r.2.2,x<128) (Iu a1 hz) a2 (c'::t') Tj d' Tg Ta (Iu (Jf hl' n) (by exact aa (Jb _ _ _) hrs)) Tf hr rfl
    have hf:cK ((c::t)::ts) rs d=fin:=hf;rw[jj]at hf;induction hp:(c::t).all ik with
    |true=>haveI hf:=hp▸hf;exact key rs _ (by exact IK _ _) hf
    |false=>haveI hf:=hp▸hf;exact key _ d (by simp) hf
theorem D3(hC:AN call){l}(hl:l.length<=1000000)(hla:∀x∈l,x<128){o1 o2}{K}{Xk}{n}(hn:n<=999999){ts}(h:eX (n+1) false l=some ts)
 (hK:∀{p' sta' Sv n1' n2'},K (.tup [.ref 3,.int (cK ts [] 0).2]) (al l p' sta' [] Sv n1' n2' o1 o2 (.list ((cK ts [] 0).1.map cC)))):aY PL call (.top 883) [.str (S l)] [] [(2,o2),(1,o1)] K Xk:=by
 have h:((tk .sp [] l).bind λr=>match r.1 with
  |[]=>some []
  |c::t=>(eX n r.2.1 r.2.2).map ((c::t):: ·))=some ts:=h
 with_reducible refine af (IG.mp h) λr Sm=>?_
 refine ad Sm λh1 h2=>?_;refine Gg.casesOn (rH h1) λa1 a2 a3 a4 a5=>?_;have Tg:∀x∈r.1,x<128:=λx q=>by
  refine OW (a3 x q) (λq=>?_) λq=>?_
  . cases q
  . exact hla x q
 have Ta:r.1.length<=1000000:=Iu a4 (by simpa using hl);refine Je 40 ?_;refine hC.make ?_;refine hC.gt (o3:=.list []) hl h1 (p:=0) (pb:=[]) (.inl ⟨rfl,rfl⟩) hl ?_;intro p' Sv n1' n2' SJ;haveI key:∀(K':aD->St->Prop),(∀{p' sta' Sv n1' n2'},K' .next (rE (cK ts [] 0).2 [],al l p' sta' [] Sv n1' n2' o1 o2 (.list ((cK ts [] 0).1.map cC))))->
  ∀{s:St},tidy (TT PL call) qb s=(rE 0 r.1,al l p' (nP r.2.1) [] Sv n1' n2' o1 o2 (.list []))->aV (TT PL call) (bL (TT PL call) 39) ⟨qa.sc,true,true⟩ AP wn AQ qb (n+2) s K':=λK' Su s hs=>by
  cases q:r.1 with
  |nil=>rw[q]at h2 hs;replace h2:=Iw h2;clear h hK Sm;subst h2;exact wq hs Su
  |cons c t=>rw[q]at h2 hs Tg Ta;refine ae (vO h2) λT8 h3 Sn=>?_;clear h h2 hK;subst Sn;exact AR hC hl hla (fin:=cK ((c::t)::T8) [] 0) Su n r.2.1 r.2.2 T8 h3 (λx q=>hla x (a5 x q)) (Iu a1 hl) a2 (c::t) [] 0 Tg Ta (by simpa using hn) rfl SJ hs
 refine⟨n+2,key _ ?_ rfl⟩;intro p' sta' Sv n1' n2';exact hK
end
noncomputable def mx:List Nat->Nat
 |[]=>0
 |a::r=>max a (mx r)
theorem D5:mx (a::r)=max a (mx r):=rfl
theorem kh:∀{l} {a},a∈l->a<=mx l:=by
 intro Sl;induction Sl with
 |nil=>
  intro SE SG
  first|exact(IA SG).elim|exact(IA SE).elim|cases SG|cases SE
 |cons b r Sw=>
  intro a h;refine aa D5 (av h (λh=>?_) λh=>?_)
  . exact aa h (Nat.le_max_left _ _)
  . exact Iu (Sw h) (Nat.le_max_right _ _)
theorem wr:∀{l} {k},(∀a∈l,a<=k)->mx l<=k:=by
 intro Sl;induction Sl with
 |nil=>intro Z Z;exact JG _
 |cons b r Sk=>intro k h;exact aa D5 (NW.mpr ⟨h b (.head _),Sk λa ha=>h a (.tail _ ha)⟩)
theorem qg:∀{l},mx l=0\/mx l∈l:=by
 intro l;induction l with
 |nil=>exact .inl rfl
 |cons b r ih=>
  refine aa D5 ?_;rcases PC b (mx r)with h|h
  . exact aa (Nat.max_eq_right h) (ih.imp id (.tail _))
  . exact aa (Nat.max_eq_left h) (.inr (.head _))
section
variable (w:Str->List Str)
noncomputable def aA:Nat->Str->Nat
 |0,_=>0
 |t+1,x=>mx ((w x).map λc=>aA t c+1)
variable {w}
theorem Gh:∀(t) (x),aA w t x<=t:=by
 intro Sl;induction Sl with
 |zero=>intro Z;exact IC _
 |succ t Sk=>
  intro x;exact wr λa ha=>by
   refine dJ ha λc Z qq=>?_;clear ha;subst qq;exact IS (Sk c)
theorem jk:∀(t) (x),aA w t x<=aA w (t+1) x:=by
 intro Sl;induction Sl with
 |zero=>intro Z;exact JG _
 |succ t Sk=>
  intro x;exact wr λa ha=>by
   refine dJ ha λc hc qq=>?_;clear ha;subst qq;exact Iu (IS (Sk c)) (kh (IU.mpr ⟨c,hc,rfl⟩))
theorem cR(t)(x):aA w (t+1) x<t+1↔∀c∈w x,aA w t c<t:=by
 constructor
 . intro h c hc;have:=kh (l:=(w x).map λc=>aA w t c+1) (IU.mpr ⟨c,hc,rfl⟩);have h:=h;exact Iu this (KY h)
 . intro h;refine LQ (wr λa ha=>?_);exact dJ ha λc hc qq=>an qq (h c hc)
theorem rJ(h:aA w t x<t):aA w (t+1) x=aA w t x:=by
 induction t generalizing x with
 |zero=>exact absurd h (Lm _)
 |succ t ih=>
  refine(?_:mx ((w x).map λc=>aA w (t+1) c+1)=mx ((w x).map λc=>aA w t c+1))
  congr 1
  exact Ls λc q=>aa (ih (((cR t x).mp h) c q)) rfl
theorem f7(h:aA w t x<t):∀k,aA w (t+k) x=aA w t x:=by
 intro Sl;induction Sl with
 |zero=>exact rfl
 |succ k Sk=>have e:=Sk;have:aA w (t+k) x<t+k:=aa e (Pq k h);exact aa (rfl:t+(k+1)=t+k+1) (aa (rJ this) (aa e rfl))
noncomputable def bI (w:Str->List Str)(t:Nat)(x:Str):Bool:=Kd (aA w t x) t
theorem aE:bI w t x=true↔aA w t x<t:=⟨λh=>Iv h,λh=>Jy h⟩
theorem gR(h:bI w t x=true):bI w (t+1) x=true:=by rw[aE]at h⊢;exact aa (rJ h) (I3 (by assumption))
variable {ns:List Str}
theorem wt(hw:∀x∈ns,∀c∈w x,c∈ns)(h:∀x∈ns,bI w (t+1) x=true->bI w t x=true):∀k,∀x∈ns,bI w (t+k) x=true->bI w t x=true:=by
 intro Sl;induction Sl with
 |zero=>intro x Z q;exact q
 |succ k Sk=>intro x hx q;refine h x hx (aa (propext aE) (aa (propext (cR _ _)) ?_));intro c hc;rw[show t+(k+1)=t+k+1 from rfl,aE,cR]at q;exact aE.mp (Sk c (hw x hx c hc) (aE.mpr (q c hc)))
theorem lJ:∀{l:List Str},(∀x∈l,p x=true->q x=true)->(l.filter p).length<=(l.filter q).length/\((l.filter q).length<=(l.filter p).length->∀x∈l,q x=true->p x=true):=by
 intro l;induction l with
 |nil=>exact λZ=>⟨IC _,λZ x hx=>(IA hx).elim⟩
 |cons a r ih=>
  intro h;refine ad (ih λx hx=>h x (.tail _ hx)) λi1 i2=>aa JB (aa JB ?_);induction hp:p a with
  |true=>
   refine aa (h a (.head _) hp) ⟨by simpa using i1,λl x hx hq=>?_⟩;refine av hx (λe=>?_) λe=>?_
   . exact aa e hp
   . exact i2 (by simpa using l) x e hq
  |false=>
   induction hq:q a with
   |true=>refine⟨by simp;exact I3 (by assumption),λl x hx q'=>?_⟩;simp at l;exact absurd (Iu l i1) (Oc _)
   |false=>
    refine⟨by simpa using i1,λl x hx q'=>?_⟩;refine av hx (λe=>?_) λe=>?_
    . haveI q':=hq▸e▸q';cases q'
    . exact i2 (by simpa using l) x e q'
theorem rK(hw:∀x∈ns,∀c∈w x,c∈ns)(k:Nat):∀x∈ns,bI w (ns.length+k) x=true->bI w ns.length x=true:=by
 have step:∀t,(∃s,s<=t/\∀x∈ns,bI w (s+1) x=true->bI w s x=true)\/t+1<=(ns.filter (bI w (t+1))).length:=by
  intro t;induction t with
  |zero=>
   refine ad (lJ (l:=ns) (p:=bI w 0) (q:=bI w 1) λx Z h=>gR h) λa b=>?_;by_cases q:(ns.filter (bI w 1)).length<=(ns.filter (bI w 0)).length
   . exact .inl ⟨0,IC _,b q⟩
   . have:1<=(ns.filter (bI w 1)).length:=I8 (JG _) (Pr q);exact .inr this
  |succ t ih=>
   rcases ih with⟨s,h1,h2⟩|ih
   . exact .inl ⟨s,I3 (by assumption),h2⟩
   refine ad (lJ (l:=ns) (p:=bI w (t+1)) (q:=bI w (t+1+1)) λx Z h=>gR h) λa b=>?_;by_cases q:(ns.filter (bI w (t+1+1))).length<=(ns.filter (bI w (t+1))).length
   . exact .inl ⟨t+1,IC _,b q⟩
   . exact .inr (I8 ih (Pr q))
 rcases step ns.length with⟨s,h1,h2⟩|h
 . intro x hx q;refine af (Nm h1) λd hd=>?_;have up:∀d,bI w s x=true->bI w (s+d) x=true:=λd h=>by
    induction d with
    |zero=>exact h
    |succ d ih=>exact gR ih
   have:bI w s x=true:=wt hw h2 (d+k) x hx (an (J2 _ _ _) (an hd q));exact aa hd (up d this)
 . have:=Kp (bI w (ns.length+1)) ns;exact absurd (Iu h this) (Oc _)
end
section
noncomputable def bY (su:Str->List Str):List Str->Prop
 |[]=>True
 |f::b=>f∉b/\(∀y∈su f,y∈b)/\bY su b
theorem wu(hF:bY su F):∀{c y},c∈F->y∈su c->y∈F:=by
 induction F with
 |nil=>intro c y h;cases h
 |cons f b ih=>
  intro c y h hy;refine am hF λh1 h2 h3=>?_;clear hF;refine av h (λe=>?_) λe=>?_
  . clear h;subst e;exact .tail _ (h2 y hy)
  . exact .tail _ (ih h3 e hy)
theorem nS(hw:∀x c,c∈w x->x∈su c)(hall:∀x c,c∈w x->c∈F):∀(b a),F=a++b->bY su F->∀x∈a,bI w a.length x=true:=by
 have main:∀(n:Nat) (a b:List Str) (f:Str),a.length<=n->F=a++f::b->bY su F->bI w (a.length+1) f=true:=by
  intro n;induction n with
  |zero=>
   intro a b f hn e hf;have:a=[]:=KS.mp (by exact NC hn);clear hn;subst this;refine aa (propext aE) (?_:aA w 1 f<1);refine aa (propext (cR _ _)) ?_;intro c hc;have h1:=hw f c hc;have h2:=hall f c hc;rw[e]at h2 hf;refine am hf λg1 g2 g3=>?_;clear hf;refine av h2 (λq=>?_) λq=>?_
   . clear e h2 hc;subst q;exact absurd (g2 _ h1) g1
   . exact absurd (wu g3 q h1) g1
  |succ n ih=>
   intro a b f hn e hf;refine aa (propext aE) (aa (propext (cR _ _)) ?_);intro c hc;have h1:=hw f c hc;have h2:=hall f c hc;have tail:∀{a:List Str},bY su (a++f::b)->bY su (f::b)/\∀x∈a,x≠f:=by
    intro a;induction a with
    |nil=>exact λh=>⟨h,λx hx=>(IA hx).elim⟩
    |cons y a ih=>
     rintro⟨q1,_,q3⟩
     refine ad (ih q3) λr1 r2=>⟨r1,λx hx=>?_⟩
     refine av hx (λe=>?_) λe=>?_
     . intro q;exact q1 (by exact an e (aa q (JT _ (.head _))))
     . exact r2 x e
   rw[e]at h2;have Tf:=hf;rw[e]at Tf;refine ad (tail Tf) λSq g4=>?_;rcases Sq with⟨g1,g2,g3⟩
   refine bg h2 (λq=>?_) λq=>?_
   . refine bw (Ou q) λa1 a2 Sq=>?_;clear h2 Tf;subst Sq;have:=ih a1 (a2++f::b) c (by haveI hn:=Jh▸IB▸hn;exact Iu (IK _ _) (Mg hn)) (by exact aa e (aa (JL _ _ _) rfl)) hf;rw[aE]at this;exact aa (by refine aa IB (aa Jh ?_);exact LI (Kk a1.length a2.length):(a1++c::a2).length=a1.length+1+a2.length) (aa (f7 this a2.length) (Pq a2.length this))
   . rcases IJ.mp q with q|q
     . clear e h2 hc Tf tail;subst q;exact absurd (g2 _ h1) g1
     . exact absurd (wu g3 q h1) g1
 intro b a e hf x hx;refine bw (Ou hx) λa1 a2 Sq=>?_;clear hx;subst Sq;have:=main a1.length a1 (a2++b) x (IC _) (by exact aa e (aa (JL _ _ _) rfl)) hf;rw[aE]at this⊢;exact aa (by refine aa IB (aa Jh ?_);exact LI (Kk a1.length a2.length):(a1++x::a2).length=a1.length+1+a2.length) (aa (f7 this a2.length) (Pq a2.length this))
theorem AS(hw:∀x c,c∈w x->x∈su c)(hall:∀x c,c∈w x->c∈F)(hf:bY su F):∀x∈F,bI w F.length x=true:=
 nS hw hall [] F (Jv F).symm hf
theorem hV{P:Str->Prop}(h:∀x,P x->∃c∈w x,P c):∀(t:Nat) (x:Str),P x->bI w t x=false:=by
 intro Sl;induction Sl with
 |zero=>
  intro x Z;induction q:bI w 0 x with
  |false=>rfl
  |true=>rw[aE]at q;exact absurd q (Lm _)
 |succ t Sk=>
  intro x hx;refine ae (h x hx) λc hc hp=>?_;have:=Sk c hp;induction q:bI w (t+1) x with
  |false=>rfl
  |true=>rw[aE,cR]at q;rw[aE.mpr (q c hc)]at this;exact this
end
noncomputable def n_ (k:Nat):List Nat:=n5 k [70] [66,40,40,92] [41,67,34] [92,68,41,41] [69,32,41,92,34]
theorem D6:fF k=S (n_ k):=cq k (by decide +kernel) (by decide +kernel) (by decide +kernel) (by decide +kernel) λZ=>(by decide +kernel:fF 4=S (n_ 4))
theorem lK(k):n_ k≠[]:=cq k (Jx _ _) (Jx _ _) (Jx _ _) (Jx _ _) λZ=>Jx _ _
theorem iB(k):(n_ k).all ik=false:=cq k rfl rfl rfl rfl λZ=>rfl
theorem tG(k)(r):tk .sp [] (qL k++r)=tk .a (n_ k) r:=cq k rfl rfl rfl rfl λZ=>rfl
theorem wv(k)(n)(r):tk .sp [] (hU k n++r)=tk .a (n_ k) r:=by
 unfold hU;induction h:lF k n with
 |false=>exact tG k r
 |true=>
  have e:=(aL.mp (IQ.mp h).1).trans (show("F")=S [70] by decide +kernel);have:n_ k=[70]:=by
   revert e
   exact cq k (λZ=>rfl) (λe=>absurd e (by decide +kernel)) (λe=>absurd e (by decide +kernel)) (λe=>absurd e (by decide +kernel)) λZ e=>absurd e (by decide +kernel:fF 4≠S [70])
  refine aa this ?_
  rfl
theorem eF:∀(n) (r),tk .sp [] (II n 32++r)=tk .sp [] r:=by
 intro Sl;induction Sl with
 |zero=>intro Z;exact rfl
 |succ n Sk=>intro r;refine aa K5 (aa KR (aa wj (aa (if_pos rfl) ?_)));exact Sk r
theorem tI:∀(ps t r),ps.all ik=true->tk .c t (ps++r)=tk .c (t++ps) r:=by
 intro Sl;induction Sl with
 |nil=>intro t r Z;simp
 |cons c ps Sk=>
  intro t r h;rw[LW,Kx]at h;obtain⟨h1,h2⟩:=h;have hc:c=40\/c=41:=by
   refine t_ h1 (λq=>?_) λq=>?_
   . exact .inl (IY q)
   . exact .inr (IY q)
  refine aa KR (aa AG (aa (if_neg (by rcases hc with rfl|rfl<;>decide)) (aa (if_pos hc) (aa (Sk (t++[c]) r h2) ?_))));simp
theorem lL(ps r)(h:ps.all ik=true)(hn:ps≠[]):tk .sp [] (ps++r)=tk .c ps r:=by
 induction ps with
 |nil=>exact absurd rfl hn
 |cons c ps=>
  rw[LW,Kx]at h;obtain⟨h1,h2⟩:=h;have hc:c=40\/c=41:=by
   refine t_ h1 (λq=>?_) λq=>?_
   . exact .inl (IY q)
   . exact .inr (IY q)
  refine aa KR (aa wj (aa (if_neg (by rcases hc with rfl|rfl<;>decide)) (aa (if_neg (by rcases hc with rfl|rfl<;>decide)) (aa (if_neg (by rcases hc with rfl|rfl<;>decide)) (aa (if_pos hc) (aa (tI ps [c] r h2) ?_))))))
  rfl
def Lx (B:Nat)(inp:List Nat)(rs:List (List Nat×Int))(d:Int)(fin:List (List Nat×Int)×Int):Prop:=∃N ts,N<=B/\eX N false inp=some ts/\cK ts rs d=fin
theorem eG{fin}{B}(h:tk .sp [] inp=some (t,false,r))(ht:t≠[])
 (k:match t.all ik with|true=>Lx B r rs (d+t.count 40-t.count 41) fin|false=>Lx B r (rs++[(t,d)]) d fin):Lx (B+1) inp rs d fin:=by
 induction t with
 |nil=>exact absurd rfl ht
 |cons c t=>
  have go:∀{Tj d'},Lx B r Tj d' fin->(∀ts,cK ((c::t)::ts) rs d=cK ts Tj d')->Lx (B+1) inp rs d fin:=λ{Tj d'} ⟨N,ts,h1,h2,h3⟩ e=>by
   refine⟨N+1,(c::t)::ts,IS (by assumption),?_,by rw[e,h3]⟩;show((tk .sp [] inp).bind λr=>match r.1 with
    |[]=>some []
    |c::t=>(eX N r.2.1 r.2.2).map ((c::t):: ·))=_
   refine aa h (?_:(eX N false r).map _=_);exact aa h2 rfl
  induction hp:(c::t).all ik with
  |true=>haveI k:=hp▸k;exact go k λts=>aa jj (aa hp rfl)
  |false=>haveI k:=hp▸k;exact go k λts=>aa jj (aa hp rfl)
theorem D7(h:tk .sp [] inp=some (t,true,[]))(ht:t≠[]):Lx 1 inp rs d (cK [t] rs d):=by
 induction t with
 |nil=>exact absurd rfl ht
 |cons c t=>
  refine⟨1,[c::t],IC _,?_,rfl⟩;show((tk .sp [] inp).bind λr=>match r.1 with
   |[]=>some []
   |c::t=>(eX 0 r.2.1 r.2.2).map ((c::t):: ·))=_
  exact aa h rfl
theorem iC{a b}{rs}{d}{fin}{B}(h:tk .sp [] a=tk .sp [] b)(k:Lx B b rs d fin):Lx B a rs d fin:=by
 refine aP k λN ts h1 h2 h3=>⟨N,ts,h1,?_,h3⟩
 induction N with
 |zero=>cases h2
 |succ N=>refine an h2 (?_:((tk .sp [] a).bind _)=((tk .sp [] b).bind _));exact aa h rfl
noncomputable def text (b:Int)(gs:List Gr):List Nat:=(dG b gs).flatten
theorem AT(k)(n):∃c tl,hU k n=c::tl/\(c=70\/c=34):=by
 unfold hU;induction lF k n with
 |true=>exact⟨70,[],rfl,.inl rfl⟩
 |false=>match k with
  |0=>exact⟨34,_,rfl,.inr rfl⟩
  |1=>exact⟨34,_,rfl,.inr rfl⟩
  |2=>exact⟨34,_,rfl,.inr rfl⟩
  |3=>exact⟨34,_,rfl,.inr rfl⟩
  |k+4=>exact⟨34,_,rfl,.inr rfl⟩
theorem ww(t)(n)(k)(m)(r):tk .c t (II n 32++(hU k m++r))=some (t,false,II (n-1) 32++(hU k m++r)):=by
 induction n with
 |succ n=>exact aa K5 (aa KR (aa AG (aa (if_pos rfl) rfl)))
 |zero=>
  refine be (AT k m) λc tl e hc=>aa e (?_:tk .c t (c::(tl++r))=some (t,false,c::(tl++r)));exact aa AG (aa (if_neg (by rcases hc with rfl|rfl<;>decide)) (aa (if_neg (by rcases hc with rfl|rfl<;>decide)) (aa (if_pos hc) rfl)))
theorem kj(b)(g)(r):text b (g::r)=II (b+1-g.2.1).toNat 41++(II (bl g.2.2 7) 32++([40]++(II (bl g.2.2 11) 32++(hU g.1 g.2.2++(II (bl g.2.2 13) 32++text g.2.1 r))))):=by
 refine(?_:(pV b g::dG g.2.1 r).flatten=_);unfold pV;refine aa KX ?_;simp only[JL]
 rfl
theorem tJ(hb:0<=b):∃c tl,text b gs=c::tl/\(c=40\/c=41\/c=32):=by
 induction gs with
 |nil=>
  obtain⟨m,hm⟩:∃m,(b+1).toNat=m+1:=⟨b.toNat,QG hb (by decide)⟩
  refine aa (by unfold text dG;simp:text b []=II (b+1).toNat 41) (aa hm (aa K5 ?_));exact⟨_,_,rfl,.inr (.inl rfl)⟩
 |cons g r=>
  refine aa (kj _ _ _) ?_;induction (b+1-g.2.1).toNat with
  |succ m=>exact⟨_,_,rfl,.inr (.inl rfl)⟩
  |zero=>
   induction bl g.2.2 7 with
   |succ m=>exact⟨_,_,rfl,.inr (.inr rfl)⟩
   |zero=>exact⟨_,_,rfl,.inl rfl⟩
theorem wx{k}{n}{j}{b}{gs}{m}{rs}{d}{fin}{B}(hb:0<=b)(h:Lx B (text b gs) (rs++[(n_ k,d)]) d fin):
 Lx (B+1) (II j 32++(hU k n++(II m 32++text b gs))) rs d fin:=by
 have e:tk .sp [] (II j 32++(hU k n++(II m 32++text b gs)))=tk .a (n_ k) (II m 32++text b gs):=by exact aa (eF _ _) (aa (wv _ _ _) rfl)
 induction m with
 |succ m=>exact eG (e.trans (aa K5 (aa KR (aa AF (aa (if_pos rfl) rfl))))) (lK k) (aa (iB _) (iC (eF m _) h))
 |zero=>
  refine be (tJ (gs:=gs) hb) λc tl et hc=>?_;rcases hc with hc|hc|hc
  . refine eG (r:=text b gs) (e.trans (by refine(?_:tk .a _ (text b gs)=_);exact aa et (aa AF (aa (if_neg (by refine aa hc ?_;decide)) (aa (if_pos (.inl hc)) rfl))))) (lK k) ?_;exact aa (iB _) h
  . refine eG (r:=text b gs) (e.trans (by refine(?_:tk .a _ (text b gs)=_);exact aa et (aa AF (aa (if_neg (by refine aa hc ?_;decide)) (aa (if_pos (.inr hc)) rfl))))) (lK k) ?_;exact aa (iB _) h
  . refine eG (e.trans (by refine(?_:tk .a _ (text b gs)=_);exact aa et (aa AF (aa (if_pos hc) rfl)))) (lK k) ?_;exact aa (iB _) (iC (by refine aa et ?_;refine(?_:_=tk .sp [] (c::tl));exact aa wj (aa (if_pos hc) rfl)) h)
theorem iD(n c)(h:ik c=true):(II n c).all ik=true:=by refine aa (propext Jj) ?_;intro x hx;exact aa ((QY.mp hx).2) h
theorem rc:b+((II n 41).count 40:Int)-((II n 41).count 41:Int)=b-n:=by refine aa Ku (aa Ku ?_);exact congrArg (· -(n:Int)) (Lf b)
theorem Ij{n:Nat}{b:Int}:b+((II n 41++[40]).count 40:Int)-((II n 41++[40]).count 41:Int)=b-n+1:=by refine aa Nz (aa Nz (aa Ku (aa Ku ?_)));exact Int.add_right_comm b 1 (-(n:Int))
theorem AU:∀(gs) (b) (rs:List (List Nat×Int)),l_ b gs->-1<=b->(gs=[]->0<=b)->Lx (3*gs.length+1) (text b gs) rs (b+1) (rs++gs.map λg=>(n_ g.1,g.2.1+1),0):=by
 intro Sl;induction Sl with
 |nil=>
  intro b rs Z h1 h2;have hb:=h2 rfl;have hp:=iD (b+1).toNat 41 rfl;have hne:II (b+1).toNat 41≠[]:=by
   intro q;have:=congrArg Kn q;rw[Jd,M6]at this;exact absurd this (JU (Int.lt_toNat.mpr (Int.lt_add_one_of_le hb)))
  have:=D7 (inp:=text b []) (t:=II (b+1).toNat 41) (rs:=rs) (d:=b+1) (by
   refine aa (by unfold text dG;simp:text b []=II (b+1).toNat 41) ?_;have:=lL (II (b+1).toNat 41) [] hp hne;rw[Jv]at this;exact aa this rfl) hne
  refine aa PB (aa (Jv _) ?_);have er:cK [II (b+1).toNat 41] rs (b+1)=(rs,0):=by
   refine aa jj (aa hp ?_);refine(?_:(rs,b+1+((II (b+1).toNat 41).count 40)-((II (b+1).toNat 41).count 41))=_);exact aa rc (aa (KC (MD hb)) (aa (Int.sub_self _) rfl))
  rw[er]at this;exact this
 |cons g r Sk=>
  intro b rs hg h1 Z;refine cL hg λg1 g2 g3 g4=>?_;have ih:=Sk g.2.1 (rs++[(n_ g.1,g.2.1+1)]) g4 (Me g2) (λZ=>g2);rw[JL]at ih;obtain⟨fin,hfin⟩:∃fin,fin=(rs++(g::r).map λg=>(n_ g.1,g.2.1+1),(0:Int)):=⟨_,rfl⟩
  have ih:Lx (3*r.length+1) (text g.2.1 r) (rs++[(n_ g.1,g.2.1+1)]) (g.2.1+1) fin:=by exact aa hfin ih
  refine an hfin (aa (kj _ _ _) (aa (show 3*(g::r).length+1=3*r.length+1+1+1+1 from aa Jh (Nat.add_left_inj.mpr rfl)) ?_));have opn:∀(ps:List Nat) (d0:Int),ps.all ik=true->ps≠[]->d0+ps.count 40-ps.count 41=g.2.1+1->Lx (3*r.length+1+1+1) (ps++(II (bl g.2.2 11) 32++(hU g.1 g.2.2++(II (bl g.2.2 13) 32++text g.2.1 r)))) rs d0 fin:=λps d0 h1 h2 h3=>by
   refine eG (t:=ps) (r:=II (bl g.2.2 11-1) 32++(hU g.1 g.2.2++(II (bl g.2.2 13) 32++text g.2.1 r))) ((lL ps _ h1 h2).trans (ww ps _ _ _ _)) h2 ?_;refine aa h1 (aa h3 ?_);exact(λj=>wx g2 ih:∀j,Lx (3*r.length+1+1) (II j 32++(hU g.1 g.2.2++(II (bl g.2.2 13) 32++text g.2.1 r))) rs (g.2.1+1) fin) _
  have up:∀{B:Nat} {inp:List Nat} {d:Int},Lx B inp rs d fin->Lx (B+1) inp rs d fin:=λq8=>aP q8 λN ts a b c=>⟨N,ts,by exact I3 (by assumption),b,c⟩
  have one:=opn [40] g.2.1 rfl (Jx _ _) (by refine(?_:g.2.1+1-0=_);exact Nx (g.snd.fst+1));induction h7:bl g.2.2 7 with
  |zero=>
   have:=opn (II (b+1-g.2.1).toNat 41++[40]) (b+1) (aa List.all_append (aa (iD _ _ rfl) rfl)) (List.concat_ne_nil 40 (II (b+1-g.snd.fst).toNat 41)) (by
    exact aa Ij (aa (KC (KQ g3)) (aa (RB _ _) rfl)))
   rw[JL]at this;exact up this
  |succ j=>
   induction hm:(b+1-g.2.1).toNat with
   |zero=>exact aa (M5 (Int.le_of_sub_nonpos (Int.toNat_eq_zero.mp hm)) g3:b+1=g.2.1) (up (iC (eF (j+1) _) one))
   |succ m=>
    refine eG (t:=II (m+1) 41) (r:=II j 32++([40]++(II (bl g.2.2 11) 32++(hU g.1 g.2.2++(II (bl g.2.2 13) 32++text g.2.1 r))))) ((lL _ _ (iD _ _ rfl) (by exact aa K5 (Jx _ _))).trans (by exact aa (K5 (n:=j)) (aa KR (aa AG (aa (if_pos rfl) rfl))))) (by exact aa K5 (Jx _ _)) (aa (iD _ _ rfl) ?_);have e:b+1+((II (m+1) 41).count 40)-((II (m+1) 41).count 41)=g.2.1:=by
     exact aa rc (an hm (aa (KC (KQ g3)) (aa (RB _ _) rfl)))
    refine(?_:Lx _ _ rs (b+1+((II (m+1) 41).count 40)-((II (m+1) 41).count 41)) fin);exact aa e (iC (eF j _) one)
theorem AW:∀{p} {n} {o},eC n p=some o->eC n (p++r)=(eC 0 r).map (o++ ·):=by
 intro p;induction p with
 |nil=>
  intro n o h;induction n with
  |zero=>exact an (Iw h) Option.map_id'.symm
  |succ n=>exact nn h
 |cons c p ih=>
  intro n o h;induction uv n c with
  |go e=>exact(e _).trans (ih ((e p).symm.trans h))
  |keep e=>
   refine c0 ((e p).symm.trans h) λt h1 q=>?_;rw[KR,e,ih h1,q,Option.map_map]
   rfl
  |bad e=>exact nn ((e p).symm.trans h)
theorem tK:∀{l},(∀x∈l,x≠34)->eC 0 l=some l:=by
 intro Sl;induction Sl with
 |nil=>intro Z;exact rfl
 |cons c r Sk=>intro h;exact aa Cn (aa (if_neg (h c (.head _))) (aa (Sk λx hx=>h x (.tail _ hx)) rfl))
noncomputable def lM (s:List Nat):Option Int:=(eC 0 s).map λo=>(o.count 40:Int)-o.count 41
theorem dp(hp:lM p=some a)(hr:lM r=some b):lM (p++r)=some (a+b):=by
 refine c0 hp λo h1 qq=>?_;refine aa qq (c0 hr λq h2 qq=>?_);refine aa qq ?_;unfold lM;refine aa (AW h1) (aa h2 ?_);refine(?_:some (((o++q).count 40:Int)-(o++q).count 41)=_);refine aa Nz (aa Nz ?_)
 congr 1
 exact aa (Ml _ _) (aa (Ml _ _) (aa QU (aa RV (aa (Mm _ _ _) (aa (Q7 (q.count 40:Int) _ _) (an (Mm _ _ _) rfl))))))
theorem rL(n c)(h:c≠34):lM (II n c)=some (((II n c).count 40:Int)-(II n c).count 41):=by unfold lM;exact aa (tK λx hx=>aa ((QY.mp hx).2) h) rfl
theorem wy(n:Nat):lM (II n 41)=some (-(n:Int)):=by refine aa (rL n 41 (by decide)) (aa Ku (aa Ku ?_));simp
theorem qh(n):lM (II n 32)=some 0:=by refine aa (rL n 32 (by decide)) (aa Ku (aa Ku ?_));simp
theorem D8(k)(n):lM (hU k n)=some 0:=by
 unfold hU;induction lF k n with
 |true=>rfl
 |false=>match k with
  |0=>rfl
  |1=>rfl
  |2=>rfl
  |3=>rfl
  |k+4=>rfl
theorem z2(d b):d-b+ -(d+1)= -(b+1):=aa RV (aa RV (aa QU (aa (Int.add_comm d _) (aa (Mm _ _ _) (an (Mm d _ _) (aa (Int.add_right_neg _) (aa (Int.zero_add _) rfl)))))))
theorem wz(h:g.2.1<=b+1):lM (pV b g)=some (g.2.1-b):=by have:=dp (dp (dp (dp (dp (wy (b+1-g.2.1).toNat) (qh (bl g.2.2 7))) (show lM [40]=some 1 from rfl)) (qh (bl g.2.2 11))) (D8 g.1 g.2.2)) (qh (bl g.2.2 13));unfold pV;exact aa this (aa (KC (KQ h)) (aa (Int.neg_sub _ _) (aa (Lf _) (aa (Lf _) (aa (Lf _) (aa (Lf _) (an (P0 _ _ _) (aa (LF _ _) rfl))))))))
noncomputable def bF (b:Int)(gs:List Gr)(cut:Nat):Int:=match cut with
 |0=>b+1
 |c+1=>match gs[c]? with|some g=>g.2.1+1|none=>0
theorem wA:∀(gs) (b) (cut),l_ b gs->-1<=b->cut<=gs.length->lM ((dG b gs).take cut).flatten=some (bF b gs cut-(b+1))/\lM ((dG b gs).drop cut).flatten=some (-bF b gs cut):=by
 intro Sl;induction Sl with
 |nil=>intro b cut Z h1 h2;have:cut=0:=Nat.le_zero.mp h2;subst this;refine⟨by refine(?_:some _=some (b+1-(b+1)));congr 1;refine(?_:(0:Int)-0=_);exact LI (PX b 1 1),?_⟩;refine(?_:lM [II (b+1).toNat 41].flatten=some (-(b+1)));refine aa (by simp:[II (b+1).toNat 41].flatten=II (b+1).toNat 41) (aa (wy _) ?_);exact congrArg (λx:Int=>some (-x)) (KC (MC h1 1))
 |cons g r Sk=>
  intro b cut hg h1 h2;refine cL hg λg1 g2 g3 g4=>?_;have e:dG b (g::r)=pV b g::dG g.2.1 r:=rfl;cases cut with
  |zero=>refine⟨by refine(?_:some _=some (b+1-(b+1)));congr 1;refine(?_:(0:Int)-0=_);exact LI (PX b 1 1),?_⟩;refine ad (Sk g.2.1 0 g4 (Me g2) (JG _)) λZ q=>?_;rw[P3]at q⊢;refine aa e (aa KX (aa (dp (wz g3) q) ?_));exact congrArg some (z2 g.2.1 b)
  |succ c=>
   refine ad (Sk g.2.1 c g4 (Me g2) (by simpa using h2)) λq1 q2=>?_;have eo:bF b (g::r) (c+1)=bF g.2.1 r c:=by induction c<;>rfl
   with_reducible refine aa e (aa eo (aa List.take_succ_cons (aa List.drop_succ_cons (aa KX (aa (dp (wz g3) q1) ?_)))))
   refine⟨congrArg some ((Q7 _ _ _).trans (congrArg (_+ ·) (z2 g.2.1 b))),q2⟩
theorem bu(e:hg h k=some o):k∈ks h:=IU.mpr ⟨_,aG e,rfl⟩
theorem aC(h:a≠b):IT a b=false:=by induction q:IT a b with|false=>rfl|true=>exact absurd (IY q) h
theorem aW(a):IT a a=true:=Rd a
theorem dq:∀{a b} {k},k∉ks a->hg (a++b) k=hg b k:=by
 intro Sl;induction Sl with
 |nil=>intro Z Z Z;exact rfl
 |cons x92 r So=>
  obtain⟨j,o⟩:=x92;intro b k h;refine(?_:(match IT j k with|true=>some o|false=>hg (r++b) k)=_);exact aa (aC (λe=>h (aa e (.head _)):j≠k)) (So λq=>h (.tail _ q))
theorem bA:∀{a b} {k} {o},hg a k=some o->hg (a++b) k=some o:=by
 intro Sl;induction Sl with
 |nil=>intro Z Z Z h;cases h
 |cons x92 r So=>
  obtain⟨j,o'⟩:=x92;intro b k o h;have h:(match IT j k with|true=>some o'|false=>hg r k)=some o:=h;refine(?_:(match IT j k with|true=>some o'|false=>hg (r++b) k)=_);induction q:IT j k with
  |true=>haveI h:=q▸h;exact h
  |false=>haveI h:=q▸h;exact So h
theorem jl:∀{a b} {k} {o},k∉ks a->hs (a++b) k o=a++hs b k o:=by
 intro Sl;induction Sl with
 |nil=>intro Z Z Z Z;exact rfl
 |cons x92 r So=>
  obtain⟨j,o'⟩:=x92;intro b k o h;refine(?_:(match IT j k with|true=>(j,o)::(r++b)|false=>(j,o')::hs (r++b) k o)=_);refine aa (aC (λe=>h (aa e (.head _)):j≠k)) (?_:(j,o')::hs (r++b) k o=_);exact aa (So λq=>h (.tail _ q)) rfl
theorem cD:∀{a b} {k} {o},k∈ks a->hs (a++b) k o=hs a k o++b:=by
 intro Sl;induction Sl with
 |nil=>intro Z Z Z h;cases h
 |cons x92 r So=>
  obtain⟨j,o'⟩:=x92;intro b k o h;refine(?_:(match IT j k with|true=>(j,o)::(r++b)|false=>(j,o')::hs (r++b) k o)=(match IT j k with|true=>(j,o)::r|false=>(j,o')::hs r k o)++b);by_cases e:j=k
  . clear h;subst e;exact aa (aW _) rfl
  . refine aa (aC e) ?_;have:k∈ks r:=by
     refine av h (λh=>?_) λh=>?_
     . exact absurd h.symm e
     . exact h
    refine(?_:(j,o')::hs (r++b) k o=_);exact aa (So this) rfl
noncomputable def fG (np:Str->Int)(su:Str->List Str):List Str->Hp
 |[]=>[]
 |x::r=>(2*r.length+31,.list ((su x).map .str))::(2*r.length+30,.slots 76 [some (.str x),some (.int (np x)),some (.ref (2*r.length+31))])::fG np su r
theorem eY:fG np su (x::r)=(2*r.length+31,.list ((su x).map .str))::(2*r.length+30,.slots 76 [some (.str x),some (.int (np x)),some (.ref (2*r.length+31))])::fG np su r:=rfl
noncomputable def bH:List Str->Str->Nat
 |[],_=>0
 |x::r,y=>if x=y then 2*r.length+30 else bH r y
theorem kl:bH (x::r) y=if x=y then 2*r.length+30 else bH r y:=rfl
noncomputable def bD {α:Type}(f:Str->α)(x:Str)(v:α):Str->α:=λy=>if x=y then v else f y
section
variable {np:Str->Int}{su:Str->List Str}
theorem dZ:∀{ns} {x},x∈ns->30<=bH ns x/\bH ns x+1<2*ns.length+30/\bH ns x%2=0:=by
 intro Sl;induction Sl with
 |nil=>
  intro SE SG
  first|exact(IA SG).elim|exact(IA SE).elim|cases SG|cases SE
 |cons y r Sw=>
  intro x h;refine aa kl ?_;by_cases e:y=x
  . exact aa (if_pos e) ⟨I4 30 _,I6 (2*r.length+31),Nat.mul_add_mod 2 r.length 30⟩
  . refine aa (if_neg e) ?_;have:x∈r:=by
     refine av h (λh=>?_) λh=>?_
     . exact absurd h.symm e
     . exact h
    have:=Sw this;exact⟨this.1,Jc this.2.1 (IK _ 2),this.2.2⟩
theorem jm:∀{ns} {j},j∈ks (fG np su ns)->30<=j/\j<2*ns.length+30:=by
 intro Sl;induction Sl with
 |nil=>intro Z h;cases h
 |cons x r Sk=>
  intro j h;refine aa Jh (av h (λh=>?_) λh=>?_)
  . exact aa (show j=2*r.length+31 from h) ⟨Iu (Iv rfl) (I4 31 _),I6 (2*r.length+31)⟩
  refine av h (λh=>?_) λh=>?_
  . exact aa (show j=2*r.length+30 from h) ⟨I4 30 _,Ll (I6 (2*r.length+30))⟩
  . exact⟨(Sk h).1,Jc (Sk h).2 (IK _ 2)⟩
theorem nU:∀{ns} {x},x∈ns->hg (fG np su ns) (bH ns x)=some (.slots 76 [some (.str x),some (.int (np x)),some (.ref (bH ns x+1))]):=by
 intro Sl;induction Sl with
 |nil=>
  intro SE SG
  first|exact(IA SG).elim|exact(IA SE).elim|cases SG|cases SE
 |cons y r Sw=>
  intro x h;refine aa kl (aa eY ?_);by_cases e:y=x
  . subst e;refine aa (if_pos rfl) (?_:(match IT (2*r.length+31) (2*r.length+30)with|true=>_|false=>hg (_::_) _)=_);refine aa (aC (JU (I6 _))) (?_:(match IT (2*r.length+30) (2*r.length+30)with|true=>_|false=>_)=_);exact aa (aW _) rfl
  . have hr:x∈r:=by
     refine av h (λh=>?_) λh=>?_
     . exact absurd h.symm e
     . exact h
    have:=dZ hr;refine aa (if_neg e) (?_:(match IT (2*r.length+31) (bH r x)with|true=>_|false=>hg (_::_) _)=_);refine aa (aC (JU (Kh (I6 _) (Kh this.2.1 (I6 _))))) (?_:(match IT (2*r.length+30) (bH r x)with|true=>_|false=>_)=_);exact aa (aC (JU (Kh (I6 _) this.2.1))) (Sw hr)
theorem rM:∀{ns} {x},x∈ns->hg (fG np su ns) (bH ns x+1)=some (.list ((su x).map .str)):=by
 intro Sl;induction Sl with
 |nil=>
  intro SE SG
  first|exact(IA SG).elim|exact(IA SE).elim|cases SG|cases SE
 |cons y r Sw=>
  intro x h;refine aa kl (aa eY ?_);by_cases e:y=x
  . subst e;refine aa (if_pos rfl) (?_:(match IT (2*r.length+31) (2*r.length+30+1)with|true=>_|false=>hg (_::_) _)=_);exact aa (aW _) rfl
  . have hr:x∈r:=by
     refine av h (λh=>?_) λh=>?_
     . exact absurd h.symm e
     . exact h
    have:=dZ hr;refine aa (if_neg e) (?_:(match IT (2*r.length+31) (bH r x+1)with|true=>_|false=>hg (_::_) _)=_);refine aa (aC (JU (Kh this.2.1 (I6 _)))) (?_:(match IT (2*r.length+30) (bH r x+1)with|true=>_|false=>_)=_);exact aa (aC (JU this.2.1)) (Sw hr)
theorem km:∀{ns},x∉ns->fG (bD np x v) su ns=fG np su ns:=by
 intro Sl;induction Sl with
 |nil=>intro Z;exact rfl
 |cons y r Sk=>intro h;have:x≠y:=λe=>h (aa e (.head _));refine aa eY (aa eY ?_);exact aa (Sk λq=>h (.tail _ q)) (aa (show bD np x v y=np y from if_neg this) rfl)
theorem kq:∀{ns},x∉ns->fG np (bD su x v) ns=fG np su ns:=by
 intro Sl;induction Sl with
 |nil=>intro Z;exact rfl
 |cons y r Sk=>intro h;have:x≠y:=λe=>h (aa e (.head _));refine aa eY (aa eY ?_);exact aa (Sk λq=>h (.tail _ q)) (aa (show bD su x v y=su y from if_neg this) rfl)
theorem wB:∀{ns},ns.Nodup->x∈ns->hs (fG np su ns) (bH ns x) (.slots 76 [some (.str x),some (.int v),some (.ref (bH ns x+1))])=fG (bD np x v) su ns:=by
 intro Sl;induction Sl with
 |nil=>
  intro SE SG
  first|exact(IA SG).elim|exact(IA SE).elim|cases SG|cases SE
 |cons y r Sw=>
  intro nd h;refine ma nd λn1 n2=>aa kl (aa eY (aa eY ?_));by_cases e:y=x
  . subst e;refine aa (if_pos rfl) (?_:(match IT (2*r.length+31) (2*r.length+30)with|true=>_|false=>(2*r.length+31,_)::hs (_::_) _ _)=_);refine aa (aC (Z.off_ne (2*r.length) 31 30 rfl)) (?_:(2*r.length+31,_)::(match IT (2*r.length+30) (2*r.length+30)with|true=>_|false=>_)=_);exact aa (aW _) (aa (km n1) (aa (show bD np y v y=v from if_pos rfl) rfl))
  . have hr:x∈r:=by
     refine av h (λh=>?_) λh=>?_
     . exact absurd h.symm e
     . exact h
    have:=dZ hr;refine aa (if_neg e) (?_:(match IT (2*r.length+31) (bH r x)with|true=>_|false=>(2*r.length+31,_)::hs (_::_) _ _)=_);refine aa (aC (JU (Kh (I6 _) (Kh this.2.1 (I6 _))))) (?_:(2*r.length+31,_)::(match IT (2*r.length+30) (bH r x)with|true=>_|false=>(2*r.length+30,_)::hs _ _ _)=_);refine aa (aC (JU (Kh (I6 _) this.2.1))) (aa (show bD np x v y=np y from if_neg (Kr e)) ?_);show _::_::hs (fG np su r) _ _=_
    exact aa (Sw n2 hr) rfl
theorem wC:∀{ns},ns.Nodup->x∈ns->hs (fG np su ns) (bH ns x+1) (.list (l.map .str))=fG np (bD su x l) ns:=by
 intro Sl;induction Sl with
 |nil=>
  intro SE SG
  first|exact(IA SG).elim|exact(IA SE).elim|cases SG|cases SE
 |cons y r Sw=>
  intro nd h;refine ma nd λn1 n2=>aa kl (aa eY (aa eY ?_));by_cases e:y=x
  . subst e;refine aa (if_pos rfl) (?_:(match IT (2*r.length+31) (2*r.length+30+1)with|true=>_|false=>(2*r.length+31,_)::hs (_::_) _ _)=_);exact aa (aW _) (aa (kq n1) (aa (show bD su y l y=l from if_pos rfl) rfl))
  . have hr:x∈r:=by
     refine av h (λh=>?_) λh=>?_
     . exact absurd h.symm e
     . exact h
    have:=dZ hr;refine aa (if_neg e) (?_:(match IT (2*r.length+31) (bH r x+1)with|true=>_|false=>(2*r.length+31,_)::hs (_::_) _ _)=_);refine aa (aC (JU (Kh this.2.1 (I6 _)))) (?_:(2*r.length+31,_)::(match IT (2*r.length+30) (bH r x+1)with|true=>_|false=>(2*r.length+30,_)::hs _ _ _)=_);refine aa (aC (JU this.2.1)) (aa (show bD su x l y=su y from if_neg (Kr e)) ?_);show _::_::hs (fG np su r) _ _=_
    exact aa (Sw n2 hr) rfl
end
noncomputable def bZ:List Str->List (Str×AV)
 |[]=>[]
 |x::r=>bZ r++[(x,.ref (2*r.length+30))]
theorem wD:bZ (x::r)=bZ r++[(x,.ref (2*r.length+30))]:=rfl
theorem d4:∀(ns),(bZ ns).map (·.1)=ns.reverse:=by
 intro Sl;induction Sl with
 |nil=>exact rfl
 |cons x r Sk=>exact aa wD (aa IR (aa Sk (aa Kq rfl)))
theorem wE{α:Type}:∀{l m:List (Str×α)} {x:Str},lk (l++m) x=(lk l x).or (lk m x):=by
 intro Sl;induction Sl with
 |nil=>intro Z Z;exact rfl
 |cons x92 r So=>
  obtain⟨y,a⟩:=x92;intro m x;refine(?_:(match aZ y x with|true=>some a|false=>lk (r++m) x)=(match aZ y x with|true=>some a|false=>lk r x).or _);induction aZ y x with
  |true=>rfl
  |false=>exact So
theorem qi{α:Type}:∀{l:List (Str×α)} {x:Str},x∉l.map (·.1)->lk l x=none:=by
 intro Sl;induction Sl with
 |nil=>intro Z Z;exact rfl
 |cons x92 r So=>
  obtain⟨y,a⟩:=x92;intro x h;have h1:y≠x:=λe=>h (by exact an e (.head _));refine(?_:(match aZ y x with|true=>some a|false=>lk r x)=_);exact aa (bb h1) (So λq=>h (.tail _ q))
theorem qj:∀{ns} {x:Str},x∈ns->ns.Nodup->lk (bZ ns) x=some (.ref (bH ns x)):=by
 intro ns;induction ns with
 |nil=>exact λh=>absurd h IA
 |cons y r ih=>
  intro x h nd;refine ma nd λn1 n2=>aa wD (aa kl (aa wE ?_));by_cases e:y=x
  . refine aa (if_pos e) (aa (qi (by refine aa (d4 _) (an e ?_);simpa using n1)) ?_);refine(?_:(match aZ y x with|true=>some _|false=>none)=_);exact aa e (aa (az _) rfl)
  . exact aa (if_neg e) (aa (ih (av h (λh=>absurd h.symm e) id) n2) rfl)
theorem qk(h:x∉ns):lk (bZ ns) x=none:=qi (by refine aa (d4 _) ?_;simpa using h)
theorem ql{α:Type}:∀{l} {x} {a:α},x∉l.map (·.1)->st l x a=l++[(x,a)]:=by
 intro Sl;induction Sl with
 |nil=>intro Z Z Z;exact rfl
 |cons x92 r So=>
  obtain⟨y,b⟩:=x92;intro x a h;have h1:y≠x:=λe=>h (by exact an e (.head _));refine(?_:(match aZ y x with|true=>(y,a)::r|false=>(y,b)::st r x a)=_);refine aa (bb h1) (?_:(y,b)::st r x a=_);exact aa (So λq=>h (.tail _ q)) rfl
theorem D9(h:x∉ns):st (bZ ns) x (.ref (2*ns.length+30))=bZ (x::ns):=ql (by refine aa (d4 _) ?_;simpa using h)
theorem AY(ns):(bZ ns).length=ns.length:=by
 have:=congrArg Kn (d4 ns)
 simpa using this
set_option tactic.hygienic true
theorem AZ(h:a<2*l+30)(hn:l<=9):a<50:=Jc h (Jf (Iu (JF 2 hn) (Iv rfl:2*9<=20)) 30)
noncomputable def t9 (rdy:AV)(npo nfi:Int):List (Str×AV):=[("_node2info",.ref 22),("_ready_nodes",rdy),("_npassedout",.int npo),("_nfinished",.int nfi)]
noncomputable def A_ (es:List (Str×AV))(rdy:AV)(npo nfi:Int)(v21 v22:Nat)(tail:Hp):Hp:=(22,.dict es v22)::(20,.inst 173 21)::(21,.dict (t9 rdy npo nfi) v21)::tail
noncomputable def SH (pre:Hp)(np:Str->Int)(su:Str->List Str)(ns:List Str)(es:List (Str×AV))(rdy:AV)(npo nfi:Int)(v21 v22:Nat)(tail:Hp):Hp:=pre++(fG np su ns++A_ es rdy npo nfi v21 v22 tail)
section
variable {P:Places}{call:AV->Callee}{pre:Hp}{np:Str->Int}{su:Str->List Str}{ns:List Str}{es:List (Str×AV)}{rdy:AV}{npo nfi:Int}{v21 v22:Nat}{tail:Hp}
variable (hp:∀j∈ks pre,50<=j)(hn:ns.length<=9)
include hp hn
theorem far(h:k<50):k∉ks pre:=λq=>absurd (hp k q) (Kj h)
omit hp hn in
theorem Gi(h:k<30):k∉ks (fG np su ns):=λq=>absurd (jm q).1 (Kj h)
theorem ca(h:k<30):hg (SH pre np su ns es rdy npo nfi v21 v22 tail) k=hg (A_ es rdy npo nfi v21 v22 tail) k:=by unfold SH;exact aa (dq (far hp hn (Iu (by assumption) (Iv rfl)))) (aa (dq (Gi h)) rfl)
theorem wF(h:k<30):hs (SH pre np su ns es rdy npo nfi v21 v22 tail) k o=pre++(fG np su ns++hs (A_ es rdy npo nfi v21 v22 tail) k o):=by unfold SH;exact aa (jl (far hp hn (Iu (by assumption) (Iv rfl)))) (aa (jl (Gi h)) rfl)
theorem iE:cy (SH pre np su ns es rdy npo nfi v21 v22 tail) (.ref 20)=some (173,21,t9 rdy npo nfi,v21):=by
 refine(?_:((hg (SH pre np su ns es rdy npo nfi v21 v22 tail) 20).bind AO.inst?).bind (λp=>((hg (SH pre np su ns es rdy npo nfi v21 v22 tail) p.2).bind AO.dict?).map λq=>(p.1,p.2,q.1,q.2))=_);refine aa (ca hp hn (by decide)) (?_:((hg (SH pre np su ns es rdy npo nfi v21 v22 tail) 21).bind AO.dict?).map _=_);refine aa (ca hp hn (by decide)) ?_
 rfl
theorem aT(h:(jC cP 173).bind (λl=>lk l x)=some .own):dP (TT P call) (SH pre np su ns es rdy npo nfi v21 v22 tail) (.ref 20) x=none:=by unfold dP;refine aa (iE hp hn) (?_:((jC cP 173).bind λl=>lk l x).bind AK.prop?=none);exact aa h rfl
theorem ba(h1:(jC cP 173).bind (λl=>lk l x)=some .own)(h2:lk (t9 rdy npo nfi) x=some v)(h3:v.plain=true):iO (TT P call) (.ref 20) x (SH pre np su ns es rdy npo nfi v21 v22 tail)=some v:=by unfold iO;refine aa (iE hp hn) (?_:((((jC cP 173).bind λl=>lk l x).bind λk=>k.own?.bind λZ=>(lk (t9 rdy npo nfi) x).bind λv=>gd v.plain (some v)).or _)=_);refine aa h1 (?_:(((lk (t9 rdy npo nfi) x).bind λv=>gd v.plain (some v)).or _)=_);refine aa h2 (?_:((gd v.plain (some v)).or _)=_);exact aa h3 rfl
theorem qm(h1:(jC cP 173).bind (λl=>lk l x)=some .own)(h2:st (t9 rdy npo nfi) x v=t9 rdy' npo' nfi'):gz (TT P call) (.ref 20) x v (SH pre np su ns es rdy npo nfi v21 v22 tail)=some (SH pre np su ns es rdy' npo' nfi' (v21+1) v22 tail):=by
 unfold gz;refine aa (iE hp hn) (?_:((((jC cP 173).bind λl=>lk l x).bind λk=>k.own?.bind λZ=>gd (Qk (t9 rdy npo nfi).length 900) (some (hs (SH pre np su ns es rdy npo nfi v21 v22 tail) 21 (.dict (st (t9 rdy npo nfi) x v) (v21+1))))).or _)=_);refine aa h1 (aa h2 (aa (wF hp hn (by decide)) ?_))
 rfl
theorem wH(h1:(jC cP 173).bind (λl=>lk l x)=some (.fn f))(h2:lk (t9 rdy npo nfi) x=none):fnOf (rr P call) (SH pre np su ns es rdy npo nfi v21 v22 tail) (.ref 20) x=some f:=by unfold fnOf;refine aa (iE hp hn) (?_:(((jC cP 173).bind λl=>lk l x).bind λk=>k.fn?.bind λf=>gd (lk (t9 rdy npo nfi) x).isNone (some f))=_);exact aa h1 (aa h2 rfl)
theorem du(h1:(jC cP 173).bind (λl=>lk l x)=some (.fn f))(h2:lk (t9 rdy npo nfi) x=none):dC (rr P call) (SH pre np su ns es rdy npo nfi v21 v22 tail) (.ref 20) x=some (.top f,[.ref 20]):=by unfold dC;exact aa (wH hp hn h1 h2) rfl
theorem Ba:cb (SH pre np su ns es rdy npo nfi v21 v22 tail) (.ref 22)=some (es,v22):=by refine(?_:(hg (SH pre np su ns es rdy npo nfi v21 v22 tail) 22).bind AO.dict?=_);exact aa (ca hp hn (by decide)) rfl
theorem lN(h:lk i_ x=some b):dC (rr P call) (SH pre np su ns es rdy npo nfi v21 v22 tail) (.ref 22) x=some (.bi b,[.ref 22]):=by
 have e:hg (SH pre np su ns es rdy npo nfi v21 v22 tail) 22=some (.dict es v22):=by exact aa (ca hp hn (by decide)) rfl
 have e1:fnOf (rr P call) (SH pre np su ns es rdy npo nfi v21 v22 tail) (.ref 22) x=none:=by refine(?_:(((hg (SH pre np su ns es rdy npo nfi v21 v22 tail) 22).bind AO.inst?).bind _).bind _=none);exact aa e rfl
 unfold dC;refine aa e1 (?_:(lk (eR (SH pre np su ns es rdy npo nfi v21 v22 tail) 22) x).map _=_);unfold eR;refine aa e (?_:(lk i_ x).map _=_);exact aa h rfl
theorem wI(hx:x∈ns):hg (SH pre np su ns es rdy npo nfi v21 v22 tail) (bH ns x)=some (.slots 76 [some (.str x),some (.int (np x)),some (.ref (bH ns x+1))]):=by have:=dZ hx;unfold SH;exact aa (dq (far hp hn (OU (AZ this.2.1 hn)))) (aa (bA (nU hx)) rfl)
theorem kt(hx:x∈ns):hg (SH pre np su ns es rdy npo nfi v21 v22 tail) (bH ns x+1)=some (.list ((su x).map .str)):=by have:=dZ hx;unfold SH;exact aa (dq (far hp hn (AZ this.2.1 hn))) (aa (bA (rM hx)) rfl)
theorem cY(hx:x∈ns)(h1:lk eS y=some i)(h2:([some (.str x),some (.int (np x)),some (.ref (bH ns x+1))]:List (Option AV))[i]? =some (some v))(h3:v.plain=true):iO (TT P call) (.ref (bH ns x)) y (SH pre np su ns es rdy npo nfi v21 v22 tail)=some v:=by
 have e:=wI (es:=es) (rdy:=rdy) (npo:=npo) (nfi:=nfi) (v21:=v21) (v22:=v22) (tail:=tail) (np:=np) (su:=su) hp hn hx;have e1:cy (SH pre np su ns es rdy npo nfi v21 v22 tail) (.ref (bH ns x))=none:=by refine(?_:((hg (SH pre np su ns es rdy npo nfi v21 v22 tail) (bH ns x)).bind AO.inst?).bind _=none);exact aa e rfl
 have e2:de (SH pre np su ns es rdy npo nfi v21 v22 tail) (.ref (bH ns x))=some (76,[some (.str x),some (.int (np x)),some (.ref (bH ns x+1))]):=by refine(?_:(hg (SH pre np su ns es rdy npo nfi v21 v22 tail) (bH ns x)).bind AO.slots?=_);exact aa e rfl
 unfold iO;refine aa e1 (aa e2 ?_);refine(?_:((lk eS y).bind λi=>(([some (.str x),some (.int (np x)),some (.ref (bH ns x+1))]:List (Option AV))[i]?.bind id).bind λv=>gd v.plain (some v)).or _=_);refine aa h1 (?_:(((([some (.str x),some (.int (np x)),some (.ref (bH ns x+1))]:List (Option AV))[i]?).bind id).bind λv=>gd v.plain (some v)).or _=_);refine aa h2 (?_:(gd v.plain (some v)).or _=_);exact aa h3 rfl
theorem dw(hx:x∈ns):dP (TT P call) (SH pre np su ns es rdy npo nfi v21 v22 tail) (.ref (bH ns x)) y=none:=by refine(?_:(((hg (SH pre np su ns es rdy npo nfi v21 v22 tail) (bH ns x)).bind AO.inst?).bind _).bind _=none);exact aa (wI hp hn hx) rfl
theorem jn(hx:x∈ns)(nd:ns.Nodup)(v):gz (TT P call) (.ref (bH ns x)) "npredecessors" (.int v) (SH pre np su ns es rdy npo nfi v21 v22 tail)=some (SH pre (bD np x v) su ns es rdy npo nfi v21 v22 tail):=by
 have e:=wI (es:=es) (rdy:=rdy) (npo:=npo) (nfi:=nfi) (v21:=v21) (v22:=v22) (tail:=tail) (np:=np) (su:=su) hp hn hx;have e1:cy (SH pre np su ns es rdy npo nfi v21 v22 tail) (.ref (bH ns x))=none:=by refine(?_:((hg (SH pre np su ns es rdy npo nfi v21 v22 tail) (bH ns x)).bind AO.inst?).bind _=none);exact aa e rfl
 have e2:de (SH pre np su ns es rdy npo nfi v21 v22 tail) (.ref (bH ns x))=some (76,[some (.str x),some (.int (np x)),some (.ref (bH ns x+1))]):=by refine(?_:(hg (SH pre np su ns es rdy npo nfi v21 v22 tail) (bH ns x)).bind AO.slots?=_);exact aa e rfl
 unfold gz;refine aa e1 (aa e2 ?_);refine(?_:some (hs (SH pre np su ns es rdy npo nfi v21 v22 tail) (bH ns x) (.slots 76 [some (.str x),some (.int v),some (.ref (bH ns x+1))]))=_);have:=dZ hx;unfold SH;exact aa (jl (far hp hn (OU (AZ this.2.1 hn)))) (aa (cD (bu (nU hx))) (aa (wB nd hx) rfl))
theorem D_(hx:x∈ns)(nd:ns.Nodup)(hl:(su x).length<=1000000):sV (SH pre np su ns es rdy npo nfi v21 v22 tail) (.ref (bH ns x+1)) (.str y)=some (SH pre np (bD su x (su x++[y])) ns es rdy npo nfi v21 v22 tail):=by refine aa (bz (kt hp hn hx) (aa (Iz _) hl)) ?_;have:=dZ hx;refine aa (aa IR rfl:((su x).map AV.str++[AV.str y])=(su x++[y]).map AV.str) ?_;unfold SH;exact aa (jl (far hp hn (AZ this.2.1 hn))) (aa (cD (bu (rM hx))) (aa (wC nd hx) rfl))
end
set_option tactic.hygienic false
section
variable {call:AV->Callee}{tail:Hp}
theorem wJ(h:lk eS x=some i)(hi:Kd i 1000=true):gz (TT P call) (.ref k) x v ((k,.slots 76 l)::H)=some ((k,.slots 76 (kU l i v))::H):=by
 have e:hg ((k,.slots 76 l)::H) k=some (.slots 76 l):=by
  refine(?_:(match IT k k with|true=>_|false=>_)=_);exact aa (aW _) rfl
 have e1:cy ((k,.slots 76 l)::H) (.ref k)=none:=by refine(?_:((hg ((k,.slots 76 l)::H) k).bind AO.inst?).bind _=none);exact aa e rfl
 have e2:de ((k,.slots 76 l)::H) (.ref k)=some (76,l):=by refine(?_:(hg ((k,.slots 76 l)::H) k).bind AO.slots?=_);exact aa e rfl
 unfold gz;refine aa e1 (aa e2 ?_);refine(?_:((lk eS x).bind λi=>gd (Kd i 1000) (some (hs ((k,.slots 76 l)::H) k (.slots 76 (kU l i v)))))=_);refine aa h (?_:gd (Kd i 1000) _=_);refine aa hi ?_;refine(?_:some (match IT k k with|true=>_|false=>_)=_);exact aa (aW _) rfl
theorem Bb(h:lk eS x=some i)(hi:Kd i 1000=true):gz (TT P call) (.ref k) x v ((k+1,o)::(k,.slots 76 l)::H)=some ((k+1,o)::(k,.slots 76 (kU l i v))::H):=by
 have e:hg ((k+1,o)::(k,.slots 76 l)::H) k=some (.slots 76 l):=by
  refine(?_:(match IT (k+1) k with|true=>_|false=>(match IT k k with|true=>_|false=>_))=_);exact aa (aC (Kr (Qb k))) (aa (aW _) rfl)
 have e1:cy ((k+1,o)::(k,.slots 76 l)::H) (.ref k)=none:=by refine(?_:((hg ((k+1,o)::(k,.slots 76 l)::H) k).bind AO.inst?).bind _=none);exact aa e rfl
 have e2:de ((k+1,o)::(k,.slots 76 l)::H) (.ref k)=some (76,l):=by refine(?_:(hg ((k+1,o)::(k,.slots 76 l)::H) k).bind AO.slots?=_);exact aa e rfl
 unfold gz;refine aa e1 (aa e2 ?_);refine(?_:((lk eS x).bind λi=>gd (Kd i 1000) (some (hs ((k+1,o)::(k,.slots 76 l)::H) k (.slots 76 (kU l i v)))))=_);refine aa h (?_:gd (Kd i 1000) _=_);refine aa hi ?_;refine(?_:some (match IT (k+1) k with|true=>_|false=>(k+1,o)::(match IT k k with|true=>_|false=>_))=_);exact aa (aC (Kr (Qb k))) (aa (aW _) rfl)
theorem b8{k:Nat}{l:List Nat}(h:k∉l):gd (!l.contains k) (some ())=some ():=by
 have:l.contains k=false:=by
  induction q:l.contains k with
  |false=>rfl
  |true=>exact absurd (K_.mp q) h
 exact aa this rfl
theorem tL{k}{x}{H}(hk:k+1∉k::ks H){K}{Xk:AX->Hp->Prop}(hK:K .none ((k+1,.list [])::(k,.slots 76 [some (.str x),some (.int 0),some (.ref (k+1))])::H)):aY PL call (.top 72) [.ref k,.str x] [] ((k,.slots 76 [])::H) K Xk:=Je 20 (ac.four _ (wJ rfl rfl) _ (wJ rfl rfl) () rfl () (b8 hk) (ac.mk _ (Bb rfl rfl) hK))
def Ea (call:AV->Callee):Prop:=∀{k:Nat} {x:Str} {H:Hp} {K:AV->Hp->Prop} {Xk:AX->Hp->Prop},k∉ks H->k+1∉ks H->K (.ref k) ((k+1,.list [])::(k,.slots 76 [some (.str x),some (.int 0),some (.ref (k+1))])::H)->call (.top 76) [.str x] [] H K Xk
theorem Eb(h72:∀{k} {x} {H} {K} {Xk},k+1∉k::ks H->K .none ((k+1,.list [])::(k,.slots 76 [some (.str x),some (.int 0),some (.ref (k+1))])::H)->call (.top 72) [.ref k,.str x] [] ((k,.slots 76 [])::H) K Xk):Ea λf args kws hp K Xk=>aY PL call f args kws hp K Xk:=by
 intro k x H K Xk h1 h2 hK;refine⟨k,bp (a:=(k,.slots 76 [])::H) ?_ ?_⟩
 . refine(?_:gd (!(ks H).contains k) (some ((k,AO.slots 76 [])::H))=_);have:(ks H).contains k=false:=by
    induction q:(ks H).contains k with
    |false=>rfl
    |true=>exact absurd (K_.mp q) h1
   exact aa this rfl
 . exact h72 (by simp;exact h2) ⟨rfl,hK⟩
theorem Bc(h:x∉ns):fG (bD np x 0) (bD su x []) (x::ns)=(2*ns.length+31,.list [])::(2*ns.length+30,.slots 76 [some (.str x),some (.int 0),some (.ref (2*ns.length+31))])::fG np su ns:=by
 refine(?_:(2*ns.length+31,AO.list ((bD su x [] x).map .str))::(2*ns.length+30,.slots 76 [some (.str x),some (.int (bD np x 0 x)),some (.ref (2*ns.length+31))])::fG (bD np x 0) (bD su x []) ns=_);refine aa (show bD su x [] x=[]from if_pos rfl) (aa (show bD np x 0 x=0 from if_pos rfl) (aa (km h) (aa (kq h) ?_)))
 rfl
theorem Ec(hp:∀j∈ks pre,50<=j)(hn:ns.length<=9)(hl:es.length<=1000):uC (SH pre np su ns es rdy npo nfi v21 v22 tail) (.ref 22) (.str x) a=some (SH pre np su ns (st es x a) rdy npo nfi v21 (v22+1) tail):=by
 refine(?_:((hg (SH pre np su ns es rdy npo nfi v21 v22 tail) 22).bind AO.dict?).bind (λes=>gd (ai es.1.length) (some (hs (SH pre np su ns _ rdy npo nfi v21 v22 tail) 22 (.dict (st es.1 x a) (es.2+1)))))=_);refine aa (ca hp hn (by decide)) (?_:gd (ai es.length) (some (hs (SH pre np su ns es rdy npo nfi v21 v22 tail) 22 (.dict (st es x a) (v22+1))))=_);refine aa (ak (Iu (by assumption) (Iv rfl))) (aa (wF hp hn (by decide)) ?_)
 rfl
theorem wK(hp:∀j∈ks pre,50<=j)(hn:ns.length<=9):qV (SH pre np su ns es rdy npo nfi v21 v22 tail) (.ref 22) (.str x)=some ((lk es x).getD .none):=by unfold qV;exact aa (Ba hp hn) rfl
theorem ay:∀j∈ks ([]:Hp),50<=j:=λj h=>(IA h).elim
theorem f8(ht:∀j∈ks tail,j<20)(h:2*ns.length+30<=j):j∉ks (SH [] np su ns es rdy npo nfi v21 v22 tail):=by
 intro q;have TX:=Iu (I4 30 _) h;have q:j∈(([]:Hp)++(fG np su ns++A_ es rdy npo nfi v21 v22 tail)).map (·.1):=q;rw[List.nil_append,IR]at q;refine bg q (λq=>?_) λq=>?_
 . exact absurd (jm q).2 (L7 h)
 . rcases IJ.mp q with q|q
   . exact absurd ((show j=22 from q)▸TX) (by decide)
   refine av q (λq=>?_) λq=>?_
   . exact absurd ((q:j=20)▸TX) (by decide)
   refine av q (λq=>?_) λq=>?_
   . exact absurd ((show j=21 from q)▸TX) (by decide)
   . exact absurd TX (Kj (Kh (ht j q) (by decide)))
theorem Bd(hI:Ea call)(hn:ns.length<=8)(nd:ns.Nodup)(ht:∀j∈ks tail,j<20){K}{Xk}
 (hK:match decide (x∈ns)with
  |true=>K (.ref (bH ns x)) (SH [] np su ns (bZ ns) rdy npo nfi v21 v22 tail)
  |false=>K (.ref (bH (x::ns) x)) (SH [] (bD np x 0) (bD su x []) (x::ns) (bZ (x::ns)) rdy npo nfi v21 (v22+1) tail)):
 aY PL call (.top 116) [.ref 20,.str x] [] (SH [] np su ns (bZ ns) rdy npo nfi v21 v22 tail) K Xk:=by
 have To:=I3 (by assumption);refine Je 20 (a8.mk (aT ay To rfl) (.ref 22) (ba ay To rfl rfl rfl) (ac.mk _ (lN ay To rfl) (ac.mk _ (wK ay To) ?_)));by_cases hx:x∈ns
 . rw[decide_eq_true hx]at hK;exact aa (qj hx nd) (ac.mk false rfl hK)
 . rw[decide_eq_false hx]at hK;refine aa (qk hx) (ac.mk true rfl (hI (f8 ht (IC _)) (f8 ht (IL _)) ?_));have eH:((2*ns.length+30+1,AO.list [])::(2*ns.length+30,.slots 76 [some (.str x),some (.int 0),some (.ref (2*ns.length+30+1))])::SH [] np su ns (bZ ns) rdy npo nfi v21 v22 tail)=SH [] (bD np x 0) (bD su x []) (x::ns) (bZ ns) rdy npo nfi v21 v22 tail:=by
    unfold SH;exact aa (Bc hx) rfl
   refine aa eH ?_;have Uq:(x::ns).length<=9:=by exact aa Jh (IS (by assumption))
   refine a8.mk (aT ay Uq rfl) (.ref 22) (ba ay Uq rfl rfl rfl) (ac.mk _ (Ec ay Uq (aa (AY _) (Iu (by assumption) (Iv rfl)))) (aa (D9 hx) ?_))
   conv=>whnf
   rw[show bH (x::ns) x=2*ns.length+30 from if_pos rfl]at hK;exact hK
end
structure G where
 np:Str->Int
 su:Str->List Str
 ns:List Str
noncomputable def G.ens (g:G)(x:Str):G:=match decide (x∈g.ns)with
 |true=>g
 |false=>⟨bD g.np x 0,bD g.su x [],x::g.ns⟩
noncomputable def G.inc (g:G)(x:Str)(n:Int):G:=⟨bD g.np x (g.np x+n),g.su,g.ns⟩
noncomputable def G.app (g:G)(x y:Str):G:=⟨g.np,bD g.su x (g.su x++[y]),g.ns⟩
noncomputable def GH (g:G)(rdy:AV)(npo nfi:Int)(v21 v22:Nat)(tail:Hp):Hp:=SH [] g.np g.su g.ns (bZ g.ns) rdy npo nfi v21 v22 tail
theorem qn(g:G)(x:Str):x∈(g.ens x).ns:=by
 unfold G.ens;induction h:decide (x∈g.ns)with
 |true=>exact of_decide_eq_true h
 |false=>exact .head _
theorem gS{g:G}(x:Str)(h:g.ns.Nodup):(g.ens x).ns.Nodup:=by
 unfold G.ens;induction q:decide (x∈g.ns)with
 |true=>exact h
 |false=>exact I_.mpr ⟨of_decide_eq_false q,h⟩
theorem lO(g:G)(x:Str):(g.ens x).ns.length<=g.ns.length+1:=by
 unfold G.ens;induction q:decide (x∈g.ns)with
 |true=>exact IL _
 |false=>exact IC _
def rN (call:AV->Callee):Prop:=∀{g:G} {rdy:AV} {npo nfi:Int} {v21 v22:Nat} {tail:Hp},g.ns.length<=8->g.ns.Nodup->(∀j∈ks tail,j<20)->∀{x:Str} {K:AV->Hp->Prop} {Xk:AX->Hp->Prop},
 (∀{SM},K (.ref (bH (g.ens x).ns x)) (GH (g.ens x) rdy npo nfi v21 SM tail))->call (.top 116) [.ref 20,.str x] [] (GH g rdy npo nfi v21 v22 tail) K Xk
theorem wM{call}(hI:Ea call):rN λf a k h K X=>aY PL call f a k h K X:=by
 intro g rdy npo nfi v21 v22 tail hn nd ht x K Xk hK;refine Bd hI hn nd ht ?_;unfold G.ens at hK;induction q:decide (x∈g.ns)with
 |true=>rw[q]at hK;exact hK
 |false=>rw[q]at hK;exact hK
section
variable {call:AV->Callee}
theorem bN(e:hg H k=some (.list l))(h:lk nE x=some b):dC (rr P call) H (.ref k) x=some (.bi b,[.ref k]):=by
 have e1:fnOf (rr P call) H (.ref k) x=none:=by refine(?_:(((hg H k).bind AO.inst?).bind _).bind _=none);exact aa e rfl
 unfold dC;refine aa e1 (?_:(lk (eR H k) x).map _=_);unfold eR;refine aa e (?_:(lk nE x).map _=_);exact aa h rfl
theorem f9:uQ .Add (.int a) (.int b)=some (.int (a+b)):=rfl
theorem wN(hC:rN call)(hn:g.ns.length<=7)(nd:g.ns.Nodup)(ht:∀j∈ks tail,j<20){K}{Xk:AX->Hp->Prop}
 (hK:∀{SM},K .none (GH ((g.ens x).inc x 0) .none npo nfi v21 SM tail)):aY PL call (.top 123) [.ref 20,.str x] [] (GH g .none npo nfi v21 v22 tail) K Xk:=by
 have l1:=lO g x;have i1:=qn g x;refine ac.mk _ rfl (Je 20 (a8.mk (aT ay (Iu (by assumption) (Iv rfl)) rfl) .none (ba ay (Iu (by assumption) (Iv rfl)) rfl rfl rfl) (ac.mk false rfl (ac.mk _ (du ay (Iu (by assumption) (Iv rfl)) rfl rfl) (hC (I3 (by assumption)) nd ht ?_)))));intro SM;refine ac.four _ (cY ay (Iu l1 (IS (I3 hn))) i1 rfl rfl rfl) 0 rfl _ f9 _ (jn ay (Iu l1 (IS (I3 hn))) i1 (gS x nd) _) (ac.mk _ rfl ?_);exact Je 1 (ac.mk _ rfl hK)
theorem wO(hC:rN call)(hn:g.ns.length<=7)(nd:g.ns.Nodup)(ht:∀j∈ks tail,j<20)(hl:((((g.ens x).inc x 1).ens p).su p).length<=1000){K}{Xk:AX->Hp->Prop}
 (hK:∀{SM},K .none (GH ((((g.ens x).inc x 1).ens p).app p x) .none npo nfi v21 SM tail)):aY PL call (.top 123) [.ref 20,.str x,.str p] [] (GH g .none npo nfi v21 v22 tail) K Xk:=by
 have l1:=lO g x;have i1:=qn g x;have l2:=lO ((g.ens x).inc x 1) p;have i2:=qn ((g.ens x).inc x 1) p;have n1:=gS x nd;refine ac.mk _ rfl (Je 20 (a8.mk (aT ay (Iu (by assumption) (Iv rfl)) rfl) .none (ba ay (Iu (by assumption) (Iv rfl)) rfl rfl rfl) (ac.mk false rfl (ac.mk _ (du ay (Iu (by assumption) (Iv rfl)) rfl rfl) (hC (I3 (by assumption)) nd ht ?_)))));intro SM;refine ac.four _ (cY ay (Iu l1 (IS (I3 hn))) i1 rfl rfl rfl) 1 rfl _ f9 _ (jn ay (Iu l1 (IS (I3 hn))) i1 (gS x nd) _) (ac.mk _ rfl (Je 2 ?_));refine ac.mk _ rfl (ac.mk _ (du ay (Iu l1 (IS (I3 hn))) rfl rfl) (hC (g:=(g.ens x).inc x 1) (Iu l1 (IS hn)) n1 ht ?_));intro v22'';refine a8.mk (dw ay (Iu l2 (IS (Iu l1 (IS hn)))) i2) _ (cY ay (Iu l2 (IS (Iu l1 (IS hn)))) i2 rfl rfl rfl) (ac.mk _ (bN (kt ay (Iu l2 (IS (Iu l1 (IS hn)))) i2) rfl) ?_);exact ac.two _ (D_ ay (Iu l2 (IS (Iu l1 (IS hn)))) i2 (gS p n1) (Iu (by assumption) (Iv rfl))) _ rfl hK
end
set_option tactic.hygienic true
section
variable {call:AV->Callee}
theorem Gj{l:List Nat}{k:Nat}(h:k∉l):(!l.contains k)=true:=by
 have:l.contains k=false:=by
  induction q:l.contains k with
  |false=>rfl
  |true=>exact absurd (K_.mp q) h
 exact aa this rfl
theorem nV{o:AO}(h:k∉ks H):cW H k o=some ((k,o)::H):=by refine(?_:gd (!(ks H).contains k) _=_);exact aa (Gj h) rfl
theorem tM(ht:∀j∈ks tail,j<20){K}{Xk}
 (hK:K .none (SH [] (λZ=>0) (λZ=>[]) [] [] .none 0 0 4 0 tail)):aY PL call (.top 109) [.ref 20] [] ((20,.inst 173 21)::(21,.dict [] 0)::tail) K Xk:=by
 refine Je 30 (ac.mk 22 rfl (ac.mk () (b8 (λq=>?_)) ?_))
 . rcases IJ.mp q with q|q
   . exact absurd q (by decide)
   refine av q (λq=>?_) λq=>?_
   . exact absurd q (by decide)
   exact absurd (ht _ q) (by decide)
 exact ac.four ((22,.dict [] 0)::(20,.inst 173 21)::(21,.dict [("_node2info",.ref 22)] 1)::tail) rfl _ rfl _ rfl _ rfl (ac.mk false rfl hK)
theorem br(e:hg H k=some (.list l)):aU H (.ref k)=some l:=by unfold aU;refine(?_:(none:Option (List AV)).or ((hg H k).bind _)=_);exact aa e rfl
theorem wP(e:hg H k=some (.list l))(h:l.length<=1000000):y0 H (.ref k)=some (.tup l):=by unfold y0;refine aa (br e) (?_:gd (ai l.length) _=_);exact aa (ak h) rfl
theorem wQ(e:hg H k=some (.list l))(h:l.length<=1000000):y5 H (.ref k)=some (!l.isEmpty):=by unfold y5;refine aa (br e) (?_:gd (ai l.length) _=_);exact aa (ak h) rfl
theorem wR(e:hg H k=some (.list l))(h:l.length<=1000000):Dc H (.ref k)=some (hs H k (.list [])):=by refine(?_:(((hg H k).bind AO.list?).map λxs=>(k,xs)).bind (λp=>gd (ai p.2.length) (some (hs H p.1 (.list []))))=_);refine aa e (?_:gd (ai l.length) _=_);exact aa (ak h) rfl
theorem Ed(hp:∀j∈ks pre,50<=j)(hn:ns.length<=9)(hl:l.length<=1000000)(hr:hg (SH pre np su ns es (.ref r) npo nfi v21 v22 tail) r=some (.list l)){K}{Xk}
 (hK:K (.bool (decide (nfi<npo)|| !l.isEmpty)) (SH pre np su ns es (.ref r) npo nfi v21 v22 tail)):aY PL call (.top 142) [.ref 20] [] (SH pre np su ns es (.ref r) npo nfi v21 v22 tail) K Xk:=by
 refine Je 20 (a8.mk (aT hp hn rfl) (.ref r) (ba hp hn rfl rfl rfl) (ac.mk false rfl (a8.mk (aT hp hn rfl) (.int nfi) (ba hp hn rfl rfl rfl) (a8.mk (aT hp hn rfl) (.int npo) (ba hp hn rfl rfl rfl) (ac.mk (decide (nfi<npo)) rfl ?_)))));induction q:decide (nfi<npo)with
 |true=>rw[q]at hK;exact hK
 |false=>rw[q]at hK;exact a8.mk (aT hp hn rfl) (.ref r) (ba hp hn rfl rfl rfl) (ac.mk _ (wQ hr hl) hK)
noncomputable def bv (f:Str->Int)(l:List Str)(v:Int):Str->Int:=l.foldl (λf x=>bD f x v) f
theorem jo(h:hg pre k=some o):hs (SH pre np su ns es rdy npo nfi v21 v22 tail) k o'=SH (hs pre k o') np su ns es rdy npo nfi v21 v22 tail:=by unfold SH;exact aa (cD (bu h)) rfl
theorem cE(h:hg pre k=some o):hg (SH pre np su ns es rdy npo nfi v21 v22 tail) k=some o:=by unfold SH;exact bA h
theorem qo(hp:∀j∈ks pre,50<=j)(hn:ns.length<=9)(nd:ns.Nodup)(hx:x∈ns):h_ (SH pre np su ns (bZ ns) rdy npo nfi v21 v22 tail) (.ref 22) (.str x)=some (.ref (bH ns x)):=by unfold h_;refine(?_:(((hg (SH pre np su ns (bZ ns) rdy npo nfi v21 v22 tail) 22).bind AO.dict?).bind λes=>_)=_);refine aa (ca hp hn (by decide)) (?_:lk (bZ ns) x=_);exact aa (qj hx nd) rfl
theorem Ee{pre:Hp}{g:G}{npo nfi:Int}{v21 v22:Nat}{rdy:List Str}(hp:∀j∈ks pre,50<=j)(SP:hg pre 54=some (.list (rdy.map .str)))(hn:g.ns.length<=9)(nd:g.ns.Nodup)(hl:rdy.length<=1000)(hr:∀x∈rdy,x∈g.ns){K:AV->Hp->Prop}{Xk:AX->Hp->Prop}
 (hK:K (.tup (rdy.map .str)) (SH (hs pre 54 (.list [])) (bv g.np rdy (-1)) g.su g.ns (bZ g.ns) (.ref 54) (npo+rdy.length) nfi (v21+1) v22 tail)):aY PL call (.top 135) [.ref 20] [] (SH pre g.np g.su g.ns (bZ g.ns) (.ref 54) npo nfi v21 v22 tail) K Xk:=by
 refine Je 20 (a8.mk (aT hp hn rfl) (.ref 54) (ba hp hn rfl rfl rfl) (ac.mk false rfl (a8.mk (aT hp hn rfl) (.ref 54) (ba hp hn rfl rfl rfl) (ac.mk _ (wP (cE SP) (by exact aa (Iz _) (Iu (by assumption) (Iv rfl)))) (a8.mk (aT hp hn rfl) (.ref 22) (ba hp hn rfl rfl rfl) (ac.mk _ rfl (cQ (rdy.map .str) (λi s=>s=(([("self",.ref 20),("result",.tup (rdy.map .str)),("n2i",.ref 22)]:Lo),SH pre (bv g.np (rdy.take i) (-1)) g.su g.ns (bZ g.ns) (.ref 54) npo nfi v21 v22 tail)) rfl (λi s h=>rfl) ?_ ?_)))))))
 . intro s h;refine aa h (aa (Iz _) (aa Ka ?_));refine a8.mk (aT hp hn rfl) (.ref 54) (ba hp hn rfl rfl rfl) (ac.mk _ (bN (cE SP) rfl) (ac.mk _ (wR (cE SP) (aa (Iz _) (Iu (by assumption) (Iv rfl)))) (aa (jo SP) ?_)));have Sp:∀j∈ks (hs pre 54 (.list [])),50<=j:=λj q=>hp j (by rw[eP]at q;exact q);refine ac.mk (.int npo) (ba Sp hn rfl rfl rfl) (ac.mk (rdy.length:Int) ?_ ?_)
   . refine(?_:(gd (ai (rdy.map AV.str).length) (some ((rdy.map AV.str).length:Int))).or _=_);exact aa (Iz _) (aa (ak (Iu (by assumption) (Iv rfl))) rfl)
   exact ac.two _ f9 _ (qm (rdy':=.ref 54) (npo':=npo+rdy.length) (nfi':=nfi) Sp hn rfl rfl) hK
 . intro i x s K' hx h Su;refine aa h ?_;rw[I9]at hx;refine aH hx λy hy qq=>?_;refine an qq ?_;have SN:=hr y (JP hy);refine ac.two _ (qo hp hn nd SN) _ (jn hp hn SN nd _) (Su _ (aa (show rdy.take (i+1)=rdy.take i++[y]from aa JR (aa hy rfl)) ?_));unfold bv;refine aa My ?_
   rfl
end
set_option tactic.hygienic false
noncomputable def ku (s:(Str->Int)×List Str)(y:Str):(Str->Int)×List Str:=(bD s.1 y (s.1 y-1),match decide (s.1 y-1=0)with|true=>s.2++[y]|false=>s.2)
noncomputable def cF (su:Str->List Str)(s:(Str->Int)×List Str)(x:Str):(Str->Int)×List Str:=(su x).foldl ku (bD s.1 x (-2),s.2)
theorem jp:k∈ks h->hg (hs h k o) k=some o:=by
 induction h with
 |nil=>intro q;cases q
 |cons p r ih=>
  obtain⟨j,o'⟩:=p;intro q;refine(?_:hg (match IT j k with|true=>(j,o)::r|false=>(j,o')::hs r k o) k=_);by_cases e:j=k
  . clear q;refine an e (aa (aW _) (?_:(match IT j j with|true=>some o|false=>hg r j)=_));exact aa (aW _) rfl
  . refine aa (aC e) (?_:(match IT j k with|true=>some o'|false=>hg (hs r k o) k)=_);refine aa (aC e) (av q (λq=>?_) λq=>?_)
    . exact absurd q.symm e
    . exact ih q
theorem Ef:hs (hs h k o) k o'=hs h k o':=by
 induction h with
 |nil=>rfl
 |cons p r ih=>
  obtain⟨j,q⟩:=p;refine(?_:hs (match IT j k with|true=>(j,o)::r|false=>(j,q)::hs r k o) k o'=(match IT j k with|true=>(j,o')::r|false=>(j,q)::hs r k o'));by_cases e:j=k
  . refine an e (aa (aW _) (?_:(match IT j j with|true=>_|false=>_)=_));exact aa (aW _) rfl
  . refine aa (aC e) (?_:(match IT j k with|true=>_|false=>(j,q)::hs (hs r k o) k o')=_);exact aa (aC e) (aa ih rfl)
theorem Be:∀(l:List Str) (s:(Str->Int)×List Str),(l.foldl ku s).2.length<=s.2.length+l.length:=by
 intro Sl;induction Sl with
 |nil=>intro Z;exact IC _
 |cons y r Sk=>
  intro s;have:=Sk (ku s y);have e:(ku s y).2.length<=s.2.length+1:=by
   unfold ku;induction decide (s.1 y-1=0)with
   |true=>refine(?_:(s.2++[y]).length<=_);exact aa IB (IC _)
   |false=>exact IL _
  refine(?_:(r.foldl ku (ku s y)).2.length<=_);exact Iu this (Iu (Jf e _) (I2 (Jb _ 1 _)))
theorem jq{α:Type}(f)(x)(v:α):bD f x v x=v:=if_pos rfl
theorem eJ(e:hg H k=some (.list l)):dR H (.ref k)=some λhp=>(hg hp k).bind AO.list?:=by refine(?_:(((hg H k).bind AO.list?).map λZ hp=>(hg hp k).bind AO.list?).or _=_);exact aa e rfl
theorem wS:uQ .Sub (.int a) (.int b)=some (.int (a-b)):=rfl
section
variable {call:AV->Callee}
inductive Eg(nodes:List Str)(pre:Hp)(su:Str->List Str)(ns:List Str)(npo:Int)(v22:Nat)(tail:Hp)(n:Int)(v:Nat)(p:(Str->Int)×List Str):St->Prop
 |mk:Eg nodes pre su ns npo v22 tail n v p (([("self",.ref 20),("nodes",.tup (nodes.map .str)),("n2i",.ref 22)]:Lo),SH (hs pre 54 (.list (p.2.map .str))) p.1 su ns (bZ ns) (.ref 54) npo n v v22 tail)
inductive Gk(nodes:List Str)(pre:Hp)(su:Str->List Str)(ns:List Str)(npo:Int)(v22:Nat)(tail:Hp)(n:Int)(v:Nat)(y:Str)(p:(Str->Int)×List Str):St->Prop
 |mk:Gk nodes pre su ns npo v22 tail n v y p (([("self",.ref 20),("nodes",.tup (nodes.map .str)),("n2i",.ref 22),("nodeinfo",.ref (bH ns y))]:Lo),SH (hs pre 54 (.list (p.2.map .str))) p.1 su ns (bZ ns) (.ref 54) npo n v v22 tail)
theorem kz{α β:Type}{l:List α}{i:Nat}{y:α}(hy:l[i]? =some y)(f:β->α->β)(b:β):(l.take (i+1)).foldl f b=f ((l.take i).foldl f b) y:=by
 refine aa JR (aa hy (aa My ?_))
 rfl
theorem wT(hp:∀j∈ks pre,50<=j)(SP:54∈ks pre)(hn:ns.length<=9)(nd:ns.Nodup){np:Str->Int}{rd nodes:List Str}{nfi:Int}{v21:Nat}(hl:nodes.length<=1000)(hr:∀x∈nodes,x∈ns)(S5:∀x∈ns,∀y∈su x,y∈ns)(hsl:∀x∈ns,(su x).length<=1000)
 (ho:∀i x,nodes[i]? =some x->((nodes.take i).foldl (cF su) (np,rd)).1 x= -1)
 (hb:∀i,(nodes.take i).foldl (cF su) (np,rd) |>.2.length<=1000) {K} {Xk}
 (hK:K .none (SH (hs pre 54 (.list ((nodes.foldl (cF su) (np,rd)).2.map .str))) (nodes.foldl (cF su) (np,rd)).1 su ns (bZ ns) (.ref 54) npo (nfi+nodes.length) (v21+nodes.length) v22 tail)):
 aY PL call (.top 156) (.ref 20::nodes.map .str) [] (SH (hs pre 54 (.list (rd.map .str))) np su ns (bZ ns) (.ref 54) npo nfi v21 v22 tail) K Xk:=by
 have Sp:∀l:List AV,∀j∈ks (hs pre 54 (.list l)),50<=j:=λl j q=>hp j (by rw[eP]at q;exact q);have TC:∀l:List AV,hg (hs pre 54 (.list l)) 54=some (.list l):=λl=>jp SP;refine ac.mk ([("self",.ref 20),("nodes",.tup (nodes.map .str))]) ?_ ?_
 . have e:ai (nodes.map AV.str).length=true:=by exact aa (Iz _) (ak (Iu hl (by decide)))
   show((gd (ai (nodes.map AV.str).length) (some [(("nodes":Str),AV.tup (nodes.map .str))])).map ((("self":Str),AV.ref 20):: ·)).map (λl=>l++([]:List (Str×AV)))=_
   exact aa e rfl
 refine Je 40 (a8.mk (aT (Sp _) hn rfl) (.ref 54) (ba (Sp _) hn rfl rfl rfl) (ac.mk false rfl ?_));refine a8.mk (aT (Sp _) hn rfl) (.ref 22) (ba (Sp _) hn rfl rfl rfl) (ac.mk _ rfl (cQ (nodes.map .str) (λi=>Eg nodes pre su ns npo v22 tail (nfi+(i:Int)) (v21+i) ((nodes.take i).foldl (cF su) (np,rd))) (Eq.mpr (congrArg (Eg nodes pre su ns npo v22 tail · v21 (np,rd) _) (Lf nfi)) .mk) (λi s q=>Eg.casesOn q rfl) (λs q=>?_) λi x s K' hx q Su=>?_))
 . rw[Iz,Ka]at q;exact Eg.casesOn q hK
 . rw[I9]at hx;refine aH hx λy hy Sn=>an Sn ?_;have SN:=hr y (JP hy);have SA:=ho i y hy;have TG:=hb i;rw[kz hy]at Su;generalize (nodes.take i).foldl (cF su) (np,rd)=st0 at SA Su TG q;obtain⟨TP,DY⟩:=st0
   revert Su
   refine Eg.casesOn q λSu=>ac.mk _ (lN (Sp _) hn rfl) (ac.two (.ref (bH ns y)) ((wK (Sp _) hn).trans (aa (qj SN nd) rfl)) false rfl (a8.mk (dw (Sp _) hn SN) (.int (-1)) (an (SA:TP y= -1) (cY (Sp _) hn SN rfl rfl rfl)) (ac.mk false rfl (ac.mk _ (jn (Sp _) hn SN nd _) (a8.mk (dw (Sp _) hn SN) (.ref (bH ns y+1)) (cY (Sp _) hn SN rfl rfl rfl) (ac.mk _ (eJ (kt (Sp _) hn SN)) (cQ ((su y).map .str) (λj=>Gk nodes pre su ns npo v22 tail (nfi+(i:Int)) (v21+i) y (((su y).take j).foldl ku (bD TP y (-2),DY))) .mk (λj s q=>Gk.casesOn q (congrArg (Ma · AO.list?) (kt (Sp _) hn SN))) (λs q=>?_) λj z s K2 hz q Tm=>?_)))))))
   . rw[Iz,Ka]at q;exact Gk.casesOn q (ac.three (.int (nfi+i)) (ba (Sp _) hn rfl rfl rfl) _ f9 _ (qm (rdy':=.ref 54) (npo':=npo) (nfi':=nfi+i+1) (Sp _) hn rfl rfl) (Su _ (Eq.mpr (congrArg (Eg nodes pre su ns npo v22 tail · (v21+i+1) (cF su (TP,DY) y) _) (Mm nfi i 1).symm) .mk)))
   . rw[I9]at hz;refine aH hz λw hw Sn=>an Sn ?_;have S6:=S5 y SN w (JP hw);have Uk:=Be ((su y).take j) (bD TP y (-2),DY);have hb4:=Iu Uk (Jr TG (Iu (N_ _ _) (hsl y SN)));rw[kz hw]at Tm;generalize ((su y).take j).foldl ku (bD TP y (-2),DY)=st1 at Tm hb4 q;obtain⟨S8,eO⟩:=st1
     revert Tm
     refine Gk.casesOn q λTm=>ac.four _ (qo (Sp _) hn nd S6) (.int (S8 w)) (cY (Sp _) hn S6 rfl rfl rfl) _ wS _ (jn (Sp _) hn S6 nd _) (a8.mk (dw (Sp _) hn S6) (.int (S8 w-1)) (cY (Sp _) hn S6 rfl (by refine(?_:some (some (AV.int (bD S8 w (S8 w-1) w)))=_);exact aa (jq _ _ _) rfl) rfl) ?_);by_cases q:S8 w-1=0
     . refine ac.mk true (congrArg some (decide_eq_true q)) (a8.mk (aT (Sp _) hn rfl) (.ref 54) (ba (Sp _) hn rfl rfl rfl) (ac.mk _ (bN (cE (TC _)) rfl) (ac.mk _ ((bz (cE (TC _)) (aa (Iz _) (Iu hb4 (by decide)))).trans (congrArg some ((jo (TC _)).trans (aa Ef rfl)))) (Tm _ (aa (show ku (S8,eO) w=(bD S8 w (S8 w-1),eO++[w])from by unfold ku;exact aa (decide_eq_true q) rfl) ?_)))));have e:(eO.map AV.str++[AV.str w])=(eO++[w]).map AV.str:=(IR (f:=AV.str) (l₁:=eO) (l₂:=[w])).symm;exact aa e .mk
     . exact ac.mk false (congrArg some (decide_eq_false q)) (Tm _ (aa (show ku (S8,eO) w=(bD S8 w (S8 w-1),eO)from by unfold ku;exact aa (decide_eq_false q) rfl) .mk))
end
noncomputable def bn (np:Str->Int)(ns:List Str):List Str:=ns.reverse.filter λx=>decide (np x=0)
section
variable {call:AV->Callee}
theorem Eh(hp:∀j∈ks pre,50<=j)(hn:ns.length<=9):y8 (SH pre np su ns es rdy npo nfi v21 v22 tail) (.ref 22)=some (.vals 22):=by refine(?_:Option.map (λx=>AV.vals 22) ((hg (SH pre np su ns es rdy npo nfi v21 v22 tail) 22).bind AO.dict?)=_);exact aa (ca hp hn (by decide)) rfl
theorem Ei(hp:∀j∈ks pre,50<=j)(hn:ns.length<=9):dR (SH pre np su ns es rdy npo nfi v21 v22 tail) (.vals 22)=some λhp=>((hg hp 22).bind AO.dict?).bind (gC v22):=by refine(?_:((hg (SH pre np su ns es rdy npo nfi v21 v22 tail) 22).bind AO.dict?).map (λes hp=>((hg hp 22).bind AO.dict?).bind (gC es.2))=_);exact aa (ca hp hn (by decide)) rfl
theorem wU:∀{ns},ns.Nodup->(bZ ns).map (·.2)=ns.reverse.map λx=>AV.ref (bH ns x):=by
 intro Sl;induction Sl with
 |nil=>intro Z;exact rfl
 |cons x r Sk=>
  intro nd;refine ad (I_.mp nd) λn1 n2=>aa wD (aa IR (aa (Sk n2) (aa Kq (aa IR ?_))))
  congr 1
  . refine Ls λy hy=>?_;have:x≠y:=λe=>n1 (by refine aa e ?_;simpa using hy);refine(?_:_=AV.ref (if x=y then _ else bH r y));exact aa (if_neg this) rfl
  . refine(?_:_=[AV.ref (if x=x then _ else _)]);exact aa (if_pos rfl) rfl
theorem Bf(h:l.length<=1000):d8 H (.lst (a::l))=some true:=by refine(?_:(gd (ai (a::l).length) (some true)).or _=_);exact aa (ak (Iu (IS h) (Iv rfl))) rfl
def wV (J:Hp):Prop:=∀j∈ks J,50<=j/\j≠54/\j≠55/\j<1100+J.length
theorem nW(ht:∀j∈ks tail,j<20)(hn:ns.length<=9)(nd:ns.Nodup)(cyc)
 (Ug:∀{K} {Xk},(∀J:Hp,wV J->∀cs:AV×List AV,cs.2.length<=1000->K (match cyc with|true=>.lst (cs.1::cs.2)|false=>.none) (SH (J++[(54,.list ((bn np ns).map .str))]) np su ns (bZ ns) (.ref 54) npo nfi (v21+1) v22 tail))->call (.top 163) [.ref 20] [] (SH [(54,.list ((bn np ns).map .str))] np su ns (bZ ns) (.ref 54) npo nfi (v21+1) v22 tail) K Xk)
 {K} {Xk}
 (hK:∀J:Hp,wV J->match cyc with
  |true=>Xk .cyc (SH (J++[(54,.list ((bn np ns).map .str))]) np su ns (bZ ns) (.ref 54) npo nfi (v21+1) v22 tail)
  |false=>K .none (SH (J++[(54,.list ((bn np ns).map .str))]) np su ns (bZ ns) (.ref 54) npo nfi (v21+1) v22 tail)):
 aY PL call (.top 128) [.ref 20] [] (SH [] np su ns (bZ ns) .none npo nfi v21 v22 tail) K Xk:=by
 have S3:∀j∈ks [(54,AO.list ((bn np ns).map .str))],50<=j:=by
  intro j h;refine av h (λh=>?_) λh=>?_
  . have h:=h;exact aa (h:j=54) (Iv rfl)
  . cases h
 refine Je 20 (a8.mk (aT ay hn rfl) .none (ba ay hn rfl rfl rfl) (ac.mk false rfl (a8.mk (aT ay hn rfl) (.ref 22) (ba ay hn rfl rfl rfl) (ac.mk _ (lN ay hn rfl) ?_))))
 conv=>whnf
 refine bp (b:=false) (Eh ay hn) (ac.mk _ (Ei ay hn) ?_)
 conv=>whnf
 have hv:=wU nd;refine bS ns.reverse (λx=>AV.ref (bH ns x)) AV.str (λx=>decide (np x=0)) [] (SH [] np su ns (bZ ns) .none npo nfi v21 v22 tail) (aa Jw (Iu hn (Iv rfl))) rfl rfl ?_ ?_ ?_
 . refine(?_:((hg (SH [] np su ns (bZ ns) .none npo nfi v21 v22 tail) 22).bind AO.dict?).bind (gC v22)=_);refine aa (ca ay hn (by decide)) (?_:gd (IT v22 v22) (some ((bZ ns).map (·.2)))=_);exact aa (aW _) (aa hv rfl)
 . have b0:ai ((ns.reverse.filter λx=>decide (np x=0)).map AV.str).length=true:=by have a:=Kp (λx=>decide (np x=0)) ns.reverse;rw[Jw]at a;exact aa (Iz _) (ak (Iu (Kp _ _) (aa Jw (Iu hn (Iv rfl)))))
   refine ac.four () (aa b0 rfl) () (b8 (f8 ht (Iu (Jf (JF 2 hn) 30) (Iv rfl)))) _ (qm (pre:=[(54,.list ((bn np ns).map .str))]) (rdy':=.ref 54) (npo':=npo) (nfi':=nfi) S3 hn rfl rfl) _ (du S3 hn rfl rfl) (Ug λJ hJ cs hcs=>?_);induction cyc with
   |true=>
    conv=>whnf
    exact bp (b:=false) (Bf hcs) (hK J hJ)
   |false=>exact hK J hJ
 . intro y hy K' hk;have SN:=NU.mp hy;refine a8.mk (dw ay hn SN) (.int (np y)) (cY ay hn SN rfl rfl rfl) (ac.mk (decide (np y=0)) rfl (cJ.mk (λq=>?_) (λq=>?_)))
   . refine a8.mk (dw ay hn SN) (.str y) (cY ay hn SN rfl rfl rfl) ?_;rw[q]at hk;exact hk _ rfl rfl
   . rw[q]at hk;exact hk _ rfl rfl
end
set_option tactic.hygienic true
theorem wW{K}(xs)(P:Nat->St->Prop)(R:AV->St->Prop){s:St}
 (h0:P 0 (tidy T p s)) (hc:∀i s,P i s->chk s.2=some xs) (hE:∀s,P xs.length s->E.exs ct noX e s K) (hR:∀a s,R a s->K (.ret a) s)
 (hS:∀i x s (K'),xs[i]? =some x->P i s->(∀s',P (i+1) (tidy T p s')->K' .next s')->(∀s',P (i+1) (tidy T p s')->K' .cont s')->(∀a s',R a s'->K' (.ret a) s')->ib T E ct noX t x s λs1=>E.exs ct noX b s1 K'):∃m,mD T E ct t b e p chk m 0 s K:=by
 have main:∀j i s,i+j=xs.length->P i (tidy T p s)->mD T E ct t b e p chk (j+1) i s K:=by
  intro j;induction j with
  |zero=>intro i s hi hp;refine bp (an (fX T p s) (hc i _ hp)) (aa (La (by exact I2 (id (LI hi)))) ?_);exact hE _ (an hi hp)
  |succ j ih=>intro i s hi hp;refine bp (an (fX T p s) (hc i _ hp)) ?_;have hl:=hi▸Ks (NG j);refine aa (IM hl) ?_;exact hS i _ _ _ (IM hl) hp (λs' Sp=>ih (i+1) s' ((Jb i 1 j).trans hi) Sp) (λs' Sp=>ih (i+1) s' ((Jb i 1 j).trans hi) Sp) λa s' h=>hR a s' h
 exact⟨_,main xs.length 0 s (JI xs.length) h0⟩
section
theorem c9(ht:∀j∈ks tail,j<20)(hn:ns.length<=9)(h:50<=j)(hj:j∉ks pre):j∉ks (SH pre np su ns es rdy npo nfi v21 v22 tail):=by
 intro q;have q:j∈(pre++(fG np su ns++A_ es rdy npo nfi v21 v22 tail)).map (·.1):=q;rw[IR]at q;rcases JD.mp q with q|q
 . exact hj q
 . exact f8 ht (Iu (Jf (Iu (JF 2 hn) (Iv rfl:2*9<=20)) 30) h) (by refine(?_:j∈List.map MG ([]++(fG np su ns++A_ es rdy npo nfi v21 v22 tail)));exact q)
theorem Bg(hp:∀j∈ks pre,50<=j)(hn:ns.length<=9):dR (SH pre np su ns es rdy npo nfi v21 v22 tail) (.ref 22)=some λhp=>((hg hp 22).bind AO.dict?).bind (keysOf v22):=by refine(?_:(((hg (SH pre np su ns es rdy npo nfi v21 v22 tail) 22).bind AO.list?).map λZ hp=>(hg hp 22).bind AO.list?).or (((hg (SH pre np su ns es rdy npo nfi v21 v22 tail) 22).bind AO.dict?).map λes hp=>((hg hp 22).bind AO.dict?).bind (keysOf es.2))=_);exact aa (aa (ca hp hn (by decide)) rfl:hg (SH pre np su ns es rdy npo nfi v21 v22 tail) 22=some (.dict es v22)) rfl
end
set_option tactic.hygienic false
noncomputable def back (su:Str->List Str):List (Str×Nat)->List Str->Option Str×List (Str×Nat)×List Str
 |[],F=>(none,[],F)
 |(x,i)::r,F=>match(su x)[i]? with
  |some y=>(some y,(x,i+1)::r,F)
  |none=>back su r (x::F)
theorem lP:back su ((x,i)::r) F=match(su x)[i]? with|some y=>(some y,(x,i+1)::r,F)|none=>back su r (x::F):=rfl
noncomputable def yf (su:Str->List Str):Str->List (Str×Nat)->List Str->Prop
 |_,[],_=>True
 |h,(x,i)::r,F=>(∃j,i=j+1/\(su x)[j]? =some h/\∀k,k<j->∀c,(su x)[k]? =some c->c∈F)/\yf su x r F
theorem Ej:∀{stk} {h} {F},yf su h stk F->yf su h stk (x::F):=by
 intro Sl;induction Sl with
 |nil=>intro Z Z Z;exact trivial
 |cons x92 r So=>obtain⟨y,i⟩:=x92;intro h F Uz;obtain⟨⟨j,a,b,c⟩,d⟩:=Uz;exact⟨⟨j,a,b,λk hk q hq=>.tail _ (c k hk q hq)⟩,So d⟩
noncomputable def wX (su:Str->List Str):List (Str×Nat)->List Str->Prop
 |[],_=>True
 |(x,i)::r,F=>(∀k,k<i->∀c,(su x)[k]? =some c->c∈F)/\yf su x r F
def apart (stk:List (Str×Nat))(F:List Str):Prop:=(stk.map (·.1)).Nodup/\∀x∈stk.map (·.1),x∉F
theorem Bh:∀{stk} {F},bY su F->apart stk F->wX su stk F->
 bY su (back su stk F).2.2/\apart (back su stk F).2.1 (back su stk F).2.2/\(∀x,(x∈stk.map (·.1)\/x∈F)↔(x∈(back su stk F).2.1.map (·.1)\/x∈(back su stk F).2.2))/\(match(back su stk F).1 with|some y=>yf su y (back su stk F).2.1 (back su stk F).2.2/\(back su stk F).2.1≠[]|none=>(back su stk F).2.1=[]):=by
 intro Sl;induction Sl with
 |nil=>intro F hF hA Z;exact⟨hF,hA,λx=>Iff.rfl,rfl⟩
 |cons x92 r So=>
  obtain⟨x,i⟩:=x92;intro F hF hA Uz;obtain⟨h1,h2⟩:=Uz;refine aa lP ?_;induction q:(su x)[i]? with
  |some y=>exact⟨hF,hA,λx=>Iff.rfl,⟨⟨i,rfl,q,h1⟩,h2⟩,λe=>nomatch e⟩
  |none=>
   have hlen:(su x).length<=i:=Ji.mp q;refine ad (I_.mp hA.1) λn1 n2=>?_;have hF':bY su (x::F):=⟨(hA.2 x (.head _):x∉F),λy hy=>by
    obtain⟨k,hk,e⟩:=Qz hy;exact h1 k (by exact Jc hk hlen) y (by exact an e (IM hk)),hF⟩
   have hA':apart r (x::F):=⟨n2,λy hy e=>by
    refine av e (λe=>?_) λe=>?_
    . exact n1 (e▸hy)
    . exact hA.2 y (.tail _ hy) e⟩
   have hT:wX su r (x::F):=by
    induction r with
    |nil=>trivial
    |cons p r'=>
     obtain⟨x',i'⟩:=p;refine ad h2 λSq d=>?_;rcases Sq with⟨j,a,b,c⟩
     refine⟨λk hk q hq=>?_,Ej d⟩;by_cases e:k=j
     . clear a c;subst e;rw[b]at hq;replace hq:=Iw hq;subst hq;exact .head _
     . exact .tail _ (c k (Na (KY (Nb hk a)) e) q hq)
   refine cL (So hF' hA' hT) λa b c d=>⟨a,b,λy=>⟨λh=>(c y).mp ?_,λh=>?_⟩,d⟩
   . rcases h with h|h
     . rcases IJ.mp h with h|h
       . have h:y=x:=h;exact .inr (h▸.head _)
       . exact .inl h
     . exact .inr (.tail _ h)
   . rcases(c y).mpr h with h|h
     . exact .inl (.tail _ h)
     . rcases IJ.mp h with h|h
       . exact .inl (h▸.head _)
       . exact .inr h
theorem wY{α:Type}{f:α->Nat}:∀{l m:List α},l.Nodup->(∀x∈l,x∈m)->(l.map f).sum<=(m.map f).sum:=by
 intro Sl;induction Sl with
 |nil=>intro m Z Z;exact JG _
 |cons x r Sk=>
  intro m nd h;refine ad (I_.mp nd) λn1 n2=>bw (Ou (h x (.head _))) λa b Sq=>?_;subst Sq;have:=Sk (m:=a++b) n2 λy hy=>by
   refine bg (h y (.tail _ hy)) (λq=>?_) λq=>?_
   . exact Kv _ q
   . rcases IJ.mp q with q|q
     . exact absurd q (λe=>n1 (e▸hy):y≠x)
     . exact JT _ q
  simp only[IR,PK,JA,M1]at this⊢;exact Iu (IZ this _) (I2 (NB _ _ _))
theorem dy{α:Type}{l m:List α}(nd:l.Nodup)(h:∀x∈l,x∈m):l.length<=m.length:=by
 have e:∀q:List α,(q.map λZ=>1).sum=q.length:=by
  intro q;induction q with
  |nil=>rfl
  |cons x r ih=>exact aa JA (aa M1 (aa ih (aa Jh (Lw 1 r.length))))
 have:=wY (f:=λZ=>1) nd h;rw[e,e]at this;exact this
section
theorem Bi:∀{stk} {h},yf su h stk F->z∈stk.map (·.1)->∃P:Str->Prop,P z/\(∀x,P x->x∈stk.map (·.1))/\(∃c,P c/\h∈su c)/\∀x,P x->x≠z->∃c,P c/\x∈su c:=by
 intro Sl;induction Sl with
 |nil=>
  intro SE SG u94
  first|exact(IA u94).elim|exact(IA SG).elim|exact(IA SE).elim|cases u94|cases SG|cases SE
 |cons x95 r Sx=>
  obtain⟨x,i⟩:=x95;intro h y97 hz;obtain⟨⟨j,a,b,c⟩,d⟩:=y97;have hx:h∈su x:=JP b;rcases IJ.mp hz with e|e
  . have e:z=x:=e;clear b c d hz;subst e;exact⟨λy=>y=z,rfl,λy hy=>by refine aa hy ?_;exact .head _,⟨z,rfl,hx⟩,λy hy hne=>absurd hy hne⟩
  . refine kE (Sx d e) λP p1 p2 Sn p5=>?_;rcases Sn with⟨q,p3,p4⟩
    refine⟨λy=>P y\/y=x,.inl p1,λy hy=>?_,⟨x,.inr rfl,hx⟩,λy hy hne=>?_⟩
    . rcases hy with hy|hy
      . exact .tail _ (p2 y hy)
      . exact aa hy (.head _)
    . rcases hy with hy|hy
      . exact ae (p5 y hy hne) λc c1 c2=>⟨c,.inl c1,c2⟩
      . exact aa hy ⟨q,.inl p3,p4⟩
def im (su:Str->List Str)(ns:List Str):Prop:=∃P:Str->Prop,(∃x,P x)/\(∀x,P x->x∈ns)/\∀x,P x->∃c,P c/\x∈su c
theorem Bj(o:yf su h stk F)(hm:h∈stk.map (·.1))(hs:∀x∈stk.map (·.1),x∈ns):im su ns:=by
 refine kE (Bi o hm) λP p1 p2 p3 p4=>⟨P,⟨h,p1⟩,λx hx=>hs x (p2 x hx),λx hx=>?_⟩
 by_cases e:x=h
 . exact aa e p3
 . exact p4 x hx e
theorem wZ(o:yf su h stk F)(hf:h∈F):wX su stk F:=by
 induction stk with
 |nil=>trivial
 |cons p r=>
  obtain⟨x,i⟩:=p;refine ad o λSq d=>?_;rcases Sq with⟨j,a,b,c⟩
  refine⟨λk hk q hq=>?_,d⟩;by_cases e:k=j
  . clear a c;subst e;rw[b]at hq;(replace hq:=Iw hq;subst hq);exact hf
  . exact c k (Na (KY (Nb hk a)) e) q hq
theorem Bk(o:yf su h stk F):wX su ((h,0)::stk) F:=⟨λk hk=>absurd hk (Lm _),o⟩
theorem apart_new(a:apart stk F)(h1:h∉F)(h2:h∉stk.map (·.1)):apart ((h,0)::stk) F:=⟨I_.mpr ⟨h2,a.1⟩,λx hx=>by
 refine av hx (λe=>?_) λe=>?_
 . exact aa (e:x=h) h1
 . exact a.2 x e⟩
noncomputable def cnt (su:Str->List Str)(stk:List (Str×Nat))(F:List Str):Nat:=(F.map λx=>(su x).length).sum+(stk.map (·.2)).sum
def tN (su:Str->List Str)(stk:List (Str×Nat)):Prop:=∀p∈stk,p.2<=(su p.1).length
theorem w4:∀{stk} {F},tN su stk->tN su (back su stk F).2.1/\cnt su (back su stk F).2.1 (back su stk F).2.2=cnt su stk F+(match(back su stk F).1 with|some _=>1|none=>0):=by
 intro stk;induction stk with
 |nil=>exact λh=>⟨h,rfl⟩
 |cons p r ih=>
  obtain⟨x,i⟩:=p;intro F h;refine aa lP ?_;induction q:(su x)[i]? with
  |some y=>
   have:=(Jm.mp q).1;refine⟨λp hp=>?_,?_⟩
   . rcases IJ.mp hp with e|e
     . exact aa e this
     . exact h p (.tail _ e)
   . refine(?_:cnt su ((x,i+1)::r) F=cnt su ((x,i)::r) F+1);unfold cnt;exact congrArg (_+ ·) (Jb i 1 _)
  |none=>
   have hlen:=Ji.mp q;have hle:=h (x,i) (.head _);refine ad (ih λp hp=>h p (.tail _ hp)) λa b=>⟨a,?_⟩
   refine(?_:cnt su (back su r (x::F)).2.1 (back su r (x::F)).2.2=_);refine aa b ?_;unfold cnt;simp only[JA,M1];exact congrArg (· +_) ((congrArg (· +_+_) (LO hlen hle)).trans ((J2 _ _ _).trans (NB _ _ _)))
theorem Ek:∀{l},tN su l->(l.map (·.2)).sum<=((l.map (·.1)).map λx=>(su x).length).sum:=by
 intro l;induction l with
 |nil=>exact λZ=>JG _
 |cons p r ih=>exact λh=>Jr (h p (.head _)) (ih λq hq=>h q (.tail _ hq))
theorem tO:∀{F},bY su F->F.Nodup:=by
 intro Sl;induction Sl with
 |nil=>intro Z;exact J_
 |cons x92 x93 Sw=>intro y95;exact am y95 λa Z b=>I_.mpr ⟨a,Sw b⟩
theorem w5{ns F:List Str}{stk:List (Str×Nat)}(hF:bY su F)(hA:apart stk F)(hl:tN su stk)(h1:∀x∈F,x∈ns)(h2:∀x∈stk.map (·.1),x∈ns):cnt su stk F<=(ns.map λx=>(su x).length).sum:=by
 have a:=Ek hl;have b:=wY (f:=λx=>(su x).length) (Mz.mpr ⟨tO hF,hA.1,λx hx y hy e=>hA.2 y hy (e▸hx)⟩) λx hx=>by
  refine bg hx (λq=>?_) λq=>?_
  . exact h1 x q
  . exact h2 x q
 rw[IR,PK]at b;exact Iu (IZ a _) b
end
section
variable {call:AV->Callee}{H:Hp}{k:Nat}
theorem Bl(e:hg H k=some (.set l)):CU H (.str x) (.ref k)=some (dM l x):=by refine(?_:(((cb H (.ref k)).map λes=>(lk es.1 x).isSome).or ((cellOf H (.ref k)).bind λo=>o.set?.map λl=>dM l x))=_);refine(?_:((((hg H k).bind AO.dict?).map λes=>(lk es.1 x).isSome).or ((hg H k).bind λo=>o.set?.map λl=>dM l x))=_);exact aa e rfl
theorem w6(e:hg H k=some (.dict es v)):CU H (.str x) (.ref k)=some (lk es x).isSome:=by refine(?_:((((hg H k).bind AO.dict?).map λes=>(lk es.1 x).isSome).or ((hg H k).bind λo=>o.set?.map λl=>dM l x))=_);exact aa e rfl
theorem c_(e:hg H k=some (.dict es v))(h:lk es x=some a):h_ H (.ref k) (.str x)=some a:=by refine(?_:(((hg H k).bind AO.dict?).bind λes=>lk es.1 x)=_);exact aa e h
theorem w7(e:hg H k=some (.set l))(h:l.length<=900):qX H (.ref k) (.str x)=some (hs H k (.set (jz l x))):=by refine(?_:(((hg H k).bind AO.set?).bind λxs=>gd (Kd (xs.length+1) 1000) (some (hs H k (.set (jz xs x)))))=_);refine aa e (?_:gd (Kd (l.length+1) 1000) _=_);exact aa (show Kd (l.length+1) 1000=true from Jy (Iu (IS (IS h)) (Iv rfl))) rfl
theorem w8(e:hg H k=some (.dict es v))(h:es.length<=1000):uC H (.ref k) (.str x) a=some (hs H k (.dict (st es x a) (v+1))):=by refine(?_:(((hg H k).bind AO.dict?).bind λes=>gd (ai es.1.length) (some (hs H k (.dict (st es.1 x a) (es.2+1)))))=_);refine aa e (?_:gd (ai es.length) _=_);exact aa (ak (Iu (by assumption) (Iv rfl))) rfl
theorem w9(e:hg H k=some (.dict es v))(h:es.length<=1000)(hx:lk es x=some a):yM H (.ref k) (.str x)=some (hs H k (.dict (rm es x) (v+1))):=by refine(?_:(((hg H k).bind AO.dict?).bind λes=>gd (ai es.1.length&&(lk es.1 x).isSome) (some (hs H k (.dict (rm es.1 x) (es.2+1)))))=_);refine aa e (?_:gd (ai es.length&&(lk es x).isSome) _=_);exact aa (ak (Iu (by assumption) (Iv rfl))) (aa hx rfl)
theorem rO(e:hg H k=some (.list (l++[a])))(h:l.length<=1000):u4 H (.ref k)=some (a,hs H k (.list l)):=by refine(?_:((((hg H k).bind AO.list?).map λxs=>(k,xs)).bind λp=>gd (ai p.2.length) (p.2.getLast?.map λy=>(y,hs H p.1 (.list p.2.dropLast))))=_);refine aa e (?_:gd (ai (l++[a]).length) ((l++[a]).getLast?.map λy=>(y,hs H k (.list (l++[a]).dropLast)))=_);exact aa (ak (by exact aa IB (aa J5 (I8 (by assumption) (Iv rfl))))) (aa P4 (aa List.dropLast_concat rfl))
theorem w_(e:hg H k=some (.list (l++[a])))(h:l.length<=1000):h_ H (.ref k) (.int (-1))=some a:=by
 refine(?_:((((aU H (.ref k)).or (AV.ref k).tup?).bind λxs=>gd (ai xs.length) ((GJ (-1) xs.length).bind λj=>xs[j]?)).or _)=_);refine aa (br e) (?_:((gd (ai (l++[a]).length) ((gd (Kd 0 (l++[a]).length) (some ((l++[a]).length-(0+1)))).bind λj=>(l++[a])[j]?)).or _)=_);have e1:(l++[a]).length=l.length+1:=by exact aa IB (aa J5 rfl)
 refine aa (ak (by exact aa IB (Iu (IS h) (Iv rfl)))) (aa e1 (aa (Jy (by exact I4 _ _):Kd 0 (l.length+1)=true) ?_));refine(?_:(((l++[a])[l.length+1-(0+1)]?).or _)=_);exact aa (LI (Oa rfl):l.length+1-(0+1)=l.length) (aa (LG (IC _)) (aa (Rf _) rfl))
theorem rP(e:hg H k=some (.list l))(h:l.length<=1000000):o8 H (.ref k)=some (l.length:Int):=by refine(?_:(((aU H (.ref k)).bind λxs=>gd (ai xs.length) (some (xs.length:Int))).or _)=_);refine aa (br e) (?_:((gd (ai l.length) (some (l.length:Int))).or _)=_);exact aa (ak h) rfl
theorem Bm(e:hg H k=some (.list l))(h:l.length<=1000000):d8 H (.ref k)=some (!l.isEmpty):=by refine(?_:(((aU H (.ref k)).bind λxs=>gd (ai xs.length) (some (!xs.isEmpty))).or _)=_);refine aa (br e) (?_:((gd (ai l.length) (some (!l.isEmpty))).or _)=_);exact aa (ak h) rfl
theorem rQ(e:hg H k=some (.list l))(h:l.length<=1000000)(hn:n<=l.length):oG H (.ref k) (some (n)) none=some (.lst (l.drop n)):=by refine(?_:(((aU H (.ref k)).bind λxs=>gd (ai xs.length) (some (AV.lst (cut xs (some (n:Int)) none)))).or _)=_);refine aa (br e) (?_:((gd (ai l.length) (some (AV.lst (cut l (some (n:Int)) none)))).or _)=_);refine aa (ak h) (?_:some (AV.lst _)=_);unfold cut;exact aa (show Og (some (n:Int)) l.length=n from by unfold Og;show(if(n:Int)<0 then _ else min n l.length)=n;exact aa (if_neg (Mx n)) (J8 hn)) (aa (show N1 none l.length=l.length from rfl) (aa (Ju (aa LA (IC _))) rfl))
theorem f_(h:a.length+b.length<=1000000):yu H (.lst a) (.lst b)=some (.lst (a++b)):=by refine(?_:gd (ai (a.length+b.length)) (some (AV.lst (a++b)))=_);exact aa (ak h) rfl
theorem Bn(e:hg H k=some (.list l))(h:j∉ks H):y6 H j (.ref k)=some ((j,.iter k 0)::H):=by refine(?_:((((hg H k).bind AO.list?).map λxs=>(k,xs)).bind λp=>cW H j (.iter p.1 0))=_);exact aa e (nV h)
theorem Bo(e:hg H j=some (.iter k i))(e1:hg H k=some (.list l)):zx H j=some (match l[i]? with|some a=>(some a,hs H j (.iter k (i+1)))|.none=>(.none,hs H j .dead)):=by
 refine(?_:((hg H j).bind AO.iter?).bind (λp=>((hg H p.1).bind AO.list?).map λxs=>match xs[p.2]? with|some x=>(some x,hs H j (.iter p.1 (p.2+1)))|.none=>(.none,hs H j .dead))=_);refine aa e (?_:((hg H k).bind AO.list?).map _=_);exact aa e1 rfl
theorem xa(e:hg H k=some (.set l))(h:lk vN y=some b):dC (rr P call) H (.ref k) y=some (.bi b,[.ref k]):=by
 have e1:fnOf (rr P call) H (.ref k) y=none:=by refine(?_:(((hg H k).bind AO.inst?).bind _).bind _=none);exact aa e rfl
 unfold dC;refine aa e1 (?_:(lk (eR H k) y).map _=_);unfold eR;refine aa e (?_:(lk vN y).map _=_);exact aa h rfl
theorem kA(h:x∈l):dM l x=true:=aa (c4 _ _) (decide_eq_true h)
theorem fx(h:x∉l):dM l x=false:=aa (c4 _ _) (decide_eq_false h)
end
theorem fy{K}(I:Nat->St->Prop)
 (hS:∀n s (K':St->Prop),I n s->(∀s',(∃n',n'<n/\I n' (tidy T p s'))->K' s')->E.tr ct noX c s λt s1=>ask (T.sym p) t λt=>match t with
  |true=>E.exs ct noX b s1 λf s2=>match f with
   |.next=>K' s2
   |.cont=>K' s2
   |.brk=>K .next s2
   |.ret a=>K (.ret a) s2
  |false=>E.exs ct noX e s1 K):∀{n} {s},I n (tidy T p s)->∀{m},n<m->aV T E ct c b e p m s K:=by
 intro n;induction n using Nat.strongRecOn with
 |_ n ih=>
  intro s h m hm;obtain⟨m,rfl⟩:∃m',m=m'+1:=⟨m-1,(Nat.sub_add_cancel (I8 (JG _) hm)).symm⟩
  refine fu rfl (hS n _ _ h λs' S5=>?_);exact ae S5 λn' h1 h2=>ih n' h1 h2 (Jc h1 (KY hm))
noncomputable def qp:List Str->List (Str×AV)
 |[]=>[]
 |x::r=>qp r++[(x,.int r.length)]
theorem CC:qp (x::r)=qp r++[(x,.int r.length)]:=rfl
theorem gb:∀(l),(qp l).map (·.1)=l.reverse:=by
 intro Sl;induction Sl with
 |nil=>exact rfl
 |cons x r Sk=>exact aa CC (aa IR (aa Sk (aa Kq rfl)))
theorem rR(l):(qp l).length=l.length:=by
 have:=congrArg Kn (gb l)
 simpa using this
theorem rS(h:x∉l):lk (qp l) x=none:=qi (by refine aa (gb _) ?_;simpa using h)
theorem xb:∀{l} {x},x∈l->∃n:Nat,n<=l.length/\lk (qp l) x=some (.int (n)):=by
 intro Sl;induction Sl with
 |nil=>
  intro SE SG
  first|exact(IA SG).elim|exact(IA SE).elim|cases SG|cases SE
 |cons y r Sw=>
  intro x h;refine aa CC (aa wE ?_);by_cases hr:x∈r
  . exact ae (Sw hr) λn a b=>⟨n,by refine aa Jh ?_;exact I3 (by assumption),by exact aa b rfl⟩
  . have e:x=y:=by
     refine av h (λh=>?_) λh=>?_
     . exact h
     . exact absurd h hr
    clear h;subst e;refine⟨r.length,by refine aa Jh ?_;exact IK _ _,?_⟩;refine aa (rS hr) (?_:(match aZ x x with|true=>some _|false=>none)=_);exact aa (az _) rfl
theorem El(h:x∉l):st (qp l) x (.int (l.length:Int))=qp (x::l):=ql (by refine aa (gb _) ?_;simpa using h)
theorem Em{α:Type}:∀{l:List (Str×α)} {x:Str},x∉l.map (·.1)->rm l x=l:=by
 intro Sl;induction Sl with
 |nil=>intro Z Z;exact rfl
 |cons x92 r So=>obtain⟨y,b⟩:=x92;intro x h;have h1:y≠x:=λe=>h (by exact an e (.head _));unfold rm;refine aa JB (aa (bb h1) ?_);refine(?_:_::rm r x=_);exact aa (So λq=>h (.tail _ q)) rfl
theorem Eo(h:x∉l):rm (qp (x::l)) x=qp l:=by have:=Em (l:=qp l) (by refine aa (gb _) ?_;simpa using h);unfold rm at this⊢;refine(?_:(qp l++[(x,AV.int l.length)]).filter _=_);refine aa (Lb _ _) (aa this (aa JB (aa (az _) ?_)));exact Jv _
noncomputable def rT (v:Nat)(sn ds stk:List Str)(as:List Nat):Hp:=[(53,.dict (qp ds) v),(52,.set sn),(51,.list (as.reverse.map .nx)),(50,.list (stk.reverse.map .str))]
noncomputable def yg (ns:List Str)(its:Hp):List (Str×Nat)->List Nat->Prop
 |[],[]=>True
 |(x,i)::r,a::as=>hg its a=some (.iter (bH ns x+1) i)/\a∉as/\yg ns its r as
 |_,_=>False
theorem rU:∀{h},j≠k->hg (hs h k o) j=hg h j:=by
 intro Sl;induction Sl with
 |nil=>intro Z;exact rfl
 |cons x92 r So=>
  obtain⟨i,p⟩:=x92;intro h;refine(?_:hg (match IT i k with|true=>(i,o)::r|false=>(i,p)::hs r k o) j=(match IT i j with|true=>some p|false=>hg r j));by_cases e:i=k
  . subst e;refine aa (aW _) (aa (aC (Kr h)) ?_);refine(?_:(match IT i j with|true=>some o|false=>hg r j)=_);exact aa (aC (Kr h)) rfl
  . refine aa (aC e) (?_:(match IT i j with|true=>some p|false=>hg (hs r k o) j)=_);exact aa (So h) rfl
theorem xc:∀{stk} {as},a∉as->yg ns its stk as->yg ns (hs its a o) stk as:=by
 intro Sl;induction Sl with
 |nil=>
  intro SK;cases SK with
  |nil=>intro Z Z;exact trivial
  |cons x93 x94=>intro Z h;exact h.elim
 |cons x95 r Sx=>
  obtain⟨x,i⟩:=x95;intro SQ;cases SQ with
  |nil=>intro Z h;exact h.elim
  |cons b as=>intro h UA;exact am UA λh1 h2 h3=>⟨by refine aa (rU λe=>h (by exact an e (.head _))) ?_;exact h1,h2,Sx (λq=>h (.tail _ q)) h3⟩
theorem Bp(ha:a∉ks its):∀{stk} {as},yg ns its stk as->yg ns ((a,o)::its) stk as/\a∉as:=by
 intro Sl;induction Sl with
 |nil=>
  intro SK;cases SK with
  |nil=>intro Z;exact⟨trivial,λh=>(IA h).elim⟩
  |cons x93 x94=>intro h;exact h.elim
 |cons x95 r Sx=>
  obtain⟨x,i⟩:=x95;intro SQ;cases SQ with
  |nil=>intro h;exact h.elim
  |cons b as=>
   intro UA;refine am UA λh1 h2 h3=>ad (Sx h3) λq1 q2=>?_;have hne:a≠b:=λe=>ha (by exact aa e (bu h1));refine⟨⟨?_,h2,q1⟩,λe=>?_⟩
   . refine(?_:(match IT a b with|true=>some o|false=>hg its b)=_);exact aa (aC hne) h1
   . rcases IJ.mp e with e|e
     . exact hne e
     . exact q2 e
theorem rV:∀{stk} {as},yg ns its stk as->as.length=stk.length:=by
 intro stk;induction stk with
 |nil=>
  intro as h;cases as with
  |nil=>rfl
  |cons b as=>exact h.elim
 |cons p r ih=>
  intro as h;cases as with
  |nil=>exact h.elim
  |cons b as=>exact congrArg (· +1) (ih (h:_/\_/\yg ns its r as).2.2)
structure SF where
 np:Str->Int
 su:Str->List Str
 ns:List Str
 npo:Int
 nfi:Int
 v21:Nat
 v22:Nat
 r54:AO
 tail:Hp
noncomputable def qr (g:SF)(its:Hp)(v:Nat)(sn ds stk:List Str)(as:List Nat):Hp:=(its++rT v sn ds stk as)++[(54,g.r54)]
noncomputable def FH (g:SF)(its:Hp)(v:Nat)(sn ds stk:List Str)(as:List Nat):Hp:=SH (qr g its v sn ds stk as) g.np g.su g.ns (bZ g.ns) (.ref 54) g.npo g.nfi g.v21 g.v22 g.tail
noncomputable def eZ (g:SF):Nat:=5+((fG g.np g.su g.ns).length+(A_ (bZ g.ns) (.ref 54) g.npo g.nfi g.v21 g.v22 g.tail).length)
def dH (g:SF)(its:Hp):Prop:=∀j∈ks its,1000<=j/\j<1000+(its.length+eZ g)
section
variable {g:SF}{its:Hp}{v:Nat}{sn ds stk:List Str}{as:List Nat}
theorem qt:(FH g its v sn ds stk as).length=its.length+eZ g:=by unfold FH SH qr eZ;refine aa IB (aa IB (aa IB (aa IB ?_)));exact J2 _ 5 _
theorem dH.lo(hk:dH g its)(h:j∈ks its):1000<=j:=(hk j h).1
theorem dH.hi(hk:dH g its)(h:j∈ks its):j<1000+(its.length+eZ g):=(hk j h).2
theorem fk(hk:dH g its):∀j∈ks (qr g its v sn ds stk as),50<=j:=by
 intro j h;have h:j∈((its++rT v sn ds stk as)++[(54,g.r54)]).map MG:=h;rw[IR,IR]at h;refine bg h (λh=>?_) λh=>?_
 . rcases JD.mp h with h|h
   . exact Iu (by decide) (hk.lo h)
   . exact(by decide:∀j∈([53,52,51,50]:List Nat),50<=j) j h
 . exact(by decide:∀j∈([54]:List Nat),50<=j) j h
theorem fg(hk:dH g its)(h1:k<1000)(h:hg (rT v sn ds stk as) k=some o):hg (FH g its v sn ds stk as) k=some o:=by unfold FH qr;refine cE (bA ?_);exact aa (dq λq=>absurd (hk.lo q) (Kj h1)) h
theorem fs(hk:dH g its)(h1:k<1000)(h:hg (rT v sn ds stk as) k=some o)(e:hs (rT v sn ds stk as) k o'=rT v' sn' ds' stk' as'):hs (FH g its v sn ds stk as) k o'=FH g its v' sn' ds' stk' as':=by
 have hn:k∉ks its:=λq=>absurd (hk.lo q) (Kj h1);have e1:hg (its++rT v sn ds stk as) k=some o:=by exact aa (dq hn) h
 unfold FH;unfold qr;exact aa (jo (bA e1)) (aa (cD (bu e1)) (aa (jl hn) (aa e rfl)))
theorem ig(h:hg its k=some o):hg (FH g its v sn ds stk as) k=some o:=by unfold FH qr;exact cE (bA (bA h))
theorem HP(h:hg its k=some o):hs (FH g its v sn ds stk as) k o'=FH g (hs its k o') v sn ds stk as:=by have e1:hg (its++rT v sn ds stk as) k=some o:=bA h;unfold FH;unfold qr;exact aa (jo (bA e1)) (aa (cD (bu e1)) (aa (cD (bu h)) rfl))
theorem Ik:(j,o)::FH g its v sn ds stk as=FH g ((j,o)::its) v sn ds stk as:=rfl
theorem xd(hk:dH g its):dH g (hs its k o):=by
 have e:(hs its k o).length=its.length:=by have:=congrArg Kn (eP its k o);unfold ks at this;rw[Iz,Iz]at this;exact this
 intro j h;rw[eP]at h;exact aa e (hk j h)
theorem Bq(hk:dH g its):dH g ((1000+(its.length+eZ g),o)::its):=by
 intro j h;refine aa Jh (av h (λh=>?_) λh=>?_)
 . exact an (h.symm:1000+(its.length+eZ g)=j) ⟨IK _ _,MX (Qa (I6 _) _) _⟩
 . exact⟨hk.lo h,Jc (hk.hi h) (IZ (Jf (IL _) _) _)⟩
theorem xe(hk:dH g its):1000+(its.length+eZ g)∉ks its:=λq=>absurd (hk.hi q) (Ke _)
theorem Gm(hn:g.ns.length<=9)(ht:∀j∈ks g.tail,j<20)(hk:dH g its):1000+(its.length+eZ g)∉ks (FH g its v sn ds stk as):=by
 refine c9 ht hn (Iu (Iv rfl) (IK _ _)) λq=>?_;have q:_∈((its++rT v sn ds stk as)++[(54,g.r54)]).map MG:=q;rw[IR,IR]at q;refine bg q (λq=>?_) λq=>?_
 . rcases JD.mp q with q|q
   . exact xe hk q
   . exact absurd ((by decide:∀j∈([53,52,51,50]:List Nat),j<1000) _ q) (L7 (IK _ _))
 . exact absurd ((by decide:∀j∈([54]:List Nat),j<1000) _ q) (L7 (IK _ _))
theorem qu(hk:dH g its):CU (FH g its v sn ds stk as) (.str x) (.ref 52)=some (dM sn x):=Bl (fg hk (by decide) rfl)
theorem Ep(hk:dH g its):CU (FH g its v sn ds stk as) (.str x) (.ref 53)=some (lk (qp ds) x).isSome:=w6 (fg hk (by decide) rfl)
theorem Gn(hk:dH g its)(h:x∉sn)(hl:sn.length<=900):qX (FH g its v sn ds stk as) (.ref 52) (.str x)=some (FH g its v (sn++[x]) ds stk as):=aa (w7 (fg hk (by decide) rfl) hl) (aa (show jz sn x=sn++[x]from by unfold jz;exact aa (fx h) rfl) (aa (fs hk (by decide) rfl rfl) rfl))
theorem Go(hn:g.ns.length<=9)(ht:∀j∈ks g.tail,j<20)(hk:dH g its)(hx:x∈g.ns):y6 (FH g its v sn ds stk as) (1000+(FH g its v sn ds stk as).length) (.ref (bH g.ns x+1))=some (FH g ((1000+(FH g its v sn ds stk as).length,.iter (bH g.ns x+1) 0)::its) v sn ds stk as):=aa qt (Bn (kt (fk hk) hn hx) (Gm hn ht hk))
theorem xf(hk:dH g its):dH g ((1000+(FH g its v' sn' ds' stk' as').length,o)::its):=aa qt (Bq hk)
theorem Br(hk:dH g its):1000+(FH g its v' sn' ds' stk' as').length∉ks its:=aa qt (xe hk)
theorem Bs{P}{call}{H}{a k i}{y}(e:hg H a=some (.iter k i)):dP (TT P call) H (.ref a) y=none:=by refine(?_:(((hg H a).bind AO.inst?).bind _).bind _=none);exact aa e rfl
theorem Er{P}{call}{H}{a k i}(e:hg H a=some (.iter k i)):iO (TT P call) (.ref a) "__next__" H=some (.nx a):=by
 have e1:cy H (.ref a)=none:=by refine(?_:((hg H a).bind AO.inst?).bind _=none);exact aa e rfl
 have e2:de H (.ref a)=none:=by refine(?_:(hg H a).bind AO.slots?=_);exact aa e rfl
 unfold iO;refine aa e1 (aa e2 ?_);refine(?_:(((hg H a).bind AO.iter?).bind λZ=>gd (aZ "__next__" "__next__") (some (AV.nx a)))=_);exact aa e rfl
theorem xg:hg (FH g ((a,o)::its) v sn ds stk as) a=some o:=ig (by
 refine(?_:(match IT a a with|true=>some o|false=>_)=_);exact aa (aW _) rfl)
theorem Bt(hk:dH g its)(hl:as.length<=1000):sV (FH g its v sn ds stk as) (.ref 51) (.nx a)=some (FH g its v sn ds stk (a::as)):=by rw[bz (fg hk (by decide) rfl) (by rw[Iz,Jw];exact Iu (by assumption) (Iv rfl)),fs hk (by decide) rfl (v':=v) (sn':=sn) (ds':=ds) (stk':=stk) (as':=a::as)];unfold rT;exact aa Kq (aa IR rfl)
theorem Gp(hk:dH g its)(hl:stk.length<=1000):o8 (FH g its v sn ds stk as) (.ref 50)=some (stk.length:Int):=aa (rP (fg hk (by decide) rfl) (aa (Iz _) (aa Jw (Iu (by assumption) (Iv rfl))))) (aa (Iz _) (aa Jw rfl))
theorem Bu(hk:dH g its)(hl:ds.length<=1000)(hx:x∉ds)(he:stk.length=ds.length):uC (FH g its v sn ds stk as) (.ref 53) (.str x) (.int (stk.length:Int))=some (FH g its (v+1) sn (x::ds) stk as):=aa (w8 (fg hk (by decide) rfl) (aa (rR _) hl)) (aa he (aa (El hx) (aa (fs hk (by decide) rfl rfl) rfl)))
theorem Bv(hk:dH g its)(hl:stk.length<=1000):sV (FH g its v sn ds stk as) (.ref 50) (.str x)=some (FH g its v sn ds (x::stk) as):=by rw[bz (fg hk (by decide) rfl) (by rw[Iz,Jw];exact Iu (by assumption) (Iv rfl)),fs hk (by decide) rfl (v':=v) (sn':=sn) (ds':=ds) (stk':=x::stk) (as':=as)];unfold rT;exact aa Kq (aa IR rfl)
theorem Es(hk:dH g its)(hl:stk.length<=1000):d8 (FH g its v sn ds stk as) (.ref 50)=some (!stk.isEmpty):=by
 refine aa (Bm (fg hk (by decide) rfl) (aa (Iz _) (aa Jw (Iu (by assumption) (Iv rfl))))) ?_;cases stk with
 |nil=>rfl
 |cons x r=>refine aa Kq (aa IR ?_);cases r.reverse.map AV.str<;>rfl
theorem Et(hk:dH g its)(hl:as.length<=1000):h_ (FH g its v sn ds stk (a::as)) (.ref 51) (.int (-1))=some (.nx a):=by refine w_ (l:=as.reverse.map .nx) ?_ (by refine aa (Iz _) (aa Jw ?_);assumption);have:=fg (g:=g) (k:=51) (v:=v) (sn:=sn) (ds:=ds) (stk:=stk) (as:=a::as) hk (by decide) rfl;exact aa this (aa Kq (aa IR rfl))
theorem Gq(hk:dH g its)(hn:g.ns.length<=9)(hx:x∈g.ns)(h:hg its a=some (.iter (bH g.ns x+1) i)):zx (FH g its v sn ds stk as) a=some (match(g.su x)[i]? with|some y=>(some (.str y),FH g (hs its a (.iter (bH g.ns x+1) (i+1))) v sn ds stk as)|.none=>(.none,FH g (hs its a .dead) v sn ds stk as)):=by
 refine aa (Bo (ig h) (kt (fk hk) hn hx)) (aa I9 ?_);cases(g.su x)[i]? with
 |some y=>refine(?_:some (some _,hs _ _ _)=_);exact aa (HP h) rfl
 |none=>refine(?_:some (none,hs _ _ _)=_);exact aa (HP h) rfl
theorem Bw(hk:dH g its)(hl:stk.length<=1000):u4 (FH g its v sn ds (x::stk) as) (.ref 50)=some (.str x,FH g its v sn ds stk as):=by have:=fg (g:=g) (k:=50) (v:=v) (sn:=sn) (ds:=ds) (stk:=x::stk) (as:=as) hk (by decide) rfl;exact aa (rO (aa this (aa Kq (aa IR rfl))) (aa (Iz _) (aa Jw hl))) (aa (fs hk (by decide) rfl rfl) rfl)
theorem Bx(hk:dH g its)(hl:ds.length<=900)(hx:x∉ds):yM (FH g its v sn (x::ds) stk as) (.ref 53) (.str x)=some (FH g its (v+1) sn ds stk as):=ae (xb (.head _)) λn Z e=>aa (w9 (fg hk (by decide) rfl) (aa (rR _) (aa Jh (I8 (by assumption) (Iv rfl)))) e) (aa (Eo hx) (aa (fs hk (by decide) rfl rfl) rfl))
theorem By(hk:dH g its)(hl:as.length<=1000):u4 (FH g its v sn ds stk (a::as)) (.ref 51)=some (.nx a,FH g its v sn ds stk as):=by have:=fg (g:=g) (k:=51) (v:=v) (sn:=sn) (ds:=ds) (stk:=stk) (as:=a::as) hk (by decide) rfl;exact aa (rO (aa this (aa Kq (aa IR rfl))) (aa (Iz _) (aa Jw hl))) (aa (fs hk (by decide) rfl rfl) rfl)
end
noncomputable def Il:Lo:=[("n2i",.ref 22),("stack",.ref 50),("itstack",.ref 51),("seen",.ref 52),("node2stacki",.ref 53)]
noncomputable def Eu (x:Str):Lo:=[("n2i",.ref 22),("stack",.ref 50),("itstack",.ref 51),("seen",.ref 52),("node2stacki",.ref 53),("node",.str x)]
inductive FI(g:SF)(i:Nat):St->Prop
 |mk {its:Hp} {v:Nat} {sn F:List Str}:dH g its->bY g.su F->sn.Nodup->(∀x,x∈sn↔x∈F)->(∀x∈F,x∈g.ns)->(∀x∈g.ns.reverse.take i,x∈F)->FI g i (Il,FH g its v sn [] [] [])
inductive GV(g:SF)(a:AV):St->Prop
 |mk {l:Lo} {its:Hp} {v:Nat} {sn ds stk:List Str} {as:List Nat} {c:AV} {cs:List AV}:dH g its->a=.lst (c::cs)->cs.length<=1000->im g.su g.ns->GV g a (l,FH g its v sn ds stk as)
theorem Bz{T:Tb}{E:jw}{ct:Ct}{Xk:XK}{L:List Ld}{s:St}{K:aD->St->Prop}(I:aD->St->Prop)(hI:∀f s,I f s->K f s)(h:∀K',(∀f s,I f s->K' f s)->sO T E ct Xk L s K'):sO T E ct Xk L s K:=h K hI
noncomputable def rW (g:SF):Nat:=(g.ns.map λx=>(g.su x).length).sum
noncomputable abbrev oa (stk:List (Str×Nat)):List Str:=stk.map (·.1)
inductive WI(g:SF)(want:List Str)(n:Nat):St->Prop
 |mk {hd:Str} {stk:List (Str×Nat)} {F:List Str} {its:Hp} {v:Nat} {sn:List Str} {as:List Nat}:dH g its->yg g.ns its stk as->bY g.su F->apart stk F->yf g.su hd stk F->tN g.su stk->sn.Nodup->(∀x,x∈sn↔x∈oa stk\/x∈F)->(∀x∈sn,x∈g.ns)->hd∈g.ns->cnt g.su stk F+n=rW g->(∀x∈want,x=hd\/x∈sn)->WI g want n (Eu hd,FH g its v sn (oa stk) (oa stk) as)
inductive WM(g:SF)(want:List Str)(n:Nat):aD->St->Prop
 |next {hd:Str} {stk:List (Str×Nat)} {F:List Str} {its:Hp} {v:Nat} {sn:List Str} {as:List Nat}:dH g its->yg g.ns its stk as->bY g.su F->apart stk F->wX g.su stk F->tN g.su stk->sn.Nodup->(∀x,x∈sn↔x∈oa stk\/x∈F)->(∀x∈sn,x∈g.ns)->cnt g.su stk F+n=rW g->(∀x∈want,x∈sn)->WM g want n .next (Eu hd,FH g its v sn (oa stk) (oa stk) as)
 |ret {a:AV} {s:St}:GV g a s->WM g want n (.ret a) s
inductive WJ(g:SF)(sn:List Str)(B:Option Str×List (Str×Nat)×List Str)(n:Nat):St->Prop
 |mk {hd:Str} {stk:List (Str×Nat)} {F:List Str} {its:Hp} {v:Nat} {as:List Nat}:dH g its->yg g.ns its stk as->(∀x∈oa stk,x∈g.ns)->(oa stk).Nodup->back g.su stk F=B->stk.length=n->WJ g sn B n (Eu hd,FH g its v sn (oa stk) (oa stk) as)
section
variable {call:AV->Callee}{g:SF}
theorem BA:∀(ns),(fG np su ns).length=2*ns.length:=by
 intro Sl;induction Sl with
 |nil=>exact rfl
 |cons x r Sk=>refine(?_:(fG np su r).length+1+1=_);exact aa Sk rfl
theorem Gs(h:a<=b)(k:b<=9):a<=900:=Iu h (Iu k (Iv rfl))
theorem lQ(h:a<=b)(k:b<=9):a<=1000:=Iu (Gs h k) (Iv rfl)
theorem Ev(hc:c+n=t)(s3:c'=c+1)(s4:c'<=t):n-1<n/\c'+(n-1)=t:=by rw[<-hc,s3]at s4;have h:=Nat.le_of_add_le_add_left s4;exact⟨Nat.sub_lt h Nat.one_pos,aa s3 (aa (J2 _ _ _) (aa (Rc h) (aa hc rfl)))⟩
theorem fJ(hn:g.ns.length<=9)(htl:g.tail.length<=40)(hk:dH g its):wV (its++rT v sn ds stk as):=by
 intro j h;have h:j∈(its++rT v sn ds stk as).map MG:=h;have e2:eZ g<=5+(18+(3+40)):=by
  have:(A_ (bZ g.ns) (.ref 54) g.npo g.nfi g.v21 g.v22 g.tail).length=g.tail.length+1+1+1:=rfl;unfold eZ;refine aa (BA _) (aa this ?_);exact IZ (Jr (JF 2 hn) (Jf htl 3)) 5
 refine aa (by exact aa IB rfl:(its++rT v sn ds stk as).length=its.length+4) ?_;rw[IR]at h;refine bg h (λh=>?_) λh=>?_
 . have l:=hk.lo h;refine⟨Iu (Iv rfl) l,JU (Jc (Iv rfl) l),JU (Jc (Iv rfl) l),Jc (hk.hi h) ?_⟩;refine aa (NB _ _ _) (aa (NB 1100 _ _) ?_);exact IZ (Iu (IZ e2 1000) (Iv rfl)) _
 . have h:=(by decide:∀j∈([53,52,51,50]:List Nat),50<=j/\j≠54/\j≠55/\j<1100) j h;exact⟨h.1,h.2.1,h.2.2.1,Jc h.2.2.2 (IK _ _)⟩
theorem xh(ht:∀j∈ks g.tail,j<20)(htl:g.tail.length<=40)(hn:g.ns.length<=9)(nd:g.ns.Nodup)(hsu:∀x∈g.ns,∀y∈g.su x,y∈g.ns){K:AV->Hp->Prop}{Xk:AX->Hp->Prop}
 (hR:∀J:Hp,wV J->∀c cs,cs.length<=1000->im g.su g.ns->K (.lst (c::cs)) (SH (J++[(54,g.r54)]) g.np g.su g.ns (bZ g.ns) (.ref 54) g.npo g.nfi g.v21 g.v22 g.tail))
 (hN:∀J:Hp,wV J->∀F,bY g.su F->(∀x,x∈F↔x∈g.ns)->K .none (SH (J++[(54,g.r54)]) g.np g.su g.ns (bZ g.ns) (.ref 54) g.npo g.nfi g.v21 g.v22 g.tail)):aY PL call (.top 163) [.ref 20] [] (SH [(54,g.r54)] g.np g.su g.ns (bZ g.ns) (.ref 54) g.npo g.nfi g.v21 g.v22 g.tail) K Xk:=by
 have S3:∀j∈ks [(54,g.r54)],50<=j:=by intro j h;exact(by decide:∀j∈([54]:List Nat),50<=j) j h
 refine Je 60 (a8.mk (aT S3 hn rfl) (.ref 22) (ba S3 hn rfl rfl rfl) (ac.three _ rfl () (b8 (c9 ht hn (IC _) λq=>absurd (show 50∈([54])from q) (by decide))) () rfl (ac.mk () (b8 (l:=ks ((50,.list [])::SH [(54,g.r54)] g.np g.su g.ns (bZ g.ns) (.ref 54) g.npo g.nfi g.v21 g.v22 g.tail)) ?_) ?_)))
 . exact c9 (pre:=[(50,.list []),(54,g.r54)]) ht hn (by exact I4 _ _) λq=>absurd (show 51∈([50,54]:List Nat)from q) (by decide)
 conv=>whnf
 refine bp (b:=false) (nV (H:=(51,.list [])::(50,.list [])::SH [(54,g.r54)] g.np g.su g.ns (bZ g.ns) (.ref 54) g.npo g.nfi g.v21 g.v22 g.tail) ?_) ?_
 . exact c9 (pre:=[(51,.list []),(50,.list []),(54,g.r54)]) ht hn (by exact I4 _ _) λq=>absurd (show 52∈([51,50,54]:List Nat)from q) (by decide)
 refine ac.mk 53 rfl (ac.mk () (b8 (l:=ks ((52,.set [])::(51,.list [])::(50,.list [])::SH [(54,g.r54)] g.np g.su g.ns (bZ g.ns) (.ref 54) g.npo g.nfi g.v21 g.v22 g.tail)) ?_) ?_)
 . exact c9 (pre:=[(52,.set []),(51,.list []),(50,.list []),(54,g.r54)]) ht hn (by exact I4 _ _) λq=>absurd (show 53∈([52,51,50,54]:List Nat)from q) (by decide)
 refine ac.mk _ (Bg (pre:=[(53,.dict [] 0),(52,.set []),(51,.list []),(50,.list []),(54,g.r54)]) (λj h=>?_) hn) ?_
 . exact(by decide:∀j∈([53,52,51,50,54]:List Nat),50<=j) j h
 refine wW (g.ns.reverse.map .str) (FI g) (GV g) ?_ ?_ ?_ ?_ ?_
 . exact .mk (its:=[]) (sn:=[]) (F:=[]) (λj h=>((IA h).elim)) trivial J_ (λx=>Iff.rfl) (λx h=>((IA h).elim)) λx h=>((IA h).elim)
 . intro i s SB;refine FI.casesOn SB λ{its v sn F} hk Z Z Z Z Z=>?_;have e:hg (FH g its v sn [] [] []) 22=some (.dict (bZ g.ns) g.v22):=by
    unfold FH;exact aa (ca (fk hk) hn (by decide)) rfl
   refine(?_:((hg (FH g its v sn [] [] []) 22).bind AO.dict?).bind (keysOf g.v22)=_);refine aa e (?_:gd (IT g.v22 g.v22) (some ((bZ g.ns).map λp=>AV.str p.1))=_);exact aa (aW _) (an (d4 _) (aa Ky rfl))
 . intro s SB;refine FI.casesOn SB λ{its v sn F} hk hF h1 h2 h3 h4=>hN _ (fJ hn htl hk) F hF λx=>⟨h3 x,λhx=>h4 x ?_⟩
   refine aa (Iz _) (aa Ka ?_);exact NU.mpr hx
 . intro a s SB;exact GV.casesOn SB λ{l its v sn ds stk as c cs} hk e hl hr=>aa e (hR _ (fJ hn htl hk) c cs hl hr)
 . intro i x s K' hx SB Un SV hr';rw[I9]at hx
   (refine ae (JJ.mp hx) λy hy Sr=>?_;subst Sr)
   refine FI.casesOn SB λ{its v sn F} hk hF h1 h2 h3 h4=>?_;have et:g.ns.reverse.take (i+1)=g.ns.reverse.take i++[y]:=by exact aa JR (aa hy rfl)
   have hw:∀{F':List Str},(∀x∈g.ns.reverse.take (i+1),x∈F')↔(∀x∈g.ns.reverse.take i,x∈F')/\y∈F':=by
    intro F';refine aa et ?_;exact⟨λh=>⟨λx hx=>h x (Kv _ hx),h y (JT _ (.head _))⟩,λh x hx=>by
     rcases JD.mp hx with q|q
     . exact h.1 x q
     . rcases IJ.mp q with q|q
       . exact aa q h.2
       . cases q⟩
   by_cases hm:y∈sn
   . exact ac.mk _ ((qu hk).trans (congrArg some (kA hm))) (SV _ (.mk hk hF h1 h2 h3 (hw.mpr ⟨h4,(h2 y).mp hm⟩)))
   . refine ac.mk _ ((qu hk).trans (congrArg some (fx hm))) ⟨rW g+1,fy (n:=rW g-cnt g.su [] F) (WI g (g.ns.reverse.take (i+1))) ?_ ?_ (LQ (MF _ _))⟩
     . intro n s K' SB Su;refine WI.casesOn SB λ{hd stk F its v sn as} hk hI hF hA hO hL h1 h2 h3 Sz hc S6=>?_;have hs9:=λx hx=>h3 x ((h2 x).mpr (.inl hx));have l1:=dy h1 h3;have l2:=dy hA.1 hs9;have l3:as.length<=g.ns.length:=by refine aa (rV hI) (an (Iz (f:=λp=>p.1)) ?_);exact l2
       refine ac.mk _ (qu hk) (Bz (WM g (g.ns.reverse.take (i+1)) n) ?_ ?_)
       . intro f s hM;refine WM.casesOn hM (λ{hd stk F its v sn as} hk hI hF hA hT hL h1 h2 h3 hc S6=>?_) λ{a s} h=>hr' a s h;refine⟨stk.length+1,fy (WJ g sn (back g.su stk F)) ?_ (.mk hk hI (λx hx=>h3 x ((h2 x).mpr (.inl hx))) hA.1 rfl rfl) (IC _)⟩;intro n' s K2 SB Tm;refine WJ.casesOn SB λ{Td stk2 F2 its2 v2 SR} SY hI2 Tp nd2 hB hlen=>cL (Bh hF hA hT) λb1 b2 b3 b4=>?_;obtain⟨b5,b6⟩:=w4 hL;rw[<-hB]at b1 b2 b3 b4 b5 b6;have l2:=dy nd2 Tp;have l3:SR.length<=g.ns.length:=by rw[rV hI2,<-Iz];exact l2
         refine ac.two _ rfl _ (Es SY (lQ l2 hn)) ?_;cases stk2 with
         |nil=>
          refine⟨λq=>IE (q:false=true),λZ=>?_⟩
          conv=>whnf
          induction SR with
          |cons a SR=>exact hI2.elim
          |nil=>
          have e:∀x,x∈sn↔x∈F2:=λx=>by
           rw[h2,b3];exact⟨λh=>h.resolve_left λq=>((IA q).elim),.inr⟩
          exact Un _ (.mk SY b1 h1 e (λx hx=>h3 x ((e x).mpr hx)) λx hx=>(e x).mp (S6 x hx))
         |cons p r=>
          obtain⟨x,j⟩:=p;induction SR with
          |nil=>exact hI2.elim
          |cons a SR=>
          refine am hI2 λi1 i2 i3=>⟨λZ=>?_,λq=>IE (q:true=false)⟩
          refine ac.mk _ (Et SY (lQ (KZ l3) hn)) (ac.mk _ (Gq SY hn (Tp x (.head _)) i1) (uq (o:=(g.su x)[j]?) (λq=>?_) λy2 q=>?_))
          rotate_left
          . refine aa q ?_
            conv=>whnf
            have e:back g.su ((x,j)::r) F2=(some y2,(x,j+1)::r,F2):=by exact aa lP (aa q rfl)
            rw[e]at b1 b2 b3 b4 b5 b6;have s1:=λz hz=>h3 z ((h2 z).mpr ((b3 z).mpr (.inr hz)));have s3:=b6;have s4:=(w5 b1 b2 b5 s1 Tp)
            have s5:=Ev hc s3 s4;refine Su _ ⟨n-1,s5.1,.mk (stk:=(x,j+1)::r) (as:=a::SR) (xd SY) ⟨jp (bu i1),i2,xc i2 i3⟩ b1 b2 b4.1 b5 h1 (λz=>?_) h3 (hsu x (Tp x (.head _)) y2 (JP q)) s5.2 λz hz=>.inr (S6 z hz)⟩;rw[h2];exact b3 z
          . refine aa q ?_;have k3:=xd (k:=a) (o:=.dead) SY;refine ad (I_.mp nd2) λn1 n2=>ac.mk _ (bN (fg k3 (by decide) rfl) rfl) (ac.three _ (Bw k3 (lQ (KZ l2) hn)) _ (Bx k3 (Gs (KZ l2) hn) n1) _ (bN (fg k3 (by decide) rfl) rfl) (ac.mk _ (By k3 (lQ (KZ l3) hn)) (Tm _ ⟨r.length,by refine an hlen ?_;exact I6 _,.mk (F:=x::F2) k3 (xc i2 i3) (λz hz=>Tp z (.tail _ hz)) n2 ?_ rfl⟩)));refine an hB (?_:_=back g.su ((x,j)::r) F2)
            conv=>rhs;rw[lP]
            exact aa q rfl
       . intro K1 Uh;by_cases hm:hd∈sn
         . refine aa (kA hm) (ac.mk _ (Ep hk) ?_);by_cases hp:hd∈oa stk
           . refine ae (xb hp) λj j1 j2=>aa j2 (ac.mk _ (c_ (fg hk (by decide) rfl) j2) (ac.mk _ (rQ (fg hk (by decide) rfl) ?_ ?_) ?_))
             . refine aa (Iz _) (aa Jw ?_);exact Iu (Gs l2 hn) (Iv rfl)
             . refine aa (Iz _) (aa Jw ?_);exact j1
             refine ac.mk () rfl (ac.mk _ (f_ ?_) ?_)
             . refine aa LA (aa (Iz _) (aa Jw ?_));exact Iu (IS (Iu (MF _ _) (Gs l2 hn))) (Iv rfl)
             conv=>whnf
             have e:∀(l:List AV) (b:AV),∃c cs,l++[b]=c::cs/\cs.length<=l.length:=by
              intro l b;induction l with
              |nil=>exact⟨b,[],rfl,IC _⟩
              |cons c r=>exact⟨c,r++[b],rfl,aa IB (IC _)⟩
             refine be (e (((oa stk).reverse.map AV.str).drop j) (.str hd)) λc cs e1 e2=>Uh _ _ (.ret (.mk hk (congrArg AV.lst e1) ?_ (Bj hO hp hs9)));rw[LA,Iz,Jw]at e2;exact Iu e2 (Iu (MF _ _) (lQ l2 hn))
           . refine aa (rS hp) ?_
             conv=>whnf
             refine Uh _ _ (.next hk hI hF hA (wZ hO (((h2 hd).mp hm).resolve_left hp)) hL h1 h2 h3 hc λx hx=>?_);rcases S6 x hx with q|q
             . exact aa q hm
             . exact q
         . refine aa (fx hm) ?_;have hp:=λq=>hm ((h2 hd).mpr (.inl q));refine ac.mk _ (xa (fg hk (by decide) rfl) rfl) (ac.mk _ (Gn hk hm (Gs l1 hn)) (ac.mk _ (bN (fg hk (by decide) rfl) rfl) (ac.mk _ (qo (fk hk) hn nd Sz) (a8.mk (dw (fk hk) hn Sz) _ (cY (fk hk) hn Sz rfl rfl rfl) (ac.mk _ (Go hn ht hk Sz) ?_)))));have SY:=xf (v':=v) (sn':=sn++[hd]) (ds':=oa stk) (stk':=oa stk) (as':=as) (o:=.iter (bH g.ns hd+1) 0) hk;refine a8.mk (Bs xg) _ (Er xg) (ac.four _ (Bt SY (lQ l3 hn)) _ (Gp SY (lQ l2 hn)) _ (Bu SY (lQ l2 hn) hp rfl) _ (bN (fg SY (by decide) rfl) rfl) (ac.mk _ (Bv SY (lQ l2 hn)) ?_))
           conv=>whnf
           refine ad (Bp (o:=.iter (bH g.ns hd+1) 0) (Br (v':=v) (sn':=sn++[hd]) (ds':=oa stk) (stk':=oa stk) (as':=as) hk) hI) λn1 n2=>Uh _ _ (.next (stk:=(hd,0)::stk) (sn:=sn++[hd]) SY ⟨?_,n2,n1⟩ hF (apart_new hA (λq=>hm ((h2 hd).mpr (.inr q)):hd∉F) hp) (Bk hO) ?_ ?_ ?_ ?_ ?_ ?_)
           . refine(?_:(match IT _ _ with|true=>_|false=>_)=_);exact aa (aW _) rfl
           . intro p q;rcases IJ.mp q with q|q
             . exact aa q (JG _)
             . exact hL p q
           . exact Mz.mpr ⟨h1,I_.mpr ⟨λq=>((IA q).elim),J_⟩,λa ha b hb e=>hm (by rcases IJ.mp hb with q|q;exact q▸e▸ha;cases q)⟩
           . intro x;rw[JD,h2]
             constructor
             . rintro(q|q)
               . exact q.elim (λq=>.inl (.tail _ q)) .inr
               . rcases IJ.mp q with q|q
                 . exact aa q (.inl (.head _))
                 . cases q
             . rintro(q|q)
               . rcases IJ.mp q with q|q
                 . exact aa (q:x=hd) (.inr (.head _))
                 . exact .inl (.inl q)
               . exact .inl (.inr q)
           . intro x q;rcases JD.mp q with q|q
             . exact h3 x q
             . rcases IJ.mp q with q|q
               . exact aa q Sz
               . cases q
           . refine an hc ?_;have e:cnt g.su ((hd,0)::stk) F=cnt g.su stk F:=by
              unfold cnt;refine aa JA (aa M1 ?_);exact congrArg _ (JI _)
             exact aa e rfl
           . intro x q;rcases S6 x q with q|q
             . exact aa q (JT _ (.head _))
             . exact Kv _ q
     . refine .mk (stk:=[]) (as:=[]) hk trivial hF ⟨J_,λx h=>(IA h).elim⟩ trivial (λp h=>((IA h).elim)) h1 (λx=>?_) (λx hx=>h3 x ((h2 x).mp hx)) (NU.mp (JP hy):y∈g.ns) ?_ (λx hx=>?_)
       . rw[h2];exact⟨.inr,λh=>h.elim (λq=>(IA q).elim) id⟩
       . have:=w5 (su:=g.su) (stk:=[]) hF ⟨J_,λx h=>(IA h).elim⟩ (λp h=>(IA h).elim) h3 (λx h=>(IA h).elim);exact Rc this
       . rw[et]at hx;rcases JD.mp hx with q|q
         . exact .inr ((h2 x).mpr (h4 x q))
         . rcases IJ.mp q with q|q
           . exact .inl q
           . cases q
end
theorem xi(hF:bY su F)(hx:∀x,x∈F↔x∈ns)(hR:im su ns):False:=by
 refine cm hR λP Sn h2 h3=>?_;rcases Sn with⟨x,h1⟩
 have hw:∀x c,c∈F.filter (λc=>decide (x∈su c))->x∈su c:=λx c h=>of_decide_eq_true (JX.mp h).2;have a:=AS hw (λx c h=>(JX.mp h).1) hF x ((hx x).mpr (h2 x h1));have b:=hV (λy hy=>by
  exact ae (h3 y hy) λc c1 c2=>⟨c,JX.mpr ⟨(hx c).mpr (h2 c c1),decide_eq_true c2⟩,c1⟩) F.length x h1
 exact IE (a▸b)
noncomputable def g0:G:=⟨λZ=>0,λZ=>[],[]⟩
theorem xj{call}{tail}(ht:∀j∈ks tail,j<20)(hI:∀{K} {Xk},K .none (GH g0 .none 0 0 4 0 tail)->call (.top 109) [.ref 20] [] ((20,.inst 173 21)::(21,.dict [] 0)::tail) K Xk)
 {K} {Xk} (hK:K (.ref 20) (GH g0 .none 0 0 4 0 tail)):aY PL call (.top 173) [] [] tail K Xk:=by
 conv=>whnf
 refine⟨20,21,?_⟩
 conv=>whnf
 have e:zQ tail 173 20 21=some ((20,.inst 173 21)::(21,.dict [] 0)::tail):=by
  refine(?_:(cW tail 21 (.dict [] 0)).bind (λS_=>cW S_ 20 (.inst 173 21))=_);refine aa (nV (λq=>absurd (ht _ q) (by decide):21∉ks tail)) ?_;exact nV λq=>by
   refine av q (λq=>?_) λq=>?_
   . exact absurd q (by decide)
   . exact(λq=>absurd (ht _ q) (by decide):20∉ks tail) q
 exact bp (b:=false) e (hI ⟨rfl,hK⟩)
def xk (call:AV->Callee):Prop:=∀{tail:Hp},(∀j∈ks tail,j<20)->∀{K:AV->Hp->Prop} {Xk:AX->Hp->Prop},K (.ref 20) (GH g0 .none 0 0 4 0 tail)->call (.top 173) [] [] tail K Xk
def tP (call:AV->Callee):Prop:=∀{g:G} {npo nfi:Int} {v21 v22:Nat} {tail:Hp},g.ns.length<=7->g.ns.Nodup->(∀j∈ks tail,j<20)->∀{x:Str} {K:AV->Hp->Prop} {Xk:AX->Hp->Prop},(∀{SM},K .none (GH ((g.ens x).inc x 0) .none npo nfi v21 SM tail))->call (.top 123) [.ref 20,.str x] [] (GH g .none npo nfi v21 v22 tail) K Xk
def tQ (call:AV->Callee):Prop:=∀{g:G} {npo nfi:Int} {v21 v22:Nat} {tail:Hp},g.ns.length<=7->g.ns.Nodup->(∀j∈ks tail,j<20)->∀{x p:Str},((((g.ens x).inc x 1).ens p).su p).length<=1000->∀{K:AV->Hp->Prop} {Xk:AX->Hp->Prop},(∀{SM},K .none (GH ((((g.ens x).inc x 1).ens p).app p x) .none npo nfi v21 SM tail))->call (.top 123) [.ref 20,.str x,.str p] [] (GH g .none npo nfi v21 v22 tail) K Xk
def tR (call:AV->Callee):Prop:=∀{g:G} {npo nfi:Int} {v21 v22:Nat} {tail:Hp},g.ns.length<=9->g.ns.Nodup->(∀x∈g.ns,∀y∈g.su x,y∈g.ns)->(∀j∈ks tail,j<20)->tail.length<=40->∀{K:AV->Hp->Prop} {Xk:AX->Hp->Prop},
 (∀J,wV J->im g.su g.ns->Xk .cyc (SH (J++[(54,.list ((bn g.np g.ns).map .str))]) g.np g.su g.ns (bZ g.ns) (.ref 54) npo nfi (v21+1) v22 tail))->
 (∀J,wV J->¬im g.su g.ns->K .none (SH (J++[(54,.list ((bn g.np g.ns).map .str))]) g.np g.su g.ns (bZ g.ns) (.ref 54) npo nfi (v21+1) v22 tail))->call (.top 128) [.ref 20] [] (GH g .none npo nfi v21 v22 tail) K Xk
def BB (call:AV->Callee):Prop:=∀{np:Str->Int} {su:Str->List Str} {ns:List Str} {es:List (Str×AV)} {pre:Hp} {npo nfi:Int} {v21 v22:Nat} {r:Nat} {l:List AV} {tail:Hp},(∀j∈ks pre,50<=j)->ns.length<=9->l.length<=1000000->hg (SH pre np su ns es (.ref r) npo nfi v21 v22 tail) r=some (.list l)->∀{K:AV->Hp->Prop} {Xk:AX->Hp->Prop},
 K (.bool (decide (nfi<npo)|| !l.isEmpty)) (SH pre np su ns es (.ref r) npo nfi v21 v22 tail)->call (.top 142) [.ref 20] [] (SH pre np su ns es (.ref r) npo nfi v21 v22 tail) K Xk
def BC (call:AV->Callee):Prop:=∀{pre:Hp} {g:G} {npo nfi:Int} {v21 v22:Nat} {rdy:List Str} {tail:Hp},(∀j∈ks pre,50<=j)->hg pre 54=some (.list (rdy.map .str))->g.ns.length<=9->g.ns.Nodup->rdy.length<=1000->(∀x∈rdy,x∈g.ns)->∀{K:AV->Hp->Prop} {Xk:AX->Hp->Prop},
 K (.tup (rdy.map .str)) (SH (hs pre 54 (.list [])) (bv g.np rdy (-1)) g.su g.ns (bZ g.ns) (.ref 54) (npo+rdy.length) nfi (v21+1) v22 tail)->call (.top 135) [.ref 20] [] (SH pre g.np g.su g.ns (bZ g.ns) (.ref 54) npo nfi v21 v22 tail) K Xk
def tS (call:AV->Callee):Prop:=∀{pre:Hp} {su:Str->List Str} {ns:List Str} {npo:Int} {v22:Nat} {tail:Hp},(∀j∈ks pre,50<=j)->54∈ks pre->ns.length<=9->ns.Nodup->∀{np:Str->Int} {rd nodes:List Str} {nfi:Int} {v21:Nat},nodes.length<=1000->(∀x∈nodes,x∈ns)->(∀x∈ns,∀y∈su x,y∈ns)->(∀x∈ns,(su x).length<=1000)->
 (∀i x,nodes[i]? =some x->((nodes.take i).foldl (cF su) (np,rd)).1 x= -1)->(∀i,((nodes.take i).foldl (cF su) (np,rd)).2.length<=1000)->∀{K:AV->Hp->Prop} {Xk:AX->Hp->Prop},
 K .none (SH (hs pre 54 (.list ((nodes.foldl (cF su) (np,rd)).2.map .str))) (nodes.foldl (cF su) (np,rd)).1 su ns (bZ ns) (.ref 54) npo (nfi+nodes.length) (v21+nodes.length) v22 tail)->
 call (.top 156) (.ref 20::nodes.map .str) [] (SH (hs pre 54 (.list (rd.map .str))) np su ns (bZ ns) (.ref 54) npo nfi v21 v22 tail) K Xk
structure Ew(call:AV->Callee):Prop where
 cls:xk call
 add1:tP call
 add2:tQ call
 prep:tR call
 ia:BB call
 gr:BC call
 done:tS call
theorem xl(i):rN (aQ PL (i+3)):=by intro g rdy npo nfi v21 v22 tail hn nd ht x K Xk hK;refine ah (wM ?_ hn nd ht hK);intro k x H K Xk h1 h2 hK;exact ah (Eb (λh h'=>ah (tL h h')) h1 h2 hK)
theorem Hl(i):Ew (aQ PL (i+5))where
 cls:=λht Z Z hK=>ah (xj ht (λh=>ah (tM ht h)) hK)
 add1:=λhn nd ht Z Z Z hK=>ah (wN (xl (i+1)) hn nd ht hK)
 add2:=λhn nd ht Z Z hl Z Z hK=>ah (wO (xl (i+1)) hn nd ht hl hK)
 prep:=by
  intro g npo nfi v21 v22 tail hn nd hsu ht htl K Xk hC hN;refine ah ?_;by_cases h:im g.su g.ns
  . refine nW ht hn nd true (λ{K Xk} hK=>?_) λJ hJ=>hC J hJ h;exact ah (xh (g:=⟨g.np,g.su,g.ns,npo,nfi,v21+1,v22,_,tail⟩) ht htl hn nd hsu (λJ hJ c cs hl Z=>hK J hJ (c,cs) hl) λJ hJ F hF hx=>(xi hF hx h).elim)
  . refine nW ht hn nd false (λ{K Xk} hK=>?_) λJ hJ=>hN J hJ h;exact ah (xh (g:=⟨g.np,g.su,g.ns,npo,nfi,v21+1,v22,_,tail⟩) ht htl hn nd hsu (λJ hJ c cs hl hr=>(h hr).elim) λJ hJ F hF hx=>hK J hJ (.none,[]) (JG _))
 ia:=λhp hn hl hr Z Z hK=>ah (Ed hp hn hl hr hK)
 gr:=λhp SP hn nd hl hr Z Z hK=>ah (Ee hp SP hn nd hl hr hK)
 done:=λhp SP hn nd Z Z Z Z Z hl hr S5 hsl ho hb Z Z hK=>ah (wT hp SP hn nd hl hr S5 hsl ho hb hK)
noncomputable abbrev yh:=Str×Int
noncomputable def lR (r:yh):AV:=.tup [.str r.1,.int r.2]
noncomputable def Ex (s:G×List Str)(r:yh):G×List Str:=(match(s.2.take (r.2-1).toNat).getLast? with|none=>(s.1.ens r.1).inc r.1 0|some q=>(((s.1.ens q).inc q 1).ens r.1).app r.1 q,s.2.take (r.2-1).toNat++[r.1])
def E0 (g:G):Prop:=g.ns.length<=7/\g.ns.Nodup/\∀x,(g.su x).length<=900
noncomputable def io (rows:List yh)(i:Nat):G×List Str:=(rows.take i).foldl Ex (g0,[])
noncomputable def gE (rows:List yh):G:=(io rows rows.length).1
noncomputable def HQ (su:Str->List Str)(np:Str->Int)(rdy:List Str)(i:Nat):(Str->Int)×List Str:=(rdy.take i).foldl (cF su) (bv np rdy (-1),[])
noncomputable def fz (su:Str->List Str)(np:Str->Int)(rdy:List Str):(Str->Int)×List Str:=rdy.foldl (cF su) (bv np rdy (-1),[])
inductive cS(su:Str->List Str)(ns:List Str)(R:(Str->Int)->List Str->List (List Str)->Prop)(np:Str->Int):List Str->List (List Str)->Prop
 |nil:cS su ns R np [] []
 |cons:rdy≠[]->rdy.length<=60->(∀x∈rdy,x∈ns)->(∀i x,rdy[i]? =some x->(HQ su np rdy i).1 x= -1)->(∀i,(HQ su np rdy i).2.length<=1000)->R (fz su np rdy).1 (fz su np rdy).2 out->cS su ns R np rdy (bx rdy::out)
def cG (su:Str->List Str)(ns:List Str)(n:Nat):(Str->Int)->List Str->List (List Str)->Prop:=@Nat.rec (λZ=>(Str->Int)->List Str->List (List Str)->Prop) (cS su ns λZ Z Z=>False) (λZ R=>cS su ns R) n
theorem cG.see(h:cG su ns n np rdy out):cS su ns (λnp rdy out=>∃m,n=m+1/\cG su ns m np rdy out) np rdy out:=by
 revert h
 induction n with
 |zero=>exact λh=>cS.casesOn h .nil λr0 r1 r2 r3 r4 r5=>r5.elim
 |succ n=>exact λh=>cS.casesOn h .nil λr0 r1 r2 r3 r4 r5=>.cons r0 r1 r2 r3 r4 ⟨n,rfl,r5⟩
theorem cS.few(h:cS su ns R np rdy out):rdy.length<=60:=cS.casesOn h (JG 60) λZ r1 Z Z Z Z=>r1
theorem Ey(a:Int)(rdy:List Str):(decide (a<a)|| !(rdy.map AV.str).isEmpty)= !rdy.isEmpty:=by refine aa (decide_eq_false (Int.lt_irrefl a)) ?_;induction rdy<;>rfl
theorem xm(h:l.length<=1000000)(hy:0<=y):oG H (.lst l) none (some y)=some (.lst (l.take y.toNat)):=by
 refine(?_:((gd (ai l.length) (some (AV.lst (cut l none (some y))))).or _)=_);refine aa (ak h) (?_:some (AV.lst _)=_);unfold cut;refine aa (show Og none l.length=0 from rfl) (aa (show N1 (some y) l.length=min y.toNat l.length from by unfold N1;show(if y<0 then _ else min y.toNat l.length)=_;exact aa (if_neg (Pl hy)) rfl) ?_)
 congr 2
 refine aa P3 (aa (Nat.sub_zero _) ?_);rcases PC y.toNat l.length with q|q
 . exact aa (J8 q) rfl
 . exact aa (RL q) (aa (Ju q) (aa (Ju (IC _)) rfl))
theorem BD(h:l.length<=1000000):oG H (.lst l) (some (-2)) none=some (.lst (l.drop (l.length-2))):=by refine(?_:((gd (ai l.length) (some (AV.lst (cut l (some (-2)) none)))).or _)=_);refine aa (ak h) (?_:some (AV.lst _)=_);unfold cut;exact aa (rfl:Og (some (-2)) l.length=l.length-2) (aa (rfl:N1 none l.length=l.length) (aa (Ju (aa LA (IC _))) rfl))
section
theorem rX(hp:∀j∈ks pre,50<=j)(hn:ns.length<=9)(h:k<20):hg (SH pre np su ns es rdy npo nfi v21 v22 tail) k=hg tail k:=by
 refine aa (ca hp hn (Iu (by assumption) (Iv rfl))) (?_:(match IT 22 k with|true=>_|false=>(match IT 20 k with|true=>_|false=>(match IT 21 k with|true=>_|false=>hg tail k)))=_);exact aa (aC (JU (Kh h (Iv rfl)))) (aa (aC (JU h)) (aa (aC (JU (Kh h (Iv rfl)))) rfl))
end
theorem fA:∀(l),cr (l.map AV.str)=some l:=by
 intro Sl;induction Sl with
 |nil=>exact rfl
 |cons x r Sk=>refine(?_:((cr (r.map AV.str)).map (x:: ·))=_);exact aa Sk rfl
theorem qv(h:l.length<=60):iy H (.tup (l.map .str))=some (.lst ((bx l).map .str)):=by refine(?_:gd (Kd (l.map AV.str).length 64) ((cr (l.map AV.str)).map λss=>AV.lst ((bx ss).map .str))=_);exact aa (fA _) (aa (Iz _) (aa (show Kd l.length 64=true from Jy (I8 (by assumption) (Iv rfl))) rfl))
noncomputable def hY (l:List Str):AV:=.lst (l.map .str)
inductive SI(g:G)(J tail:Hp)(v22:Nat)(out:List (List Str))(b:Bool)(n:Nat):St->Prop
 |mk {pre:Hp} {np:Str->Int} {rdy:List Str} {rs Tz:List (List Str)} {npo:Int} {v21:Nat}:hg pre 54=some (.list (rdy.map .str))->hg pre 55=some (.list (rs.map hY))->ks pre=55::(ks J++[54])->cG g.su g.ns n np rdy Tz->rs++Tz=out->SI g J tail v22 out b n (([("sorter",.ref 20),("whole",.bool b),("rounds",.ref 55)]:Lo),SH pre np g.su g.ns (bZ g.ns) (.ref 54) npo npo v21 v22 tail)
theorem xn(h:j=k)(h1:50<=k)(h2:k<1100):50<=j/\j<1100+n:=h▸⟨h1,Jc h2 (IK 1100 n)⟩
theorem rY(hJ:wV J)(e:ks pre=55::(ks J++[54]))(j:Nat)(h:j∈ks pre):50<=j/\j<1100+J.length:=av (e▸h) (λh=>xn h (by decide) (by decide)) λh=>bg h (λh=>⟨(hJ j h).1,(hJ j h).2.2.2⟩) λh=>xn (KO.mp h) (by decide) (by decide)
theorem BE(hJ:wV J)(e:ks pre=55::(ks J++[54]))(hn:ns.length<=9)(ht:∀j∈ks tail,j<20):∀j∈ks (SH pre np su ns es rdy npo nfi v21 v22 tail),j<2000+(SH pre np su ns es rdy npo nfi v21 v22 tail).length:=by intro j h;have e1:pre.length=J.length+1+1:=(Iz _).symm.trans ((congrArg Kn e).trans (congrArg (· +1) (IB.trans (congrArg (· +1) (Iz _)))));have el:=Iu (Iu (IK J.length 2) (I2 e1.symm)) (Iu (IK pre.length _) (I2 (IB (bs:=fG np su ns++A_ es rdy npo nfi v21 v22 tail)).symm));have lo:∀{j},j<2000->j<2000+(SH pre np su ns es rdy npo nfi v21 v22 tail).length:=λh=>Jc h (IK 2000 _);rw[show ks (SH pre np su ns es rdy npo nfi v21 v22 tail)=ks pre++(ks (fG np su ns)++22::20::21::ks tail)from IR.trans (congrArg (ks pre++ ·) IR)]at h;exact bg h (λh=>Jc (rY hJ e j h).2 (Jr (by decide) el)) λh=>bg h (λh=>lo (Jc (jm h).2 (Iu (Jf (JF 2 hn) 30) (by decide)))) λh=>av h (λh=>lo (h▸by decide)) λh=>av h (λh=>lo (h▸by decide)) λh=>av h (λh=>lo (h▸by decide)) λh=>lo (Kh (ht j h) (by decide))
theorem gc{rows}{i}{r}(h:rows[i]? =some r):io rows (i+1)=Ex (io rows i) r:=by unfold io;exact aa (show rows.take (i+1)=rows.take i++[r]from aa JR (aa h rfl)) (aa My rfl)
theorem nX{rows}:∀i,(io rows i).2.length<=i:=by
 intro Sl;induction Sl with
 |zero=>exact IC _
 |succ i Sk=>
  have:=Sk;induction h:rows[i]? with
  |none=>
   have hle:=Ji.mp h;have:io rows (i+1)=io rows i:=by unfold io;exact aa (Ju hle) (aa (Ju (I3 (by assumption))) rfl)
   exact aa this (I3 (by assumption))
  |some r=>refine aa (gc h) (?_:((io rows i).2.take (r.2-1).toNat++[r.1]).length<=_);refine aa IB (aa JQ ?_);exact IS (Iu (NX _ _) this)
theorem xo{p:List Str}{x:Str}:(p.map AV.str++[AV.str x]).drop ((p.map AV.str++[AV.str x]).length-2)=match p.getLast? with|none=>[.str x]|some q=>[.str q,.str x]:=by
 induction h:p.getLast? with
 |none=>exact aa (MU.mp h) rfl
 |some q=>
  refine af (MV.mp h) λp' Sq=>?_;refine aa Sq (aa IR ?_);have e:((p'.map AV.str++[q].map AV.str)++[AV.str x]).length-2=(p'.map AV.str).length:=by
   refine aa IB (aa IB ?_);refine(?_:_+1+1-2=_);exact LI (Oa rfl)
  exact aa e (aa (JL _ _ _) (aa P2 rfl))
noncomputable def HR:FD:=match bX "_law_sorted" with|some F=>F|.none=>⟨⟨[],[],.none,[],[],.none,[]⟩,[],⟨.function,[],false,false,[]⟩⟩
noncomputable def Im:List Ld:=HR.body.drop 5
theorem Hm(hJ:wV J):55∉ks (J++[(54,o)]):=λq=>bg (Eq.mp (congrArg (55∈ ·) (IR (l₁:=J))) q) (λq=>(hJ 55 q).2.2.1 rfl) λq=>absurd q (by decide:55∉[54])
section
variable {call:AV->Callee}{rows:List yh}
theorem rZ(hC:Ew call)(ht:∀j∈ks tail,j<20)(g9:g.ns.length<=9)(gk:E0 g)(hsu:∀x∈g.ns,∀y∈g.su x,y∈g.ns)(hol:out.length<=1000)(hR:cG g.su g.ns n g.np (bn g.np g.ns) out)(hJ:wV J)
 {X:XK} {pv:AV} {K:aD->St->Prop} (hK:∀s H,hg H 55=some (.list (out.map hY))->(∀k,k<20->hg H k=hg tail k)->(∀j∈ks H,j<2000+H.length)->K (.ret (.tup [.bool b,.ref 55])) (s,H)):
 sO (TT PL call) (bL (TT PL call) 59) ⟨HR.sc,true,true⟩ X Im (([("sorter",.ref 20),("path",pv),("whole",.bool b)]:Lo),SH (J++[(54,.list ((bn g.np g.ns).map .str))]) g.np g.su g.ns (bZ g.ns) (.ref 54) 0 0 v21 v22 tail) K:=by
 conv=>whnf
 refine ac.two () rfl () (b8 (c9 ht g9 (by decide) (Hm hJ))) ?_
 conv=>whnf
 refine⟨n+1,fy (SI g J tail v22 out b) (λn s K' q Su=>?_) (.mk (rs:=[]) (pre:=(55,.list [])::(J++[(54,.list ((bn g.np g.ns).map .str))])) ((dq λq=>(hJ 54 q).2.1 rfl).trans rfl) rfl (congrArg (List.cons 55) (IR (l₁:=J))) hR rfl) (I6 _)⟩;refine SI.casesOn q λ{pre np rdy rs Tz npo v21} SP SX hks hR' ho=>?_;have ST:=λj q=>(rY hJ hks j q).1;have he:=hR'.see;refine ac.mk _ (du ST g9 rfl rfl) (hC.ia ST g9 (Iu (I2 (Iz _)) (Iu he.few (by decide))) (cE SP) (ac.mk _ (congrArg some (Ey npo rdy)) ?_))
 revert SP ho
 refine cS.casesOn he (λSP ho=>?_) λ{rdy out2} r0 Z r1 r2 r3 q SP ho=>?_
 . conv=>whnf
   rw[Jv]at ho;rw[ho]at SX;exact hK _ _ (cE SX) (λk T1=>rX ST g9 T1) (BE hJ hks g9 ht)
 . refine ae q λm em r4=>aa (show(!rdy.isEmpty)=true from Mw _ |>.mpr (Lk.mpr λq=>r0 (List.isEmpty_iff.mp q))) ?_
   conv=>whnf
   have k54:=bu SP;have Tu:=Z;have hrm:rdy.length<=1000:=Iu Tu (by decide);have hrl:=Iu (IK rs.length _) (Iu (I2 (IB.symm.trans (congrArg Kn ho))) hol);refine ac.mk _ (du ST g9 rfl rfl) (hC.gr (g:=⟨np,g.su,g.ns⟩) ST SP g9 gk.2.1 hrm r1 (ac.three 156 (wH (P:=PL) (call:=call) (λj q=>ST j (eP pre 54 _▸q)) g9 rfl rfl) _ rfl () (congrArg (gd · (some ())) (ak (Iu (I2 (Iz _)) (Iu Tu (by decide))))) (hC.done ST k54 g9 gk.2.1 (rd:=[]) hrm r1 hsu (λx Z=>Iu (gk.2.2 x) (by decide)) r2 r3 ?_)))
   conv=>whnf
   have Tc:∀o,hg (hs pre 54 o) 55=some (.list (rs.map hY)):=λo=>(rU (by decide)).trans SX;refine ac.mk _ (bN (cE (Tc _)) rfl) (ac.mk _ (qv Tu) ?_)
   conv=>whnf
   refine ac.mk _ ((bz (cE (Tc _)) (Iu (I2 (Iz _)) (Iu hrl (by decide)))).trans (congrArg some (jo (Tc _)))) (Su _ ⟨m,Nb (I6 m) em.symm,.mk (rs:=rs++[bx rdy]) ((rU (by decide)).trans (jp k54)) ((jp (bu (Tc _))).trans (congrArg (λl=>some (AO.list l)) (IR (f:=hY) (l₁:=rs) (l₂:=[bx rdy])).symm)) ((eP _ _ _).trans ((eP _ _ _).trans hks)) r4 ((JL _ _ _).trans ho)⟩)
inductive SO(tail:Hp)(p:G×List Str):St->Prop
 |mk:SO tail p (([("sorter",.ref 20),("path",.lst (p.2.map .str))]:Lo),GH p.1 .none 0 0 4 v22 tail)
theorem BF(g:G)(x y:Str):(g.su x).length+1=((g.app x y).su x).length:=((congrArg Kn (jq g.su x (g.su x++[y]))).trans IB).symm
theorem Ez:l.map AV.str++[AV.str x]=(l++[x]).map AV.str:=(IR (f:=AV.str) (l₁:=l) (l₂:=[x])).symm
theorem qw(hC:Ew call)(ht:∀j∈ks tail,j<20)(htl:tail.length<=40)(h3:hg tail 3=some (.list (rows.map lR)))(hd:∀r∈rows,1<=r.2)(hl:rows.length<=100)(hol:out.length<=1000)
 (hG:∀i,E0 (io rows i).1) (hsu:∀x∈(gE rows).ns,∀y∈(gE rows).su x,y∈(gE rows).ns)
 (hR:cG (gE rows).su (gE rows).ns n (gE rows).np (bn (gE rows).np (gE rows).ns) out)
 {K} {Xk:AX->Hp->Prop}
 (hK:∀b H,(b=true↔¬im (gE rows).su (gE rows).ns)->hg H 55=some (.list (out.map hY))->(∀k,k<20->hg H k=hg tail k)->(∀j∈ks H,j<2000+H.length)->K (.tup [.bool b,.ref 55]) H):aY PL call (.top 890) [.ref 3] [] tail K Xk:=by
 refine Je 60 (hC.cls ht (ac.mk () rfl ?_))
 conv=>whnf
 have To:∀i,(io rows i).1.ns.length<=9:=λi=>Iu (hG i).1 (by decide);have h3':∀{np:Str->Int} {su:Str->List Str} {ns:List Str} {es:List (Str×AV)} {rdy:AV} {npo nfi:Int} {v21 v22:Nat},ns.length<=9->hg (SH [] np su ns es rdy npo nfi v21 v22 tail) 3=some (.list (rows.map lR)):=λhn=>(rX ay hn (by decide)).trans h3;refine ac.mk _ (eJ (h3' (JG 9))) (cQ (rows.map lR) (λi=>SO tail (io rows i)) .mk (λi s q=>SO.casesOn q λ{v22}=>congrArg (Ma · AO.list?) (h3' (To i))) (λs q=>?_) λi x s K' hx q Su=>?_)
 . rw[Iz]at q;refine SO.casesOn q λ{v22}=>?_;have g9:=To rows.length;have gk:=hG rows.length;refine ac.mk _ (du ay g9 rfl rfl) (hC.prep g9 gk.2.1 hsu ht htl (λJ hJ hr=>?_) λJ hJ hr=>?_)
   . exact rZ (X:=λx s=>Xk x s.2) (K:=λfl s=>K fl.val s.2) (v21:=5) (v22:=v22) hC ht g9 gk hsu hol hR hJ λs H=>hK false H ⟨λq=>IE q,λq=>(q hr).elim⟩
   . exact rZ (X:=λx s=>Xk x s.2) (K:=λfl s=>K fl.val s.2) (v21:=5) (v22:=v22) hC ht g9 gk hsu hol hR hJ λs H=>hK true H ⟨λZ=>hr,λZ=>rfl⟩
 . revert Su
   refine SO.casesOn q λ{v22} Su=>?_;rw[I9]at hx;refine aH hx λr hr qq=>?_;clear hx;subst qq;have hil:i<=100:=Iu (Js (Jm.mp hr).1) hl;have h1:=hd r (JP hr);have g1:=gc hr;have g2:=hG (i+1);rw[g1]at g2 Su;refine ac.mk _ rfl (ac.two _ (xm (by exact aa (Iz _) (Iu (nX i) (Iu hil (by decide)))) (KQ h1)) () rfl ?_)
   conv=>whnf
   refine an QI ?_;have ll:((io rows i).2.take (r.2-1).toNat).length<=100:=Iu (N_ _ _) (Iu (nX i) hil);refine ac.three _ (f_ (IS (Iu (I2 (Iz _)) (Iu ll (by decide))))) 123 (wH (P:=PL) (call:=call) ay (To i) rfl rfl) _ (BD (Iu (I2 (by exact aa IB (aa (Iz _) rfl))) (IS (Iu ll (by decide))))) (aa xo (aa Ez ?_))
   revert Su g2
   unfold Ex;induction hq:((io rows i).2.take (r.2-1).toNat).getLast? with
   |none=>intro Su g2;exact ac.two _ rfl () rfl (hC.add1 (hG i).1 (hG i).2.1 ht λ{v22}=>Su _ .mk)
   |some q=>intro Su g2;exact ac.two _ rfl () rfl (hC.add2 (hG i).1 (hG i).2.1 ht (Iu (IL _) (Iu (I2 (BF _ r.1 q)) (Iu (g2.2.2 r.1) (by decide)))) λ{v22}=>Su _ .mk)
end
noncomputable def bE (g:Gr):Str:=fF g.1
noncomputable def qx (gs:List Gr)(i:Nat)(d:Int):List Str:=((gs.take i).filter λg=>decide (g.2.1=d-1)).map bE
noncomputable def b9 (gs:List Gr):Nat->Str->List Str
 |0=>λZ=>[]
 |i+1=>match gs[i]? with
  |none=>b9 gs i
  |some g=>match decide (0<g.2.1)with
   |true=>match(qx gs i g.2.1).getLast? with
    |some q=>bD (b9 gs i) q (b9 gs i q++[bE g])
    |none=>b9 gs i
   |false=>b9 gs i
noncomputable def fC (L:Nat):Nat->Hp
 |0=>[]
 |i+1=>(2000+(i+L),.list [])::fC L i
noncomputable def lS (L:Nat):Nat->List Gr->List (Str×AV)
 |_,[]=>[]
 |n,g::r=>(bE g,.ref (2000+(n+L)))::lS L (n+1) r
theorem r8(L):∀i,(fC L i).length=i:=by
 intro Sl;induction Sl with
 |zero=>exact rfl
 |succ i Sk=>exact congrArg (· +1) (Sk)
theorem da:∀{i j},j∈ks (fC L i)->2000+L<=j/\j<2000+(i+L):=by
 intro Sl;induction Sl with
 |zero=>intro j h;cases h
 |succ i Sk=>
  intro j h;refine av h (λh=>?_) λh=>?_
  . exact an (h.symm:2000+(i+L)=j) ⟨IZ (I4 _ _) _,MX (Qa (I6 _) _) _⟩
  . exact⟨(Sk h).1,Jc (Sk h).2 (IZ (Jf (IL _) _) _)⟩
theorem EA:∀{i j},j<i->hg (fC L i) (2000+(j+L))=some (.list []):=by
 intro Sl;induction Sl with
 |zero=>
  intro SE SG
  first|exact(IA SG).elim|exact(IA SE).elim|cases SG|cases SE
 |succ i Sw=>
  intro j h;refine(?_:(match IT (2000+(i+L)) (2000+(j+L))with|true=>_|false=>hg (fC L i) (2000+(j+L)))=_);by_cases e:i=j
  . clear h;subst e;exact aa (aW _) rfl
  . exact aa (aC λq=>e (ME (L1 q))) (Sw (Na (KY h) (Kr e)))
theorem BG:∀{a} {n} {g},lS L n (a++[g])=lS L n a++[(bE g,.ref (2000+(n+a.length+L)))]:=by
 intro Sl;induction Sl with
 |nil=>intro n g;exact rfl
 |cons x r Sk=>intro n g;refine(?_:_::lS L (n+1) (r++[g])=_::(lS L (n+1) r++_));exact aa Sk (aa (show n+1+r.length=n+(x::r).length from aa Jh (Kk n r.length)) rfl)
noncomputable def fD (p:Str×AV):AV:=.tup [.str p.1,p.2]
theorem tT:∀(ps),pairsOf (ps.map fD)=some ps:=by
 intro Sl;induction Sl with
 |nil=>exact rfl
 |cons p r Sk=>refine(?_:(pairsOf (r.map fD)).map ((p.1,p.2):: ·)=_);exact aa Sk rfl
theorem r9:∀(gs) (n),(lS L n gs).length=gs.length:=by
 intro Sl;induction Sl with
 |nil=>intro Z;exact rfl
 |cons x92 r So=>intro n;exact congrArg (· +1) (So (n+1))
theorem EB:∀{gs:List Gr} {n i:Nat} {p:Str×AV},(lS L n gs)[i]? =some p->∃g,gs[i]? =some g/\p=(bE g,.ref (2000+(n+i+L))):=by
 intro gs;induction gs with
 |nil=>exact λh=>nn h
 |cons g r ih=>
  intro n i p h;cases i with
  |zero=>exact⟨g,rfl,(Iw h).symm⟩
  |succ i=>exact ae (ih h) λg' h1 h2=>⟨g',h1,aa h2 (aa (show n+1+i=n+(i+1)from Nat.succ_add n i) rfl)⟩
theorem EC(h:x∈ps.map (·.1)):∃(i:Nat) (a:AV),ps[i]? =some (x,a)/\lk (putAll ps) x=some a:=by
 have main:∀n,∀x∈(ps.take n).map (·.1),∃(i:Nat) (a:AV),ps[i]? =some (x,a)/\lk (putAll (ps.take n)) x=some a:=by
  intro n;induction n with
  |zero=>intro x h;cases h
  |succ n ih=>
   intro x h;cases q:ps[n]? with
   |none=>have hle:=Ji.mp q;rw[Ju (I3 (by assumption))]at h⊢;rw[Ju hle]at ih;exact ih x h
   |some p=>
    have et:ps.take (n+1)=ps.take n++[p]:=by exact aa JR (aa q rfl)
    have ep:putAll (ps.take (n+1))=st (putAll (ps.take n)) p.1 p.2:=by unfold putAll;exact aa et (aa My rfl)
    refine aa ep ?_;by_cases e:p.1=x
    . subst e;exact⟨n,p.2,q,aa (qI _ _ _ _) (aa (if_pos rfl) rfl)⟩
    . rw[et,IR]at h;rcases JD.mp h with h|h
      . exact be (ih x h) λi a h1 h2=>⟨i,a,h1,aa (qI _ _ _ _) (aa (if_neg e) h2)⟩
      . rcases IJ.mp h with h|h
        . exact absurd h.symm e
        . cases h
 have:=main ps.length x (aa Ka h);rw[Ka]at this;exact this
theorem xp{α β:Type}{x}{a:α}{b:β}:∀{l} {m},l.map (·.1)=m.map (·.1)->(st l x a).map (·.1)=(st m x b).map (·.1):=by
 intro Sl;induction Sl with
 |nil=>
  intro SK;cases SK with
  |nil=>intro Z;exact rfl
  |cons x93 x94=>intro h;cases h
 |cons p r SU=>
  intro TB;cases TB with
  |nil=>intro h;cases h
  |cons q t=>
   intro h;refine ad (KU h) λh1 h2=>?_;obtain⟨y,p2⟩:=p;obtain⟨z,q2⟩:=q;have h1:y=z:=h1;clear h;refine an h1 (?_:((match aZ y x with|true=>(y,a)::r|false=>(y,p2)::st r x a):List (Str×α)).map (·.1)=((match aZ y x with|true=>(y,b)::t|false=>(y,q2)::st t x b):List (Str×β)).map (·.1));induction aZ y x with
   |true=>exact congrArg (y:: ·) h2
   |false=>exact congrArg (y:: ·) (SU h2)
noncomputable def a9 (gs:List Gr):List Str:=((gs.map bE).foldl (λ(m:List (Str×Unit)) x=>st m x ()) []).map (·.1)
theorem xq{L}(gs):(putAll (lS L 0 gs)).map (·.1)=a9 gs:=by
 have main:∀(gs:List Gr) (n:Nat) (l:List (Str×AV)) (m:List (Str×Unit)),l.map (·.1)=m.map (·.1)->((lS L n gs).foldl (λm p=>st m p.1 p.2) l).map (·.1)=((gs.map bE).foldl (λ(m:List (Str×Unit)) x=>st m x ()) m).map (·.1):=by
  intro gs;induction gs with
  |nil=>intro n l m h;exact h
  |cons g r ih=>intro n l m h;exact ih (n+1) _ _ (xp h)
 exact main gs 0 [] [] rfl
theorem BH{H:Hp}{k i:Nat}{l:List AV}{x:AV}(e:hg H k=some (.list l))(h:l[i]? =some x)(hl:l.length<=1000000):h_ H (.ref k) (.int (i:Int))=some x:=by
 refine(?_:((((aU H (.ref k)).or (AV.ref k).tup?).bind λxs=>gd (ai xs.length) ((GJ (i:Int) xs.length).bind λj=>xs[j]?)).or _)=_);refine aa (br e) (?_:((gd (ai l.length) ((gd (Kd i l.length) (some i)).bind λj=>l[j]?)).or _)=_);refine aa (ak hl) (aa (show Kd i l.length=true from Jy ((Jm.mp h).1)) ?_);show((l[i]?).or _)=_
 exact aa h rfl
theorem xt(h:l.getLast?=some a)(hl:l.length<=1000):h_ H (.lst l) (.int (-1))=some a:=by refine af (MV.mp h) λl' Sq=>?_;subst Sq;refine(?_:((gd (ai (l'++[a]).length) ((gd (Kd 0 (l'++[a]).length) (some ((l'++[a]).length-(0+1)))).bind λj=>(l'++[a])[j]?)).or _)=_);refine aa (ak (by exact Iu (by assumption) (Iv rfl))) (aa (aa IB (aa J5 rfl):(l'++[a]).length=l'.length+1) (aa (Jy (by exact I4 _ _):Kd 0 (l'.length+1)=true) ?_));refine(?_:(((l'++[a])[l'.length+1-(0+1)]?).or _)=_);exact aa (LI (Oa rfl):l'.length+1-(0+1)=l'.length) (aa (LG (IC _)) (aa (Rf _) rfl))
theorem lT{H:Hp}{n:Nat}(h:n<=1000):dR H (.rng (n:Int))=some λZ=>some ((JV n).map λj:Nat=>.int (j:Int)):=by
 unfold dR;dsimp only;refine aa (decide_eq_true ⟨KN n,KJ.mpr (I8 h (Iv rfl))⟩) ?_
 rfl
theorem fE:(fC H.length i++H).length=i+H.length:=aa IB (aa (r8 _ _) rfl)
theorem BJ(hH:∀j∈ks H,j<2000+H.length):∀j∈ks (fC H.length i++H),j<2000+(fC H.length i++H).length:=by
 intro j q;have q:j∈(fC H.length i++H).map MG:=q;refine aa fE ?_;rw[IR]at q;refine bg q (λq=>?_) λq=>?_
 . exact(da q).2
 . exact Jc (hH j q) (IZ (I4 _ _) _)
theorem xu(hH:∀j∈ks H,j<2000+H.length):2000+(fC H.length i++H).length∉ks (fC H.length i++H):=λq=>absurd (BJ hH _ q) (Ke _)
theorem xv(hl:ps.length<=1000)(hj:j∉ks H):zF H j (.lst (ps.map fD))=some ((j,.dict (putAll ps) 0)::H):=by refine(?_:((pairsOf (ps.map fD)).bind λqs=>gd (ai (ps.map fD).length) (cW H j (.dict (putAll qs) 0)))=_);refine aa (tT _) (?_:gd (ai (ps.map fD).length) (cW H j (.dict (putAll ps) 0))=_);refine aa (Iz _) (aa (ak (Iu (by assumption) (Iv rfl))) ?_);exact nV hj
theorem Gu(gs)(i):b9 gs (i+1)=b9 gs i\/∃g q,gs[i]? =some g/\0<g.2.1/\(qx gs i g.2.1).getLast?=some q/\b9 gs (i+1)=bD (b9 gs i) q (b9 gs i q++[bE g]):=by
 cases h:gs[i]? with
 |none=>
  left
  refine(?_:(match gs[i]? with|none=>b9 gs i|some g=>_)=_);exact aa h rfl
 |some g=>
  have e:b9 gs (i+1)=match decide (0<g.2.1)with
   |true=>match(qx gs i g.2.1).getLast? with
    |some q=>bD (b9 gs i) q (b9 gs i q++[bE g])
    |none=>b9 gs i
   |false=>b9 gs i:=by
   refine(?_:(match gs[i]? with|none=>b9 gs i|some g=>_)=_);exact aa h rfl
  cases hd:decide (0<g.2.1)with
  |false=>left;exact aa e (aa hd rfl)
  |true=>
   induction hl:(qx gs i g.2.1).getLast? with
   |none=>left;exact aa e (aa hd (aa hl rfl))
   |some q=>right;exact⟨g,q,rfl,of_decide_eq_true hd,hl,aa e (aa hd (aa hl rfl))⟩
theorem xw(gs):∀(i) (x),(b9 gs i x).length<=i:=by
 intro Sl;induction Sl with
 |zero=>intro Z;exact IC _
 |succ i Sk=>
  intro x;have h:=Sk;rcases Gu gs i with e|⟨g,q,Z,Z,Z,e⟩
  . exact aa e (I3 (h x))
  . refine aa e (?_:(if q=x then b9 gs i q++[bE g]else b9 gs i x).length<=i+1);by_cases e:q=x
    . refine aa (if_pos e) (aa IB (aa J5 ?_));exact IS (h q)
    . exact aa (if_neg e) (I3 (h x))
structure WS(gs:List Gr)(H:Hp)(C:Hp)(i:Nat):Prop where
 keys:ks C=ks (fC H.length gs.length)
 at_:∀x∈gs.map bE,∃j g,gs[j]? =some g/\bE g=x/\lk (putAll (lS H.length 0 gs)) x=some (.ref (2000+(j+H.length)))/\hg C (2000+(j+H.length))=some (.list ((b9 gs i x).map .str))
theorem BL(gs:List Gr)(H:Hp):WS gs H (fC H.length gs.length) 0:=⟨rfl,λx hx=>by
 obtain⟨j,a,h1,h2⟩:=EC (by
  have e:∀(gs:List Gr) (n:Nat),(lS H.length n gs).map (·.1)=gs.map bE:=by
   intro gs;induction gs with
   |nil=>intro n;rfl
   |cons g r ih=>intro n;exact congrArg (bE g:: ·) (ih (n+1))
  rw[e];exact hx)
 refine ae (EB h1) λg g1 g2=>?_;rw[JI]at g2
 (refine ad (RY g2) λTh Sm=>?_;subst Th;subst Sm)
 exact⟨j,g,g1,rfl,h2,EA (Jm.mp g1).1⟩⟩
theorem BN(W:WS gs H C i)(hq:q∈gs.map bE)(e:b9 gs (i+1)=bD (b9 gs i) q (b9 gs i q++[y])):∃a,lk (putAll (lS H.length 0 gs)) q=some (.ref a)/\hg C a=some (.list ((b9 gs i q).map .str))/\WS gs H (hs C a (.list ((b9 gs i q).map .str++[.str y]))) (i+1):=by
 refine bJ (W.at_ q hq) λj g h1 h2 h3 h4=>⟨_,h3,h4,⟨by refine aa (eP _ _ _) ?_;exact W.keys,λx hx=>?_⟩⟩
 refine bJ (W.at_ x hx) λj' g' k1 k2 k3 k4=>⟨j',g',k1,k2,k3,?_⟩
 refine aa e ?_;by_cases h:x=q
 . clear e hq;subst h;rw[h3]at k3;obtain rfl:j=j':=by
    have:=Iw (congrArg AV.ref? (Iw k3));exact ME (L1 this)
   exact aa (jp (bu h4)) (aa (jq _ _ _) (aa IR rfl))
 . have hne:j'≠j:=λe=>by
    clear h3 h4;subst e;rw[h1]at k1;obtain rfl:=Iw k1;exact h (k2.symm.trans h2)
   refine aa (rU λq=>hne (ME (L1 q))) (aa (show bD (b9 gs i) q (b9 gs i q++[y]) x=b9 gs i x from if_neg (Kr h)) ?_);exact k4
noncomputable def WH (gs:List Gr)(H C:Hp):Hp:=(2000+(fC H.length gs.length++H).length,.dict (putAll (lS H.length 0 gs)) 0)::(C++H)
theorem qy(hH:∀j∈ks H,j<2000+H.length)(hC:ks C=ks (fC H.length gs.length))(e:hg H k=some o):hg (WH gs H C) k=some o:=by
 have h1:=hH k (bu e);refine(?_:(match IT (2000+(fC H.length gs.length++H).length) k with|true=>_|false=>hg (C++H) k)=_);refine aa (aC (by exact aa fE (JU (Jc h1 (IZ (I4 _ _) _))))) (?_:hg (C++H) k=_);exact aa (dq λq=>by haveI q:=hC▸q;exact absurd (da q).1 (Kj h1)) e
theorem r_:hg (WH gs H C) (2000+(fC H.length gs.length++H).length)=some (.dict (putAll (lS H.length 0 gs)) 0):=by
 refine(?_:(match IT (2000+(fC H.length gs.length++H).length) (2000+(fC H.length gs.length++H).length)with|true=>_|false=>hg (C++H) _)=_);exact aa (aW _) rfl
theorem lU(hC:ks C=ks (fC H.length gs.length))(e:hg C k=some o):hg (WH gs H C) k=some o:=by
 have h1:=bu e;rw[hC]at h1;have h2:=(da h1).2;refine(?_:(match IT (2000+(fC H.length gs.length++H).length) k with|true=>_|false=>hg (C++H) k)=_);exact aa (aC (by exact aa fE (Kr (KK h2)))) (bA e)
theorem ED(hC:ks C=ks (fC H.length gs.length))(e:hg C k=some o):hs (WH gs H C) k o'=WH gs H (hs C k o'):=by
 have h1:=bu e;rw[hC]at h1;have h2:=(da h1).2;refine(?_:(match IT (2000+(fC H.length gs.length++H).length) k with|true=>_|false=>_::hs (C++H) k o')=_);exact aa (aC (by exact aa fE (Kr (KK h2)))) (aa (cD (bu e)) rfl)
noncomputable def E1 (gs:List Gr)(j:Nat):Str:=bE (gs[j]?.getD default)
noncomputable def E2 (gs:List Gr)(j:Nat):Int:=(gs[j]?.getD default).2.1
theorem BO:∀{i},i<=gs.length->((JV i).filter λj=>decide (E2 gs j=d-1)).map (λj=>AV.str (E1 gs j))=(qx gs i d).map .str:=by
 intro Sl;induction Sl with
 |zero=>intro Z;exact rfl
 |succ i Sk=>
  intro h;have hi:=IM h;unfold qx;refine aa PJ (aa (Lb _ _) (aa IR (aa (Sk (KZ h)) (aa JR (aa hi (aa (Lb _ _) (aa IR (aa IR ?_))))))));refine congrArg (_++ ·) (?_:(List.filter _ [i]).map _=((List.filter _ [gs[i]]).map bE).map AV.str);refine aa JB (aa JB ?_);refine aa (by unfold E2;exact aa hi rfl:E2 gs i=gs[i].2.1) ?_;cases decide (gs[i].2.1=d-1)with
  |true=>exact congrArg (λx=>[AV.str x]) (by unfold E1;exact aa hi rfl:E1 gs i=bE gs[i])
  |false=>rfl
structure WK(gs:List Gr)(H:Hp)(D:Nat)(es:List (Str×AV))(v:Nat)(H':Hp):Prop where
 dict:hg H' D=some (.dict es v)
 keys:es.map (·.1)=a9 gs
 at_:∀x∈gs.map bE,∃a,lk es x=some (.ref a)/\hg H' a=some (.list ((b9 gs gs.length x).map .str))
 old:∀k o,hg H k=some o->hg H' k=some o
 high:∀j∈ks H',j<2000+H'.length
section
variable {call:AV->Callee}{gs:List Gr}
theorem Gv(hH:∀j∈ks H,j<2000+H.length)(W:WS gs H C gs.length):WK gs H (2000+(fC H.length gs.length++H).length) (putAll (lS H.length 0 gs)) 0 (WH gs H C):=by
 refine⟨r_,xq gs,λx hx=>bJ (W.at_ x hx) λj g g1 g2 g3 g4=>⟨_,g3,lU W.keys g4⟩,λk o e=>qy hH W.keys e,?_⟩;have el:=(Iz _).symm.trans ((congrArg Kn W.keys).trans ((Iz _).trans (r8 _ _)));have e2:(WH gs H C).length=gs.length+H.length+1:=congrArg (· +1) (IB.trans (congrArg (· +H.length) el));intro j q;refine aa e2 (av (show j∈(2000+(fC H.length gs.length++H).length)::(C++H).map MG from q) (λq=>?_) λq=>?_)
 . exact aa q (aa fE (IC _))
 . rw[IR]at q;exact bg q (λq=>I3 (da (W.keys▸(show j∈ks C from q))).2) λq=>Jc (hH j q) (IZ (Iu (I4 _ _) (IL _)) 2000)
inductive WZ(gs:List Gr)(H:Hp)(i:Nat):List AV->Hp->Prop
 |mk:WZ gs H i ((lS H.length 0 (gs.take i)).map fD) (fC H.length i++H)
inductive WV(gs:List Gr)(H:Hp)(i:Nat):St->Prop
 |mk:WS gs H C i->WV gs H i (([("groups",.ref 1),("waits",.ref (2000+(fC H.length gs.length++H).length))]:Lo),WH gs H C)
theorem EE(hx:((JV n).map λj:Nat=>AV.int (j))[i]? =some x):i<n/\x=.int (i):=by
 rcases Nat.lt_or_ge i n with q|q
 . rw[I9,Qy q]at hx;exact⟨q,(Iw hx).symm⟩
 . rw[La (aa (Iz _) (aa Kb q))]at hx;exact nn hx
theorem tU(h1:hg H 1=some (.list (gs.map jg)))(hH:∀j∈ks H,j<2000+H.length)(hl:gs.length<=100)(hab:∀i g,gs[i]? =some g->0<g.2.1->qx gs i g.2.1≠[])
 {K} {Xk:AX->Hp->Prop} (hK:∀D es v H',WK gs H D es v H'->K (.ref D) H'):aY PL call (.top 895) [.ref 1] [] H K Xk:=by
 refine Je 60 ?_;have eN:∀{n:Nat},n<=100->n<=1000000:=λh=>Iu h (by decide);have hlm:(gs.map jg).length=gs.length:=Iz _;refine ac.mk _ (eJ h1) (kf (gs.map jg) (WZ gs H) [] (aa hlm (eN hl)) rfl .mk (λi acc X q=>WZ.casesOn q (congrArg (Ma · AO.list?) ((dq λq=>absurd (da q).1 (Kj (Jc (Iv rfl) (IK _ _)))).trans h1))) (λacc X q=>?_) λi x acc X K' hx q Su=>?_)
 . rw[hlm]at q;refine WZ.casesOn q (aa Ka ?_);refine ac.four () (aa (Iz _) (aa (r9 _ _) (aa (ak (eN hl)) rfl))) _ (xv (aa (r9 _ _) (Iu hl (by decide))) (xu hH)) _ (rP (qy hH rfl h1) (aa hlm (eN hl))) _ (lT (aa hlm (Iu hl (by decide)))) (cQ ((JV (gs.map jg).length).map λj:Nat=>.int (j:Int)) (WV gs H) (.mk (BL gs H)) (λi s Z=>rfl) (λs q=>?_) λi x s K' hx q Su=>?_)
   . rw[Iz,Kb,hlm]at q;exact WV.casesOn q λ{C} W=>hK _ _ _ _ (Gv hH W)
   . rw[hlm]at hx;refine ad (EE hx) λhil ex=>aa ex ?_
     revert Su
     refine WV.casesOn q λ{C} W Su=>af (⟨_,IM hil⟩:∃g,gs[i]? =some g) λg hgi=>?_;have hat:∀{j:Nat} {g:Gr},gs[j]? =some g->h_ (WH gs H C) (.ref 1) (.int (j:Int))=some (jg g):=λ{j g} e=>BH (qy hH W.keys h1:hg (WH gs H C) 1=some (.list (gs.map jg))) (by exact aa I9 (aa e rfl)) (by exact aa hlm (eN hl));have TK:=Iu (Js hil) hl;refine ac.mk _ (lT (Iu TK (by decide))) (bS (JV i) (λj:Nat=>.int (j:Int)) (λj:Nat=>.str (E1 gs j)) (λj=>decide (E2 gs j=g.2.1-1)) ([("groups",.ref 1),("i",.int (i:Int))]) (WH gs H C) (aa Kb (eN TK)) rfl rfl rfl ?_ λj hj K2 hk=>?_)
     . refine aa (BO (Js hil)) ?_;have hal:(qx gs i g.2.1).length<=100:=Iu (I2 (Iz _)) (Iu (Kp _ _) (Iu (N_ i gs) hl));have hww:b9 gs (i+1)=match decide (0<g.2.1)with
        |true=>match(qx gs i g.2.1).getLast? with
         |some q=>bD (b9 gs i) q (b9 gs i q++[bE g])
         |none=>b9 gs i
        |false=>b9 gs i:=by
        refine(?_:(match gs[i]? with|none=>_|some g=>_)=_);exact aa hgi rfl
       have h4:gd (ai ((qx gs i g.2.1).map AV.str).length) (some ())=some ():=by exact aa (Iz _) (aa (ak (eN hal)) rfl)
       by_cases hd:0<g.2.1
       . refine uq (λhn=>absurd (MU.mp hn) (hab i g hgi hd)) λq hlast=>?_;rw[decide_eq_true hd,hlast]at hww;have hq:=ae (IU.mp (P8 hlast)) λg' h1 h2=>IU.mpr ⟨g',Li (JX.mp h1).1,h2⟩;refine cm (BN W hq hww) λa a1 a2 a3=>ac.four () h4 _ (hat hgi) _ rfl true (congrArg some (decide_eq_true hd)) (ac.mk _ (xt (aa List.getLast?_map (aa hlast rfl)) (aa (Iz _) (Iu hal (by decide)))) ?_);exact ac.mk _ (c_ r_ a1) (ac.mk _ (bN (lU W.keys a2) rfl) (ac.two _ (hat hgi) _ rfl (ac.mk _ ((bz (lU W.keys a2) (aa (Iz _) (eN (Iu (xw gs i q) TK)))).trans (congrArg some (ED W.keys a2))) (Su _ (.mk a3)))))
       . rw[decide_eq_false hd]at hww;exact ac.four () h4 _ (hat hgi) _ rfl false (congrArg some (decide_eq_false hd)) (Su _ (.mk ⟨W.keys,λx hx=>aa (hww:b9 gs (i+1)=b9 gs i) (W.at_ x hx)⟩))
     . have hji:=List.mem_range.mp hj;refine af (⟨_,IM (Kh hji hil)⟩:∃g,gs[j]? =some g) λg' hgj=>?_;rw[(by unfold E1;exact aa hgj rfl:E1 gs j=bE g'),(by unfold E2;exact aa hgj rfl:E2 gs j=g'.2.1)]at hk;refine ac.four _ (hat hgj) _ rfl _ (hat hgi) _ rfl (ac.two _ rfl (decide (g'.2.1=g.2.1-1)) rfl (cJ.mk (λq=>?_) λq=>?_))
       . rw[q]at hk;exact ac.two _ (hat hgj) _ rfl (hk _ rfl rfl)
       . rw[q]at hk;exact hk _ rfl rfl
 . revert Su
   refine WZ.casesOn q λSu=>?_;rw[I9]at hx;refine aH hx λg TC qq=>an qq (cJ.yes (ac.two () rfl () (b8 (xu hH)) (Su (some _) _ rfl ?_)));have e1:(lS H.length 0 (gs.take i)).map fD++[AV.tup [.str (bE g),.ref (2000+(fC H.length i++H).length)]]=(lS H.length 0 (gs.take (i+1))).map fD:=by
    refine aa JR (aa TC ?_);refine(?_:_=(lS H.length 0 (gs.take i++[g])).map fD);exact aa fE (aa BG (aa IR (aa (JI _) (aa JQ (aa (J8 (Js ((Jm.mp TC).1))) rfl)))))
   have e2:(2000+(fC H.length i++H).length,AO.list [])::(fC H.length i++H)=fC H.length (i+1)++H:=by exact aa fE rfl
   exact e1▸e2▸.mk
end
def E3 (H X:Hp):Prop:=(∀k o,hg H k=some o->hg X k=some o)/\∀j∈ks X,j<2000+X.length
theorem gU(h:E3 H X):2000+X.length∉ks X:=λq=>absurd (h.2 _ q) (Ke _)
theorem lV(h:E3 H X):E3 H ((2000+X.length,o)::X):=by
 refine⟨λk p e=>?_,λj q=>?_⟩
 . have e:=h.1 k p e;have:k≠2000+X.length:=λq=>gU h (q▸bu e);refine(?_:(match IT (2000+X.length) k with|true=>_|false=>hg X k)=_);exact aa (aC (Kr this)) e
 . refine aa Jh (av q (λq=>?_) λq=>?_)
   . have q:j=2000+X.length:=q;exact q▸I6 _
   . have:=h.2 j q;exact I3 (by assumption)
theorem xx:hg ((k,o)::H) k=some o:=by
 refine(?_:(match IT k k with|true=>some o|false=>hg H k)=_);exact aa (aW _) rfl
theorem ge(e:hg H k=some (.dict es v)):dR H (.ref k)=some λhp=>((hg hp k).bind AO.dict?).bind (keysOf v):=by refine(?_:(((hg H k).bind AO.list?).map λZ hp=>(hg hp k).bind AO.list?).or (((hg H k).bind AO.dict?).map λes hp=>((hg hp k).bind AO.dict?).bind (keysOf es.2))=_);exact aa e rfl
theorem tV(e:hg H k=some (.dict es v)):((hg H k).bind AO.dict?).bind (keysOf v)=some ((es.map (·.1)).map .str):=by refine aa e (?_:gd (IT v v) (some (es.map λp=>AV.str p.1))=_);exact aa (aW _) (aa Ky rfl)
theorem len_dict(e:hg H k=some (.dict es v))(h:es.length<=1000):o8 H (.ref k)=some (es.length:Int):=by
 have e1:aU H (.ref k)=none:=by refine(?_:(none:Option (List AV)).or ((hg H k).bind _)=_);exact aa e rfl
 refine(?_:(((aU H (.ref k)).bind λxs=>gd (ai xs.length) (some (xs.length:Int))).or ((cb H (.ref k)).bind λes=>gd (ai es.1.length) (some (es.1.length:Int))))=_);refine aa e1 (?_:(((hg H k).bind AO.dict?).bind λes=>gd (ai es.1.length) (some (es.1.length:Int)))=_);refine aa e (?_:gd (ai es.length) _=_);exact aa (ak (Iu (by assumption) (Iv rfl))) rfl
theorem tW(h:(ps.map (·.1)).Nodup):putAll ps=ps:=by
 have main:∀(ps l:List (Str×AV)),((l++ps).map (·.1)).Nodup->ps.foldl (λm p=>st m p.1 p.2) l=l++ps:=by
  intro ps;induction ps with
  |nil=>intro l h;exact(Jv l).symm
  |cons p r ih=>
   intro l h;have hp:p.1∉l.map (·.1):=by
    rw[IR]at h;intro q;exact(Mz.mp h).2.2 _ q _ (.head _) rfl
   refine(?_:r.foldl _ (st l p.1 p.2)=_);exact aa (ql hp) (aa (ih (l++[(p.1,p.2)]) (aa (JL _ _ _) h)) (aa (JL _ _ _) rfl))
 exact main ps [] h
theorem xy:y∈(st l x ()).map (·.1)↔y=x\/y∈l.map (·.1):=by
 induction l with
 |nil=>exact⟨λh=>(IJ.mp h).elim .inl (λh=>(IA h).elim),λh=>h.elim (λh=>aa h (.head _)) (λh=>(IA h).elim)⟩
 |cons p r ih=>
  obtain⟨z,u⟩:=p;refine(?_:y∈((match aZ z x with|true=>(z,())::r|false=>(z,u)::st r x ()):List (Str×Unit)).map (·.1)↔_);by_cases e:z=x
  . exact aa e (aa (az _) ⟨λh=>.inr h,λh=>h.elim (λh=>aa h (.head _)) id⟩)
  . refine aa (bb e) (?_:y∈z::(st r x ()).map (·.1)↔y=x\/y∈z::r.map (·.1));rw[IJ,IJ,ih]
    constructor
    . rintro(h|h|h)
      . exact .inr (.inl h)
      . exact .inl h
      . exact .inr (.inr h)
    . rintro(h|h|h)
      . exact .inr (.inl h)
      . exact .inl h
      . exact .inr (.inr h)
theorem EF(h:(l.map (·.1)).Nodup):((st l x ()).map (·.1)).Nodup:=by
 induction l with
 |nil=>exact I_.mpr ⟨λh=>((IA h).elim),J_⟩
 |cons p r ih=>
  obtain⟨z,u⟩:=p;refine ad (I_.mp h) λh1 h2=>(?_:(((match aZ z x with|true=>(z,())::r|false=>(z,u)::st r x ()):List (Str×Unit)).map (·.1)).Nodup)
  by_cases e:z=x
  . exact an e (aa (az _) h)
  . refine aa (bb e) (I_.mpr ⟨λq=>?_,ih h2⟩);rcases xy.mp q with q|q
    . exact e q
    . exact h1 q
theorem iF(gs):(a9 gs).Nodup:=by
 have main:∀(xs:List Str) (l:List (Str×Unit)),(l.map (·.1)).Nodup->((xs.foldl (λ(m:List (Str×Unit)) x=>st m x ()) l).map (·.1)).Nodup:=by
  intro xs;induction xs with
  |nil=>intro l h;exact h
  |cons x r ih=>intro l h;exact ih _ (EF h)
 exact main _ [] J_
theorem cT(gs)(x):x∈a9 gs↔x∈gs.map bE:=by
 have main:∀(xs:List Str) (l:List (Str×Unit)),x∈((xs.foldl (λ(m:List (Str×Unit)) x=>st m x ()) l).map (·.1))↔x∈xs\/x∈l.map (·.1):=by
  intro xs;induction xs with
  |nil=>intro l;exact⟨.inr,λh=>h.elim (λh=>(IA h).elim) id⟩
  |cons y r ih=>
   intro l;refine(?_:x∈((r.foldl _ (st l y ())).map (·.1))↔_);rw[ih,xy,IJ]
   constructor
   . rintro(h|h|h)
     . exact .inl (.inr h)
     . exact .inl (.inl h)
     . exact .inr h
   . rintro((h|h)|h)
     . exact .inr (.inl h)
     . exact .inl h
     . exact .inr (.inr h)
 exact(main _ []).trans ⟨λh=>h.elim id (λh=>(IA h).elim),.inl⟩
theorem ints_map{α:Type}(f:α->Int):∀(l:List α),bM (l.map λx=>AV.int (f x))=some (l.map f):=by
 intro Sl;induction Sl with
 |nil=>exact rfl
 |cons x r Sk=>refine(?_:((bM (r.map λx=>AV.int (f x))).map (f x:: ·))=_);exact aa Sk rfl
theorem BP{α:Type}(f:α->Nat)(l:List α):yZ H (.lst (AV.int 0::l.map λx=>AV.int (f x:Int)))=some (mx (l.map f):Int):=by
 refine(?_:((((bM (AV.int 0::l.map λx=>AV.int (f x:Int)))).bind mZ).or _)=_);have e:bM (AV.int 0::l.map λx=>AV.int (f x:Int))=some (0::l.map λx=>(f x:Int)):=by
  refine(?_:((bM (l.map λx=>AV.int (f x:Int))).map ((0:Int):: ·))=_);exact aa (ints_map _ _) rfl
 refine aa e (?_:((some (ft 0 (l.map λx=>(f x:Int)))).or _)=_);have:(mx (l.map f))=ft 0 (l.map λx=>(f x:Int)):=by
  refine lj ?_ ?_
  . rcases qg with q|q
    . exact aa q (.head _)
    . exact dJ q λx h1 h2=>.tail _ (IU.mpr ⟨x,h1,aa h2 rfl⟩)
  . intro v hv;refine av hv (λq=>?_) λq=>?_
    . exact aa q (KN (mx (List.map f l)))
    . refine dJ q λx h1 h2=>?_;have:=kh (l:=l.map f) (IU.mpr ⟨x,h1,rfl⟩);exact Nat.ToInt.of_le h2 rfl this
 exact aa this rfl
theorem xz(hn:ns≠[])(e:hg H k=some (.dict (ns.map λx=>(x,AV.int (f x:Int))) v)):yZ H (.vals k)=some (mx (ns.map f):Int):=by
 refine(?_:(((u7 H (.vals k)).bind λxs=>(bM xs).bind mZ))=_);refine(?_:(((((hg H k).bind AO.dict?).map λes=>es.1.map (·.2)).bind λxs=>(bM xs).bind mZ))=_);refine aa e (?_:(bM ((ns.map λx=>(x,AV.int (f x:Int))).map (·.2))).bind mZ=_);refine aa Ky (aa (rfl:(ns.map ((λp:Str×AV=>p.2)∘λx=>(x,AV.int (f x:Int))))=ns.map λx=>AV.int ((λx=>(f x:Int)) x)) (aa (ints_map _ _) ?_));induction ns with
 |nil=>exact absurd rfl hn
 |cons x r=>
  refine(?_:some (ft (f x:Int) (r.map λx=>(f x:Int)))=_);have:(mx ((x::r).map f):Int)=ft (f x:Int) (r.map λx=>(f x:Int)):=by
   refine lj ?_ ?_
   . rcases qg (l:=(x::r).map f)with q|q
     . have:=kh (l:=(x::r).map f) (a:=f x) (.head _);refine aa q ?_;rw[q]at this;exact aa (show f x=0 by exact NC this) (.head _)
     . refine ae (IU.mp q) λy h1 h2=>an h2 (av h1 (λh1=>?_) λh1=>?_)
       . exact aa h1 (.head _)
       . exact .tail _ (IU.mpr ⟨y,h1,rfl⟩)
   . intro v hv;have main:∀y∈x::r,(f y:Int)<=mx ((x::r).map f):=λy hy=>by
      have:=kh (l:=(x::r).map f) (IU.mpr ⟨y,hy,rfl⟩);exact JY.mpr this
     refine av hv (λq=>?_) λq=>?_
     . exact aa q (main x (.head _))
     . refine dJ q λy h1 qq=>?_;exact an qq (main y (.tail _ h1))
  exact aa this rfl
noncomputable def xA (ns:List Str)(f:Str->Nat):List (Str×AV):=ns.map λx=>(x,AV.int (f x:Int))
theorem nY(ns)(f):(xA ns f).map (·.1)=ns:=by unfold xA;exact aa Ky ((Ls λx Z=>rfl).trans (RX ns))
theorem xB(h:x∈ns):lk (xA ns f) x=some (.int (f x)):=by
 induction ns with
 |nil=>cases h
 |cons y r ih=>
  refine(?_:(match aZ y x with|true=>some (AV.int (f y:Int))|false=>lk (xA r f) x)=_);by_cases e:y=x
  . clear h;refine aa e ?_;exact aa (az _) rfl
  . refine aa (bb e) (ih (av h (λh=>?_) λh=>?_))
    . exact absurd h.symm e
    . exact h
theorem BQ(nd:ns.Nodup):putAll (xA ns f)=xA ns f:=tW (aa (nY _ _) nd)
theorem qz(h:l.length<=60):iy H (.lst (l.map .str))=some (.lst ((bx l).map .str)):=by refine(?_:gd (Kd (l.map AV.str).length 64) ((cr (l.map AV.str)).map λss=>AV.lst ((bx ss).map .str))=_);exact aa (fA _) (aa (Iz _) (aa (show Kd l.length 64=true from Jy (I8 (by assumption) (Iv rfl))) rfl))
theorem kB:∀(xs:List Str),cI (db hp n) (xs.map AV.str)=some (xs.map JW):=by
 intro Sl;induction Sl with
 |nil=>exact rfl
 |cons x r Sk=>refine(?_:((db hp n (.str x)).bind λd=>(cI (db hp n) (r.map AV.str)).map (d:: ·))=_);refine aa Sk ?_;induction n<;>rfl
theorem hZ:∀{xs:List Str},(∀x∈xs,KA x=true)->JZ (xs.map JW)=true:=by
 intro Sl;induction Sl with
 |nil=>intro Z;exact rfl
 |cons x r Sk=>intro h;refine(?_:(KA x&&JZ (r.map JW))=true);exact aa (h x (.head _)) (aa (Sk λy hy=>h y (.tail _ hy)) rfl)
theorem jr:∀(xs:List Str),J9 (xs.map JW)=0:=by
 intro Sl;induction Sl with
 |nil=>exact rfl
 |cons x r Sk=>refine(?_:max 0 (J9 (r.map JW))=0);exact aa Sk rfl
theorem EG{nt:Jn->Bool}{hp:Hp}{xs:List Str}(h:∀x∈xs,KA x=true):oy nt hp .NotEq (.lst (xs.map .str)) (.lst [])=some (!xs.isEmpty):=by
 refine(?_:((((db hp 8 (.lst (xs.map .str))).bind λd=>(db hp 8 (.lst [])).bind λe=>gd (J7 d&&J7 e) (some (NZ d e)))).map not)=_);have e1:db hp 8 (.lst (xs.map .str))=some (.list (xs.map JW)):=by
  refine(?_:(cI (db hp 7) _).map Ko=_);exact aa (kB _) rfl
 have e2:J7 (.list (xs.map JW))=true:=by refine(?_:(JZ (xs.map JW)&&decide (J9 (xs.map JW)+1<=64))=true);exact aa (hZ h) (aa (jr _) rfl)
 refine aa e1 (?_:(gd (J7 (.list (xs.map JW))&&J7 (.list [])) (some (NZ (.list (xs.map JW)) (.list [])))).map not=_);refine aa e2 ?_;induction xs<;>rfl
theorem qA(k):KA (fF k)=true:=cq k (by decide +kernel) (by decide +kernel) (by decide +kernel) (by decide +kernel) λZ=>(by decide +kernel:KA (fF 4)=true)
theorem tX{P}{call}{H}{k v}{es}{y}{b}(e:hg H k=some (.dict es v))(h:lk i_ y=some b):dC (rr P call) H (.ref k) y=some (.bi b,[.ref k]):=by
 have e1:fnOf (rr P call) H (.ref k) y=none:=by refine(?_:(((hg H k).bind AO.inst?).bind _).bind _=none);exact aa e rfl
 unfold dC;refine aa e1 (?_:(lk (eR H k) y).map _=_);unfold eR;refine aa e (?_:(lk i_ y).map _=_);exact aa h rfl
theorem xC(e:hg H k=some (.dict es v)):y8 H (.ref k)=some (.vals k):=by refine(?_:Option.map (λx=>AV.vals k) ((hg H k).bind AO.dict?)=_);exact aa e rfl
section
variable {call:AV->Callee}
noncomputable def wG (gs:List Gr):Str->List Str:=b9 gs gs.length
noncomputable def CD (gs:List Gr)(k:Nat):List Str:=bx ((a9 gs).filter λx=>decide ((aA (wG gs) (a9 gs).length x:Int)=(k:Int)))
noncomputable def EH (gs:List Gr)(cut:Nat):Int:=((0::gs.map λg=>g.2.1+1)[cut]?).getD 0
theorem Gw{gs:List Gr}{cut:Nat}(h:cut<=gs.length):([AV.int 0]++gs.map λg=>AV.int (g.2.1+1))[cut]? =some (.int (EH gs cut)):=by
 have e:([AV.int 0]++gs.map λg=>AV.int (g.2.1+1))=(0::gs.map λg=>g.2.1+1).map AV.int:=by refine(?_:AV.int 0::gs.map (λg=>AV.int (g.2.1+1))=AV.int 0::(gs.map λg=>g.2.1+1).map AV.int);exact aa Ky rfl
 refine aa e (aa I9 ?_);unfold EH;have:cut<(0::gs.map λg=>g.2.1+1).length:=aa Jh (aa (Iz _) (IS (by assumption)));exact aa (IM this) rfl
noncomputable def nZ (gs:List Gr)(cut:Nat)(start:Int):AV:=.lst [.lst (gs.map λg=>.tup [.str (bE g),.int (g.2.1+1)]),.int 0,.lst [.int (EH gs cut),.int (-(EH gs cut)),.int start],.bool (decide ((mx ((a9 gs).map (aA (wG gs) (a9 gs).length)):Int)<((a9 gs).length:Int))),.lst ((((JV (a9 gs).length).map (CD gs)).filter λl=>!l.isEmpty).map hY)]
theorem xD(nd:ns.Nodup)(hl:ns.length<=1000)(hj:j∉ks H):zF H j (.lst (ns.map λx=>fD (x,.int (f x))))=some ((j,.dict (xA ns f) 0)::H):=aa (by unfold xA;exact aa Ky rfl:ns.map (λx=>fD (x,.int (f x:Int)))=(xA ns f).map fD) (aa (xv (by exact an (Iz (f:=λp:Str×AV=>p.1)) (aa (nY _ _) hl)) hj) (aa (BQ nd) rfl))
noncomputable def HS:FD:=match bX "_law_due" with|some F=>F|.none=>⟨⟨[],[],.none,[],[],.none,[]⟩,[],⟨.function,[],false,false,[]⟩⟩
noncomputable def Gx (cut start:Int)(D:Nat)(r:Lo):Lo:=("groups",.ref 1)::("cut",.int cut)::("start",.int start)::("waits",.ref D)::r
inductive DU(gs:List Gr)(H':Hp)(cut start:Int)(D t:Nat):St->Prop
 |mk:E3 H' X->hg X E=some (.dict (xA (a9 gs) (aA (wG gs) t)) 0)->DU gs H' cut start D t (Gx cut start D [("steps",.ref E)],X)
theorem BR(h1:hg H 1=some (.list (gs.map jg)))(hl:gs.length<=50)(hne:gs≠[])(hcl:∀x∈a9 gs,∀y∈wG gs x,y∈a9 gs)
 (hW:∀{K} {Xk},(∀D es v H',WK gs H D es v H'->K (.ref D) H')->call (.top 895) [.ref 1] [] H K Xk) {cut} (hcut:cut<=gs.length) {start}
 {K} {Xk} (hK:∀X,(∀k o,hg H k=some o->hg X k=some o)->K (nZ gs cut start) X):aY PL call (.top 907) [.ref 1,.int (cut:Int),.int start] [] H K Xk:=by
 refine Je 60 (hW λD es v H' W=>?_);have hnd:=iF gs;have hX:E3 H' H':=⟨λk o e=>e,W.high⟩
 have ekeys:∀{X:Hp},E3 H' X->((hg X D).bind AO.dict?).bind (keysOf v)=some ((a9 gs).map .str):=λh=>by exact aa (tV (h.1 _ _ W.dict)) (aa W.keys rfl)
 have hnl:(a9 gs).length<=50:=Iu (dy hnd λx hx=>(cT gs x).mp hx) (Iu (I2 (Iz _)) hl);have eN:∀{n:Nat},n<=50->n<=1000000:=λh=>Iu h (by decide);have hln:∀{α:Type} (l:List α) (f:α->AV),l.length<=50->gd (ai (l.map f).length) (some ())=some ():=λl f h=>congrArg (gd · (some ())) (ak (by exact aa (Iz _) (eN h)));refine(?_:sO (TT PL call) (bL (TT PL call) 59) ⟨HS.sc,true,true⟩ (λx s=>Xk x s.2) (HS.body.drop 1) (Gx cut start D [],H') λfl s=>K fl.val s.2);refine jc (Gx cut start D [("steps",.ref (2000+H'.length))],(2000+H'.length,.dict (xA (a9 gs) (aA (wG gs) 0)) 0)::H') (λK' k=>?_) ?_
 . refine ac.mk _ (ge W.dict) (bU (a9 gs) .str (λx=>fD (x,.int 0)) [] H' (eN hnl) rfl rfl (ekeys hX) ?_ λx Z K2 hk=>?_)
   . exact ac.two () (hln _ _ hnl) _ (xD (f:=aA (wG gs) 0) hnd (Iu hnl (by decide)) (gU hX)) k
   . exact cJ.yes (hk _ rfl rfl)
 refine Ag (DU gs H' cut start D (a9 gs).length) (λK' T1=>?_) λs q=>?_
 . refine ac.mk _ (ge (lV hX |>.1 _ _ W.dict)) (cQ ((a9 gs).map .str) (DU gs H' cut start D) (.mk (lV hX) xx) (λt s q=>DU.casesOn q λ{X E} hE he=>ekeys hE) (λs q=>?_) λt x s K' hx q Su=>?_)
   . rw[Iz]at q;exact T1 s q
   . revert Su
     refine DU.casesOn q λ{X E} hE he Su=>ac.mk _ (ge (hE.1 _ _ W.dict)) (bU (a9 gs) .str (λx=>fD (x,.int (aA (wG gs) (t+1) x:Int))) ([("waits",.ref D),("steps",.ref E)]:Lo) X (eN hnl) rfl rfl (ekeys hE) ?_ λz hzn K2 hk=>?_)
     . exact ac.two () (hln _ _ hnl) _ (xD hnd (Iu hnl (by decide)) (gU hE)) (Su _ (.mk (lV hE) xx))
     . refine ae (W.at_ z ((cT gs z).mp hzn)) λa' a1 a2=>?_;have a2':hg X a'=some (.list ((wG gs z).map .str)):=hE.1 _ _ a2;have hwl:(wG gs z).length<=50:=Iu (xw gs gs.length z) hl;refine cJ.yes (ac.three () rfl _ (c_ (hE.1 _ _ W.dict) a1) _ (eJ a2') (bU (wG gs z) .str (λc=>AV.int ((aA (wG gs) t c+1:Nat):Int)) ([("steps",.ref E)]:Lo) X (eN hwl) rfl rfl (congrArg (Ma · AO.list?) a2') ?_ λc hc K3 hk=>?_))
       . exact ac.three () (hln _ _ hwl) _ (f_ (by exact aa (Iz _) (Jr (IC 1) (Iu hwl (show 50<=999999 by decide))))) _ (BP (λc=>aA (wG gs) t c+1) (wG gs z)) (hk _ rfl rfl)
       . exact cJ.yes (ac.two _ (c_ he (xB (hcl z hzn c hc:c∈a9 gs))) _ rfl (hk _ rfl rfl))
 with_reducible refine DU.casesOn q λ{X E} hE he=>?_
 have el:es.length=(a9 gs).length:=by exact an W.keys (aa (Iz _) rfl)
 have hD:=hE.1 _ _ W.dict;have Ul:es.length<=1000:=by exact aa el (Iu hnl (by decide))
 have hlen:=(len_dict hD Ul).trans (congrArg (λn:Nat=>some (n:Int)) el);have hgi:=hE.1 _ _ (W.old _ _ h1);have hgc:=congrArg (Ma · AO.list?) hgi;refine jc (Gx cut start D [("steps",.ref E),("rounds",.lst ((JV (a9 gs).length).map λj=>hY (CD gs j)))],X) (λK' k=>?_) ?_
 . refine ac.two _ hlen _ (lT (Iu hnl (by decide))) (bU (JV (a9 gs).length) (λj:Nat=>.int (j:Int)) (λj=>hY (CD gs j)) ([("waits",.ref D),("steps",.ref E)]) X (aa Kb (eN hnl)) rfl rfl rfl ?_ λi hi K2 hk=>?_)
   . exact ac.mk () (hln _ _ (aa Kb hnl)) k
   . refine cJ.yes (ac.mk _ (ge hD) (bS (a9 gs) .str .str (λx=>decide ((aA (wG gs) (a9 gs).length x)=(i:Int))) ([("steps",.ref E),("k",.int (i:Int))]) X (eN hnl) rfl rfl (ekeys hE) ?_ λc hcn K3 hk=>?_))
     . have hfl:=Iu (Kp (λx=>decide ((aA (wG gs) (a9 gs).length x)=(i:Int))) (a9 gs)) hnl;exact ac.two () (hln _ _ hfl) _ (qz (Iu hfl (by decide))) (hk _ rfl rfl)
     . refine ac.two _ (c_ he (xB hcn)) (decide ((aA (wG gs) (a9 gs).length c)=(i:Int))) rfl (cJ.mk (λq=>?_) λq=>?_)
       all_goals
        rw[q]at hk;exact hk _ rfl rfl
 refine jc (Gx cut start D [("steps",.ref E),("rounds",.lst ((JV (a9 gs).length).map λj=>hY (CD gs j))),("open_ones",.int (EH gs cut))],X) (λK' k=>?_) ?_
 . refine ac.two () rfl _ (eJ hgi) (bU gs jg (λg=>AV.int (g.2.1+1)) [] X (eN hl) rfl rfl hgc ?_ λg Z K2 hk=>?_)
   . exact ac.three () (hln _ _ hl) _ (f_ (aa (Iz _) (Jr (IC 1) (Iu hl (show 50<=999999 by decide))))) _ (jf (Gw hcut) (aa IB (aa (Iz _) (Jr (IC 1) (Iu hl (show 50<=999999 by decide)))))) k
   . exact cJ.yes (ac.mk _ rfl (hk _ rfl rfl))
 refine ac.mk _ (eJ hgi) (bU gs jg (λg=>AV.tup [.str (bE g),.int (g.2.1+1)]) [] X (eN hl) rfl rfl hgc ?_ λg Z K2 hk=>?_)
 rotate_left
 . exact cJ.yes (ac.mk _ rfl (hk _ rfl rfl))
 refine ac.three () (hln _ _ hl) () rfl _ (tX he rfl) ?_
 conv=>whnf
 refine bp (b:=false) (xC he) (ac.four _ (xz (λq=>hne (L6.mpr λg hg=>absurd ((cT gs (bE g)).mpr (List.mem_map_of_mem hg)) (by exact aa q IA))) he) _ hlen _ rfl _ rfl (bS ((JV (a9 gs).length).map (CD gs)) hY hY (λl=>!l.isEmpty) [] X (by exact aa (Iz _) (aa Kb (eN hnl))) rfl rfl (by exact aa Ky rfl) ?_ λl hl' K2 hk=>?_))
 . exact ac.two () (hln _ _ (Iu (Kp (λl:List Str=>!l.isEmpty) _) (aa (Iz _) (aa Kb hnl)))) () rfl (hK X λk o e=>hE.1 k o (W.old k o e))
 . have hll:∀z∈l,KA z=true:=by intro z hz;refine ae (IU.mp hl') λk Z Sn=>?_;rw[<-Sn]at hz;exact ae (IU.mp ((cT gs z).mp (JX.mp ((cA _).mem_iff.mp hz)).1)) λg Z Sn=>Sn▸qA _
   refine ac.two () rfl _ (EG hll) (cJ.mk (λq=>?_) λq=>?_)
   all_goals
    rw[q]at hk;exact hk _ rfl rfl
end
theorem CE:Lg ""=S []:=by decide +kernel
theorem EI:∀(ls:List (List Nat)),Rj "" (ls.map S)=S ls.flatten:=by
 have main:∀(ls:List (List Nat)),Str.join "" (ls.map S)=S ls.flatten:=by
  intro ls;induction ls with
  |nil=>exact CE
  |cons a r ih=>
   induction r with
   |nil=>refine(?_:S a=_);simp
   |cons b t=>refine(?_:S a++""++Str.join "" ((b::t).map S)=_);rw[ih,(CE:("")=S []),rA,rA,Jv,<-KX]
 intro ls;refine(?_:Jl.Str.glued "" (ls.map S)=_);exact aa (StrLaws.glued_eq_join _ _) (aa (main _) rfl)
theorem xE:∀(ls:List (List Nat)),(((ls.map S).map (·.length)).sum)=ls.flatten.length:=by
 intro Sl;induction Sl with
 |nil=>exact rfl
 |cons a r Sk=>have:=Sk;rw[JA,JA,M1,this,eU,KX,IB]
theorem js{H:Hp}{b:AV}{ls:List (List Nat)}(e:aU H b=some (ls.map λl=>AV.str (S l)))(h:ls.flatten.length<=1000000):vd H (.str "") b=some (.str (S ls.flatten)):=by refine(?_:((aU H b).bind λxs=>(cr xs).bind λys=>gd (aZ "" ""&&ai (ys.map (·.length)).sum) (some (AV.str (Rj "" ys))))=_);refine aa e (?_:((cr (ls.map λl=>AV.str (S l))).bind λys=>gd (aZ "" ""&&ai (ys.map (·.length)).sum) (some (AV.str (Rj "" ys))))=_);refine aa (aa Ky rfl:(ls.map λl=>AV.str (S l))=(ls.map S).map AV.str) (aa (fA _) ?_);refine(?_:gd (aZ "" ""&&ai ((ls.map S).map (·.length)).sum) (some (AV.str (Rj "" (ls.map S))))=_);exact aa (xE _) (aa (ak h) (aa (EI _) (aa (az _) rfl)))
theorem EJ{H:Hp}{k:Nat}{l:List AV}{n:Nat}(e:hg H k=some (.list l))(h:l.length<=1000000):oG H (.ref k) none (some (n:Int))=some (.lst (l.take n)):=by
 refine(?_:(((aU H (.ref k)).bind λxs=>gd (ai xs.length) (some (AV.lst (cut xs none (some (n:Int)))))).or _)=_);refine aa (br e) (?_:((gd (ai l.length) (some (AV.lst (cut l none (some (n:Int)))))).or _)=_);refine aa (ak h) (?_:some (AV.lst _)=_);unfold cut;refine aa (show Og none l.length=0 from rfl) (aa (show N1 (some (n:Int)) l.length=min n l.length from by unfold N1;show(if(n:Int)<0 then _ else min n l.length)=_;exact aa (if_neg (Mx n)) rfl) ?_)
 congr 2
 refine aa P3 (aa (Nat.sub_zero _) ?_);rcases PC n l.length with q|q
 . exact aa (J8 q) rfl
 . exact aa (RL q) (aa (Ju q) (aa (Ju (IC _)) rfl))
theorem Gy(k)(n):(∀c∈hU k n,c<128)/\(hU k n).length<=9:=by
 unfold hU;induction lF k n with
 |true=>exact⟨show ∀c∈[70],c<128 by decide,show[70].length<=9 by decide⟩
 |false=>
  match k with
  |0=>exact⟨by decide,by decide⟩
  |1=>exact⟨by decide,by decide⟩
  |2=>exact⟨by decide,by decide⟩
  |3=>exact⟨by decide,by decide⟩
  |k+4=>exact⟨show ∀c∈[34,69,32,41,92,92,92,34,34],c<128 by decide,show[34,69,32,41,92,92,92,34,34].length<=9 by decide⟩
theorem gV(hk:k<128)(h:c∈II n k):c<128:=(List.eq_of_mem_replicate h)▸hk
theorem Gz(b)(g):(∀c∈pV b g,c<128)/\(pV b g).length<=(b+1-g.2.1).toNat+16:=by
 refine ad (Gy g.1 g.2.2) λl1 l2=>?_;have h1:=kg g.2.2 7;have h2:=kg g.2.2 11;have h3:=kg g.2.2 13;refine⟨λc hc=>?_,?_⟩
 . unfold pV at hc;exact bg hc (λhc=>bg hc (λhc=>bg hc (λhc=>bg hc (λhc=>bg hc (gV (Iv rfl)) (gV (Iv rfl))) (gV (n:=1) (Iv rfl))) (gV (Iv rfl))) (l1 c)) (gV (Iv rfl))
 . unfold pV
   with_reducible refine aa IB (aa IB (aa IB (aa IB (aa IB (aa Jd (aa Jd (aa Jd (aa Jd ?_))))))))
   refine(?_:_<=(b+1-g.2.1).toNat+2+1+2+9+2);exact Jr (Jr (Jr (Jr (IZ h1 _) (IC 1)) h2) l2) h3
theorem BS:∀(gs) (b),l_ b gs->-1<=b->(∀l∈dG b gs,∀c∈l,c<128)/\(dG b gs).flatten.length<=(b+1).toNat+18*gs.length:=by
 intro Sl;induction Sl with
 |nil=>
  intro b Z h;refine⟨λl hl c hc=>?_,?_⟩
  . rcases IJ.mp hl with q|q
    . rw[q]at hc;exact gV (Iv rfl) hc
    . cases q
  . refine(?_:(II (b+1).toNat 41++[]).length<=_);refine aa (Jv _) (aa Jd ?_);exact IK _ _
 |cons g r Sk=>
  intro b y93 h;refine cL y93 λg1 g2 g3 g4=>ad (Gz b g) λa1 a2=>ad (Sk g.2.1 g4 (Me g2)) λi1 i2=>⟨λl hl=>?_,?_⟩
  . rcases IJ.mp hl with q|q
    . exact aa q a1
    . exact i1 l q
  . refine(?_:(pV b g++(dG g.2.1 r).flatten).length<=_+18*(r.length+1))
    with_reducible refine aa IB (Iu (Jr a2 i2) (aa (Nat.add_add_add_comm _ _ _ _) (an (QG (KQ g3) (MD g2)) (an (Mm _ _ _) (aa (LF _ _) (aa (QG (JK g2 g3) (by decide)) (aa (J2 _ _ _) (an (J2 _ 16 _) (aa (Lw _ (18*r.length)) ?_)))))))))
    exact IZ (IZ (Iv rfl) _) _
theorem lW:∀(gs) (b),(dG b gs).length=gs.length+1:=by
 intro Sl;induction Sl with
 |nil=>intro Z;exact rfl
 |cons g r Sk=>intro b;exact congrArg (· +1) (Sk g.2.1)
theorem BT:∀{gs} {b},l_ b gs->∀g∈gs,0<=g.2.1:=by
 intro Sl;induction Sl with
 |nil=>intro Z Z g h;cases h
 |cons x r Sk=>
  intro Z y93 g h;refine cL y93 λZ g2 Z g4=>av h (λh=>?_) λh=>?_
  . exact aa h g2
  . exact Sk g4 g h
def n0 (call:AV->Callee):Prop:=∀{gs:List Gr},gs.length<=100->l_ (-1) gs->∀{K:AV->Hp->Prop} {Xk:AX->Hp->Prop},K (.ref 2) [(2,.list ((dG (-1) gs).map λl=>.str (S l))),(1,.list (gs.map jg))]->call (.top 878) [.ref 1] [] [(1,.list (gs.map jg))] K Xk
def tY (call:AV->Callee):Prop:=∀{l:List Nat},l.length<=1000000->(∀x∈l,x<128)->∀{o1 o2:AO} {K:AV->Hp->Prop} {Xk:AX->Hp->Prop} {n:Nat},n<=999999->∀{ts:List (List Nat)},eX (n+1) false l=some ts->
 (∀{p' sta' Sv n1' n2'},K (.tup [.ref 3,.int (cK ts [] 0).2]) (al l p' sta' [] Sv n1' n2' o1 o2 (.list ((cK ts [] 0).1.map cC))))->call (.top 883) [.str (S l)] [] [(2,o2),(1,o1)] K Xk
def n6 (call:AV->Callee):Prop:=∀{tail:Hp} {rows:List yh},(∀j∈ks tail,j<20)->tail.length<=40->hg tail 3=some (.list (rows.map lR))->(∀r∈rows,1<=r.2)->rows.length<=100->∀{out:List (List Str)},out.length<=1000->
 (∀i,E0 (io rows i).1)->(∀x∈(gE rows).ns,∀y∈(gE rows).su x,y∈(gE rows).ns)->
 ∀{n:Nat},cG (gE rows).su (gE rows).ns n (gE rows).np (bn (gE rows).np (gE rows).ns) out->∀{K:AV->Hp->Prop} {Xk:AX->Hp->Prop},
 (∀b H,(b=true↔¬im (gE rows).su (gE rows).ns)->hg H 55=some (.list (out.map λl=>.lst (l.map .str)))->(∀k,k<20->hg H k=hg tail k)->(∀j∈ks H,j<2000+H.length)->K (.tup [.bool b,.ref 55]) H)->call (.top 890) [.ref 3] [] tail K Xk
def BU (call:AV->Callee):Prop:=∀{s:List Nat} {v:Int},lM s=some v->(∀c∈s,c<128)->s.length<=1000000->∀{d:Int} {hp:Hp} {K:AV->Hp->Prop} {Xk:AX->Hp->Prop},K (.int (d+v)) hp->call (.top 57) [.bytes (bytesOf (S s)),.int d] [] hp K Xk
def xF (call:AV->Callee):Prop:=∀{s:List Nat} {v:Int},lM s=some v->(∀c∈s,c<128)->s.length<=1000000->∀{hp:Hp} {K:AV->Hp->Prop} {Xk:AX->Hp->Prop},K (.int v) hp->call (.top 57) [.bytes (bytesOf (S s))] [] hp K Xk
structure GA(call:AV->Callee):Prop where
 pieces:n0 call
 read:tY call
 sorted:n6 call
 pd:BU call
 pd0:xF call
noncomputable def aw (gs:List Gr):List yh:=gs.map λg=>(bE g,g.2.1+1)
theorem BV{call}{s}{v}(h:lM s=some v)(ha:∀c∈s,c<128)(hl:s.length<=1000000){hp}{K}{Xk}
 (hK:K (.int v) hp):aY PL call (.top 57) [.bytes (bytesOf (S s))] [] hp K Xk:=by
 refine c0 h λo h' qq=>?_;subst qq;have h:=h';refine Je 20 ?_
 conv=>whnf
 have ho:=λc hc=>ha c (rB h c hc);have lo:=Iu (rD h) hl;refine⟨_,CB h ha hl,?_⟩;refine ac.mk _ (rC rfl ho lo) (ac.mk _ (rC rfl ho lo) ?_)
 conv=>whnf
 have hK:=hK;rw[<-Int.zero_add (o.count 40:Nat)]at hK;exact hK
section
variable {call:AV->Callee}
theorem xG(hC:GA call)(hl:gs.length<=50)(hne:gs≠[])(hok:l_ (-1) gs){cut}(hcut:cut<=gs.length){start}
 (hol:out.length<=1000)
 (hG:∀i,E0 (io (aw gs) i).1) (hsu:∀x∈(gE (aw gs)).ns,∀y∈(gE (aw gs)).su x,y∈(gE (aw gs)).ns)
 (hR:cG (gE (aw gs)).su (gE (aw gs)).ns n (gE (aw gs)).np (bn (gE (aw gs)).np (gE (aw gs)).ns) out)
 {K} {Xk}
 (hK:∀b H,(b=true↔¬im (gE (aw gs)).su (gE (aw gs)).ns)->hg H 1=some (.list (gs.map jg))->hg H 3=some (.list ((aw gs).map lR))->hg H 55=some (.list (out.map hY))->(∀j∈ks H,j<2000+H.length)->
  K (.lst [.ref 3,.int 0,.lst [.int (bF (-1) gs cut),.int (-bF (-1) gs cut),.int start],.bool b,.ref 55]) H):aY PL call (.top 902) [.ref 1,.int (cut:Int),.int start] [] [(1,.list (gs.map jg))] K Xk:=by
 with_reducible refine ad (BS gs (-1) hok (by exact L_ (-1))) λt1 t2=>?_
 have tl:(dG (-1) gs).flatten.length<=1000:=Iu t2 (Iu (I2 (JI _)) (Iu (JF 18 hl) (Iv rfl)));have t3:∀x∈(dG (-1) gs).flatten,x<128:=λx hx=>by
  exact ae (Pn.mp hx) λl l1 l2=>t1 l l1 x l2
 refine aP (AU gs (-1) [] hok (by exact L_ (-1)) (λh=>absurd h hne)) λN ts hN hts hrow=>Je 60 (hC.pieces (by exact Iu (by assumption) (Iv rfl)) hok ?_);obtain⟨N,rfl⟩:∃N',N=N'+1:=by
  induction N with
  |zero=>cases hts
  |succ N=>exact⟨N,rfl⟩
 have hrow:cK ts [] 0=(gs.map λg=>(n_ g.1,g.2.1+1),0):=hrow;have hrw:(gs.map λg=>(n_ g.1,g.2.1+1)).map cC=(aw gs).map lR:=by
  unfold aw
  (refine aa Ky ?_;refine aa Ky ?_)
  refine Ls λg Z=>(?_:AV.tup [.str (S (n_ g.1)),_]=AV.tup [.str (fF g.1),_])
  exact aa D6 rfl
 refine ac.mk _ rfl ?_;refine ac.mk _ (js (br rfl) (by exact Iu (by assumption) (Iv rfl))) ?_;refine hC.read (by exact Iu (by assumption) (Iv rfl)) t3 (n:=N) (Iu (Mg hN) (Iu (JF 3 hl) (Iv rfl))) hts ?_;intro p' sta' Sv n1' n2'
 with_reducible refine aa hrow (aa hrw ?_)
 refine hC.sorted (rows:=aw gs) ?_ ?_ rfl ?_ ?_ hol hG hsu hR ?_
 . intro j hj;exact(by decide:∀j∈([3,17,16,15,14,12,13,10,11,2,1]:List Nat),j<20) j hj
 . refine(?_:11<=40)
   decide
 . intro r hr;refine dJ hr λg hg qq=>?_;clear hr;subst qq;have:=BT hok g hg;refine(?_:1<=g.2.1+1);exact Int.le_add_of_nonneg_left this
 . unfold aw;exact aa (Iz _) (Iu (by assumption) (Iv rfl))
 intro b H hb SX hlow hhigh;have H2:hg H 2=some (.list ((dG (-1) gs).map λl=>.str (S l))):=hlow 2 (by decide);have k1:∀c,(∀x∈((dG (-1) gs).take c).flatten,x<128)/\((dG (-1) gs).take c).flatten.length<=1000000:=λc=>by
  refine⟨λx hx=>?_,?_⟩
  . exact ae (Pn.mp hx) λl l1 l2=>t1 l (Li l1) x l2
  . have:(dG (-1) gs).flatten=((dG (-1) gs).take c).flatten++((dG (-1) gs).drop c).flatten:=by exact an Oi (aa (NQ _ _) rfl)
    rw[this,IB]at tl;exact Iu (Iu (IK _ _) tl) (Iv rfl)
 have k2:∀c,(∀x∈((dG (-1) gs).drop c).flatten,x<128)/\((dG (-1) gs).drop c).flatten.length<=1000000:=λc=>by
  refine⟨λx hx=>?_,?_⟩
  . exact ae (Pn.mp hx) λl l1 l2=>t1 l (List.mem_of_mem_drop l1) x l2
  . have:(dG (-1) gs).flatten=((dG (-1) gs).take c).flatten++((dG (-1) gs).drop c).flatten:=by exact an Oi (aa (NQ _ _) rfl)
    rw[this,IB]at tl;exact Iu (Iu (I4 _ _) tl) (Iv rfl)
 refine ad (wA gs (-1) cut hok (by exact L_ (-1)) hcut) λc1 c2=>?_;have c3:lM (dG (-1) gs).flatten=some 0:=(wA gs (-1) 0 hok (by exact L_ (-1)) (JG _)).2;have e1:(((dG (-1) gs).map λl=>AV.str (S l)).take cut)=((dG (-1) gs).take cut).map λl=>AV.str (S l):=by exact aa QI rfl
 have e2:(((dG (-1) gs).map λl=>AV.str (S l)).drop cut)=((dG (-1) gs).drop cut).map λl=>AV.str (S l):=by exact aa List.map_drop rfl
 refine ac.mk _ rfl (ac.mk _ (EJ H2 (aa (Iz _) (aa (lW _ _) (I8 (by assumption) (Iv rfl))))) (aa e1 (ac.mk _ (js rfl (k1 _).2) (ac.mk _ rfl (ac.mk _ (rF (k1 _).1 (k1 _).2) (hC.pd0 (by refine aa c1 ?_;exact congrArg some (Nx _):lM ((dG (-1) gs).take cut).flatten=some (bF (-1) gs cut)) (k1 _).1 (k1 _).2 ?_))))));exact ac.mk _ rfl (ac.mk _ (rQ H2 (aa (Iz _) (aa (lW _ _) (I8 (by assumption) (Iv rfl)))) (aa (Iz _) (aa (lW _ _) (I3 (by assumption))))) (aa e2 (ac.mk _ (js rfl (k2 _).2) (ac.mk _ rfl (ac.mk _ (rF (k2 _).1 (k2 _).2) (hC.pd0 c2 (k2 _).1 (k2 _).2 (ac.mk _ rfl (ac.mk _ (rF t3 (Iu (by assumption) (Iv rfl))) (hC.pd c3 t3 (Iu (by assumption) (Iv rfl)) (aa (Lf _) (ac.two () rfl () rfl (hK b H hb (hlow 1 (by decide)) (hlow 3 (by decide)) SX hhigh))))))))))))
end
theorem sa(i):fZ (aQ PL (i+1)):=λhK=>tz i _ _ _ _ _ _ _ _ _ _ _ _ hK
theorem xH(i):fw (aQ PL (i+2)):=λhl hK=>wa i _ hl _ _ _ _ _ _ _ _ _ _ _ hK
theorem GB(i):D0 (aQ PL (i+3)):=by
 intro l hl o1 o2 o3 K Xk p sta pb n1 n2 h;refine ah ?_;rcases h with⟨inp,res,rfl,h1,h2,h3,h4⟩|⟨rfl,rfl,h1,h2⟩
 . exact DZ (sa (i+1)) (xH i) hl h1 h2 h3 h4
 . exact nQ (sa (i+1)) (xH i) hl h1 h2
theorem Hn(i):AN (aQ PL (i+5))where
 make:=λ{l o1 o2 K Xk} hK=>tw i l o1 o2 K Xk hK
 gt:=λhl Z Z Z Z Z Z Z h Z Z Z Z hi hz hK=>ah (D1 (GB (i+1)) hl h hi hz hK)
 gn:=λhl Z Z Z Z Z Z Z Z hd hK=>ah (nR (GB (i+1)) hl hd hK)
 pd:=λh ha hl Z Z Z Z hK=>ah (wm h ha hl hK)
theorem Ho(i):GA (aQ PL (i+6))where
 pieces:=λhl hg Z Z hK=>pZ (i+5) _ hl hg _ _ hK
 read:=λhl ha Z Z Z Z Z hn Z h hK=>ah (D3 (Hn i) hl ha hn h hK)
 sorted:=λht htl h3 hd hl Z hol hG hsu Z hR Z Z hK=>ah (qw (Hl i) ht htl h3 hd hl hol hG hsu hR hK)
 pd:=λh ha hl Z Z Z Z hK=>ah (by
  refine c0 h λo h1 qq=>?_;clear h;subst qq;exact wm h1 ha hl (aa (Int.add_sub_assoc _ _ _) (hK)))
 pd0:=λh ha hl Z Z Z hK=>ah (BV h ha hl hK)
noncomputable def jD (r:yh):L8:=.tuple [.str r.1,.int r.2]
noncomputable def n7 (l:List Str):L8:=.list (l.map .str)
noncomputable def qB (rows:List yh)(o s:Int)(b:Bool)(out:List (List Str)):L8:=.list [.list (rows.map jD),.int 0,.list [.int o,.int (-o),.int s],.bool b,.list (out.map n7)]
theorem gf{α:Type}{f:AV->Option L8}{g:α->AV}{d:α->L8}(h:∀x,f (g x)=some (d x)):∀(l:List α),cI f (l.map g)=some (l.map d):=by
 intro Sl;induction Sl with
 |nil=>exact rfl
 |cons x r Sk=>refine(?_:((f (g x)).bind λe=>(cI f (r.map g)).map (e:: ·))=_);rw[h,Sk];rfl
theorem sd(r):db H (n+1) (lR r)=some (jD r):=by
 induction n<;>rfl
theorem se(l):db H (n+1) (hY l)=some (n7 l):=by refine(?_:(cI (db H n) (l.map AV.str)).map Ko=_);exact aa (kB _) rfl
theorem xI{H}{rows}{o s}{b}{out:List (List Str)}(h3:hg H 3=some (.list (rows.map lR)))(SX:hg H 55=some (.list (out.map hY))):db H 8 (.lst [.ref 3,.int 0,.lst [.int o,.int (-o),.int s],.bool b,.ref 55])=some (qB rows o s b out):=by
 have e3:db H 7 (.ref 3)=some (.list (rows.map jD)):=by refine(?_:(((hg H 3).bind AO.list?).bind λxs=>(cI (db H 6) xs).map Ko)=_);refine aa h3 (?_:(cI (db H 6) (rows.map lR)).map Ko=_);exact aa (gf sd _) rfl
 haveI Ua:db H 7 (.ref 55)=some (.list (out.map n7)):=by refine(?_:(((hg H 55).bind AO.list?).bind λxs=>(cI (db H 6) xs).map Ko)=_);refine aa SX (?_:(cI (db H 6) (out.map hY)).map Ko=_);exact aa (gf se _) rfl
 refine(?_:(((db H 7 (.ref 3)).bind λd=>(((cI (db H 7) [.int 0,.lst [.int o,.int (-o),.int s],.bool b,.ref 55])).map (d:: ·))).map Ko)=_);refine aa e3 (?_:((((((db H 7 (.ref 55)).bind λd=>(some []).map (d:: ·)).map (L8.bool b:: ·)).map (Ko [.int o,.int (-o),.int s]:: ·)).map (L8.int 0:: ·)).map (Ko (rows.map jD):: ·)).map Ko=_);exact aa Ua rfl
theorem BW{H}{rows}{o s}{b}{out:List (List Str)}:db H 8 (.lst [.lst (rows.map lR),.int 0,.lst [.int o,.int (-o),.int s],.bool b,.lst (out.map hY)])=some (qB rows o s b out):=by
 have e3:db H 7 (.lst (rows.map lR))=some (.list (rows.map jD)):=by refine(?_:(cI (db H 6) (rows.map lR)).map Ko=_);exact aa (gf sd _) rfl
 have Ua:db H 7 (.lst (out.map hY))=some (.list (out.map n7)):=by refine(?_:(cI (db H 6) (out.map hY)).map Ko=_);exact aa (gf se _) rfl
 refine(?_:(((db H 7 (.lst (rows.map lR))).bind λd=>(((cI (db H 7) [.int 0,.lst [.int o,.int (-o),.int s],.bool b,.lst (out.map hY)])).map (d:: ·))).map Ko)=_);refine aa e3 (?_:((((((db H 7 (.lst (out.map hY))).bind λd=>(some []).map (d:: ·)).map (L8.bool b:: ·)).map (Ko [.int o,.int (-o),.int s]:: ·)).map (L8.int 0:: ·)).map (Ko (rows.map jD):: ·)).map Ko=_);exact aa Ua rfl
theorem xJ{α:Type}{d:α->L8}{l:List α}(h:∀x∈l,(d x).canLay0=true):JZ (l.map d)=true:=by
 induction l with
 |nil=>rfl
 |cons x r ih=>refine(?_:((d x).canLay0&&JZ (r.map d))=true);exact aa (h x (.head _)) (aa (ih λy hy=>h y (.tail _ hy)) rfl)
theorem xK{α:Type}{d:α->L8}{n:Nat}{l:List α}(h:∀x∈l,(d x).depth<=n):J9 (l.map d)<=n:=by
 induction l with
 |nil=>exact JG _
 |cons x r ih=>refine(?_:max (d x).depth (J9 (r.map d))<=n);exact NW.mpr ⟨h x (.head _),ih λy hy=>h y (.tail _ hy)⟩
theorem qC{rows}{o s}{b}{out:List (List Str)}(h1:∀r∈rows,KA r.1=true)(h2:∀l∈out,∀x∈l,KA x=true):J7 (qB rows o s b out)=true:=by
 have c1:JZ (rows.map jD)=true:=xJ λr hr=>by
  refine(?_:(KA r.1&&(true&&true))=true);exact aa (h1 r hr) rfl
 have d1:J9 (rows.map jD)<=1:=xK λr hr=>by refine(?_:max 0 (max 0 0)+1<=1);decide
 have d2:J9 (out.map n7)<=1:=xK λl hl=>by refine(?_:J9 (l.map JW)+1<=1);refine aa (jr _) ?_;decide
 refine(?_:((JZ (rows.map jD)&&(true&&((true&&(true&&(true&&true)))&&(true&&(JZ (out.map n7)&&true)))))&&decide (max (J9 (rows.map jD)+1) (max 0 (max (max 0 (max 0 (max 0 0))+1) (max 0 (max (J9 (out.map n7)+1) 0))))+1<=64))=true);exact aa c1 (aa (xJ λl hl=>hZ (h2 l hl):JZ (out.map n7)=true) (aa (decide_eq_true (IS (NW.mpr ⟨Iu (IS d1) (by decide:2<=63),NW.mpr ⟨JG 63,NW.mpr ⟨by decide,NW.mpr ⟨JG 63,NW.mpr ⟨Iu (IS d2) (by decide:2<=63),JG 63⟩⟩⟩⟩⟩))) rfl))
noncomputable def jE (script:List Int):List Int:=(script.take 6).map (λx=>KV x (16^6))++[64,129,197]
noncomputable def sf (script:List Int):List Gr:=gL (-1) (jE script)
noncomputable def xL (gs:List Gr):Bool:=decide ((mx ((a9 gs).map (aA (wG gs) (a9 gs).length)):Int)<((a9 gs).length:Int))
noncomputable def tZ (gs:List Gr):List (List Str):=((JV (a9 gs).length).map (CD gs)).filter λl=>!l.isEmpty
structure TH(gs:List Gr)(H:Hp):Prop where
 g:hg H 1=some (.list (gs.map jg))
 r:hg H 3=some (.list ((aw gs).map lR))
 o:hg H 55=some (.list ((tZ gs).map hY))
 high:∀j∈ks H,j<2000+H.length
theorem xM:∀(l) (b),(gL b l).length=l.length:=by
 intro Sl;induction Sl with
 |nil=>intro Z;exact rfl
 |cons n r Sk=>intro b;exact congrArg (· +1) (Sk _)
theorem sg(script):3<=(jE script).length/\(jE script).length<=9:=by unfold jE;refine aa IB (aa (Iz _) (aa JQ ?_));exact⟨I4 3 _,Jf (Of 6 _) 3⟩
theorem BX{gs}{cut}(h:cut<=gs.length):EH gs cut=bF (-1) gs cut:=by
 unfold EH bF;induction cut with
 |zero=>rfl
 |succ c=>
  show((gs.map λg=>g.2.1+1)[c]?).getD 0=match gs[c]? with|some g=>g.2.1+1|none=>0
  refine aa I9 ?_;cases gs[c]? <;>rfl
theorem BY(l:List Int):Df H (.lst (l.map .int))=some l.sum:=by refine(?_:((bM (l.map AV.int)).map λns=>ns.sum)=_);exact aa (rfl:l.map AV.int=l.map λx=>AV.int ((λx=>x) x)) (aa (ints_map _ _) (aa (List.map_id' _) rfl))
theorem BZ(h:l.length<=1000000):o8 H (.lst l)=some (l.length:Int):=by refine(?_:((gd (ai l.length) (some (l.length:Int))).or _)=_);exact aa (ak h) rfl
theorem Hq:kJ H .Pow (.int 16) (.int 6)=some (.int (16^6)):=by refine(?_:gd (decide (0<=(6:Int)/\(LZ 16:Int)*6<=134217728)) (some (AV.int (16^(6:Int).toNat)))=_);exact aa (by decide +kernel:decide (0<=(6:Int)/\(LZ 16:Int)*6<=134217728)=true) rfl
theorem Hr:kJ H .Pow (.int 16) (.int 5)=some (.int (16^5)):=by refine(?_:gd (decide (0<=(5:Int)/\(LZ 16:Int)*5<=134217728)) (some (AV.int (16^(5:Int).toNat)))=_);exact aa (by decide +kernel:decide (0<=(5:Int)/\(LZ 16:Int)*5<=134217728)=true) rfl
theorem EK{nt:Jn->Bool}{X:Hp}{rows:List yh}{o s:Int}{b:Bool}{out:List (List Str)}(h3:hg X 3=some (.list (rows.map lR)))(SX:hg X 55=some (.list (out.map hY)))(h1:∀r∈rows,KA r.1=true)(h2:∀l∈out,∀x∈l,KA x=true):
 oy nt X .Eq (.lst [.ref 3,.int 0,.lst [.int o,.int (-o),.int s],.bool b,.ref 55]) (.lst [.lst (rows.map lR),.int 0,.lst [.int o,.int (-o),.int s],.bool b,.lst (out.map hY)])=some true:=by
 have hs:=qC (o:=o) (s:=s) (b:=b) h1 h2;refine(?_:((db X 8 (.lst [.ref 3,.int 0,.lst [.int o,.int (-o),.int s],.bool b,.ref 55])).bind λd=>(db X 8 (.lst [.lst (rows.map lR),.int 0,.lst [.int o,.int (-o),.int s],.bool b,.lst (out.map hY)])).bind λe=>gd (J7 d&&J7 e) (some (NZ d e)))=_);refine aa (xI h3 SX) (aa BW ?_);refine(?_:gd (J7 (qB rows o s b out)&&J7 (qB rows o s b out)) (some (NZ (qB rows o s b out) (qB rows o s b out)))=_);rw[hs,SeqAt.eqv_refl _ (SeqAt.canLay_of_shaped hs)];rfl
theorem EL{nt}{X}{gs}{cut}{start:Int}(h3:hg X 3=some (.list ((aw gs).map lR)))(SX:hg X 55=some (.list ((tZ gs).map hY)))(hc:cut<=gs.length):
 oy nt X .Eq (.lst [.ref 3,.int 0,.lst [.int (bF (-1) gs cut),.int (-bF (-1) gs cut),.int start],.bool (xL gs),.ref 55]) (nZ gs cut start)=some true:=by
 have e:nZ gs cut start=.lst [.lst ((aw gs).map lR),.int 0,.lst [.int (bF (-1) gs cut),.int (-bF (-1) gs cut),.int start],.bool (xL gs),.lst ((tZ gs).map hY)]:=by unfold nZ aw;rw[BX hc,Ky];rfl
 refine aa e (EK h3 SX (λr hr=>?_) (λl hl x hx=>?_))
 . exact dJ hr λg Z qq=>an qq (qA _)
 . (refine ae (IU.mp (JX.mp hl).1) λk Z Sr=>?_;subst Sr)
   exact dJ ((cT gs x).mp (JX.mp ((cA _).mem_iff.mp hx)).1) λg Z qq=>an qq (qA _)
section
variable {call:AV->Callee}
theorem B0(hs:script.length<=63)
 (hA:∀{pool},pool.length<=100->∀{K} {Xk},K (.ref 1) [(1,.list (F_ (-1) pool))]->call (.top 871) [.lst (pool.map .int)] [] [] K Xk)
 (hT:∀{cut},cut<=(sf script).length->∀{start} {K} {Xk},(∀H,TH (sf script) H->K (.lst [.ref 3,.int 0,.lst [.int (bF (-1) (sf script) cut),.int (-bF (-1) (sf script) cut),.int start],.bool (xL (sf script)),.ref 55]) H)->call (.top 902) [.ref 1,.int (cut),.int start] [] [(1,.list ((sf script).map jg))] K Xk)
 (hD:∀{H},TH (sf script) H->∀{cut},cut<=(sf script).length->∀{start} {K} {Xk},(∀X,(∀k o,hg H k=some o->hg X k=some o)->K (nZ (sf script) cut start) X)->call (.top 907) [.ref 1,.int (cut),.int start] [] H K Xk)
 {K} {Xk:AX->Hp->Prop} (hK:∀H,K (.bool true) H):aY PL call (.top 912) [.lst (script.map .int)] [] [] K Xk:=by
 refine Je 60 (ac.mk _ (xm (by exact aa (Iz _) (Iu (by assumption) (Iv rfl))) (show(0:Int)<=6 by decide)) (aa (show((script.map AV.int).take (6:Int).toNat)=(script.take 6).map AV.int from by exact aa QI rfl) (ac.mk _ rfl (bU (script.take 6) .int (λx=>.int (KV x (16^6))) [] [] (by exact aa JQ (Iu (Of _ _) (Iv rfl))) rfl rfl rfl ?_ ?_))))
 . have hl6:(script.take 6).length<=6:=by exact aa JQ (Of 6 script.length)
   refine ac.three () (by exact aa (Iz _) (aa (ak (Iu hl6 (Iv rfl))) rfl)) () rfl _ (f_ (by exact aa (Iz _) (Iu (Jf hl6 3) (Iv rfl)))) (aa (show((script.take 6).map λx=>AV.int (KV x (16^6)))++[AV.int 64,AV.int 129,AV.int 197]=(jE script).map AV.int from by unfold jE;exact aa IR (aa Ky rfl)) (ad (sg script) λd3 d9=>?_));have hgl:(sf script).length=(jE script).length:=xM _ _;refine hA (Iu d9 (Iv rfl)) (ac.two _ (BY _) _ (BZ (by exact aa (Iz _) (Iu d9 (Iv rfl)))) (aa (Iz _) (ac.two _ rfl _ (jd (((jE script).length:Int)+1) (by exact Kr ((λ{x y}=>bi_ine.mp) rfl))) ?_)));obtain⟨cut,hcut,hc⟩:∃cut:Nat,KV (jE script).sum ((jE script).length+1)=(cut:Int)/\cut<=(jE script).length:=by
    have h1:=KW (jE script).sum (show(0:Int)<(jE script).length+1 by exact QV (jE script).length);have h2:=Md (jE script).sum (show(0:Int)<(jE script).length+1 by exact QV (jE script).length);exact⟨(KV (jE script).sum ((jE script).length+1)).toNat,PY.mpr h1,Q8.mpr (N8 h2)⟩
   refine aa hcut ?_;have SV:=le_of_le_of_eq hc (id (LI hgl));obtain⟨d0,TI⟩:∃d0,(jE script)[0]? =some d0:=⟨_,IM (Nat.zero_lt_of_lt d3)⟩
   refine ac.mk _ (jf (aa I9 (aa TI rfl)) (aa (Iz _) (Iu d9 (Iv rfl)))) ?_;exact ac.two _ Hr _ rfl (hT SV λH tH=>hD tH SV λX hX=>ac.mk _ (EL (hX 3 _ tH.r) (hX 55 _ tH.o) SV) (hK X))
 . intro y Z K' hk;refine cJ.mk (λZ=>?_) (λq=>IE (q:true=false));exact ac.two _ Hq _ (jd (16^6) (by decide)) (hk _ rfl rfl)
end
noncomputable def cn (x:Str)(l:List Str):Nat:=(l.filter λy=>decide (y=x)).length
theorem cH(x:Str)(a b:List Str):cn x (a++b)=cn x a+cn x b:=by unfold cn;exact aa (Lb _ _) (aa IB rfl)
theorem lX(x y:Str):cn x [y]=if y=x then 1 else 0:=by
 unfold cn;refine aa JB ?_;by_cases e:y=x
 . exact aa (if_pos e) (aa (decide_eq_true e) rfl)
 . exact aa (if_neg e) (aa (decide_eq_false e) rfl)
theorem lY(x y:Str)(l:List Str):cn x (y::l)=(if y=x then 1 else 0)+cn x l:=aa (show y::l=[y]++l from rfl) (aa (cH _ _ _) (aa (lX _ _) rfl))
theorem dz:0<cn x l↔x∈l:=by
 unfold cn;refine aa (propext QA) ?_
 constructor
 . intro h;induction q:l.filter λy=>decide (y=x)with
   |nil=>exact absurd q h
   |cons a r=>have:a∈l.filter λy=>decide (y=x):=aa q (.head _);exact ad (JX.mp this) λh1 h2=>an (of_decide_eq_true h2) h1
 . intro h q;have:x∈l.filter λy=>decide (y=x):=JX.mpr ⟨h,decide_eq_true rfl⟩;rw[q]at this;cases this
theorem eK(h:x∉l):cn x l=0:=by
 have:=dz (x:=x) (l:=l);rcases QZ (cn x l)with q|q
 . exact q
 . exact absurd (this.mp q) h
theorem xN(h:∀x,cn x l=0):l=[]:=by
 induction l with
 |nil=>rfl
 |cons a r=>have:=h a;rw[lY,if_pos rfl]at this;exact absurd this (JU (Jc Nat.one_pos (IK _ _)))
theorem jt{α:Type}{f:Str->α}{x:Str}{v:α}(h:f x=v)(y:Str):bD f x v y=f y:=by
 unfold bD;by_cases e:x=y
 . exact aa (if_pos e) (an e (aa h rfl))
 . exact aa (if_neg e) rfl
theorem bo{α:Type}(f:Str->α)(x:Str)(v:α)(y:Str):bD f x v y=if x=y then v else f y:=rfl
theorem xO{g:G}{x:Str}(h:x∉g.ns->g.su x=[])(y:Str):(g.ens x).su y=g.su y:=by
 unfold G.ens;induction q:decide (x∈g.ns)with
 |true=>rfl
 |false=>exact jt (h (of_decide_eq_false q)) y
theorem xP{g:G}{x:Str}(h:x∉g.ns->g.np x=0)(y:Str):(g.ens x).np y=g.np y:=by
 unfold G.ens;induction q:decide (x∈g.ns)with
 |true=>rfl
 |false=>exact jt (h (of_decide_eq_false q)) y
theorem ju{g:G}{x:Str}(y:Str):y∈(g.ens x).ns↔y=x\/y∈g.ns:=by
 unfold G.ens;induction q:decide (x∈g.ns)with
 |true=>exact⟨.inr,λh=>h.elim (λh=>aa h (of_decide_eq_true q)) id⟩
 |false=>exact IJ
theorem EM{g:G}{x:Str}(h:x∈g.ns):g.ens x=g:=by unfold G.ens;exact aa (decide_eq_true h) rfl
structure GI(gs:List Gr)(i:Nat)(s:G×List Str):Prop where
 ns:∀x,x∈s.1.ns↔x∈(gs.take i).map bE
 nd:s.1.ns.Nodup
 su:∀x y,cn y (s.1.su x)=cn x (b9 gs i y)
 np:∀y,s.1.np y=((b9 gs i y).length:Int)
 wi:∀y x,x∈b9 gs i y->x∈s.1.ns/\y∈s.1.ns
 path:∀k,k<s.2.length->s.2[k]? =(((gs.take i).filter λg=>decide (g.2.1=(k:Int))).map bE).getLast?
 ok:l_ ((s.2.length:Int)-1) (gs.drop i)
theorem B1(h:l_ (-1) gs):GI gs 0 (io (aw gs) 0):=⟨λx=>Iff.rfl,J_,λx y=>rfl,λy=>rfl,λy x h=>((IA h).elim),λk h=>absurd h (Lm _),h⟩
theorem lZ{gs:List Gr}{i:Nat}{s:G×List Str}(I:GI gs i s){x:Str}(h:x∉s.1.ns):s.1.su x=[]/\s.1.np x=0:=by
 refine⟨xN λy=>?_,?_⟩
 . rw[I.su];exact eK λq=>h (I.wi y x q).1
 . refine aa (I.np _) ?_;have:b9 gs i x=[]:=xN λy=>eK λq=>h (I.wi x y q).2;refine aa this ?_;rfl
theorem B2{gs:List Gr}{i:Nat}{g:Gr}(hg:gs[i]? =some g){s:G×List Str}(I:GI gs i s):GI gs (i+1) (Ex s (bE g,g.2.1+1)):=by
 have hil:i<gs.length:=(Jm.mp hg).1;have ed:gs.drop i=g::gs.drop (i+1):=by
  refine aa (Kf hil) ?_
  congr 1
  rw[IM hil]at hg;exact Iw hg
 have et:gs.take (i+1)=gs.take i++[g]:=by rw[JR,hg];rfl
 obtain⟨o1,o2,o3,o4⟩:g.1<5/\0<=g.2.1/\g.2.1<=(s.2.length:Int)-1+1/\l_ g.2.1 (gs.drop (i+1)):=by
  have:=I.ok;rw[ed]at this;exact this
 obtain⟨d,hd⟩:∃d:Nat,g.2.1=(d:Int):=⟨g.2.1.toNat,by exact PY.mpr o2⟩
 have hk:(g.2.1+1-1).toNat=d:=by exact aa (QT _ _) (aa hd rfl)
 have hdl:d<=s.2.length:=JY.mp (by exact an hd (an (LF (s.2.length:Int) 1) o3));have hws:b9 gs (i+1)=match decide (0<g.2.1)with
  |true=>match(qx gs i g.2.1).getLast? with
   |some q=>bD (b9 gs i) q (b9 gs i q++[bE g])
   |none=>b9 gs i
  |false=>b9 gs i:=by
  refine(?_:(match gs[i]? with|none=>b9 gs i|some g=>_)=_);rw[hg]<;>rfl
 have hpath:∀k,k<(s.2.take d++[bE g]).length->(s.2.take d++[bE g])[k]? =(((gs.take (i+1)).filter λg=>decide (g.2.1=(k:Int))).map bE).getLast?:=by
  intro k hk;rw[IB,JQ,J8 hdl,J5]at hk;refine aa et (aa (Lb _ _) (aa IR ?_));by_cases e:k=d
  . clear hk;subst e;refine aa (LG (aa JQ (Of k s.snd.length))) (aa JQ (aa (J8 hdl) (aa (Rf _) (aa JB (aa hd (aa (decide_eq_true rfl) ?_))))));refine(?_:some (bE g)=(_++[bE g]).getLast?);exact aa P4 rfl
  . have hlt:=Na (KY hk) e;refine aa (MT (aa JQ (aa (J8 hdl) hlt))) (aa (Pc hlt) (aa (I.path k (Jc hlt hdl)) (aa JB (aa (decide_eq_false (λq:g.2.1=(k:Int)=>e (QF.mp (hd.symm.trans q)).symm)) ?_))));refine(?_:_=(_++[]).getLast?);exact aa (Jv _) rfl
 have hok:l_ (((s.2.take d++[bE g]).length)-1) (gs.drop (i+1)):=by refine aa IB (aa JQ (aa (J8 hdl) (aa J5 ?_)));have:(d+1:Nat)-1=g.2.1:=aa hd (QT (d:Int) 1);exact aa this o4
 have hns:∀x,x∈(gs.take (i+1)).map bE↔x=bE g\/x∈s.1.ns:=by
  intro x;rw[et,IR,JD,I.ns]
  constructor
  . rintro(h|h)
    . exact .inr h
    . rcases IJ.mp h with h|h
      . exact .inl h
      . cases h
  . rintro(h|h)
    . exact .inr (aa h (.head _))
    . exact .inl h
 unfold Ex;dsimp only;refine aa hk ?_;induction hl:(s.2.take d).getLast? with
 |none=>
  have d0:d=0:=by have:=congrArg Kn (MU.mp hl);rw[JQ,J8 hdl]at this;exact this
  refine(?_:GI gs (i+1) ((s.1.ens (bE g)).inc (bE g) 0,s.2.take d++[bE g]));have Uo:b9 gs (i+1)=b9 gs i:=by exact aa hws (aa (decide_eq_false (by exact aa hd (aa d0 (Int.lt_irrefl 0)))) rfl)
  refine⟨λx=>?_,gS _ I.nd,λx y=>?_,λy=>?_,λy x h=>?_,hpath,hok⟩
  . rw[hns];exact ju x
  . refine aa Uo (?_:cn y ((s.1.ens (bE g)).su x)=_);rw[xO λh=>(lZ I h).1];exact I.su x y
  . refine aa Uo ?_;show bD (s.1.ens (bE g)).np (bE g) ((s.1.ens (bE g)).np (bE g)+0) y=_
    rw[jt (LI (Lf ((s.fst.ens (bE g)).np (bE g)))),xP λh=>(lZ I h).2];exact I.np y
  . rw[Uo]at h;exact⟨(ju x).mpr (.inr (I.wi y x h).1),(ju y).mpr (.inr (I.wi y x h).2)⟩
 |some q=>
  have d1:0<d:=by
   rcases QZ d with e|e
   . haveI hl:=List.take_zero▸e▸hl;cases hl
   . exact e
  have hq:s.2[d-1]? =some q:=by rw[LK,JQ,J8 hdl,Pc (Nat.sub_one_lt_of_lt d1)]at hl;exact hl
  have hab:(qx gs i g.2.1).getLast?=some q:=by rw[I.path (d-1) (Nat.sub_one_lt_of_le d1 hdl)]at hq;unfold qx;exact aa (show g.2.1-1=((d-1:Nat):Int)from by exact aa hd ((Int.ofNat_sub d1).symm)) hq
  have Up:b9 gs (i+1)=bD (b9 gs i) q (b9 gs i q++[bE g]):=by exact aa hws (aa (decide_eq_true (by exact aa hd (KJ.mpr d1))) (aa hab rfl))
  have hqn:q∈s.1.ns:=by rw[I.ns];exact ae (IU.mp (P8 hab)) λg' h1 h2=>IU.mpr ⟨g',(JX.mp h1).1,h2⟩
  refine(?_:GI gs (i+1) ((((s.1.ens q).inc q 1).ens (bE g)).app (bE g) q,s.2.take d++[bE g]));refine aa (EM hqn) ?_;have e1:∀y,((s.1.inc q 1).ens (bE g)).su y=s.1.su y:=λy=>xO (g:=s.1.inc q 1) (λh=>(lZ I h).1) y;have e2:=λy=>xP (g:=s.1.inc q 1) (λh=>by
   refine(?_:bD s.1.np q (s.1.np q+1) (bE g)=0);refine aa (bo _ _ _ _) (aa (if_neg (λe=>h (by exact an e hqn))) ?_);exact(lZ I h).2) y
  refine⟨λx=>?_,gS _ I.nd,λx y=>?_,λy=>?_,λy x h=>?_,hpath,hok⟩
  . rw[hns];exact ju x
  . refine aa Up (?_:cn y (bD ((s.1.inc q 1).ens (bE g)).su (bE g) (((s.1.inc q 1).ens (bE g)).su (bE g)++[q]) x)=_);refine aa (bo _ _ _ _) (aa (bo _ _ _ _) (aa (e1 _) (aa (e1 _) ?_)));by_cases ex:bE g=x
    . rw[if_pos ex,cH,lX,ex,I.su];by_cases ey:q=y
      . rw[if_pos ey,if_pos ey,cH,lX,if_pos rfl,ey]
      . rw[if_neg ey,if_neg ey];exact Sb.mpr rfl
    . rw[if_neg ex,I.su];by_cases ey:q=y
      . rw[if_pos ey,cH,lX,if_neg ex,ey];exact LI ((λ{a b}=>Sb.mpr) rfl)
      . rw[if_neg ey]
  . refine aa Up (?_:((s.1.inc q 1).ens (bE g)).np y=_);refine aa (e2 _) (?_:bD s.1.np q (s.1.np q+1) y=_);refine aa (bo _ _ _ _) (aa (bo _ _ _ _) ?_);by_cases ey:q=y
    . refine aa (if_pos ey) (aa (if_pos ey) (aa IB (aa J5 (aa (I.np _) ?_))));push_cast;rfl
    . exact aa (if_neg ey) (aa (if_neg ey) (aa (I.np _) rfl))
  . rw[Up,bo]at h;have up:∀z,z=bE g\/z∈s.1.ns->z∈((s.1.inc q 1).ens (bE g)).ns:=λz hz=>(ju (g:=s.1.inc q 1) z).mpr hz;by_cases ey:q=y
    . rw[if_pos ey]at h;rcases JD.mp h with h|h
      . have:=I.wi q x h;exact⟨up x (.inr this.1),up y (.inr (an ey this.2))⟩
      . rcases IJ.mp h with h|h
        . exact⟨up x (.inl h),up y (.inr (an ey hqn))⟩
        . cases h
    . rw[if_neg ey]at h;have:=I.wi y x h;exact⟨up x (.inr this.1),up y (.inr this.2)⟩
theorem qD(h:l_ (-1) gs):∀i,i<=gs.length->GI gs i (io (aw gs) i):=by
 intro Sl;induction Sl with
 |zero=>intro Z;exact B1 h
 |succ i Sk=>intro hi;have hgi:=IM (by assumption);refine aa (gc (by unfold aw;exact aa I9 (aa hgi rfl))) ?_;exact B2 hgi (Sk (Js (by assumption)))
theorem xQ:(cn z (z::l):Int)=1+cn z l:=aa (lY _ _ _) (aa (if_pos rfl) rfl)
theorem xR(q:¬z=y):cn y (z::l)=cn y l:=aa (lY _ _ _) (aa (if_neg q) (aa (JI _) rfl))
theorem xS:∀(l:List Str) (f:Str->Int) (r:List Str),(∀y∈l,(cn y l:Int)<=f y)->
 (∀y,(l.foldl ku (f,r)).1 y=f y-cn y l)/\(∀y,y∈(l.foldl ku (f,r)).2↔y∈r\/(y∈l/\f y=cn y l))/\(r.Nodup->(∀y∈r,y∉l)->((l.foldl ku (f,r)).2).Nodup):=by
 intro Sl;induction Sl with
 |nil=>intro f r Z;exact⟨λy=>by refine(?_:f y=f y-0);exact LI (Nx (f y)),λy=>⟨.inl,λh=>h.elim id λh=>(IA h.1).elim⟩,λh Z=>h⟩
 |cons z l Sk=>
  intro f r h;obtain⟨r1,Tg⟩:∃r1,r1=match decide (f z-1=0)with|true=>r++[z]|false=>r:=⟨_,rfl⟩
  have e:(z::l).foldl ku (f,r)=l.foldl ku (bD f z (f z-1),r1):=by exact aa Tg rfl
  have hz:=h z (.head _);rw[xQ]at hz;have h':∀y∈l,(cn y l:Int)<=bD f z (f z-1) y:=λy hy=>by
   refine aa (bo _ _ _ _) ?_;by_cases q:z=y
   . exact aa (if_pos q) (an q (OK hz))
   . refine aa (if_neg q) (an (xR q) ?_);exact h y (.tail _ hy)
  refine am (Sk (bD f z (f z-1)) r1 h') λa b c=>aa e ?_;have hm:∀y,y∈r1↔y∈r\/(y=z/\f z=1):=λy=>by
   refine aa Tg ?_;induction q:decide (f z-1=0)with
   |true=>have:=of_decide_eq_true q;refine(?_:y∈r++[z]↔_);exact aa (propext JD) ⟨λh=>h.elim .inl λh=>.inr ⟨KO.mp h,(Int.add_left_inj (-1)).mp this⟩,λh=>h.elim .inl λh=>.inr (aa h.1 (.head _))⟩
   |false=>have:=of_decide_eq_false q;exact⟨.inl,λh=>h.elim id λh=>absurd (aa h.2 rfl) this⟩
  refine⟨λy=>?_,λy=>?_,λh1 h2=>?_⟩
  . refine aa (a _) (aa (bo _ _ _ _) ?_);by_cases q:z=y
    . exact aa (if_pos q) (an q (aa xQ (P0 (f z) 1 ↑(cn z l))))
    . exact aa (if_neg q) (aa (xR q) rfl)
  . rw[b,hm,IJ,bo];by_cases q:z=y
    . refine aa (if_pos q) (an q (aa xQ ?_));refine⟨λk=>k.elim (λk=>k.imp id λk=>⟨.inl rfl,M5 (by exact aa k.2 (Int.le_add_of_nonneg_right (KN _))) hz⟩) λk=>.inr ⟨.inl rfl,Lv.mp k.2⟩,λk=>k.elim (λk=>.inl (.inl k)) λk=>?_⟩;by_cases k3:cn z l=0
      . exact .inl (.inr ⟨rfl,aa k.2 (aa k3 rfl)⟩)
      . exact .inr ⟨dz.mp (Nat.zero_lt_of_ne_zero k3),Lv.mpr k.2⟩
    . refine aa (if_neg q) (aa (xR q) ?_);exact⟨λk=>k.elim (λk=>k.imp id λk=>absurd k.1.symm q) λk=>.inr ⟨.inr k.1,k.2⟩,λk=>k.elim (λk=>.inl (.inl k)) λk=>.inr ⟨k.1.resolve_left λk=>q k.symm,k.2⟩⟩
  . refine c ?_ λy hy hl=>?_
    . refine aa Tg ?_;induction q:decide (f z-1=0)with
      |true=>exact Mz.mpr ⟨h1,I_.mpr ⟨λh=>((IA h).elim),J_⟩,λx hx y hy e=>by
       refine av hy (λhy=>?_) λhy=>?_
       . exact h2 x hx (aa e (aa hy (.head _)))
       . cases hy⟩
      |false=>exact h1
    . rcases(hm y).mp hy with k|k
      . exact h2 y k (.tail _ hl)
      . rw[k.1]at hl;exact absurd (k.2▸hz) (Int.not_le_of_gt (Int.lt_add_of_pos_right 1 (KJ.mpr (dz.mpr hl))))
theorem n8:∀(N:List Str) (f:Str->Int) (r:List Str),(∀x∈N,x∉N.flatMap su)->N.Nodup->(∀y∈N.flatMap su,(cn y (N.flatMap su):Int)<=f y)->
 (∀y,(N.foldl (cF su) (f,r)).1 y=if y∈N then-2 else f y-cn y (N.flatMap su))/\(∀y,y∈(N.foldl (cF su) (f,r)).2↔y∈r\/(y∈N.flatMap su/\f y=cn y (N.flatMap su)))/\(r.Nodup->(∀y∈r,y∉N.flatMap su)->((N.foldl (cF su) (f,r)).2).Nodup):=by
 intro Sl;induction Sl with
 |nil=>intro f r Z Z Z;exact⟨λy=>by rw[if_neg (λh=>(IA h).elim)];refine(?_:f y=f y-0);exact LI (Nx (f y)),λy=>⟨.inl,λh=>h.elim id λh=>(IA h.1).elim⟩,λh Z=>h⟩
 |cons x N Sk=>
  intro f r h1 h2 h3;refine ad (I_.mp h2) λn1 n2=>?_;rw[(Ra:(x::N).flatMap su=su x++N.flatMap su)]at h1 h3⊢;have hxs:=λq=>h1 x (.head _) (Kv _ q);have hxL:=λq=>h1 x (.head _) (JT _ q);have hne:∀{y},y∈su x->x≠y:=λhy e=>hxs (e▸hy);obtain⟨a1,a2,a3⟩:=xS (su x) (bD f x (-2)) r λy hy=>by
   have:=h3 y (Kv _ hy);rw[cH]at this;rw[bo,if_neg (hne hy)];exact JK (JY.mpr (IK _ _)) this
  obtain⟨s2,Tp⟩:∃s2,s2=(su x).foldl ku (bD f x (-2),r):=⟨_,rfl⟩
  rw[<-Tp]at a1 a2 a3;obtain⟨f2,r2⟩:=s2;have e:(x::N).foldl (cF su) (f,r)=N.foldl (cF su) (f2,r2):=by
   refine(?_:N.foldl (cF su) ((su x).foldl ku (bD f x (-2),r))=_);rw[<-Tp]
  have a1:∀y,f2 y=bD f x (-2) y-cn y (su x):=a1;have a2:∀y,y∈r2↔y∈r\/(y∈su x/\bD f x (-2) y=cn y (su x)):=a2;obtain⟨b1,b2,b3⟩:=Sk f2 r2 (λy hy q=>h1 y (.tail _ hy) (JT _ q)) n2 λy hy=>by
   have:=h3 y (JT _ hy);rw[cH]at this;rw[a1,bo,if_neg (λe=>hxL (e▸hy):x≠y)];rw[Ml]at this;exact OK this
  refine aa e ⟨λy=>?_,λy=>?_,λk1 k2=>?_⟩
  . rw[b1,a1,bo,cH];by_cases hy:y∈N
    . exact aa (if_pos hy) (aa (if_pos (P7 _ hy)) rfl)
    . refine aa (if_neg hy) ?_;by_cases hx:x=y
      . exact an hx (aa (if_pos rfl) (aa (if_pos (QW ..)) (aa (eK hxs) (aa (eK hxL) rfl))))
      . rw[if_neg hx,if_neg λq=>by
         refine av q (λq=>?_) λq=>?_
         . exact hx q.symm
         . exact hy q]
        exact aa (Ml _ _) (P0 (f y) ↑(cn y (su x)) ↑(cn y (List.flatMap su N)))
  . rw[b2,a2,a1,bo,cH,JD];by_cases hx:x=y
    . refine an hx ?_
      constructor
      . rintro((k|k)|k)
        . exact .inl k
        . exact absurd k.1 hxs
        . exact absurd k.1 hxL
      . rintro(k|⟨k|k,_⟩)
        . exact .inl (.inl k)
        . exact absurd k hxs
        . exact absurd k hxL
    . refine aa (if_neg hx) ?_;have p1:=dz (x:=y) (l:=su x);have p2:=dz (x:=y) (l:=N.flatMap su);have p3:=λhy=>by
       have:=h3 y hy;rw[cH]at this;exact this
      constructor
      . rintro((k|⟨k1,k2⟩)|⟨k1,k2⟩)
        . exact .inl k
        . have:=p3 (Kv _ k1);exact .inr ⟨.inl k1,M5 (aa k2 (JY.mpr (IK _ _))) this⟩
        . exact .inr ⟨.inr k1,aa (Ml _ _) (Lv.mp k2)⟩
      . rintro(k|⟨k1,k2⟩)
        . exact .inl (.inl k)
        . rw[Ml]at k2;by_cases hN:y∈N.flatMap su
          . exact .inr ⟨hN,Lv.mpr k2⟩
          . have:=eK hN;rcases k1 with k1|k1
            . exact .inl (.inr ⟨k1,aa k2 (aa this (Lf _))⟩)
            . exact absurd k1 hN
  . refine b3 ((a3:r.Nodup->(∀y∈r,y∉su x)->r2.Nodup) k1 λy hy q=>k2 y hy (Kv _ q)) λy hy q=>?_;rcases(a2 y).mp hy with k|⟨k,k'⟩
    . exact k2 y k (JT _ q)
    . have hne:=hne k;rw[bo,if_neg hne]at k';have:=h3 y (JT _ q);rw[cH,k']at this;exact absurd (JY.mp this) (Kj (Ks (dz.mpr q)))
theorem kC:∀(l) (f) (y),bv f l v y=if y∈l then v else f y:=by
 intro Sl;induction Sl with
 |nil=>intro f y;refine aa (if_neg (λh=>(IA h).elim)) ?_;rfl
 |cons x r Sk=>
  intro f y;refine(?_:bv (bD f x v) r v y=_);rw[Sk,bo];by_cases h:y∈r
  . exact aa (if_pos h) (aa (if_pos (P7 _ h)) rfl)
  . refine aa (if_neg h) ?_;by_cases e:x=y
    . exact aa (if_pos e) (aa (if_pos (aa e (QW ..))) rfl)
    . rw[if_neg e,if_neg λq=>by
       refine av q (λq=>?_) λq=>?_
       . exact e q.symm
       . exact h q]
structure GW(su w:Str->List Str)(ns:List Str):Prop where
 su:∀x y,cn y (su x)=cn x (w y)
 cl:∀y x,x∈w y->x∈ns/\y∈ns
 nd:ns.Nodup
 few:ns.length<=60
theorem split_len:∀(l:List Str),(∀x∈l,r x=(p x||q x)/\(p x&&q x)=false)->(l.filter r).length=(l.filter p).length+(l.filter q).length:=by
 intro Sl;induction Sl with
 |nil=>intro Z;exact rfl
 |cons x l Sk=>
  intro h;refine ad (h x (.head _)) λh1 h2=>?_;have ih:=Sk λy hy=>h y (.tail _ hy);refine aa JB (aa JB (aa JB (aa h1 ?_)));induction hp:p x with
  |true=>
   have hq:q x=false:=by haveI h2:=hp▸h2;exact h2
   refine aa hq (?_:(l.filter r).length+1=(l.filter p).length+1+(l.filter q).length);exact(congrArg (· +1) ih).trans (Jb _ _ _)
  |false=>
   induction hq:q x with
   |true=>refine(?_:(l.filter r).length+1=(l.filter p).length+((l.filter q).length+1));exact congrArg (· +1) ih
   |false=>exact ih
section
variable {su w:Str->List Str}(W:GW su w ns)
include W
theorem GW.mem:y∈su x↔x∈w y:=by rw[<-dz,W.su,dz]
theorem GW.flat(y:Str):∀{N:List Str},N.Nodup->cn y (N.flatMap su)=((w y).filter λc=>decide (c∈N)).length:=by
 intro N;induction N with
 |nil=>intro Z;have:((w y).filter λc=>decide (c∈([])))=[]:=NA.mpr λc Z h=>(IA (of_decide_eq_true h)).elim;exact aa this rfl
 |cons x N ih=>
  intro nd;refine ad (I_.mp nd) λn1 n2=>?_;rw[Ra,cH,ih n2,W.su];unfold cn;refine(split_len (w y) λc Z=>⟨?_,?_⟩).symm
  . by_cases e:c=x
    . exact aa (decide_eq_true e) (aa (decide_eq_true (IJ.mpr (.inl e))) rfl)
    . refine aa (decide_eq_false e) ?_;by_cases h:c∈N
      . exact aa (decide_eq_true h) (aa (decide_eq_true (IJ.mpr (.inr h))) rfl)
      . exact aa (decide_eq_false h) (aa (decide_eq_false λq=>(IJ.mp q).elim e h) rfl)
  . by_cases e:c=x
    . exact aa (decide_eq_true e) (aa (decide_eq_false λq=>n1 (e▸q)) rfl)
    . exact aa (decide_eq_false e) rfl
omit W in
noncomputable def un (w:Str->List Str)(k:Nat)(y:Str):Nat:=((w y).filter λc=>!bI w k c).length
omit W in
theorem gh:un w k y=0↔bI w (k+1) y=true:=by
 unfold un;refine aa (propext KS) (aa (propext NA) (aa (propext aE) (aa (propext (cR _ _)) ?_)))
 constructor
 . intro h c hc;have:=h c hc;induction q:bI w k c with
   |true=>exact aE.mp q
   |false=>haveI this:=q▸this;exact absurd rfl this
 . intro h c hc;exact aa (aE.mpr (h c hc)) KM
structure RI(w:Str->List Str)(ns:List Str)(k:Nat)(np:Str->Int)(rdy:List Str):Prop where
 nd:rdy.Nodup
 mem:∀y,y∈rdy↔y∈ns/\bI w (k+1) y=true/\bI w k y=false
 np:∀y∈ns,bI w k y=false->np y=(un w k y:Int)
theorem B3(R:RI w ns k np rdy):rdy.length<=60/\(∀x∈rdy,x∈ns)/\(∀i x,rdy[i]? =some x->((rdy.take i).foldl (cF su) (bv np rdy (-1),[])).1 x= -1)/\(∀i,((rdy.take i).foldl (cF su) (bv np rdy (-1),[])).2.length<=1000)/\
 RI w ns (k+1) (rdy.foldl (cF su) (bv np rdy (-1),[])).1 (rdy.foldl (cF su) (bv np rdy (-1),[])).2:=by
 have hin:∀x∈rdy,x∈ns:=λx hx=>((R.mem x).mp hx).1;have later:∀{x y},x∈rdy->y∈su x->bI w (k+1) y=false:=by
  intro x y hx hy;induction q:bI w (k+1) y with
  |false=>rfl
  |true=>rw[aE,cR]at q;have:=aE.mpr (q x (W.mem.mp hy));rw[((R.mem x).mp hx).2.2]at this;cases this
 have notyet:∀{y},bI w (k+1) y=false->bI w k y=false:=by
  intro y h;induction q:bI w k y with
  |false=>rfl
  |true=>exact IE ((gR q)▸h)
 have hflat:∀{N:List Str} {y:Str},y∈N.flatMap su->(∀x∈N,x∈rdy)->∃x∈rdy,y∈su x:=by intro N y h hs;exact ae (RG.mp h) λx h1 h2=>⟨x,hs x h1,h2⟩
 have hout:∀{N:List Str},(∀x∈N,x∈rdy)->∀{x},x∈rdy->x∉N.flatMap su:=by intro N hs x hx q;refine ae (hflat q hs) λz z1 z2=>?_;have:=later z1 z2;rw[((R.mem x).mp hx).2.1]at this;cases this
 have TZ:∀{y},y∉rdy->bv np rdy (-1) y=np y:=λh=>by exact aa (kC _ _ _) (aa (if_neg h) rfl)
 have hle:∀{N:List Str},N.Nodup->(∀x∈N,x∈rdy)->∀y∈N.flatMap su,(cn y (N.flatMap su):Int)<=bv np rdy (-1) y:=by
  intro N nd hs y hy;refine ae (hflat hy hs) λz z1 z2=>aa (TZ (λq=>hout hs q hy:y∉rdy)) (aa (R.np y (W.cl y z (W.mem.mp z2)).2 (notyet (later z1 z2))) (aa (W.flat y nd) ?_));have:((w y).filter λc=>decide (c∈N)).length<=un w k y:=by
   unfold un;refine(lJ λc Z h=>?_).1;have:=(R.mem c).mp (hs c (of_decide_eq_true h));exact aa this.2.2 rfl
  exact JY.mpr this
 have hun:∀y,un w k y=((w y).filter λc=>decide (c∈rdy)).length+un w (k+1) y:=λy=>by
  unfold un;refine split_len (w y) λc hc=>?_;induction q1:bI w k c with
  |true=>exact aa (gR q1) (aa (decide_eq_false λq=>by have:=((R.mem c).mp q).2.2;exact IE (q1▸this)) ⟨rfl,rfl⟩)
  |false=>
   induction q2:bI w (k+1) c with
   |true=>exact aa (decide_eq_true ((R.mem c).mpr ⟨((W.cl y c hc).1),q2,q1⟩)) ⟨rfl,rfl⟩
   |false=>exact aa (decide_eq_false λq=>by have:=((R.mem c).mp q).2.1;exact ER q2 this) ⟨rfl,rfl⟩
 have hfin:=λ(i:Nat)=>n8 (rdy.take i) (bv np rdy (-1)) [] (λx hx=>hout (λz hz=>Li hz) (Li hx)) (R.nd.sublist (OT ..)) (hle (R.nd.sublist (OT ..)) λz hz=>Li hz);refine am (n8 rdy (bv np rdy (-1)) [] (λx hx=>hout (λz hz=>hz) hx) R.nd (hle R.nd λz hz=>hz)) λa1 a2 a3=>⟨Iu (dy R.nd hin) W.few,hin,λi x hx=>?_,λi=>?_,a3 J_ (λy h=>(IA h).elim),λy=>?_,λy hy hny=>?_⟩
 . rw[(hfin i).1];have hxr:=JP hx;have hnt:x∉rdy.take i:=by
    intro q;have nd:=R.nd;rw[<-NQ i rdy]at nd;exact(Mz.mp nd).2.2 x q x (JP (aa Oy (aa (Nat.add_zero _) hx))) rfl
   refine aa (if_neg hnt) (aa (eK (hout (λz hz=>Li hz) hxr)) (aa (kC _ _ _) (aa (if_pos hxr) ?_)));rfl
 . have nd:=(hfin i).2.2 J_ λy h=>(IA h).elim;have:=dy nd λy hy=>by
    rcases((hfin i).2.1 y).mp hy with q|q
    . cases q
    . exact ae (RG.mp q.1) λx x1 x2=>(W.cl y x (W.mem.mp x2)).2
   exact Iu this (Iu W.few (Iv rfl))
 . rw[a2]
   constructor
   . rintro(h|⟨h1,h2⟩)
     . cases h
     . refine ae (hflat h1 λz hz=>hz) λx x1 x2=>?_;have hl:=later x1 x2;have hyn:=(W.cl y x (W.mem.mp x2)).2;rw[TZ (λq=>hout (λz hz=>hz) q h1:y∉rdy),R.np y hyn (notyet hl),W.flat y R.nd]at h2;refine⟨hyn,gh.mp ?_,hl⟩;exact L1 ((hun y).symm.trans (QF.mp h2))
   . intro SB;refine am SB λh1 h2 h3=>?_
     right
     have hyr:y∉rdy:=λq=>by
      have:=((R.mem y).mp q).2.1;exact ER h3 this
     have e:=hun y;have e0:=gh.mpr h2;have hne:un w k y≠0:=λq=>by
      have:=gh.mp q;exact ER h3 this
     refine aa (W.flat y R.nd) (aa (TZ hyr) (aa (R.np y h1 (notyet h3)) ?_));refine⟨?_,aa e (aa e0 rfl)⟩;refine an (propext dz) (aa (W.flat y R.nd) ?_);rw[e,e0]at hne;exact Q0 hne
 . have hyr:y∉rdy:=λq=>by
    have:=((R.mem y).mp q).2.1;exact ER hny this
   rw[a1,if_neg hyr,TZ hyr,R.np y hy (notyet hny),W.flat y R.nd];exact Lv.mpr (congrArg (Nat.cast:Nat->Int) (hun y))
end
theorem xT(w)(x)(t):∀k,aA w t x<=aA w (t+k) x:=by
 intro Sl;induction Sl with
 |zero=>exact IC _
 |succ k Sk=>exact Iu (Sk) (jk (t+k) x)
theorem GC(hj:j<n)(x):aA w n x=j↔bI w (j+1) x=true/\bI w j x=false:=by
 refine af (Nm (show j+1<=n by assumption)) λd hd=>?_;have ed:n=j+(d+1):=hd.trans (Jb j 1 d)
 constructor
 . intro h
   constructor
   . refine aa (propext aE) ?_;have:=xT w x (j+1) d;rw[<-hd]at this;exact LQ (h▸this)
   . induction q:bI w j x with
     |false=>rfl
     |true=>rw[aE]at q;have:=f7 q (d+1);rw[<-ed]at this;exact absurd q (by refine an this (aa h ?_);exact Ke _)
 . intro SB;refine ad SB λh1 h2=>?_;rw[aE]at h1;have h3:¬aA w j x<j:=λq=>by
    exact IE ((aE.mpr q)▸h2)
   have e:=f7 h1 d;rw[<-hd]at e;exact e.trans (LO (KY h1) (Iu (RK h3) (jk j x)))
section
variable {ns D:List Str}(W:GW su w ns)(nD:D.Nodup)(hD:∀x,x∈D↔x∈ns)
include W nD hD
omit nD in
theorem Hs:∀x∈D,∀c∈w x,c∈D:=λx Z c hc=>(hD c).mpr (W.cl x c hc).1
theorem qE:∀(m k) {np} {rdy},k+m=D.length->RI w ns k np rdy->cG su ns m np rdy (((OS k m).map λj:Nat=>bx (D.filter λx=>decide ((aA w D.length x:Int)=(j)))).filter λl=>!l.isEmpty):=by
 intro m;induction m with
 |zero=>intro k np rdy hk R;rw[(L6.mpr λx hx=>am ((R.mem x).mp hx) λh1 h2 h3=>IE ((rK (Hs W hD) 1 x ((hD x).mpr h1) ((show k=D.length from hk)▸h2)).symm.trans ((show k=D.length from hk)▸h3)):rdy=[])];exact cS.nil
 |succ m ih=>
  intro k np rdy hk R;have hkn:k<D.length:=hk▸Ks (NG m);have hperm:∀j,j<D.length->∀x,x∈D.filter (λx=>decide ((aA w D.length x:Int)=(j:Int)))↔x∈ns/\bI w (j+1) x=true/\bI w j x=false:=by
   intro j hj x;rw[JX,hD,<-GC hj];exact⟨λh=>⟨h.1,by have:=of_decide_eq_true h.2;exact QF.mp this⟩,λh=>⟨h.1,decide_eq_true (by exact aa h.2 rfl)⟩⟩
  refine aa NV (aa JA (aa JB ?_));induction rdy with
  |nil=>
   refine Eq.mpr (congrArg (cG su ns (m+1) np []) ?_) cS.nil;have hst:=wt (w:=w) (ns:=D) (Hs W hD) (t:=k) λx hx h=>by
    induction q:bI w k x with
    |true=>rfl
    |false=>exact absurd ((R.mem x).mpr ⟨(hD x).mp hx,h,q⟩) (λh=>(IA h).elim)
   have hemp:∀j,k<=j->j<D.length->D.filter (λx=>decide ((aA w D.length x:Int)=(j:Int)))=[]:=by
    intro j hj1 hj2;refine L6.mpr λx hx=>am ((hperm j hj2 x).mp hx) λh1 h2 h3=>af (Nm hj1) λd Sq=>?_;clear hj1 hj2;subst Sq;have up:∀d,bI w (k+d) x=true:=λd=>by
     induction d with
     |zero=>exact(hst (d+1) x ((hD x).mpr h1) h2)
     |succ d ih=>exact gR ih
    exact IE ((up d)▸h3)
   refine aa (hemp k (IC _) hkn) (?_:(((OS (k+1) m).map _).filter _)=[]);refine NA.mpr λl hl=>ae (IU.mp hl) λj hj Sn=>an Sn ?_;have:=List.mem_range'_1.mp hj;exact aa (hemp j (KZ this.1) (Nb this.2 ((Jb k 1 m).trans hk))) KM
  |cons y r=>
   refine iH (B3 W R) λr1 r2 r3 r4 r5=>?_;have hs:bx (D.filter λx=>decide ((aA w D.length x:Int)=(k:Int)))=bx (y::r):=by
    refine m5 ((List.perm_ext_iff_of_nodup (nD.sublist Qx) R.nd).mpr λx=>?_);rw[hperm k hkn,R.mem]
   have hne:(!(bx (y::r)).isEmpty)=true:=by
    induction q:bx (y::r)with
    |nil=>have:=(cA (y::r)).length_eq;rw[q]at this;cases this
    |cons a b=>rfl
   rw[hs,hne];exact cS.cons (Jx y r) r1 r2 r3 r4 (ih (k+1) ((Jb k 1 m).trans hk) r5)
theorem xU:(mx (D.map (aA w D.length))<D.length↔¬im su ns)\/D=[]:=by
 by_cases hn:D=[]
 . exact .inr hn
 left
 have hpos:0<D.length:=QA.mpr hn
 constructor
 . intro h SB;obtain⟨P,⟨x,p1⟩,p2,p3⟩:=SB;have:=hV (w:=w) (P:=P) (λy hy=>by
    exact ae (p3 y hy) λc c1 c2=>⟨c,W.mem.mp c2,c1⟩) D.length x p1
   have hx:=kh (l:=D.map (aA w D.length)) (IU.mpr ⟨x,(hD x).mpr (p2 x p1),rfl⟩);rw[aE.mpr (by exact I8 hx h)]at this;cases this
 . intro h;rcases Nat.lt_or_ge (mx (D.map (aA w D.length))) D.length with q|q
   . exact q
   . exfalso
     rcases qg (l:=D.map (aA w D.length))with e|e
     . exact absurd (e▸q) (Kj hpos)
     . refine ae (IU.mp e) λy y1 y2=>h ⟨λz=>z∈ns/\bI w D.length z=false,⟨y,(hD y).mp y1,?_⟩,λz hz=>hz.1,λz hz=>?_⟩
       . induction q':bI w D.length y with
         |false=>rfl
         |true=>exact absurd (y2▸aE.mp q') (L7 q)
       . have hz:z∈ns/\bI w D.length z=false:=hz;have:bI w (D.length+1) z=false:=by
          induction q':bI w (D.length+1) z with
          |false=>rfl
          |true=>have h2:=hz.2;exact IE ((rK (Hs W hD) 1 z ((hD z).mpr hz.1) q')▸h2)
         have hex:∃c∈w z,bI w D.length c=false:=by
          have hu:un w D.length z≠0:=λq=>by exact IE ((gh.mp q)▸this)
          unfold un at hu;refine af (List.exists_mem_of_length_pos (Q0 hu)) λc hc=>ad (JX.mp hc) λc1 c2=>⟨c,c1,?_⟩
          induction q':bI w D.length c with
          |false=>rfl
          |true=>exact IE (q'▸c2)
         exact ae hex λc c1 c2=>⟨c,⟨(W.cl z c c1).1,c2⟩,W.mem.mpr c1⟩
end
theorem xV(k):fF k∈[fF 0,fF 1,fF 2,fF 3,fF 4]:=cq k (.head _) (.tail _ (.head _)) (.tail _ (.tail _ (.head _))) (.tail _ (.tail _ (.tail _ (.head _)))) λZ=>.tail _ (.tail _ (.tail _ (.tail _ (.head _))))
theorem B4(h:∀x,(s.1.su x).length<=m)(x):((Ex s r).1.su x).length<=m+1:=by
 have he:∀{g:G} {m:Nat} (y:Str),(∀x,(g.su x).length<=m)->∀x,((g.ens y).su x).length<=m:=by
  intro g m y h x;unfold G.ens;induction decide (y∈g.ns)with
  |true=>exact h x
  |false=>
   refine(?_:(bD g.su y [] x).length<=m);refine aa (bo _ _ _ _) ?_;by_cases e:y=x
   . exact aa (if_pos e) (JG _)
   . exact aa (if_neg e) (h x)
 unfold Ex;dsimp only;induction (s.2.take (r.2-1).toNat).getLast? with
 |none=>exact I3 (he r.1 h x)
 |some q=>
  have h2:=he (g:=(s.1.ens q).inc q 1) r.1 (he q h);refine(?_:(bD (((s.1.ens q).inc q 1).ens r.1).su r.1 ((((s.1.ens q).inc q 1).ens r.1).su r.1++[q]) x).length<=m+1);refine aa (bo _ _ _ _) ?_;by_cases e:r.1=x
  . refine aa (if_pos e) (aa IB (aa J5 ?_));exact IS (h2 _)
  . exact aa (if_neg e) (I3 (h2 x))
theorem B5{rows}:∀i,i<=rows.length->∀x,((io rows i).1.su x).length<=i:=by
 intro Sl;induction Sl with
 |zero=>intro Z x;exact IC _
 |succ i Sk=>intro hi x;refine aa (gc (IM (show i<rows.length by assumption))) ?_;exact B4 (Sk (Js (by assumption))) x
section
variable (hok:l_ (-1) gs)(hl:gs.length<=50)
include hok hl
theorem xW(i):E0 (io (aw gs) i).1:=by
 have main:∀i,i<=gs.length->E0 (io (aw gs) i).1:=λi hi=>by
  have I:=qD hok i hi;refine⟨?_,I.nd,λx=>?_⟩
  . have:=dy I.nd λx hx=>by
     exact ae (IU.mp ((I.ns x).mp hx)) λg Z e=>an e (xV g.1)
    exact Iu this (by decide)
  . have:=B5 (rows:=aw gs) i (by unfold aw;exact aa (Iz _) hi) x;exact Iu this (Iu hi (Iu hl (Iv rfl)))
 rcases PC i gs.length with h|h
 . exact main i h
 . have e:io (aw gs) i=io (aw gs) gs.length:=by
    have hr:(aw gs).length=gs.length:=by unfold aw;exact aa (Iz _) rfl
    unfold io;exact aa (Ju (le_of_eq_of_le hr h)) (aa (Ju (I2 hr)) rfl)
   exact aa e (main _ (IC _))
omit hl in
theorem gj:GW (gE (aw gs)).su (wG gs) (gE (aw gs)).ns/\(∀y,(gE (aw gs)).np y=((wG gs y).length:Int))/\∀x,x∈a9 gs↔x∈(gE (aw gs)).ns:=by
 unfold gE;refine aa (by unfold aw;exact aa (Iz _) rfl:(aw gs).length=gs.length) ?_;have I:=qD hok gs.length (IC _);have hx:∀x,x∈a9 gs↔x∈(io (aw gs) gs.length).1.ns:=λx=>by rw[cT,I.ns,Ka]
 refine⟨⟨I.su,I.wi,I.nd,?_⟩,I.np,hx⟩;have:=dy I.nd λx hx=>by
  exact ae (IU.mp ((I.ns x).mp hx)) λg Z e=>an e (xV g.1)
 exact Iu this (by decide)
omit hl in
theorem l9:cG (gE (aw gs)).su (gE (aw gs)).ns (a9 gs).length (gE (aw gs)).np (bn (gE (aw gs)).np (gE (aw gs)).ns) (tZ gs):=by
 refine am (gj hok) λW hnp hx=>?_;have R:RI (wG gs) (gE (aw gs)).ns 0 (gE (aw gs)).np (bn (gE (aw gs)).np (gE (aw gs)).ns):=by
  have h0:∀y,bI (wG gs) 0 y=false:=λy=>by
   induction q:bI (wG gs) 0 y with
   |false=>rfl
   |true=>rw[aE]at q;exact absurd q (Lm _)
  have hu:∀y,un (wG gs) 0 y=(wG gs y).length:=λy=>by
   unfold un;exact aa (Qw.mpr λc Z=>by exact aa (h0 _) rfl) rfl
  refine⟨?_,λy=>?_,λy Z Z=>aa (hnp _) (aa (hu _) rfl)⟩
  . exact((List.reverse_perm _).nodup_iff.mpr W.nd).sublist Qx
  . unfold bn;refine aa (propext JX) (aa (propext NU) (aa (h0 _) (aa (hnp _) (an (propext (gh)) (aa (hu _) ?_)))));exact⟨λh=>⟨h.1,by have:=of_decide_eq_true h.2;exact OO.mp this,rfl⟩,λh=>⟨h.1,decide_eq_true (OO.mpr h.2.1)⟩⟩
 have:=qE W (iF gs) hx (a9 gs).length 0 (JI _) R;unfold tZ CD;exact aa List.range_eq_range' this
omit hl in
theorem qF(hne:gs≠[])(b)(hb:b=true↔¬im (gE (aw gs)).su (gE (aw gs)).ns):b=xL gs:=by
 refine am (gj hok) λW hnp hx=>?_;rcases xU W (iF gs) hx with h|h
 . unfold xL;induction TG:b with
   |true=>have:=h.mpr (hb.mp TG);exact(decide_eq_true (KJ.mpr this)).symm
   |false=>refine(decide_eq_false λq=>?_).symm;have:b=true:=hb.mpr (h.mp (KJ.mp q));exact ER TG this
 . exfalso
   induction gs with
   |nil=>exact hne rfl
   |cons g r=>exact List.ne_nil_of_mem ((cT (g::r) (bE g)).mpr (.head _)) h
omit hl in
theorem xX(i)(g)(hg:gs[i]? =some g)(hd:0<g.2.1):qx gs i g.2.1≠[]:=by
 have hil:i<gs.length:=(Jm.mp hg).1;have I:=qD hok i (by exact Js (by assumption));have ed:gs.drop i=g::gs.drop (i+1):=by
  refine aa (Kf hil) ?_
  congr 1
  rw[IM hil]at hg;exact Iw hg
 have h:=I.ok;rw[ed]at h;refine cL h λo1 o2 o3 o4=>?_;obtain⟨d,Sz⟩:∃d:Nat,g.2.1=(d:Int)+1:=⟨(g.2.1-1).toNat,(congrArg (· +1) (KC (KQ hd:0<=g.2.1-1))).symm▸(LF g.2.1 1).symm⟩
 rw[Sz,LF]at o3;have o6:=KJ.mp (Int.lt_of_add_one_le o3);have hp:=I.path d o6;rw[IM o6]at hp;intro q;unfold qx at q;rw[show g.2.1-1=(d:Int) by exact Int.sub_eq_iff_eq_add.mpr Sz]at q;rw[q]at hp;cases hp
omit hl in
theorem xY:∀x∈a9 gs,∀y∈wG gs x,y∈a9 gs:=am (gj hok) λW Z hx=>λx Z y hy=>(hx y).mpr (W.cl x y hy).1
omit hl in
theorem xZ:∀x∈(gE (aw gs)).ns,∀y∈(gE (aw gs)).su x,y∈(gE (aw gs)).ns:=am (gj hok) λW Z Z=>λx Z y hy=>(W.cl y x (W.mem.mp hy)).2
omit hok in
theorem B6:(tZ gs).length<=1000:=by have a:=Kp (λl:List Str=>!l.isEmpty) ((JV (a9 gs).length).map (CD gs));rw[Iz,Kb]at a;have b:=dy (iF gs) λx hx=>(cT gs x).mp hx;rw[Iz]at b;exact Iu a (Iu b (Iu hl (Iv rfl)))
end
theorem GD(script):l_ (-1) (sf script)/\(sf script).length<=50/\sf script≠[]:=by refine ad (sg script) λh1 h2=>?_;have e:(sf script).length=(jE script).length:=xM _ _;refine⟨Ga _ (L_ (-1)),e▸Iu h2 (Iv rfl),λq=>?_⟩;rw[q]at e;rw[<-e]at h1;exact absurd h1 (by decide)
theorem x0{script:List Int}(hs:script.length<=63){K:AV->Hp->Prop}{Xk:AX->Hp->Prop}(hK:∀H,K (.bool true) H):aQ PL 8 (.top 912) [.lst (script.map .int)] [] [] K Xk:=by
 with_reducible refine am (GD script) λhok hl hne=>ah (B0 (call:=aQ PL 7) hs ?_ ?_ ?_ hK)
 . intro pool hp K Xk h;exact pU 6 pool hp K Xk h
 . intro cut hcut start K Xk h;refine ah (xG (Ho 0) hl hne hok hcut (B6 hl) (xW hok hl) (xZ hok) (l9 hok) λb H hb h1 h3 SX hh=>?_);exact aa (qF hok hne b hb) (h H ⟨h1,h3,SX,hh⟩)
 . intro H tH cut hcut start K Xk h;exact ah (BR tH.g hl hne (xY hok) (λ{K Xk} hK=>ah (tU tH.g tH.high (Iu (by assumption) (Iv rfl)) (xX hok) hK)) hcut h)
noncomputable def Ht (v:IF):Option Int:=@Pf (λZ=>Option Int) v .none .none .none (λZ=>.none) (λi Z=>some i) (λZ Z=>.none) (λZ Z=>.none) (λZ Z=>.none) (λZ=>.none) (λZ=>.none) (λZ=>.none)
noncomputable def Hu (v:IF):Option Str:=@Pf (λZ=>Option Str) v .none .none .none (λZ=>.none) (λZ Z=>.none) (λZ Z=>.none) (λx Z=>some x) (λZ Z=>.none) (λZ=>.none) (λZ=>.none) (λZ=>.none)
noncomputable def CF (i:Int)(v:IF):Bool:=(Ht v).any λj=>decide (i=j)
theorem x7(h:CF i v=true)(W):VR W (.int i) v:=by
 cases v<;>first|exact IE h|skip
 exact aa (of_decide_eq_true h) .int
noncomputable def sh (a:AV)(v:IF):Bool:=@AV.casesOn (λZ=>Bool) a false (λZ=>false) (λi=>CF i v) (λZ=>false) (λZ=>false) (λZ=>false) (λZ=>false) (λZ=>false) (λZ=>false) (λZ=>false) (λZ=>false) false (λZ=>false) (λa=>decide (v=.ref a)) (λb=>decide (v=.builtin b.id)) (λt=>decide (v=.type t.id))
theorem jv(h:sh a v=true)(W):VR W a v:=by
 cases a<;>first|exact IE h|skip
 . exact x7 h W
 . exact aa (of_decide_eq_true h) .top
 . exact aa (of_decide_eq_true h) .bi
 . exact aa (of_decide_eq_true h) .ty
noncomputable def Hv (K:QS)(p:Str×AV):Bool:=(nsIn K Nt p.1).any λo=>o.any (sh p.2)
noncomputable def Hw (K:QS)(p:Str×AV):Bool:=(nsIn K Nt p.1).any (λo=>o.isNone)&&((bootBuiltins p.1).any (sh p.2)&& !aZ p.1 "__name__")
noncomputable def GE (K:QS)(c:Jn)(p:Str×AK):Bool:=match p.2 with|.own=>uz K c p.1|.fn f=>yK K c p.1 f|.prop f=>kT K c p.1 f
noncomputable def EN (K:QS)(a:Jn):Bool:=(K.lookup a).any λo=>!decide (o.cls=.type "tuple")
noncomputable def GF (x:Str)(v:IF):Bool:=(Hu v).any (aZ x)
noncomputable def CG (a:AV)(v:IF):Bool:=@AV.casesOn (λZ=>Bool) a ((decide (v=.none))) (λb=>decide (v=.bool b)) (λZ=>false) (λx=>GF x v) (λZ=>false) (λZ=>false) (λZ=>false) (λZ=>false) (λZ=>false) (λZ=>false) (λZ=>false) false (λZ=>false) (λZ=>false) (λZ=>false) (λZ=>false)
noncomputable def EO (a:AV)(v:IF):Bool:=sh a v||CG a v
noncomputable def iG:List AV->List IF->Bool
 |[],[]=>true
 |a::r,v::t=>EO a v&&iG r t
 |_,_=>false
noncomputable def x8 (d:Sj):Option N5:=@PA (λZ=>Option N5) d .none (λZ=>.none) (λZ Z=>.none) (λZ Z=>.none) (λZ Z Z=>.none) (λZ Z=>.none) (λZ=>.none) .some (λZ=>.none) (λZ=>.none) .none
noncomputable def EP (d:Sj):Option (Array IF):=@PA (λZ=>Option (Array IF)) d .none (λZ=>.none) (λxs Z=>.some xs) (λZ Z=>.none) (λZ Z Z=>.none) (λZ Z=>.none) (λZ=>.none) (λZ=>.none) (λZ=>.none) (λZ=>.none) .none
theorem x9:x8 d=some f->d=.func f:=@PA (λd=>x8 d=some f->d=.func f) d nn (λZ=>nn) (λZ Z=>nn) (λZ Z=>nn) (λZ Z Z=>nn) (λZ Z=>nn) (λZ=>nn) (λZ h=>congrArg _ (Iw h)) (λZ=>nn) (λZ=>nn) nn
theorem B7:(EP d).map Q4=some l->∃xs n,d=.seq xs n/\xs.toList=l:=@PA (λd=>(EP d).map Q4=some l->∃xs n,d=.seq xs n/\xs.toList=l) d nn (λZ=>nn) (λxs n h=>⟨xs,n,rfl,Iw h⟩) (λZ Z=>nn) (λZ Z Z=>nn) (λZ Z=>nn) (λZ=>nn) (λZ=>nn) (λZ=>nn) (λZ=>nn) nn
theorem B8:yJ v=some a->v=.ref a:=@Pf (λv=>yJ v=some a->v=.ref a) v nn nn nn (λZ=>nn) (λZ Z=>nn) (λZ Z=>nn) (λZ Z=>nn) (λZ Z=>nn) (λZ=>nn) (λZ=>nn) (λZ h=>congrArg _ (Iw h))
noncomputable def HT (K:QS)(a:Jn):Option N5:=(K.lookup a).bind λo=>x8 o.data
noncomputable def Hx (K:QS)(df:List AV)(v:IF):Bool:=@J6 AV (λZ=>Bool) df (decide (v=.none)) λZ Z=>(yJ v).any λT=>(K.lookup T).any λo=>((EP o.data).map Q4).any (iG df)
theorem x_(h:CG a v=true)(W):VR W a v:=by
 cases a<;>first|exact IE h|skip
 . exact aa (of_decide_eq_true h) .none
 . exact aa (of_decide_eq_true h) .bool
 . induction v<;>first|exact IE h|skip
   exact aa (aL.mp h) .str
theorem B9(h:EO a v=true)(W):VR W a v:=(Qo.mp h).elim (λh=>jv h W) λh=>x_ h W
theorem n9:∀{as} {vs},iG as vs=true->aF W as vs:=by
 intro Sl;induction Sl with
 |nil=>
  intro SK;cases SK with
  |nil=>intro Z;exact .nil
  |cons x93 x94=>intro h;cases h
 |cons a r SU=>
  intro TB;induction TB with
  |nil=>intro h;cases h
  |cons v t=>intro h;exact ad (IQ.mp (h:(EO a v&&iG r t)=true)) λh1 h2=>.cons (B9 h1 W) (SU h2)
section
variable {K:QS}
noncomputable def Io (prog:Ql)(w:World)(X:K.In h)(g:h.Ns Nt mg)(b:h.Ns MK mb)(lim:h.NoLimit):Cx:=⟨prog,w,h,K,X,mg,mb,g,b,lim,.ref 91⟩
set_option tactic.hygienic true in
theorem ya(h:vW .stop c=true):c=.ty .stop:=by
 cases c<;>first|exact IE h|skip
 rename_i n
 cases n<;>first|rfl|exact IE h
theorem B_(h:vW .cyc c=true):c=.top 91:=by
 cases c<;>first|exact IE h|skip
 exact an (IY h) rfl
theorem EQ(hc:C.cyc=.ref 91)(e1:exmOne C.K (.type "StopIteration") (.type "StopIteration")=some true)(e2:exmOne C.K (.ref 91) (.ref 91)=some true):ix C vW:=by
 intro x c W e oe cv A Q X h O he hcl hv q;have X:=C.X.keeps λb o z=>(O.old b o z).1;haveI LT:M2 C.M W.s.heap (Oh (.ref e)) oe.cls:=by
  exact(Oz he).andThen .now
 cases x with
 |stop=>obtain rfl:=ya h;rw[hv.ty'];rw[hcl]at LT;exact(exm_one X LT e1).here q
 |cyc=>obtain rfl:=B_ h;rw[hv.top'];rw[hcl,show ur C .cyc=C.cyc from rfl,hc]at LT;exact(exm_one X LT e2).here q
theorem GX(hc:C.cyc=.ref 91)(k_mg:gT.all (Hv C.K)=true)(k_bl:bT.all (Hw C.K)=true)(k_attr:cP.all (λq=>q.2.all (GE C.K q.1))=true)(k_slot:eS.all (λp=>iN C.K 76 p.1 p.2)=true)(TM:EN C.K 478=true)(TN:EN C.K 725=true)(k_keep:(cO.map (·.a)++dX.map (·.1)).all (λa=>keepIn C.K (.ref a))=true)(k_fn:(cO.map λr=>(HT C.K r.a).map λf=>(f.body,f.scope,f.params,f.closure,f.globals,f.builtins))=cO.map λr=>r.fd.map λF=>(FuncBody.stmts F.body,F.sc,F.ar,[],Nt,MK))(k_fok:(cO.all λr=>(HT C.K r.a).any λf=>(codeIn C.K f.code f.qualname&&Hx C.K r.df f.defaults)&&(!f.scope.isCoroutine&&(!f.scope.isGenerator&&fR f.scope)))=true)(TL:ClsAt C.K 76 72)(Tv:ClsAt C.K 173 109)(S7:hQ C.K ⟨C.prog,C.w.params⟩ 725 218 495)(Tw:ClsAt C.K 860 784)(k_pat:∃o b t0 t1 t2 t6 T o' vs n,C.K.lookup 49=some o/\o.data=.fields #[.bytes b t0,.int 0 t1,.int 0 t2,.none,.none,.ref T,.int 1 t6]/\o.cls=.type "re.Pattern"/\o.dict=none/\C.K.lookup T=some o'/\o'.cls=.type "tuple"/\o'.data=.seq vs n/\vs.map QR=qc.map λn:Nat=>(n:Int))(k_cyc:∃nm q N bs hdct sn sub ab col dd k0 k1 k2 k3 k5,C.K.lookup 91=some (R2 nm q 91 N bs [.type "ValueError",.type "Exception",.type "BaseException",.type "object"] hdct sn sub ab col dd k0 k1 k2 k3 k5 "ValueError.__new__")/\nsOkIn C.K N=true/\nsIn C.K N "__init__"=some none)(Ut:exmOne C.K (.type "StopIteration") (.type "StopIteration")=some true)(Uu:exmOne C.K (.ref 91) (.ref 91)=some true)(hb:∀x:Str,x≠"__name__"->C.mb x=bootBuiltins x):nF C where
 pat:=by
  refine yi k_pat λo b t0 t1 t2 t6 Sm=>G4 Sm λT o' vs n h1 h2 h3 h4 h5 h6 h7 h8=>?_;clear Sm;exact⟨T,o,⟨⟨o,b,t0,t1,t2,t6,C.X _ _ h1,h2⟩,o',vs,n,C.X _ _ h5,h6,h7,h8⟩,C.X _ _ h1,h3,h4⟩
 sio:=S7
 fn:=λr hr F hF=>by
  refine ae (MJ (Jj.mp k_fok r hr)) λfd k1 k2=>?_;have e:=List.map_inj_left.mp k_fn r hr;rw[k1,hF]at e;haveI e:=Iw e;refine ag k1 λo l1 l2=>bc k2 λg1 g2=>bc g1 λTl S0=>bc g2 λUe g3=>bc g3 λUf h13=>?_;haveI h5:fd.scope=F.sc:=congrArg (·.2.1) e;refine⟨fd,⟨⟨⟨o,l1,x9 l2⟩,congrArg (·.1) e,Mw _▸h5▸Ue,Mw _▸h5▸Uf,congrArg (·.2.2.2.1) e,congrArg (·.2.2.2.2.1) e,congrArg (·.2.2.2.2.2) e,codeRec_of C.X Tl,h5▸h13⟩,h5,congrArg (·.2.2.1) e,?_⟩⟩;cases hd:r.df with
  |nil=>haveI S0:=hd▸S0;exact of_decide_eq_true S0
  |cons a l=>rw[hd]at S0;exact ae (MJ S0) λT q1 S0=>ae (MJ S0) λo q2 S0=>ae (MJ S0) λxs q3 S0=>be (B7 q3) λys n q3 q4=>⟨T,o,ys,n,B8 q1,C.X _ _ q2,q3,λW=>n9 (q4▸S0)⟩
 glob:=λq hq=>by
  have:=Jj.mp k_mg q hq;refine ae (MJ this) λo h1 h2=>ae (MJ h2) λv h3 h4=>?_;subst h3;exact⟨v,mg_of C.X C.g h1,jv h4⟩
 blt:=λq hq=>by
  refine ad (IQ.mp (Jj.mp k_bl q hq)) λh1 h2=>ad (IQ.mp h2) λh2 h3=>ae (MJ h1) λo h4 h5=>?_;obtain rfl:=OM.mp h5;refine ae (MJ h2) λv h6 h7=>⟨v,mg_none_of C.X C.g h4,?_,jv h7⟩
  exact aa (hb _ λe=>by rw[e,az]at h3;cases h3) h6
 attr:=λq hq r hr=>by
  have:=Jj.mp (Jj.mp k_attr q hq) r hr;unfold GE at this;induction hk:r.2<;>rw[hk]at this<;>exact this
 slot:=λq hq=>Jj.mp k_slot q hq
 nt:=λa ha=>by
  haveI main:∀a,EN C.K a=true->∃o,C.K.lookup a=some o/\o.cls≠.type "tuple":=λa h=>by
   exact ae (MJ h) λo h1 h2=>⟨o,h1,λe=>IE ((decide_eq_true e)▸h2)⟩
  rcases ha with rfl|rfl
  . exact main _ TM
  . exact main _ TN
 keep:=λa ha=>by
  haveI:=Jj.mp k_keep;refine this a (t_ ha (λq=>?_) λq=>?_)
  . refine af (LY.mp q) λr hr=>?_
    (haveI h1:=(lD hr).1;haveI h2:=(lD hr).2)
    exact Kv _ (IU.mpr ⟨r,h1,h2⟩)
  . exact af (LY.mp q) λr hr=>JT _ (IU.mpr ⟨_,lC hr,rfl⟩)
 cls:=λq hq=>by
  haveI hq:q∈[((76:Nat),CK.slots 72),(173,.inst 109),(725,.new 218 495),(860,.inst 784)]:=hq;simp only[IJ,IA,or_false]at hq;rcases hq with rfl|rfl|rfl|rfl
  . exact TL
  . exact Tv
  . exact S7
  . exact Tw
 cyc:=by
  refine yi k_cyc λnm q N bs hdct sn Sm=>yi Sm λsub ab col dd k0 k1 Sr=>CJ Sr λk2 k3 k5 h1 h2 h3=>?_;exact⟨hc,.mk (C.X _ _ h1) (.of_isNs (isNs_of_in C.X h2)) (nsMap_none_of_in C.X h2 h3) F.excBase_ValueError⟩
 cat:=EQ hc Ut Uu
end
theorem Ip:∃F,bX "law"=some F:=⟨_,rfl⟩
theorem Ca{ns:List Int}(h:ns.length<=63){F:FD}(hF:bX "law"=some F):∃m,(bL (TT PL (aQ PL 7)) m).exs ⟨F.sc,true,true⟩ (λZ Z=>False) F.body (([("script",.lst (ns.map .int))]:Lo),([]:Hp)) λf Z=>f.val=.bool true:=by
 haveI r:=ke (x0 h (K:=λa Z=>a=.bool true) (Xk:=λZ Z=>False) λH=>rfl);haveI r:(match ye cO 912 with
  |some r=>(match r.fd with|some F=>j_ PL (aQ PL 7) r F [.lst (ns.map .int)] [] [] (λa Z=>a=.bool true) (λZ Z=>False)|.none=>False)
  |.none=>match jC dX 912 with
   |some ck=>gP (aQ PL 7) 912 ck [.lst (ns.map .int)] [] [] (λa Z=>a=.bool true) (λZ Z=>False)
   |.none=>False):=r
 rw[(rfl:ye cO 912=some ⟨912,bX "law",.plain,[]⟩)]at r;haveI r:(match bX "law" with|some F=>j_ PL (aQ PL 7) ⟨912,bX "law",.plain,[]⟩ F [.lst (ns.map .int)] [] [] (λa Z=>a=.bool true) (λZ Z=>False)|.none=>False):=r;rw[hF]at r;haveI r:=r;refine cw r λab h1 r=>?_
 (haveI r:=(ao r).2)
 refine af r λm r=>?_;haveI hab:ab=([("script",.lst (ns.map .int))]:Lo):=by
  haveI e2:namesOf F.ar=([("script":Str)]):=by haveI:(bX "law").map (λF=>namesOf F.ar)=some ([("script":Str)]):=rfl;rw[hF]at this;exact Iw this
  have h1:vT (namesOf F.ar) [.lst (ns.map .int)]=some ab:=h1;rw[e2]at h1;exact(Iw h1).symm
 haveI r:=hab▸r;exact⟨m,r⟩
theorem qG(hF:bX "law"=some F)(x):(x,Mn)∉F.sc.names:=by
 haveI h:(bX "law").map (λF=>F.sc.names.all λp=>match p.2 with|.cell=>false|_=>true)=some true:=rfl;haveI h:=hF▸h;have h:=Jj.mp (Iw h);intro q;haveI:=h _ q;cases this
theorem kD(hF:bX "law"=some F):fR F.sc=true:=by
 haveI h:(bX "law").map (λF=>fR F.sc)=some true:=by kernel_rfl
 haveI h:=hF▸h;exact Iw h
theorem Cb:∀{vs} {ns},IntsAre vs ns->aF W (ns.map .int) vs:=by
 intro vs ns h;induction h with
 |nil=>exact .nil
 |cons n t h ih=>exact .cons .int ih
theorem GY(G:nF C)(hF:bX "law"=some F)
 (F0:Fr C.base C.base.objs.size s.heap m) (hm:m "script"=some (.ref l)) (hL:C.base.get? l=some {cls:=.type "list",data:=.seq vs.toArray n}) (hI:IntsAre vs ns) (hl:ns.length<=63) (tk:1<=s.toks)
 {Q:R8->IP->Prop} {X:IF->IP->Prop} (k:∀s',(∀b o,C.base.get? b=some o->s'.heap.get? b=some o)->s'.os=s.os->s'.gens=s.gens->Q (.ret (.bool true)) s'):ID C.M (callerA.deeper (envOf nm F.sc C.base.objs.size fa cd)) (execs F.body (envOf nm F.sc C.base.objs.size fa cd)) Q X s:=by
 refine af (Ca hl hF) λm0 run=>?_
 let W:Wd:=⟨s,λk=>k,λa=>∃o,C.base.get? a=some o,[],⟨C.base.objs.size,[],[],[]⟩,[("script",.lst (ns.map .int))]⟩
 have own:∀a,W.own a->a=C.base.objs.size:=λa h=>by
  rcases h with h|h|h
  . exact h
  . cases h
  . cases h
 haveI O:Ok C W:=by
  refine⟨J_,λk k' o o' h=>((IA h).elim),λk o h=>((IA h).elim),λk o h=>((IA h).elim),λa q8=>af q8 λo e=>⟨o,F0.keep a o e⟩,λa h q=>(λq8=>af q8 λo e=>absurd (Jz e) (Ke _):¬∃o,C.base.get? C.base.objs.size=some o) (own a h▸q),⟨m,F0.ns,λx a h=>?_⟩,λf h=>((IA h).elim),λx c h=>((IA h).elim),.nil,λx c h=>((IA h).elim),λa o e=>⟨F0.keep a o e,o,e⟩,tk,IC _⟩;have h:(match aZ "script" x with|true=>some (AV.lst (ns.map .int))|false=>none)=some a:=h;cases q:aZ "script" x with
  |false=>exact nn (q▸h)
  |true=>rw[q]at h;replace h:=Iw h;refine an h ((aL.mp q)▸?_);haveI hv:=Cb (W:=W) hI;exact⟨.ref l,.lst ⟨_,hL⟩ ⟨n,F0.keep _ _ hL⟩ hv.1 hv.2,hm⟩
 (haveI N:=(k_ (kD hF)).1;haveI nf:=(k_ (kD hF)).2)
 haveI V:bP ⟨F.sc,true,true⟩ W (envOf nm F.sc C.base.objs.size fa cd):=by
  refine⟨N.kind,rfl,rfl,rfl,rfl,λx=>?_⟩;refine(?_:kN (lk F.sc.names x) (P6 x F.sc.names) _ x);refine aa (aM _ _) ?_;induction q:lk F.sc.names x with
  |none=>exact trivial
  |some kk=>
   rcases N.all x kk (aB q)with rfl|rfl|rfl|rfl
   . exact⟨rfl,rfl⟩
   . exact absurd (aB q) (qG hF x)
   . exact absurd (aB q) (nf x)
   . exact rfl
 refine(jZ (ry PL G (n:=15) (by decide) (v1 G PL 7)) (rz PL G) m0).exs O ⟨V,⟨show callerA.depth+1+16<recursionLimit by decide +kernel,show callerA.units+3+640<cLine by decide +kernel⟩,λZ=>rfl,λZ=>⟨[],rfl,rfl,.nil⟩,λx s h=>h.elim⟩ run λfl st h=>?_;intro f W' l' O' hf e;induction fl with
 |ret a=>refine ae hf λv Sn hv=>?_;clear hf;refine aa Sn ?_;haveI h:a=.bool true:=h;subst h;exact(hv.bool').symm▸(k _ (λb o z=>(O'.old b o z).1) l'.os l'.gens)
 |next=>exact nn (congrArg AV.bool? h)
 |brk=>exact nn (congrArg AV.bool? h)
 |cont=>exact nn (congrArg AV.bool? h)
theorem E4{P:Params}{h:Mk}{l:Jn}{vs:List IF}{ns:List Int}(w:Well P h (.ref l) (ofPy (.list (ns.map .int))))(hL:h.IsList l vs.toArray):h.get? l=some {cls:=.type "list",data:=.seq vs.toArray}:=by
 refine ae hL λo e r=>?_;cases w with
 |list h1 h2=>rw[h1]at e;obtain rfl:=Iw e;refine ad r λZ Sm=>af Sm λn hd=>?_;exact aa h1 (aa ((Sj.seq.inj (hd:Sj.seq _ _=Sj.seq vs.toArray n)).1) rfl)
end Internal
set_option tactic.hygienic true
set_option Elab.async true
set_option maxHeartbeats 8000000
namespace Internal
namespace main
def tw121880198291394698:=Nat
def tw2424418244643664187:=Nat
def tw6938497375217908519:=Nat
def tw6681311919945906152:=Nat
def tw14327965031917969824:=Nat
def tw3297311516338571198:=Nat
def tw8521999732975593318:=Nat
def tw2785026954080230250:=Nat
def tw15439315267497711154:=Nat
def tw8128439729999096315:=Nat
def tw3099775193988677826:=Nat
def tw4189939894702742965:=Nat
def tw105468199226678997:=Nat
def tw474386426842891362:=Nat
def tw14888781170093566683:=Nat
def tw10149762792230529247:=Nat
def tw4337651237405928678:=Nat
def tw14084572649791645258:=Nat
def tw13728700395068875070:=Nat
def tw5775862236473536062:=Nat
def tw10659567966785629535:=Nat
def tw6742722510870848263:=Nat
def tw11567657893415456421:=Nat
def tw2126239820079964618:=Nat
def tw3652009894455122330:=Nat
def tw2310034112276729464:=Nat
def tw4642225989479366777:=Nat
def tw2461169654161419841:=Nat
def tw4790283356663737253:=Nat
def tw4137394546740479814:=Nat
def tw6678639180504306718:=Nat
def tw10779145180655153753:=Nat
def tw11903119353257984781:=Nat
def tw3357660093860304742:=Nat
def tw17729763542940993420:=Nat
def tw10894026389638565727:=Nat
def tw7428567790440387930:=Nat
def tw6559343930930674747:=Nat
def tw5431419511120006074:=Nat
def tw5241962777505078741:=Nat
def tw7611897120728503645:=Nat
def tw6909441097504580003:=Nat
def tw9239113993969157333:=Nat
def tw1847671831817087954:=Nat
def tw17832843466813740618:=Nat
def tw1698349806033059951:=Nat
def tw1554918996760570835:=Nat
def tw14803819515172281640:=Nat
def tw6681606921133969587:=Nat
def tw11138873179361333079:=Nat
def tw1655820306656132592:=Nat
def tw833575528504160951:=Nat
def tw15605347439138645940:=Nat
def tw12233208376403274875:=Nat
def tw2948116684604100468:=Nat
def tw8311776202247108675:=Nat
def tw12136693429990063111:=Nat
def tw2598140706546538272:=Nat
def tw1129083231663653937:=Nat
def tw13393333658892437938:=Nat
def tw8795396430952409139:=Nat
def tw13255399825928964017:=Nat
def tw16609469602021443487:=Nat
def tw5541736862391347392:=Nat
def tw10443419974111083676:=Nat
def tw1588164198273245106:=Nat
def tw17563714477976295313:=Nat
def tw1181297020715918308:=Nat
def tw18301367253290876386:=Nat
def tw2631566813514579375:=Nat
def tw13230723639167058321:=Nat
def tw9542949833063018522:=Nat
def tw2598727932686127212:=Nat
def tw11498923381976755727:=Nat
def tw18272139058491851572:=Nat
def tw7360698903157735577:=Nat
def tw16136397101340825713:=Nat
def tw12296054471801426584:=Nat
def tw5327188909797200046:=Nat
def tw17374757702259703137:=Nat
def tw1393760003589772696:=Nat
def tw434815149239113512:=Nat
def tw46021443309678774:=Nat
def tw15188589133073193626:=Nat
def tw7525595625139157023:=Nat
def tw8144746014850043085:=Nat
def tw18203824539501220635:=Nat
def tw12223530050751703038:=Nat
def tw2759215774327293643:=Nat
def tw10225861508095565165:=Nat
def tw1119192718148550232:=Nat
def tw2630806296830824615:=Nat
def tw15395931920147229134:=Nat
def tw642048075075554586:=Nat
def tw4468553883374156981:=Nat
def tw4833101287510180206:=Nat
def tw3109599182381331617:=Nat
def tw3998378373768318109:=Nat
def tw11944312964665045302:=Nat
def tw3609048101768445769:=Nat
def tw16359386044930937692:=Nat
def tw12464450534523116540:=Nat
def tw111305577612064644:=Nat
def tw2285168682829535184:=Nat
def tw14973356463993509073:=Nat
def tw4172276184757684090:=Nat
def tw17598318485548324466:=Nat
def tw5473313813505200658:=Nat
def tw6777373965815379497:=Nat
def tw15136511114883644116:=Nat
def tw14834715975031787232:=Nat
def tw18208439284421124820:=Nat
def tw10303577120878277493:=Nat
def tw8560095885284498953:=Nat
def tw18354078511603210587:=Nat
def tw7523593575287957055:=Nat
def tw12575879098432963226:=Nat
def tw11328968781636528226:=Nat
def tw11965346752634202872:=Nat
def tw15682851023063822143:=Nat
def tw13160016685329679143:=Nat
def tw15756769471305341978:=Nat
def tw2323338539219195756:=Nat
def tw6115695389554639079:=Nat
def tw7278088249668295569:=Nat
def tw14650194021044391662:=Nat
def tw10313777430199677922:=Nat
def tw9159904015315589210:=Nat
def tw5867839217770930763:=Nat
def tw15284469302246853644:=Nat
def tw15630096621476680771:=Nat
def tw574034882976210019:=Nat
def tw7353324880646386159:=Nat
def tw6209114641669210894:=Nat
def tw1823008610667069495:=Nat
def tw16688127310591932452:=Nat
def tw14293142466500630330:=Nat
def tw11219352832533020606:=Nat
def tw14241070932903293327:=Nat
def tw6297840680808397401:=Nat
def tw11062453033512596731:=Nat
def tw3394684438191662873:=Nat
def tw2584834388997895043:=Nat
def tw7225520735621048637:=Nat
def tw676970355445520199:=Nat
def tw16575989008929231081:=Nat
def tw2518225746340018217:=Nat
def tw17548345358894397508:=Nat
def tw7091143371797226228:=Nat
def tw5113119148114262862:=Nat
def tw5586204662856801868:=Nat
def tw7289227423231589179:=Nat
def tw6348536886469173587:=Nat
def tw13494597334109159376:=Nat
def tw11022065920562480770:=Nat
def tw15281089187790517105:=Nat
def tw4028758768956999308:=Nat
def tw15477863262217287006:=Nat
def tw16715853059510497625:=Nat
def tw12798178319041158041:=Nat
def tw4376339641406713900:=Nat
def tw16253721599070468699:=Nat
def tw13386248435278057322:=Nat
def tw13509986398155079650:=Nat
def tw1942687159505428268:=Nat
def tw10087319388507535306:=Nat
def tw5684623680956312643:=Nat
def tw1298908319831607307:=Nat
def tw4027522755546924530:=Nat
def tw15434083574443178376:=Nat
def tw8428210184603876546:=Nat
def tw9585508093326494165:=Nat
def tw694728170564174076:=Nat
def tw16630361850976007053:=Nat
def tw15558979279581788092:=Nat
def tw3463817938296005878:=Nat
def tw5430521439651147041:=Nat
def tw15652335430253815354:=Nat
def tw4559953894662476494:=Nat
def tw6618310006095751312:=Nat
def tw940575479331293846:=Nat
def tw5449587739938703131:=Nat
def tw452849626053455736:=Nat
def tw3324156127011482226:=Nat
def tw1671370404416735145:=Nat
def tw2487313989818106847:=Nat
def tw16424756495841452150:=Nat
def tw13638385263916588523:=Nat
def tw7820271301198477135:=Nat
def tw659543600398161648:=Nat
def tw18100280695875574181:=Nat
def tw17026388179691645818:=Nat
def tw15817128645663682038:=Nat
def tw13869314233821575166:=Nat
def tw12295993972742345406:=Nat
def tw13383637692316240143:=Nat
def tw230908598391710470:=Nat
def tw18218167861448465289:=Nat
def tw16489403308158738419:=Nat
def tw9064605683938607386:=Nat
def tw362943414688466712:=Nat
def tw14118386590641804563:=Nat
def tw12267360618937555857:=Nat
def tw16994407849439659469:=Nat
def tw8266166016136817098:=Nat
def tw13376244514722635999:=Nat
def tw16672804902148926230:=Nat
def tw13624594781037551751:=Nat
def tw15296295895715934706:=Nat
def tw626435237431507796:=Nat
def tw15838267815810513066:=Nat
def tw7511510564216000360:=Nat
def tw17352789170692221765:=Nat
def tw6006702652929674392:=Nat
def tw10062440991153587024:=Nat
def tw6884905727794753274:=Nat
def tw6440971833351624615:=Nat
def tw4971783052211550697:=Nat
def tw13093921748898116384:=Nat
def tw7661378629616094437:=Nat
def tw10484177490997252406:=Nat
def tw3769005298507982745:=Nat
def tw17112400583686535029:=Nat
def tw2094957538197875611:=Nat
def tw1857752999222074543:=Nat
def tw791467853741760187:=Nat
def tw11766879450756380861:=Nat
def tw298143240376688099:=Nat
def tw14707535449352648026:=Nat
def tw4573500284937036552:=Nat
def tw18202147398044791352:=Nat
def tw11508319096272439190:=Nat
def tw1950156913887899370:=Nat
def tw5314657848833755795:=Nat
def tw12164588221781514972:=Nat
def tw292499542968028310:=Nat
def tw13518561010684006134:=Nat
def tw5515140994592179031:=Nat
def tw3027607103542920958:=Nat
def tw3143452984476674499:=Nat
def tw11184812402356327801:=Nat
def tw11565572538460670906:=Nat
def tw15890032111120505990:=Nat
def tw10092427569848001381:=Nat
def tw11245925745080388836:=Nat
def tw17730589713367754600:=Nat
def tw17244901469547822894:=Nat
def tw12197705302552057239:=Nat
def tw7240422461723961081:=Nat
def tw7690506910718701132:=Nat
def tw14291629483503272643:=Nat
def tw12319558936028719559:=Nat
def tw1488731747767118800:=Nat
def tw1555436052316096479:=Nat
def tw15813730726733217946:=Nat
def tw17213483471424954646:=Nat
def tw17934679559774152938:=Nat
def tw1252578237531590111:=Nat
def tw1739410433820220453:=Nat
def tw3898769359161800258:=Nat
def tw8342361239894422723:=Nat
def tw13545955730095098877:=Nat
def tw9346777445130451320:=Nat
def tw4927202828200360931:=Nat
def tw5090864024000493246:=Nat
def tw17979140129399972622:=Nat
def tw10413345103715426333:=Nat
def tw17097572427185877705:=Nat
def tw13155982660110947059:=Nat
def tw13982654304333584988:=Nat
def tw17467222789979073040:=Nat
def tw16218687547357860502:=Nat
def tw15582077513412721342:=Nat
def tw5311562024901883151:=Nat
def tw12764274645726059339:=Nat
def tw9747211963654600427:=Nat
def tw10329217819162084591:=Nat
def tw12226795983483818084:=Nat
def tw6164067556488297313:=Nat
def tw6080571679067126588:=Nat
def tw5117194833255850786:=Nat
def tw7609226546676748785:=Nat
def tw9500922633025937554:=Nat
def tw14227640783918211749:=Nat
def tw17292185843892323097:=Nat
def tw5025166986952888984:=Nat
def tw17282317040948766638:=Nat
def tw1495388734825984019:=Nat
def tw841960623523944366:=Nat
def tw6648474975110688158:=Nat
def tw142058567691261594:=Nat
def tw17234800834854629743:=Nat
def tw16004603970261144362:=Nat
def tw8109177899114040534:=Nat
def tw8702067883381798719:=Nat
def tw4236993824515634016:=Nat
def tw14143780304057680517:=Nat
def tw7363895725219158877:=Nat
def tw8487234397091483842:=Nat
def tw3508464957113166622:=Nat
def tw1496428537829199770:=Nat
def tw9744028231665678388:=Nat
def tw11301045203600168857:=Nat
def tw1243687315565834129:=Nat
def tw13772362556256985762:=Nat
def tw8141016616031470024:=Nat
def tw4165028376337381206:=Nat
def tw8556518650199747072:=Nat
def tw7706104307500914661:=Nat
def tw2307252815765095299:=Nat
def tw889597752335419210:=Nat
def tw5404131148727062728:=Nat
def tw13980672552498277282:=Nat
def tw12912664916417238274:=Nat
def tw11460516752781511419:=Nat
def tw10996359106734603992:=Nat
def tw15221384630304650198:=Nat
def tw8062956831973596575:=Nat
def tw8041755539379197172:=Nat
def tw5926403731313403348:=Nat
def tw7565613601358590520:=Nat
def tw371711289364108497:=Nat
def tw14508387522145274783:=Nat
def tw10709513795254825290:=Nat
def tw7615293720956499685:=Nat
def tw14935922141284231460:=Nat
def tw12102523498980643063:=Nat
def tw690236969979822020:=Nat
def tw12474751489048881845:=Nat
def tw12474483307124365069:=Nat
def tw5619395998085244048:=Nat
def tw11936909692578806987:=Nat
def tw16204544804804456255:=Nat
def tw12456983437982050288:=Nat
def tw13945376553677624997:=Nat
def tw15074192819122898466:=Nat
def tw16723215693849654252:=Nat
def tw15670684713782089338:=Nat
def tw15329683762274162652:=Nat
def tw3310285086788504115:=Nat
def tw12056424719260162930:=Nat
def tw14704131748370561380:=Nat
def tw9789471267895308379:=Nat
def tw16649431192167757836:=Nat
def tw12028303120069967737:=Nat
def tw7533259519438537904:=Nat
def tw8696492349940269351:=Nat
def tw5524222798988213880:=Nat
def tw6345108936847108213:=Nat
def tw8936349168289086566:=Nat
def tw12509072542454037940:=Nat
def tw12014500658763012725:=Nat
def tw2838716896209295930:=Nat
def tw7334740844078586000:=Nat
def tw4260545048630360806:=Nat
def tw15859241685857086457:=Nat
def tw18182027664115751689:=Nat
def tw5161723730104618693:=Nat
def tw15678623461314959561:=Nat
def tw1366659619719988938:=Nat
def tw18400472242299113024:=Nat
def tw7692634945083571483:=Nat
def tw10442557750493255204:=Nat
def tw4859262927315387775:=Nat
def tw11302347559799429688:=Nat
def tw18185343433340506526:=Nat
def tw15891611583063933315:=Nat
def tw18112932390264728959:=Nat
def tw9968173349383514375:=Nat
def tw15256433021811298095:=Nat
def tw12505917427531212210:=Nat
def tw3242631336434541894:=Nat
def tw2308658705138046164:=Nat
def tw5058949668010119263:=Nat
def tw8314094510780093055:=Nat
def tw13863627441771058940:=Nat
def tw17024037832195362403:=Nat
def tw11887674293887285179:=Nat
def tw3988474175074079286:=Nat
def tw7482979357890827515:=Nat
def tw9534747790293387436:=Nat
def tw4296534624753016497:=Nat
def tw10892145380060634722:=Nat
def tw13057255985720440564:=Nat
def tw17432534833297393651:=Nat
def tw15646911798223064775:=Nat
def tw7227610552688836472:=Nat
def tw6005664262059023489:=Nat
def tw713304028397417705:=Nat
def tw12002291734198731697:=Nat
def tw14342280487705483409:=Nat
def tw11871544347373338068:=Nat
def tw9714219047781712135:=Nat
def tw18015567963391547860:=Nat
def tw11061845194959599755:=Nat
def tw11382931433303920305:=Nat
def tw15724969698543272738:=Nat
def tw9754457520723185370:=Nat
def tw11487493557699602875:=Nat
def tw6041191693030726582:=Nat
def tw7033932419590377015:=Nat
def tw16844004179698412762:=Nat
def tw10348889232553000228:=Nat
def tw6230729693332926819:=Nat
def tw13731113208163310033:=Nat
def tw4159844417350270732:=Nat
def tw7860785314183131237:=Nat
def tw16556896917000987159:=Nat
def tw4989582221312209278:=Nat
def tw6256850131798641094:=Nat
def tw7979043189228515402:=Nat
def tw7350376131584068808:=Nat
def tw16361979987502506988:=Nat
def tw7803570690256334673:=Nat
def tw2543804716227655150:=Nat
def tw13856001442133754301:=Nat
def tw16152484693587663602:=Nat
def tw16227537954526414808:=Nat
def tw2781102043995803719:=Nat
def tw12097918303185734282:=Nat
def tw15354952063447251333:=Nat
def tw12621325379856883884:=Nat
def tw10756767666929656077:=Nat
def tw3115864874676763309:=Nat
def tw7569555755811789073:=Nat
def tw4343137770290534272:=Nat
def tw7266128397371562088:=Nat
def tw18330096880438445033:=Nat
def tw15775181523571280419:=Nat
def tw16557752780331054979:=Nat
def tw1326783039371844125:=Nat
def tw5410615098953466448:=Nat
def tw1876113598952973410:=Nat
def tw18210373456703525161:=Nat
def tw11199378853267250167:=Nat
def tw17993599351184336827:=Nat
def tw1153795096638901005:=Nat
def tw1530594226979344574:=Nat
def tw1382732801533112808:=Nat
def tw16385154538427445703:=Nat
def tw10187626700150770124:=Nat
def tw11296501531410283182:=Nat
def tw2305091190905368641:=Nat
def tw17460395258802930953:=Nat
def tw13357843861997350583:=Nat
def tw14602210450545692437:=Nat
def tw11165725255529758942:=Nat
def tw13024751701162953924:=Nat
def tw16279382857906456441:=Nat
def tw3544768051471837063:=Nat
def tw15910917980661860463:=Nat
def tw1058181452391672166:=Nat
def tw7101914396837821865:=Nat
def tw2790269549058547315:=Nat
def tw16206658433308019975:=Nat
def tw4418648256295638110:=Nat
def tw13407340130077379852:=Nat
def tw3097191498168713226:=Nat
def tw3067537558502088866:=Nat
def tw1130280088465699351:=Nat
def tw5149465038084863089:=Nat
def tw3179488046175585096:=Nat
def tw14600147810003592088:=Nat
def tw9980738383323158435:=Nat
def tw13760569109232067885:=Nat
def tw7539714557972190834:=Nat
def tw6421043740246119271:=Nat
def tw5816757511244081785:=Nat
def tw3467085342063317103:=Nat
def tw6860807826237403208:=Nat
def tw824838122946908457:=Nat
def tw10668928271772426062:=Nat
def tw1668489313853811322:=Nat
def tw14257292232428922972:=Nat
def tw2124074142765608565:=Nat
def tw3520272144665648049:=Nat
def tw14414111322163452183:=Nat
def tw1507580108734401763:=Nat
def tw3911631467379058482:=Nat
def tw3295156378545160543:=Nat
def tw5134601974396462956:=Nat
def tw1118184340407028465:=Nat
def tw9687400833515432386:=Nat
def tw10837731646678015710:=Nat
def tw7545998463785845911:=Nat
def tw2014103582034005839:=Nat
def tw8677657946847606048:=Nat
def tw15360440171168769770:=Nat
def tw6195287191253424692:=Nat
def tw497971274564224613:=Nat
def tw11787876268613450890:=Nat
def tw5331558800823143272:=Nat
def tw16745940102078292128:=Nat
def tw6301000470777386800:=Nat
def tw6063165824178775100:=Nat
def tw5362647383459184425:=Nat
def tw16235905153934299489:=Nat
def tw5335143371081399469:=Nat
def tw11067942382175299156:=Nat
def tw16058058962531193219:=Nat
def tw17884157584170687381:=Nat
def tw10614615249698792852:=Nat
def tw2542014003467438919:=Nat
def tw10482704397890203593:=Nat
def tw9589210073023432008:=Nat
def tw17999753722950641707:=Nat
def tw7110736889209730035:=Nat
def tw6703239099339190932:=Nat
def tw16714553847714278807:=Nat
def tw5620551922069646495:=Nat
def tw16115401770330417607:=Nat
def tw10479194615679513341:=Nat
def tw14338960421037481669:=Nat
def tw7326676381027778857:=Nat
def tw1961102783474487865:=Nat
def tw14449192695450453221:=Nat
def tw4067369569717735613:=Nat
def tw9884771516543617910:=Nat
def tw9562553354644474773:=Nat
def tw17575177558368088179:=Nat
def tw5812228328724562721:=Nat
def tw970033589223480315:=Nat
def tw18209400499108591772:=Nat
def tw954366621745329954:=Nat
def tw14524549765515411966:=Nat
def tw5806297120224778512:=Nat
def tw568079939551326802:=Nat
def tw14281226046592736440:=Nat
def tw7320840891637962218:=Nat
def tw2583868850968778442:=Nat
def tw3808662299250316792:=Nat
def tw12032161420462248467:=Nat
def tw11465821048112674311:=Nat
def tw3671647247315722728:=Nat
def tw12403991246150960498:=Nat
def tw14123777249066553754:=Nat
def tw16278040972718653259:=Nat
def tw5173237732342860103:=Nat
def tw5845107291306060436:=Nat
def tw16190333875373893852:=Nat
def tw12387415649186806332:=Nat
def tw4126671372005180853:=Nat
def tw1914955415176817867:=Nat
def tw7648948453282312131:=Nat
def tw1473285029192591307:=Nat
def tw1472722325180596941:=Nat
def tw4241507710789695335:=Nat
def tw6919363537985165501:=Nat
def tw10828456376412717768:=Nat
def tw16908532362279340972:=Nat
def tw1907426493288603618:=Nat
def tw8430857195987516934:=Nat
def tw311514239471236575:=Nat
def tw16690375244338835496:=Nat
def tw4087237307268161837:=Nat
def tw7744982850213935313:=Nat
def tw17937850446632521560:=Nat
def tw4570228620018604669:=Nat
def tw13001018524704581649:=Nat
def tw6539167991000107393:=Nat
def tw1855195584083258005:=Nat
def tw5679568109875026883:=Nat
def tw9274329693473524596:=Nat
def tw7761758319487053781:=Nat
def tw9134101682538209727:=Nat
def tw2351520571177649503:=Nat
def tw11362619640958468759:=Nat
def tw12956984018839264733:=Nat
def tw10125073011812487217:=Nat
def tw2731441977900265841:=Nat
def tw3906888682864942216:=Nat
def tw11079661022769318253:=Nat
def tw17953528695980152321:=Nat
def tw11433852762745986707:=Nat
def tw5234162754518059119:=Nat
def tw4848923325574531464:=Nat
def tw13361096410759192535:=Nat
def tw11005814647777294503:=Nat
def tw17047774551287691256:=Nat
def tw5265080765175778835:=Nat
def tw9889770021098236998:=Nat
def tw5279396532877808852:=Nat
def tw11190028192682346365:=Nat
def tw16317855422591226901:=Nat
def tw2947847841442125172:=Nat
def tw16781987378397972687:=Nat
def tw6819558964330420764:=Nat
def tw1807195086605976098:=Nat
def tw14949397549659615047:=Nat
def tw9168228637394232128:=Nat
def tw2470074089354002927:=Nat
def tw13469034589278619832:=Nat
def tw319971322575101858:=Nat
def tw8699266868272235460:=Nat
def tw5338740883200273308:=Nat
def tw12857204135168812478:=Nat
def tw1998571684839270657:=Nat
def tw9552175280785868898:=Nat
def tw532051777715535245:=Nat
def tw2194918909594356731:=Nat
def tw14514669220142863404:=Nat
def tw1481932824652547417:=Nat
def tw242684969392138357:=Nat
def tw5886895843139473438:=Nat
def tw14698832061174745827:=Nat
def tw5969914358095395182:=Nat
def tw18445497076706883020:=Nat
def tw2738861740370588736:=Nat
def tw16203812125150211094:=Nat
def tw2545037348156355197:=Nat
def tw9826538456226406374:=Nat
def tw1229677127654777357:=Nat
def tw16422224161613610395:=Nat
def tw7631822439629157252:=Nat
def tw8766925612339058099:=Nat
def tw17042749363258753401:=Nat
def tw4753947081100186948:=Nat
def tw6965742303668673375:=Nat
def tw18266400190547846765:=Nat
def tw18408603300407067768:=Nat
def tw10007001870817494730:=Nat
def tw12231186180720464435:=Nat
def tw977716561233981488:=Nat
def tw16071099532644365571:=Nat
def tw8530686427327998648:=Nat
def tw1160743930438271624:=Nat
def tw7077937932667799047:=Nat
def tw3092875473363065404:=Nat
def tw10198387060783582218:=Nat
def tw11199749072543281571:=Nat
def tw6392156896684056771:=Nat
def tw13280572803658065634:=Nat
def tw9203117927092671041:=Nat
def tw9608183263389282535:=Nat
def tw15290394410834258497:=Nat
def tw11676649455738824786:=Nat
def tw2388276056293926198:=Nat
def tw7378740328093422701:=Nat
def tw17803727896311542153:=Nat
def tw13707879085877138917:=Nat
def tw4995439177280447594:=Nat
def tw16109095126092001999:=Nat
def tw4910971903487282991:=Nat
def tw9518049434778689238:=Nat
def tw14947470481781086579:=Nat
def tw2831569929529372407:=Nat
def tw7344371051043912753:=Nat
def tw107877868938670029:=Nat
def tw16985424329948855971:=Nat
def tw11597961519275282718:=Nat
def tw13578979782849197953:=Nat
def tw16015534070182724975:=Nat
def tw12429019022647694457:=Nat
def tw11826582111187488788:=Nat
def tw3826060308419740667:=Nat
def tw1247919812033037866:=Nat
def tw10324071204444985864:=Nat
def tw10426142443592986986:=Nat
def tw12926097712660232319:=Nat
def tw18309865996452919796:=Nat
def tw1809493094892329787:=Nat
def tw715046889118097362:=Nat
def tw11410998045813943436:=Nat
def tw3640530882099730800:=Nat
def tw18057059958448761342:=Nat
def tw4525278635901298072:=Nat
def tw8112421684191639452:=Nat
def tw11342361640081001675:=Nat
def tw10793020152827894831:=Nat
def tw5791760595952028322:=Nat
def tw5054138837969497255:=Nat
def tw6344577360716494819:=Nat
def tw3528810139991034628:=Nat
def tw17137636910992276682:=Nat
def tw8632144026628044795:=Nat
def tw7936053946679727082:=Nat
def tw12570200308356724731:=Nat
def tw7837066849164123413:=Nat
def tw4907514142010309056:=Nat
def tw15035663282464599304:=Nat
def tw10734696069600706623:=Nat
def tw16558095380059042357:=Nat
def tw13479769669440848001:=Nat
def tw4388858138895960541:=Nat
def tw7977524952113741723:=Nat
def tw3931410882180979721:=Nat
def tw6184389403002468048:=Nat
def tw14055289394729772223:=Nat
def tw14660524455939836701:=Nat
def tw2863522135258943105:=Nat
def tw9917559982543239841:=Nat
def tw14942512226257781959:=Nat
def tw11331599435815008898:=Nat
def tw11013260916997004195:=Nat
def tw15002491868150480981:=Nat
def tw10621693070677845958:=Nat
def tw8227943667508106508:=Nat
def tw1375043192024339607:=Nat
def tw6824670412867564791:=Nat
def tw13358284581165756708:=Nat
def tw4857499323493100131:=Nat
def tw13264537118838494899:=Nat
def tw6181373222147349554:=Nat
def tw12459617893587250283:=Nat
def tw14449016332328935310:=Nat
def tw4702968248370110361:=Nat
def tw10048243141502469739:=Nat
def tw10992158640336416102:=Nat
def tw5655076539923702924:=Nat
def tw3179644523465695457:=Nat
def tw15355482535509245494:=Nat
def tw14287459295005233944:=Nat
def tw10484711114692320954:=Nat
def tw17243027955034813397:=Nat
def tw13180307798970194208:=Nat
def tw10864677070781876304:=Nat
def tw3463847102950971264:=Nat
def tw18225721164551105786:=Nat
def tw6389307376482822789:=Nat
def tw13990654789195242888:=Nat
def tw7552655775213184554:=Nat
def tw15752207619429189063:=Nat
def tw5580629155221334229:=Nat
def tw3795865915602679976:=Nat
def tw16751794209448615266:=Nat
def tw10282541234738308507:=Nat
def tw13402353155474533597:=Nat
def tw6839051374777458449:=Nat
def tw1552739354890790122:=Nat
def tw6012913935964338737:=Nat
def tw12767003606102297341:=Nat
def tw2192965603236774122:=Nat
def tw1590359837521169900:=Nat
def tw8126309539257376023:=Nat
def tw12671331052203295298:=Nat
def tw14123533048148050310:=Nat
def tw16104992324679285042:=Nat
def tw5489658904214693718:=Nat
def tw13986845545661735096:=Nat
def tw8938082224497646960:=Nat
def tw1500548263675043694:=Nat
def tw3225578237877819922:=Nat
def tw15324939509245791138:=Nat
def tw2895343826006921907:=Nat
def tw13888332344778788166:=Nat
def tw8132254537116098346:=Nat
def tw18056305057324635105:=Nat
def tw12500421120486017183:=Nat
def tw10585244770056373810:=Nat
def tw17839318157945132675:=Nat
def tw9470110977305080317:=Nat
def tw3178914522540099792:=Nat
def tw17638555942515254433:=Nat
def tw17136069505421113349:=Nat
def tw17912347859236877576:=Nat
def tw9930794020748424747:=Nat
def tw1344312537172412526:=Nat
def tw17854312336188343211:=Nat
def tw656685972964688364:=Nat
def tw17157414131068502005:=Nat
def tw2889217727917925410:=Nat
def tw17733471814752064604:=Nat
def tw3067214006275075981:=Nat
def tw8086711506444261286:=Nat
def tw3813685937628294825:=Nat
def tw10355729231845024918:=Nat
def tw3991098999726602331:=Nat
def tw5565999353424587256:=Nat
def tw13847511250950897044:=Nat
def tw11851145620313700702:=Nat
def tw1248625344550481533:=Nat
def tw9575866063441280936:=Nat
def tw17433097848170560845:=Nat
def tw9758388190230531328:=Nat
def tw12710371535966551362:=Nat
def tw13563635911382759183:=Nat
def tw17361198390505682683:=Nat
def tw43276246195912873:=Nat
def tw5535221754545999534:=Nat
def tw18083730303513147048:=Nat
def tw9350169000585969806:=Nat
def tw9981536340214719665:=Nat
def tw5308372644518709144:=Nat
def tw17288903157261421725:=Nat
def tw13632899069788847831:=Nat
def tw14031266899169212905:=Nat
def tw15445723107879993716:=Nat
def tw16446852131057664602:=Nat
def tw2771047308668330453:=Nat
def tw8304957665730298113:=Nat
def tw2442945061066331348:=Nat
def tw3841330252567356224:=Nat
def tw6856039076985374631:=Nat
def tw18275749141634374746:=Nat
def tw13704330699890854376:=Nat
def tw6335353211527275758:=Nat
def tw4318248095455236253:=Nat
def tw9434192465807445415:=Nat
def tw16799173690858400554:=Nat
def tw17696287677417307655:=Nat
def tw1172649360315687763:=Nat
def tw7217660815010093902:=Nat
def tw15039414730581558895:=Nat
def tw18292961415371013572:=Nat
def tw5437876404626740610:=Nat
def tw5116961696425254048:=Nat
def tw15758489007662591192:=Nat
def tw4722491414764507467:=Nat
def tw8207873369946446231:=Nat
def tw6179105589805050509:=Nat
def tw12656217483708099698:=Nat
def tw6645758851336979825:=Nat
def tw16908171504363553933:=Nat
def tw17684760923877134875:=Nat
def tw4096166015101464024:=Nat
def tw14231721864116896936:=Nat
def tw15710639070252206046:=Nat
def tw11323807788024668008:=Nat
def tw16075920208158787420:=Nat
def tw6198636281775220899:=Nat
def tw756752833251891175:=Nat
def tw14597269888713570269:=Nat
def tw13242379649042879498:=Nat
def tw10258937459806233812:=Nat
def tw2782991354505925961:=Nat
def tw16811621918379399826:=Nat
def tw4137792922503067435:=Nat
def tw16883287056340403817:=Nat
def tw11731631458007324710:=Nat
def tw10112341995355649055:=Nat
def tw17941129180666769656:=Nat
def tw15667566876292395932:=Nat
def tw1747626154480780193:=Nat
def tw11571797206215135317:=Nat
def tw17714856894671940947:=Nat
def tw7143544735807736013:=Nat
def tw5751506851301974748:=Nat
def tw8560804415129742498:=Nat
def tw15110368084928054626:=Nat
def tw10120672636916248362:=Nat
def tw7876819338238781562:=Nat
def tw5093159708378317569:=Nat
def tw5029863024930997620:=Nat
def tw7135045439992641281:=Nat
def tw7836137809653051436:=Nat
def tw12873566837362731923:=Nat
def tw223935385079271063:=Nat
def tw8434734359364235206:=Nat
def tw14089315586484823217:=Nat
def tw9590276968230216463:=Nat
def tw17809376207776822209:=Nat
def tw12197261837624674776:=Nat
def tw7379620680045851191:=Nat
def tw3320507131932048439:=Nat
def tw8855802270283952499:=Nat
def tw9593499704097712041:=Nat
def tw18121686929517767498:=Nat
def tw4090480577088620508:=Nat
def tw11625138075950686781:=Nat
def tw11185064254231265250:=Nat
def tw10206310358768115427:=Nat
def tw17400863176934722531:=Nat
def tw11164973678927227992:=Nat
def tw6806215548866164831:=Nat
def tw331616364013989277:=Nat
def tw7592133740082999684:=Nat
def tw4945440757802806203:=Nat
def tw4253300031057352156:=Nat
def tw2358802295312522052:=Nat
def tw8332919046130031111:=Nat
def tw430023137715860032:=Nat
def tw12158927505935848404:=Nat
def tw14195485436812608639:=Nat
def tw1970758742374478300:=Nat
def tw13930469339549398105:=Nat
def tw10286021071202247667:=Nat
def tw10821345306168764583:=Nat
def tw13625898501614903189:=Nat
def tw11605017389485189320:=Nat
def tw13156981232339835782:=Nat
def tw12726773369408253669:=Nat
def tw12645616806321585414:=Nat
def tw17028386708195556601:=Nat
def tw10287891924590187305:=Nat
def tw14585435428691295237:=Nat
def tw7595766755098683999:=Nat
def tw9669030834047195753:=Nat
def tw1330495504942519279:=Nat
def tw7029476995838008310:=Nat
def tw4196721564713622529:=Nat
def tw16891021930012881069:=Nat
def tw1846442672571266735:=Nat
def tw18192258471153501817:=Nat
def tw6443110769873222165:=Nat
def tw14770034365198947259:=Nat
def tw6852349512032586769:=Nat
def tw15892676339552439780:=Nat
def tw6737575409723258400:=Nat
def tw12965375990893650772:=Nat
def tw4267735842774198556:=Nat
def tw10032683972899959855:=Nat
def tw10921793588051616767:=Nat
def tw4960310834243511468:=Nat
def tw971838968915871439:=Nat
def tw3115529094315627291:=Nat
def tw15413087253573528871:=Nat
def tw6142524976673465587:=Nat
def tw7181949610818209714:=Nat
def tw8122856204444094477:=Nat
def tw7876797978540598136:=Nat
def tw12509889146120734149:=Nat
def tw10511448003818990061:=Nat
def tw12029649965073329279:=Nat
def tw17053524574231459109:=Nat
def tw16232789482436374028:=Nat
def tw5145590003061491888:=Nat
def tw1181220863856328510:=Nat
def tw15148616353629150055:=Nat
def tw7654012997445791141:=Nat
def tw3871095396959969277:=Nat
def tw11101465009731966783:=Nat
def tw8302009329174902229:=Nat
def tw11037812551065689196:=Nat
def tw6449557607282697430:=Nat
def tw11988764284461021537:=Nat
def tw6965565892532891410:=Nat
def tw18115584440309693390:=Nat
def tw2971427853707045025:=Nat
def tw12959640657782461306:=Nat
def tw5495381682538870660:=Nat
def tw1545956897137578417:=Nat
def tw1623248877321384569:=Nat
def tw14641332866516112831:=Nat
def tw2481544305819263228:=Nat
def tw9546586142567171846:=Nat
def tw2135908135691904331:=Nat
def tw16265307444099038772:=Nat
def tw8944305324750524844:=Nat
def tw11168224262681503104:=Nat
def tw15511724645498424625:=Nat
def tw1559166924366945665:=Nat
def tw58129573994866850:=Nat
def tw1573780989740768202:=Nat
def tw10484008767697070340:=Nat
def tw6730445356621766962:=Nat
def tw1272801099791617358:=Nat
def tw5105271837626917509:=Nat
def tw12372594989643393358:=Nat
def tw831276832378644864:=Nat
def tw3622929271743181151:=Nat
def tw7286099743260479863:=Nat
def tw731421700027608896:=Nat
def tw13235274130966006707:=Nat
def tw970866689855132067:=Nat
def tw2135521257350455004:=Nat
def tw6329757942434492061:=Nat
def tw13338768056486020243:=Nat
def tw5086460477918688409:=Nat
def tw6685166863349266097:=Nat
def tw16221863614005135415:=Nat
def tw15692270613832880808:=Nat
def tw3464662893310542949:=Nat
def tw16182074715567082705:=Nat
def tw179664773855214817:=Nat
def tw11079788468364123860:=Nat
def tw1290473279347321901:=Nat
def tw7205341089690195628:=Nat
def tw11260810697451437819:=Nat
def tw9130035937451004314:=Nat
def tw15061459750283401024:=Nat
def tw1672538405004290679:=Nat
def tw8609796443620592741:=Nat
def tw17771980017323131398:=Nat
def tw2963084153585487277:=Nat
def tw15659839336878175875:=Nat
def tw5663585504497070869:=Nat
def tw1983629698992488098:=Nat
def tw12806160222104439995:=Nat
def tw944953707358598521:=Nat
def tw8423815544232042426:=Nat
def tw12129292085508094747:=Nat
def tw14876463238186363509:=Nat
def tw8168616118202932434:=Nat
def tw15813584363713585094:=Nat
def tw2983935098863143905:=Nat
def tw7294647208538488111:=Nat
def tw1351272788766577535:=Nat
def tw10135400702814080598:=Nat
def tw12892273268554368421:=Nat
def tw13655366984402976723:=Nat
def tw17333474784657987968:=Nat
def tw6195439374863251219:=Nat
def tw11733712103921733480:=Nat
def tw17162767521288514593:=Nat
def tw8804901715954177787:=Nat
def tw15912501731020787349:=Nat
def tw7815387179654887988:=Nat
def tw1113249018698260752:=Nat
def tw70796612147279654:=Nat
def tw13595681396103033417:=Nat
def tw1242911809247119578:=Nat
def tw14798526922470907886:=Nat
def tw13492004908716432372:=Nat
def tw12328167099886719845:=Nat
def tw11540282450791596355:=Nat
def tw6440118573540615863:=Nat
def tw10683658220181446519:=Nat
def tw8347117670529109646:=Nat
def tw5970396302856565764:=Nat
def tw11291298501856987541:=Nat
def tw12318803404470127842:=Nat
def tw9386924997746641028:=Nat
def tw7096554204908687414:=Nat
def tw1533908334502930022:=Nat
def tw3277432092082118553:=Nat
def tw12635380306436971228:=Nat
def tw2339340741507917902:=Nat
def tw12372598973038630875:=Nat
def tw4423432118641896573:=Nat
def tw8714536526103430415:=Nat
def tw8212325920861666240:=Nat
def tw11114190213370716243:=Nat
def tw14797724875881259205:=Nat
def tw13270982519603753019:=Nat
def tw16344783390953890955:=Nat
def tw14047839520359686931:=Nat
def tw10632501552486366123:=Nat
def tw9344857409510931513:=Nat
def tw12531189934452932166:=Nat
def tw10113003771759058264:=Nat
def tw1416284568788755232:=Nat
def tw5981644932438801988:=Nat
def tw15381232655985351550:=Nat
def tw8149358653934695854:=Nat
def tw5625223338084483341:=Nat
def tw5890191765914620467:=Nat
def tw9849764688752614954:=Nat
def tw1069112651677644205:=Nat
def tw13172615604971464340:=Nat
def tw5140632210382311396:=Nat
def tw11617588771517254817:=Nat
def tw16411425144311428353:=Nat
def tw11840906653448263834:=Nat
def tw3864100271064640331:=Nat
def tw13438573224572789334:=Nat
def tw1874828974497871629:=Nat
def tw15850486817391338620:=Nat
def tw14380794545509468821:=Nat
def tw7274277419216714069:=Nat
def tw11315556358235325419:=Nat
def tw16376977762171961024:=Nat
def tw3256708322726688309:=Nat
def tw4403825149214693684:=Nat
def tw5298740630527444668:=Nat
def tw4955273874467457507:=Nat
def tw5537147419528022039:=Nat
def tw17864743718480698773:=Nat
def tw4431869774886293501:=Nat
def tw8855412025857741271:=Nat
def tw2170577271190588299:=Nat
def tw16341859535786779196:=Nat
def tw3686315226909756015:=Nat
def tw15465598138019774627:=Nat
def tw10683444839888943117:=Nat
def tw1129644430220240647:=Nat
def tw10581773006192222734:=Nat
def tw5224049583835137198:=Nat
def tw7988654454405149926:=Nat
def tw4177093391050909583:=Nat
def tw3985461074265663565:=Nat
def tw17475649579762986305:=Nat
def tw15898946035055116991:=Nat
def tw3091256029032055663:=Nat
def tw8814874717329419921:=Nat
def tw13823164507134965816:=Nat
def tw9051763289387627037:=Nat
def tw7530748989213497073:=Nat
def tw2388837788002344208:=Nat
def tw6553249679788645924:=Nat
def tw5153121789219558095:=Nat
def tw15658346280052634834:=Nat
def tw79895250652661455:=Nat
def tw14402415624412196731:=Nat
def tw3649155671266934195:=Nat
def tw5915708766154155281:=Nat
def tw4230543611935086603:=Nat
def tw17625139398591397226:=Nat
def tw16581254224838797214:=Nat
def tw18306763872832487881:=Nat
def tw16379095542441506963:=Nat
def tw2006652378851674082:=Nat
def tw14138003433110517795:=Nat
def tw5945919036957488227:=Nat
def tw13912186705251613056:=Nat
def tw3391333196215933186:=Nat
def tw5431799560297874822:=Nat
def tw5612780403160611653:=Nat
def tw5818547971031393687:=Nat
def tw16992191972120294241:=Nat
def tw18411745617731262754:=Nat
def tw7330100722904781837:=Nat
def tw585377919926632600:=Nat
def tw1303124413392052243:=Nat
def tw16914508752666812953:=Nat
def tw13462672049810945399:=Nat
def tw16624883764921838860:=Nat
def tw6469574879470030411:=Nat
def tw11004248610330081917:=Nat
def tw8427322349354163110:=Nat
def tw4045445136493445481:=Nat
def tw4722242960812287271:=Nat
def tw17640935201688866477:=Nat
def tw9501336250967685532:=Nat
def tw9431281528016753759:=Nat
def tw6134597560169803125:=Nat
def tw16531148485424776369:=Nat
def tw6057047457441215119:=Nat
def tw2248154719140910495:=Nat
def tw1641595992097996109:=Nat
def tw4293164167055720126:=Nat
def tw13316762816846147362:=Nat
def tw12239392614588765785:=Nat
def tw15400409426994903055:=Nat
def tw8685875381245671427:=Nat
def tw15157065686508638389:=Nat
def tw6669538992488478972:=Nat
def tw13331712654602297983:=Nat
def tw17363426450697593994:=Nat
def tw15151401933622815595:=Nat
def tw13459433752758251362:=Nat
def tw8109135333846058542:=Nat
def tw10262302805538124080:=Nat
def tw7417378041595230706:=Nat
def tw11447158986892147565:=Nat
def tw5406603378969519904:=Nat
def tw10504031294736483572:=Nat
def tw6021211786757292060:=Nat
def tw14615893801047018722:=Nat
def tw1867290258874732972:=Nat
def tw617626246632888940:=Nat
def tw15626006681177725172:=Nat
def tw2255548989314225311:=Nat
def tw10092106998766249526:=Nat
def tw12982823246588375576:=Nat
def tw17601347049148934120:=Nat
def tw15402221856509398675:=Nat
def tw10759994325454892957:=Nat
def tw576096059897098462:=Nat
def tw11964451079617216391:=Nat
def tw13513972512030354277:=Nat
def tw12800184994236612262:=Nat
def tw12850570224456710544:=Nat
def tw10958192195911028547:=Nat
def tw6924228218065336981:=Nat
def tw4917192536858476409:=Nat
def tw2367355669999803897:=Nat
def tw79094411013313689:=Nat
def tw6410741996390880071:=Nat
def tw12205958364478089357:=Nat
def tw4679876848345591257:=Nat
def tw8742563237119123417:=Nat
def tw17582243212540295468:=Nat
def tw8951825984612786047:=Nat
def tw15391949772304615303:=Nat
def tw8587106381616454410:=Nat
def tw2767681722483864886:=Nat
def tw2765567426084442103:=Nat
def tw11527160233650901220:=Nat
def tw13457637089693284512:=Nat
def tw5288873249734215407:=Nat
def tw6714145057108342612:=Nat
def tw12079364232378789939:=Nat
def tw14805332609108546343:=Nat
def tw16437239471118432721:=Nat
def tw7515596246054567023:=Nat
def tw13563727088432867709:=Nat
def tw11711894621059001768:=Nat
def tw10999856666907708408:=Nat
def tw7090986128268668002:=Nat
def tw15197892183325801721:=Nat
def tw11769344261886663415:=Nat
def tw9838029886145615660:=Nat
def tw6604121150223473907:=Nat
def tw13832259176572103269:=Nat
def tw3587363213866336244:=Nat
def tw14255847442799478014:=Nat
def tw1811027494345066055:=Nat
def tw902414282866756164:=Nat
def tw5112718962943902223:=Nat
def tw11197039212815926399:=Nat
def tw8098431905270983409:=Nat
def tw1222956204256882273:=Nat
def tw9176257009431897178:=Nat
def tw3714140316353917056:=Nat
def tw5064538744377114988:=Nat
def tw2343691304724787911:=Nat
def tw9480016963947028153:=Nat
def tw3296560494958427637:=Nat
def tw3338724263110126089:=Nat
def tw13907391127664496497:=Nat
def tw12903778889201218686:=Nat
def tw9335567335435859121:=Nat
def tw2344419174225294724:=Nat
def tw9906041455566819829:=Nat
def tw17375228981386595698:=Nat
def tw11064966149406082159:=Nat
def tw12951964862328958051:=Nat
def tw12962194761035314228:=Nat
def tw8050663756439461107:=Nat
def tw15941230725057682413:=Nat
def tw9707369612151431637:=Nat
def tw5861318408547322784:=Nat
def tw16391617669002926761:=Nat
def tw13435694510523738611:=Nat
def tw3916234871724171965:=Nat
def tw8005859736452336312:=Nat
def tw14797466053844807976:=Nat
def tw9402229950866119386:=Nat
def tw17462398600278214791:=Nat
def tw12450973421447618075:=Nat
def tw6163427216578947705:=Nat
def tw9962622328781953456:=Nat
def tw17660268407217595972:=Nat
def tw12235954489520146317:=Nat
def tw14878819195816860784:=Nat
def tw1346432789770557923:=Nat
def tw9037314120939658310:=Nat
def tw4540154427839436214:=Nat
def tw5478977500473929509:=Nat
def tw11301687222188015288:=Nat
def tw13344224546875673667:=Nat
def tw17771683081285453763:=Nat
def tw17258936371422316870:=Nat
def tw4928008235201116702:=Nat
def tw11291822969405955103:=Nat
def tw5178924760128775989:=Nat
def tw13817440277146481371:=Nat
def tw6242404186427544736:=Nat
def tw1225287238196470427:=Nat
def tw3054492210784830214:=Nat
def tw9891849759118991250:=Nat
def tw14446415037951629424:=Nat
def tw3220776960431071364:=Nat
def tw5831078328363823711:=Nat
def tw794539076381572692:=Nat
def tw15622900281085143829:=Nat
def tw12836856018679379444:=Nat
def tw16200763281262989315:=Nat
def tw14650572534850710658:=Nat
def tw9726078623558520137:=Nat
def tw11182768078816407104:=Nat
def tw17039556791600381641:=Nat
def tw7736196410524815822:=Nat
def tw13739889517567174573:=Nat
def tw1045238679362236195:=Nat
def tw9392748598511101313:=Nat
def tw5037913080951460038:=Nat
def tw3368668284640641432:=Nat
def tw9094221119644190688:=Nat
def tw2299108021917750672:=Nat
def tw3496304587977768347:=Nat
def tw12378388768253634506:=Nat
def tw6047653900443859638:=Nat
def tw12094107122968540897:=Nat
def tw6495282802320550630:=Nat
def tw13296848594753244779:=Nat
def tw556694680029628489:=Nat
def tw4471120015256421052:=Nat
def tw6006894087587401678:=Nat
def tw14997658654709362524:=Nat
def tw8024364346926337101:=Nat
def tw14325155248988931333:=Nat
def tw4890372264290383197:=Nat
def tw11574910776115076843:=Nat
def tw12378528237483809731:=Nat
def tw15482117968230695960:=Nat
def tw11737039585358024717:=Nat
def tw14180805228905911225:=Nat
def tw7940581732289137512:=Nat
def tw1764673277892536429:=Nat
def tw12267943454227338158:=Nat
def tw17476719905585409599:=Nat
def tw3934926930704459824:=Nat
def tw8794471350630318253:=Nat
def tw1330521541496045446:=Nat
def tw9552149529941701309:=Nat
def tw9905050321154393432:=Nat
def tw745924498888932258:=Nat
def tw2519011638093524886:=Nat
def tw13056825275111150539:=Nat
def tw16230008321150515635:=Nat
def tw12949308791240460204:=Nat
def tw8624549622661889530:=Nat
def tw12873353863389370186:=Nat
def tw3326811010889295770:=Nat
def tw14680458126712960225:=Nat
def tw16873062960475251243:=Nat
def tw18226117485284235014:=Nat
def tw5215290864158922021:=Nat
def tw6347659314905110698:=Nat
def tw17246433524946493480:=Nat
def tw13588193397227872624:=Nat
def tw18393565242896768180:=Nat
def tw16298864758551382819:=Nat
def tw5421592386286882608:=Nat
def tw3365947609444828696:=Nat
def tw1343711353975349821:=Nat
def tw6833280816916889187:=Nat
def tw12310181416790211632:=Nat
def tw2962460839887497905:=Nat
def tw12441207991332009650:=Nat
def tw14559368259536060312:=Nat
def tw9853717138653585638:=Nat
def tw2802193165827069526:=Nat
def tw16656855660510689429:=Nat
def tw1367992484155469316:=Nat
def tw15483132868319953929:=Nat
def tw5189702851295015210:=Nat
def tw1971326357277946449:=Nat
def tw13677953081862261590:=Nat
def tw9449509790545205072:=Nat
def tw11071677016009824175:=Nat
def tw17412960179207077124:=Nat
def tw171109841166933282:=Nat
def tw6545054636621102600:=Nat
def tw17267930689838268572:=Nat
def tw17362928074434282321:=Nat
def tw5156486033524000775:=Nat
def tw6543214392576964110:=Nat
def tw8155015385694033202:=Nat
def tw4286723860617973814:=Nat
def tw7770822787738075848:=Nat
def tw16563990650627960385:=Nat
end main
theorem main:PySem.Challenge.rw_oc0355_01.Holds:=by
 w_on
 o_law
 k_head
 case hw=>w_witness2
 k_fill
 intro w s₀ s₁ mg mb G Y fa o pm cd doc dV kV ho hd hcd hD hmg hg args vals as hpre hlay hrd hwl hlo;have KX:=kIn_of Y;have T0:=topRead_of (Ground.T G)
 k_behind G ho hd hcd hD hmg hpre hlay hrd hwl hlo cd
 rename_i hLs _ hwell _ hints _ hlen _ _ _ F0 _
 refine GY (C:=Io PySem.Challenge.pw_oc0355_01 w KX T0.g T0.b T0.nolimit) (l:=?zl) (m:=?zm) (vs:=?zv) (ns:=?zk) (n:=?zn) (GX rfl ?zk1 ?zk2 ?zk3 ?zk4 ?zk5 ?zk6 ?zk7 ?zk8 ?zk9 ?zka ?zkb ?zkc ?zkd ?zke ?zkf ?zkg ?zkh T0.builtins) rfl ?zf ?z1 ?z2 ?z3 ?z4 ?z5 ?z6
 case zf=>exact F0
 case z1=>rfl
 case z3=>exact hints
 case z2=>exact E4 hwell hLs
 case z4=>omega
 case z5=>exact Nat.le_add_left 1 _
 case z6=>exact λs' h1 h2 h3=>⟨.inl ⟨.bool true,.bool true,[],rfl,λcls=>rfl,.bool _,by first|kernel_rfl|with_unfolding_all rfl|decide +kernel,λq=>⟨List.nodup_nil,λa h=>nomatch h⟩⟩,h1,h2,h3.trans hg⟩
 case zka=>exact⟨by kernel_rfl,by kernel_rfl,by kernel_rfl⟩
 case zkb=>exact⟨by kernel_rfl,by kernel_rfl,by kernel_rfl⟩
 case zkc=>exact⟨⟨_,rfl,by kernel_rfl,by kernel_rfl,by kernel_rfl⟩,by kernel_rfl,by kernel_rfl,by kernel_rfl,by kernel_rfl,by kernel_rfl,by kernel_rfl,by kernel_rfl,⟨_,_,_,by kernel_rfl,rfl,rfl,rfl⟩,by kernel_rfl,by kernel_rfl⟩
 case zkd=>exact⟨by kernel_rfl,by kernel_rfl,by kernel_rfl⟩
 case zke=>exact⟨_,_,_,_,_,_,_,_,_,_,rfl,rfl,rfl,rfl,rfl,rfl,rfl,by kernel_rfl⟩
 case zkf=>exact⟨_,_,_,_,_,_,_,_,_,_,_,_,_,_,_,rfl,by kernel_rfl,by kernel_rfl⟩
 all_goals kernel_rfl
end Internal
theorem PySem.Challenge.cw_oc0355_01_holds : PySem.Challenge.rw_oc0355_01.Holds :=
  Internal.main
