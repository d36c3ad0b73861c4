import PyProof.Rows.All
import Wide.All
import OpenK.KCell
import Open.Line
import Open.FastT9
import Open.TreeImp
import Wide.FinOn
import PyProof.Conv_bool
import PyProof.ListTruth
import PyProof.DictWalks
import PyProof.SetNew
import PyProof.SetRoads
import PyProof.MeetsDictList
import PyProof.LetGo
import PyProof.StationsW
import PyProof.RulesTry
import PyProof.RulesDelMore
import PyProof.MeetsSeq
import PyProof.ExcBaseAll.ValueError
import PyProof.FactsAll.str_8
import PyProof.CodeObjX
import PyProof.DefMake
import PyProof.SeqWrite
import KE.BytesMake
import KE.KxDecode
import KE.KStar
import KE.KBoundM
import PyProof.Rows.SortStr
import PyProof.Rows.SortWalk
import KE.KLam
import PyProof.GenQ
import PyProof.JoinWalk
import PyProof.StrLawsFrom
import OpenK.KOwn
import Lean
import PySem.Challenge.RW_rx0064_02
set_option Elab.async false
set_option linter.all false
set_option genInjectivity false
set_option genSizeOf false
set_option genCtorIdx false
set_option tactic.hygienic false
set_option backward.match.sparseCases false
open Array renaming replicate->Iu,size_push->Rp,toList->Rq,getElem?_toList->afF,mem_of_getElem?->afG
open Bool renaming true->Y,false->ay,and_eq_true_iff->cQ,and_eq_true->oz,and_self->oA,eq_false_iff->oB,eq_iff_iff->oE,not_eq_true'->tH,or_eq_true_iff->Dl,or_false->Dm,and_false->Iv,and_true->Iw,true_and->Iz,and_comm->Rt,false_ne_true->Ru,false_or->Rv,or_true->Rw,or_eq_true->afH
open Classical renaming byContradiction->oF,not_not->Rz,propDecidable->RA,em->afN
open Decidable renaming decide->aO,em->vv
open Eq renaming trans->ae,symm->Dq
open Exists renaming imp->IA
open ForInStep renaming yield->vy
open Function renaming comp->zY
open Iff renaming trans->xO,rfl->ID
open Int renaming ofNat_lt->jY,ofNat_le->mE,natCast_nonneg->qG,lt_trans->rP,le_trans->xP,not_lt->xQ,add_comm->Dr,le_of_lt->IE,lt_irrefl->IF,lt_of_le_of_lt->IG,ofNat_inj->IH,toNat->II,toNat_natCast->IJ,add_lt_add->RJ,max_eq_right->RK,negSucc->RL,not_le->RN,add_lt_add_of_lt_of_le->afS,add_sub_cancel->afT,fmod_nonneg_of_pos->afU,lt_of_lt_of_le->afV,neg_lt_of_neg_lt->afW,toNat_of_nonneg->afX
open Int.ofNat renaming inj->Ds
open List renaming length->U,length_append->cA,mem_cons->cD,getElem?_eq_some_iff->cG,mem_of_getElem?->cN,mem_singleton->cO,length_map->dg,range->dz,getElem?_eq_getElem->dB,map_map->dH,not_mem_nil->dQ,mem_map->dZ,map_append->eW,mem_range->fm,mem_append->fE,mem_cons_of_mem->fF,mem_map_of_mem->fM,mem_filter->f9,mem_append_left->gj,nodup_append->gk,length_cons->gB,mem_cons_self->gC,all_eq_true->gK,nodup_cons->gM,append_assoc->gX,map_cons->iN,mem_append_right->i6,append_nil->ju,getElem?_map->jv,getElem?_set_self->jw,length_filter_le->kq,map_congr_left->kr,getElem?_append_right->kU,getElem?_set_ne->lN,any_eq_true->mH,getElem?_append_left->nG,replicate->nH,getElem?_of_mem->pS,length_set->pT,size_toArray->qH,getD_eq_getElem?_getD->tJ,lookup_cons->tK,drop_of_length_le->vz,filter_congr->vA,mem_flatMap->vB,drop_eq_getElem_cons->xS,eq_nil_of_length_eq_zero->xT,length_drop->xU,length_range->xW,nodup_nil->xX,sum->xY,toArray->xZ,filter_cons_of_neg->z0,filter_cons_of_pos->z4,isEmpty_iff->z5,length_take->z6,map_id->z7,range'->z8,take_left->z9,countP_cons->Dt,find?_eq_none->Du,mem_of_mem_take->Dv,any_cons->IK,filterMap_cons_some->IL,filter_map->IM,find?_append->IP,find?_cons_of_neg->IQ,find?_cons_of_pos->IS,flatten_cons->IT,getElem?_zip_eq_some->IU,lookup_append->IV,mem_range'_1->IW,reverse_cons->IX,set_set->IY,sum_cons->IZ,drop_left->RQ,drop_take->RS,eq_nil_iff_forall_not_mem->RT,ext_getElem?->RU,filter_filter->RV,find?_cons->RW,flatten_append->RX,foldl_cons->RY,forIn_cons->RZ,getElem?_mapIdx->R0,getElem?_replicate->R1,getElem?_toArray->R2,length_replicate->R3,length_take_le'->R4,map_eq_nil_iff->R5,map_nil->R6,mem_singleton_self->R7,nil_append->R8,not_lt->R_,any_toArray->afY,countP_congr->afZ,count_cons_of_ne->af0,count_cons_self->af1,drop_length->af2,extract_toArray->af3,filterMap_cons_none->af4,filter_eq_nil_iff->af5,find?_isSome->af6,find?_some->af7,getElem?_concat_length->af8,getElem?_eq_none_iff->af9,getElem_mem->af_,getElem_of_mem->af',length_nil->aga,length_pos_iff->agb,length_zip->agc,map_flatMap->agd,map_toArray->age,mem_of_find?_eq_some->agf,mem_of_mem_drop->agg,mem_toArray->agh,ne_nil_of_mem->agi,pairwise_cons->agj,range'_succ->agk,reverse_reverse->agl,sum_append->agm,take_append_drop->agn,take_eq_take_min->ago,take_length->agp,take_sublist->agq
open List.cons renaming inj->zZ
open Nat renaming le_trans->aD,le_refl->dm,le_add_left->dK,le_of_ble_eq_true->ez,lt_of_lt_of_le->eH,le_of_lt->e7,le_of_eq->fq,lt_succ_self->fG,ne_of_lt->fH,le_add_right->fO,le_antisymm->fS,succ_pos->gE,zero_le->gF,not_lt->ie,add_le_add->iE,add_le_add_left->iO,le_of_not_lt->iP,lt_irrefl->i7,succ_le_succ->jx,zero_add->jy,lt_succ_of_lt->jZ,lt_of_le_of_lt->kW,add_sub_cancel'->pU,add_comm->qI,lt_trans->qJ,add_le_add_right->rQ,le_of_lt_succ->rR,le_succ->rS,beq->tL,sub_add_cancel->tM,add_assoc->vD,add_zero->vE,min_eq_left->vF,mod_lt->vG,ne_of_gt->vH,add_sub_cancel_left->x6,mul_le_mul_left->x8,mul_zero->x_,add_lt_add_left->z_,eq_zero_of_not_pos->Aa,exists_eq_add_of_le->Ab,le_succ_of_le->Ac,min_le_left->Ad,one_pos->Ae,add_add_add_comm->Dx,le_total->Dy,mul_add->Dz,sub_le->DA,sub_pos_of_lt->DB,succ_ne_zero->DE,zero_mul->DF,mul_assoc->I0,mul_comm->I1,mul_le_mul_right->I2,ctorIdx->Sa,le_mul_of_pos_left->Sd,lt_add_of_pos_right->Se,lt_or_eq_of_le->Sf,lt_succ_of_le->Sg,min_eq_right->Sh,mul_one->Si,not_lt_of_le->Sj,one_mul->Sl,sub_lt->Sm,succ_lt_succ->Sn,add_left_cancel->ags,add_right_comm->agt,add_sub_cancel->agu,le_mul_of_pos_right->agv,le_of_succ_le->agw,le_of_succ_le_succ->agx,lt_of_not_le->agy,lt_of_succ_le->agz,ne_of_beq_eq_false->agA,not_le_of_lt->agB,not_succ_le_self->agC,pos_of_mul_pos_left->agD,pos_of_mul_pos_right->agE,pow_lt_pow_right->agF,sub_eq_zero_of_le->agG,succ_add_eq_add_succ->agH,succ_ne_self->agI
open Nat.succ renaming inj->DD
open Ne renaming symm->iF
open Option renaming some->D,none->aa,isSome_iff_exists->gG,isSome->mJ,map_eq_some_iff->pV,map->qK,bind_some->Af,map_some->DG,any_eq_true->I3,eq_some_of_isSome->agK,getD_some->agL,none_or->agM,or_none->agN
open Option.some renaming inj->bj
open PUnit renaming unit->Ss
open Prod renaming snd->I4,ext->Su
open Prod.mk renaming inj->mK
open PyProof.Rows renaming tail_any->vI,Subscript_->ya,evalArgs_nil3->Am,Attribute_any_->Rr,BoolOp_or->Sv,join_list->Sw,Assign_Tuple_swapped->agO,add_str->agP,callWith_type->agQ,isTrue_plain->agR,mod_int'->agS
open PySem renaming Str->af,Addr->aq,Value->aB,wpAny_bind->aG,model->aI,wpAny->aQ,Shared->aU,Obj->bL,wpAny_pure->bM,World->bX,Heap->cf,Program->cy,Stmt->cz,Expr->cE,Around->cZ,Env->c3,rawInt->c4,callEnvC->di,wpAny_Name->eO,NameKind->fc,Tok->fT,wpAny_holding->gH,wpAny_execs_cons->gN,swapsWith->gY,Pos->ig,wpAny_of_eq->iQ,wpAny_call->i8,Scope->jg,mainGlobals->j0,wpAny_Assign_Name->kC,wpAny_Call_Name_kw->kD,wpAny_mono->kX,wpAny_Call_method->lP,wpAny_standAt->oH,Params->oJ,Result->pX,codeAny_call_builtin->qL,sizeLine_eq->rU,wpAny_execs_nil->rW,wpAny_newObj_type->rX,FuncData->rY,strKind_is->tQ,typeIs_str->tR,wpAny_Expr_any->tT,wpAny_mkStr->tU,strKind->vJ,wpAny_assign_Name->vM,wpAny_ite_false->vN,plainObj_wpAny_Assign_Attribute->yd,pushCells_keeps->ye,wpAny_rule->yf,wpAny_seqItems->yg,wpAny_truthy_bool->yh,codeAny_builtin->Aj,entryFor_of_tree->Ak,wpAny_If->An,wpAny_isTrue_Compare1->Ao,wpAny_mkText->Aq,wpAny_specialOf->Ar,Arguments->As,call_meets->DK,wpAny_BinOp->DL,wpAny_field->DM,wpAny_newList->DN,storeName->DP,callWith_type->I6,codeAny_call_cells->I7,wpAny_Return_some->I_,wpAny_bindName->Ja,wpAny_list_append_plain->Jb,wpAny_load->Jc,wpAny_loadName_local->Jd,wpAny_loadPart->Je,wpAny_pyIter_list->Jf,call_gives->SV,name_of_addr->SW,wpAny_Constant_int->SX,wpAny_Try_except->SY,wpAny_builtinsFor->SZ,wpAny_getItem_of->S0,wpAny_isInstance->S1,wpAny_newTuple->S2,wpAny_nsGet->S3,wpAny_typeOf->S5,wpAny_updatePart->S6,codeAny_call_function->ag6,codeAny_compStart_list->ag7,wpAny_AugAssign_AttributeAny->ag8,wpAny_AugAssign_Name->ag9,wpAny_callSpecial?_slot->ag_,wpAny_comprehension_free->ag',wpAny_letOwnedTupleGo_listiter->aha,wpAny_listSubscript_int->ahb,wpAny_newFunctionEnv->ahc,wpAny_storeName_local->ahd,wpAny_unpackItems_tuple->ahe
open PySem.Around renaming frames_deeper->Ro,under_plainId->afE
open PySem.Builtin renaming divisionGoesByPylong->afM
open PySem.Builtin.Int renaming intBits->afI
open PySem.Builtin.List renaming listTooLong->Rx
open PySem.Builtin.Range renaming rangeSize->tI,rangeFitsLong->Ry,small->afJ
open PySem.Builtin.Str renaming occurrences->afK,tableLookup->afL
open PySem.Calls renaming callWith_builtin->kA,spliced_nil->lO,spliced_cons->pW,Constant_str->rO,evalArgs_plain->tO,callWith_function->yc,Name_function_global->agr
open PySem.Code renaming quiet_builtin->zW
open PySem.Const renaming int->agT
open PySem.Data renaming ctorIdx->agU
open PySem.Data.cell renaming inj->afO
open PySem.DictEntry renaming val->afP
open PySem.Env renaming blockKind->Dp
open PySem.Expr renaming Name->zX,Attribute->RB
open PySem.F renaming plainAttrs_str->DH,slot_list_getattribute->IB,type_list_append->IC,plainAttrs_list->RC,slot_list_append->RD,slot_list_getitem->RE,plainAttrs_list->Sx,slot_list_pop->Sz,slot_str_join->SA,slot_str_replace->SD,slot_str_translate->SE,type_str_join->SH,type_str_replace->SI,slot_str_getitem->afQ,args_object_getattribute_2->agV,entry_object_getattribute->agW,slot_dict_delitem->agX,slot_str_count->agY,slot_str_split->agZ,store_object->ag0,type_list_pop->ag1
open PySem.Heap renaming get?_push_of_some->eG,get?_push_size->eS,lt_size->fk,SameBut->gW,ExtBut->jX,size_push->lM,get?_update_self->pR
open PySem.Heap.SameBut renaming update->oG
open PySem.NameKind renaming ctorIdx->nK,free->Dw
open PySem.Obj renaming mapSeq->nJ,data->So,data_mapFields->Sp,putName->Sq,isFreed_of_fields->agJ
open PySem.PyData renaming keyHash->rT
open PySem.ScopeKind renaming isAnnotationScope->ag4
open PySem.SeqAt.RcAt renaming lists_lengths->ag3
open PySem.Sre renaming forSearch->Ah,M->DI,Outcome->SN
open PySem.Str renaming ofString->ag2
open PySem.StrLaws renaming occ_eq->I5,At->SJ,occBody->SK,found_one->ag5
open PySem.Txt renaming replace->yb,join->Ai
open PySem.Value renaming type->nM,type->tN,ref->vK,ctorIdx->Ag,str->DJ,ref->SM,int->SO,isInt->SQ
open PySem.Value.ref renaming inj->ku,inj->SS
open PySem.W renaming hideAll_none->tP,plainGet_of->vL,looks_field->I8,typeIs_bytes->I9
open PySem.W.FB renaming slot_bytes_decode->RG,entry_bytes_decode->afR
open PySem.W.Hook renaming obs->RH,val->RI
open PySem.W.KF renaming slot_mset->RP
open PySem.Walks renaming list->SU
open _root_ renaming rfl->C,List->I,Nat->J,congrArg->aA,if_neg->aJ,if_pos->aL,Int->aS,Option->bg,Bool->bw,absurd->bA,decide_eq_true->cL,of_decide_eq_true->dh,trivial->dj,decide_eq_false->ef,Array->iR,eq_of_beq->iS,decide_eq_true_eq->oK,decide_eq_true_iff->rZ,beq_iff_eq->DO
set_option maxRecDepth 100000
set_option maxHeartbeats 0
noncomputable section
section
open PySem PySem.Calls PySem.SeqAt PyProof.Rows PySem.W
namespace Internal
noncomputable abbrev pw:cy:=PySem.Challenge.pw_rx0064_02
noncomputable def fV{R:Type}:J->I R->bg R
 |_,[]=>aa
 |0,x::_=>D x
 |u+1,_::r=>fV u r
noncomputable abbrev eD:cE:=.Constant .none 0 default
def nq:bg cz->cE×cE×I cz×I cz×jg×As
 |D (.FunctionDef _ a b _ _ _ r _ _ _)=>(eD,eD,b,[],r,a)
 |D (.While A b o _)=>(A,A,b,o,default,default)
 |D (.For A i b o _)=>(A,i,b,o,default,default)
 |D (.If A b o _)=>(A,A,b,o,default,default)
 |D (.AugAssign _ _ e _)=>(e,e,[],[],default,default)
 |D (.Assign _ e _)=>(e,e,[],[],default,default)
 |D (.Expr e _)=>(e,e,[],[],default,default)
 |D (.Return e _)=>(e.getD eD,eD,[],[],default,default)
 |D (.ClassDef _ _ _ b _ _ _ _ _ _ _)=>(eD,eD,b,[],default,default)
 |_=>(eD,eD,[],[],default,default)
def dD(s:bg cz):I cz:=(nq s).2.2.1
def eg(s:bg cz):jg:=(nq s).2.2.2.2.1
def gw(s:bg cz):As:=(nq s).2.2.2.2.2
def xV:cE->cE×cE×J
 |.Starred _ _=>(eD,eD,1)
 |.Slice ..=>(eD,eD,2)
 |.Set ..=>(eD,eD,3)
 |.Name ..=>(eD,eD,4)
 |.Tuple ..=>(eD,eD,5)
 |.ListComp e _ _ _=>(e,eD,0)
 |.BinOp a _ b _=>(a,b,0)
 |.Call _ Q _ _=>(Q.head?.getD eD,eD,0)
 |_=>(eD,eD,0)
def bB(u:J):bg cz:=fV u pw.main.body
def UQ(s:bg cz):I cz:=(nq s).2.2.1
def fL(i t:J):bg cz:=fV t (UQ (bB i))
end Internal
end
namespace Internal
section
variable{p q r s t u v w x y:Prop}{G:Prop}
theorem bT(h:p/\q)(f:p->q->G):G:=f h.1 h.2
theorem gv(h:p/\q/\r)(f:p->q->r->G):G:=f h.1 h.2.1 h.2.2
theorem sH(h:p/\q/\r/\s)(f:p->q->r->s->G):G:=f h.1 h.2.1 h.2.2.1 h.2.2.2
theorem ug(h:p/\q/\r/\s/\t)(f:p->q->r->s->t->G):G:=f h.1 h.2.1 h.2.2.1 h.2.2.2.1 h.2.2.2.2
theorem uh(h:p/\q/\r/\s/\t/\u)(f:p->q->r->s->t->u->G):G:=f h.1 h.2.1 h.2.2.1 h.2.2.2.1 h.2.2.2.2.1 h.2.2.2.2.2
end
section
variable{A:Sort _}{p q r s t u v w x y:A->Prop}{G:Prop}
theorem bH(h:∃a,p a)(f:∀a,p a->G):G:=h.elim λa h=>f a h
theorem ai(h:∃a,p a/\q a)(f:∀a,p a->q a->G):G:=h.elim λa h=>f a h.1 h.2
theorem dF(h:∃a,p a/\q a/\r a)(f:∀a,p a->q a->r a->G):G:=h.elim λa h=>f a h.1 h.2.1 h.2.2
theorem wh(h:∃a,p a/\q a/\r a/\s a)(f:∀a,p a->q a->r a->s a->G):G:=h.elim λa h=>f a h.1 h.2.1 h.2.2.1 h.2.2.2
end
section
variable{A B:Sort _}{p q r s t u v w x y:A->B->Prop}{G:Prop}
theorem jO(h:∃a b,p a b)(f:∀a b,p a b->G):G:=h.elim λa h=>h.elim λb h=>f a b h
theorem d5(h:∃a b,p a b/\q a b)(f:∀a b,p a b->q a b->G):G:=h.elim λa h=>h.elim λb h=>f a b h.1 h.2
theorem e5(h:∃a b,p a b/\q a b/\r a b)(f:∀a b,p a b->q a b->r a b->G):G:=h.elim λa h=>h.elim λb h=>f a b h.1 h.2.1 h.2.2
theorem Bh(h:∃a b,p a b/\q a b/\r a b/\s a b)(f:∀a b,p a b->q a b->r a b->s a b->G):G:=h.elim λa h=>h.elim λb h=>f a b h.1 h.2.1 h.2.2.1 h.2.2.2
theorem um(h:∃a b,p a b/\q a b/\r a b/\s a b/\t a b)(f:∀a b,p a b->q a b->r a b->s a b->t a b->G):G:=h.elim λa h=>h.elim λb h=>f a b h.1 h.2.1 h.2.2.1 h.2.2.2.1 h.2.2.2.2
theorem KN(h:∃a b,p a b/\q a b/\r a b/\s a b/\t a b/\u a b)(f:∀a b,p a b->q a b->r a b->s a b->t a b->u a b->G):G:=h.elim λa h=>h.elim λb h=>f a b h.1 h.2.1 h.2.2.1 h.2.2.2.1 h.2.2.2.2.1 h.2.2.2.2.2
theorem KO(h:∃a b,p a b/\q a b/\r a b/\s a b/\t a b/\u a b/\v a b/\w a b)(f:∀a b,p a b->q a b->r a b->s a b->t a b->u a b->v a b->w a b->G):G:=h.elim λa h=>h.elim λb h=>f a b h.1 h.2.1 h.2.2.1 h.2.2.2.1 h.2.2.2.2.1 h.2.2.2.2.2.1 h.2.2.2.2.2.2.1 h.2.2.2.2.2.2.2
end
section
variable{A B bq:Sort _}{p q r s t u v w x y:A->B->bq->Prop}{G:Prop}
theorem EN(h:∃a b c,p a b c)(f:∀a b c,p a b c->G):G:=h.elim λa h=>h.elim λb h=>h.elim λc h=>f a b c h
theorem jC(h:∃a b c,p a b c/\q a b c)(f:∀a b c,p a b c->q a b c->G):G:=h.elim λa h=>h.elim λb h=>h.elim λc h=>f a b c h.1 h.2
theorem jl(h:∃a b c,p a b c/\q a b c/\r a b c)(f:∀a b c,p a b c->q a b c->r a b c->G):G:=h.elim λa h=>h.elim λb h=>h.elim λc h=>f a b c h.1 h.2.1 h.2.2
theorem mX(h:∃a b c,p a b c/\q a b c/\r a b c/\s a b c)(f:∀a b c,p a b c->q a b c->r a b c->s a b c->G):G:=h.elim λa h=>h.elim λb h=>h.elim λc h=>f a b c h.1 h.2.1 h.2.2.1 h.2.2.2
theorem wj(h:∃a b c,p a b c/\q a b c/\r a b c/\s a b c/\t a b c)(f:∀a b c,p a b c->q a b c->r a b c->s a b c->t a b c->G):G:=h.elim λa h=>h.elim λb h=>h.elim λc h=>f a b c h.1 h.2.1 h.2.2.1 h.2.2.2.1 h.2.2.2.2
theorem KP(h:∃a b c,p a b c/\q a b c/\r a b c/\s a b c/\t a b c/\u a b c)(f:∀a b c,p a b c->q a b c->r a b c->s a b c->t a b c->u a b c->G):G:=h.elim λa h=>h.elim λb h=>h.elim λc h=>f a b c h.1 h.2.1 h.2.2.1 h.2.2.2.1 h.2.2.2.2.1 h.2.2.2.2.2
end
section
variable{A B bq aZ:Sort _}{p q r s t u v w x y:A->B->bq->aZ->Prop}{G:Prop}
theorem KQ(h:∃a b c d,p a b c d)(f:∀a b c d,p a b c d->G):G:=h.elim λa h=>h.elim λb h=>h.elim λc h=>h.elim λd h=>f a b c d h
theorem KR(h:∃a b c d,p a b c d/\q a b c d)(f:∀a b c d,p a b c d->q a b c d->G):G:=h.elim λa h=>h.elim λb h=>h.elim λc h=>h.elim λd h=>f a b c d h.1 h.2
theorem yx(h:∃a b c d,p a b c d/\q a b c d/\r a b c d)(f:∀a b c d,p a b c d->q a b c d->r a b c d->G):G:=h.elim λa h=>h.elim λb h=>h.elim λc h=>h.elim λd h=>f a b c d h.1 h.2.1 h.2.2
theorem Bj(h:∃a b c d,p a b c d/\q a b c d/\r a b c d/\s a b c d)(f:∀a b c d,p a b c d->q a b c d->r a b c d->s a b c d->G):G:=h.elim λa h=>h.elim λb h=>h.elim λc h=>h.elim λd h=>f a b c d h.1 h.2.1 h.2.2.1 h.2.2.2
theorem Vu(h:∃a b c d,p a b c d/\q a b c d/\r a b c d/\s a b c d/\t a b c d/\u a b c d)(f:∀a b c d,p a b c d->q a b c d->r a b c d->s a b c d->t a b c d->u a b c d->G):G:=h.elim λa h=>h.elim λb h=>h.elim λc h=>h.elim λd h=>f a b c d h.1 h.2.1 h.2.2.1 h.2.2.2.1 h.2.2.2.2.1 h.2.2.2.2.2
theorem KS(h:∃a b c d,p a b c d/\q a b c d/\r a b c d/\s a b c d/\t a b c d/\u a b c d/\v a b c d)(f:∀a b c d,p a b c d->q a b c d->r a b c d->s a b c d->t a b c d->u a b c d->v a b c d->G):G:=h.elim λa h=>h.elim λb h=>h.elim λc h=>h.elim λd h=>f a b c d h.1 h.2.1 h.2.2.1 h.2.2.2.1 h.2.2.2.2.1 h.2.2.2.2.2.1 h.2.2.2.2.2.2
end
section
variable{A B bq aZ E:Sort _}{p q r s t u v w x y:A->B->bq->aZ->E->Prop}{G:Prop}
theorem Bk(h:∃a b c d e,p a b c d e/\q a b c d e)(f:∀a b c d e,p a b c d e->q a b c d e->G):G:=h.elim λa h=>h.elim λb h=>h.elim λc h=>h.elim λd h=>h.elim λe h=>f a b c d e h.1 h.2
theorem Vv(h:∃a b c d e,p a b c d e/\q a b c d e/\r a b c d e)(f:∀a b c d e,p a b c d e->q a b c d e->r a b c d e->G):G:=h.elim λa h=>h.elim λb h=>h.elim λc h=>h.elim λd h=>h.elim λe h=>f a b c d e h.1 h.2.1 h.2.2
theorem KT(h:∃a b c d e,p a b c d e/\q a b c d e/\r a b c d e/\s a b c d e)(f:∀a b c d e,p a b c d e->q a b c d e->r a b c d e->s a b c d e->G):G:=h.elim λa h=>h.elim λb h=>h.elim λc h=>h.elim λd h=>h.elim λe h=>f a b c d e h.1 h.2.1 h.2.2.1 h.2.2.2
theorem Vw(h:∃a b c d e,p a b c d e/\q a b c d e/\r a b c d e/\s a b c d e/\t a b c d e/\u a b c d e/\v a b c d e/\w a b c d e/\x a b c d e)(f:∀a b c d e,p a b c d e->q a b c d e->r a b c d e->s a b c d e->t a b c d e->u a b c d e->v a b c d e->w a b c d e->x a b c d e->G):G:=h.elim λa h=>h.elim λb h=>h.elim λc h=>h.elim λd h=>h.elim λe h=>f a b c d e h.1 h.2.1 h.2.2.1 h.2.2.2.1 h.2.2.2.2.1 h.2.2.2.2.2.1 h.2.2.2.2.2.2.1 h.2.2.2.2.2.2.2.1 h.2.2.2.2.2.2.2.2
end
section
variable{p q r s t u v w x y:Prop}{G:Prop}
theorem dI(h0:p)(h1:q)(h2:r):p/\q/\r:=⟨h0,h1,h2⟩
theorem lg(h0:p)(h1:q)(h2:r)(h3:s):p/\q/\r/\s:=⟨h0,h1,h2,h3⟩
theorem lj(h0:p)(h1:q)(h2:r)(h3:s)(h4:t):p/\q/\r/\s/\t:=⟨h0,h1,h2,h3,h4⟩
theorem yL(h0:p)(h1:q)(h2:r)(h3:s)(h4:t)(h5:u):p/\q/\r/\s/\t/\u:=⟨h0,h1,h2,h3,h4,h5⟩
theorem Yu(h0:p)(h1:q)(h2:r)(h3:s)(h4:t)(h5:u)(h6:v):p/\q/\r/\s/\t/\u/\v:=⟨h0,h1,h2,h3,h4,h5,h6⟩
theorem L3(h0:p)(h1:q)(h2:r)(h3:s)(h4:t)(h5:u)(h6:v)(h7:w):p/\q/\r/\s/\t/\u/\v/\w:=⟨h0,h1,h2,h3,h4,h5,h6,h7⟩
end
section
variable{A:Sort _}{p q r s t u v w x y:A->Prop}{G:Prop}
theorem aR(a:A)(h0:p a)(h1:q a):∃a,p a/\q a:=⟨a,h0,h1⟩
theorem i12(a:A)(h0:p a)(h1:q a)(h2:r a):∃a,p a/\q a/\r a:=⟨a,h0,h1,h2⟩
theorem FA(a:A)(h0:p a)(h1:q a)(h2:r a)(h3:s a):∃a,p a/\q a/\r a/\s a:=⟨a,h0,h1,h2,h3⟩
theorem FE(a:A)(h0:p a)(h1:q a)(h2:r a)(h3:s a)(h4:t a)(h5:u a):∃a,p a/\q a/\r a/\s a/\t a/\u a:=⟨a,h0,h1,h2,h3,h4,h5⟩
end
section
variable{A B:Sort _}{p q r s t u v w x y:A->B->Prop}{G:Prop}
theorem cH(a:A)(b:B)(h0:p a b):∃a b,p a b:=⟨a,b,h0⟩
theorem gg(a:A)(b:B)(h0:p a b)(h1:q a b):∃a b,p a b/\q a b:=⟨a,b,h0,h1⟩
theorem gx(a:A)(b:B)(h0:p a b)(h1:q a b)(h2:r a b):∃a b,p a b/\q a b/\r a b:=⟨a,b,h0,h1,h2⟩
theorem l6(a:A)(b:B)(h0:p a b)(h1:q a b)(h2:r a b)(h3:s a b):∃a b,p a b/\q a b/\r a b/\s a b:=⟨a,b,h0,h1,h2,h3⟩
theorem L4(a:A)(b:B)(h0:p a b)(h1:q a b)(h2:r a b)(h3:s a b)(h4:t a b):∃a b,p a b/\q a b/\r a b/\s a b/\t a b:=⟨a,b,h0,h1,h2,h3,h4⟩
theorem L5(a:A)(b:B)(h0:p a b)(h1:q a b)(h2:r a b)(h3:s a b)(h4:t a b)(h5:u a b):∃a b,p a b/\q a b/\r a b/\s a b/\t a b/\u a b:=⟨a,b,h0,h1,h2,h3,h4,h5⟩
end
section
variable{A B bq:Sort _}{p q r s t u v w x y:A->B->bq->Prop}{G:Prop}
theorem l7(a:A)(b:B)(c:bq)(h0:p a b c)(h1:q a b c):∃a b c,p a b c/\q a b c:=⟨a,b,c,h0,h1⟩
theorem BD(a:A)(b:B)(c:bq)(h0:p a b c)(h1:q a b c)(h2:r a b c):∃a b c,p a b c/\q a b c/\r a b c:=⟨a,b,c,h0,h1,h2⟩
theorem o5(a:A)(b:B)(c:bq)(h0:p a b c)(h1:q a b c)(h2:r a b c)(h3:s a b c):∃a b c,p a b c/\q a b c/\r a b c/\s a b c:=⟨a,b,c,h0,h1,h2,h3⟩
theorem FF(a:A)(b:B)(c:bq)(h0:p a b c)(h1:q a b c)(h2:r a b c)(h3:s a b c)(h4:t a b c):∃a b c,p a b c/\q a b c/\r a b c/\s a b c/\t a b c:=⟨a,b,c,h0,h1,h2,h3,h4⟩
theorem BE(a:A)(b:B)(c:bq)(h0:p a b c)(h1:q a b c)(h2:r a b c)(h3:s a b c)(h4:t a b c)(h5:u a b c):∃a b c,p a b c/\q a b c/\r a b c/\s a b c/\t a b c/\u a b c:=⟨a,b,c,h0,h1,h2,h3,h4,h5⟩
end
section
variable{A B bq aZ:Sort _}{p q r s t u v w x y:A->B->bq->aZ->Prop}{G:Prop}
theorem Yv(a:A)(b:B)(c:bq)(d:aZ)(h0:p a b c d)(h1:q a b c d):∃a b c d,p a b c d/\q a b c d:=⟨a,b,c,d,h0,h1⟩
theorem FG(a:A)(b:B)(c:bq)(d:aZ)(h0:p a b c d)(h1:q a b c d)(h2:r a b c d):∃a b c d,p a b c d/\q a b c d/\r a b c d:=⟨a,b,c,d,h0,h1,h2⟩
theorem q7(a:A)(b:B)(c:bq)(d:aZ)(h0:p a b c d)(h1:q a b c d)(h2:r a b c d)(h3:s a b c d):∃a b c d,p a b c d/\q a b c d/\r a b c d/\s a b c d:=⟨a,b,c,d,h0,h1,h2,h3⟩
theorem Yw(a:A)(b:B)(c:bq)(d:aZ)(h0:p a b c d)(h1:q a b c d)(h2:r a b c d)(h3:s a b c d)(h4:t a b c d)(h5:u a b c d):∃a b c d,p a b c d/\q a b c d/\r a b c d/\s a b c d/\t a b c d/\u a b c d:=⟨a,b,c,d,h0,h1,h2,h3,h4,h5⟩
theorem Yx(a:A)(b:B)(c:bq)(d:aZ)(h0:p a b c d)(h1:q a b c d)(h2:r a b c d)(h3:s a b c d)(h4:t a b c d)(h5:u a b c d)(h6:v a b c d):∃a b c d,p a b c d/\q a b c d/\r a b c d/\s a b c d/\t a b c d/\u a b c d/\v a b c d:=⟨a,b,c,d,h0,h1,h2,h3,h4,h5,h6⟩
theorem Yy(a:A)(b:B)(c:bq)(d:aZ)(h0:p a b c d)(h1:q a b c d)(h2:r a b c d)(h3:s a b c d)(h4:t a b c d)(h5:u a b c d)(h6:v a b c d)(h7:w a b c d):∃a b c d,p a b c d/\q a b c d/\r a b c d/\s a b c d/\t a b c d/\u a b c d/\v a b c d/\w a b c d:=⟨a,b,c,d,h0,h1,h2,h3,h4,h5,h6,h7⟩
end
section
variable{A B bq aZ E:Sort _}{p q r s t u v w x y:A->B->bq->aZ->E->Prop}{G:Prop}
theorem Yz(a:A)(b:B)(c:bq)(d:aZ)(e:E)(h0:p a b c d e)(h1:q a b c d e):∃a b c d e,p a b c d e/\q a b c d e:=⟨a,b,c,d,e,h0,h1⟩
theorem YA(a:A)(b:B)(c:bq)(d:aZ)(e:E)(h0:p a b c d e)(h1:q a b c d e)(h2:r a b c d e)(h3:s a b c d e):∃a b c d e,p a b c d e/\q a b c d e/\r a b c d e/\s a b c d e:=⟨a,b,c,d,e,h0,h1,h2,h3⟩
end
theorem nc{α:Type _}(f:α->J){a b:α}{P:Prop}(h:a=b)(e:tL (f a) (f b)=ay):P:=nomatch e.symm.trans (h▸Nat.beq_refl (f a):tL (f a) (f b)=Y)
end Internal
section
open PySem PySem.Calls PySem.SeqAt PyProof.Rows PySem.W
namespace Internal
noncomputable def de(P:oJ)(k:af)(t:J)(v:aB):DictEntry:=⟨rT P k,.str k t,v⟩
noncomputable def co(n q:af)(t:J)(l a b c d:aS)(r r':aq)(x y z u:aB)(m:aS)(t':J):bL:={cls:=.type "code",dict:=aa,data:=.fields #[.str n t,.str q (t+1),.str "/claim/cut.py" (t+2),.int l 0,.int a 0,.int b 0,.int c 0,.int d 0,.ref r,.bool Y,.int 276 0,.ref r',x,y,z,u,.int m 0,.int l 0,.str "/claim/cut.py" t'],slots:=#[]}
def fo(n q:af)(s:bg cz)(m:aB)(c:aq)(d:aB):bL:={cls:=.type "function",dict:=aa,data:=.func {docDef n (gw s) (dD s) (eg s) m (.ref c) .none with qualname:=q,defaults:=d},slots:=#[]}
def o3(P:oJ):bL:={cls:=.type "dict",dict:=aa,data:=.dict (xZ (de P "__name__" 165 (.str "law_rx0064_02" 728)::de P "__doc__" 166 .none::de P "__package__" 167 .none::de P "__loader__" 168 (.builtin "__main__.__loader__#opaque")::de P "__spec__" 169 .none::de P "__annotations__" 170 (.ref 6)::de P "__builtins__" 171 (.ref 4)::de P "__file__" 173 (.str "/claim/cut.py" 172)::de P "__cached__" 174 .none::de P "_sre" 275 (.ref 12)::de P "_wall" 288 (.ref 38)::de P "read_uint1" 298 (.ref 45)::de P "read_string1" 307 (.ref 52)::de P "_twin_re_1" 347 (.ref 57)::de P "translate" 356 (.ref 64)::de P "_special_chars_map" 504 (.ref 66)::de P "escape" 511 (.ref 76)::de P "_translate" 532 (.ref 83)::de P "_join_translated_parts" 545 (.ref 90)::de P "_NODE_OUT" 550 (.int (-1) 549)::de P "_NODE_DONE" 553 (.int (-2) 552)::de P "_NodeInfo" 590 (.ref 109)::de P "CycleError" 608 (.ref 124)::de P "TopologicalSorter" 727 (.ref 206)::de P "_law_stream" 740 (.ref 217)::de P "_law_counted" 746 (.ref 222)::de P "_law_plain" 753 (.ref 229)::de P "_law_bracket" 759 (.ref 234)::de P "_law_takes" 774 (.ref 241)::de P "_law_rounds" 783 (.ref 248)::de P "_law_times" 789 (.ref 253)::de P "law" 795 (.ref 258)::[])) 32,slots:=#[]}
def Oc:bL:=co "read_uint1" "read_uint1" 291 6 1 0 0 3 39 40 (.none) (.ref 41) (.ref 42) (.ref 43) 296 297
def Od:bL:=fo "read_uint1" "read_uint1" (bB 3) (.str "cpy313.pickletools" 289) 44 (.none)
def Oe:bL:=co "read_string1" "read_string1" 299 11 1 0 0 3 46 47 (.none) (.ref 48) (.ref 49) (.ref 50) 305 306
def Of:bL:=fo "read_string1" "read_string1" (bB 4) (.str "cpy313.pickletools" 289) 51 (.none)
noncomputable def Og:bL:={cls:=.type "tuple",dict:=aa,data:=.seq (xZ ((.int 14 0)::(.int 14 0)::(.int 4 0)::(.int 1 0)::(.int 1 0)::(.int 9 0)::(.int 0 0)::(.int 64 0)::(.int 0 0)::(.int 1342177280 0)::(.int 0 0)::(.int 0 0)::(.int 0 0)::(.int 0 0)::(.int 0 0)::(.int 17 0)::(.int 0 0)::(.int 13 0)::(.int 11 0)::(.int 9 0)::(.int 0 0)::(.int 64 0)::(.int 0 0)::(.int 1342177280 0)::(.int 0 0)::(.int 0 0)::(.int 0 0)::(.int 0 0)::(.int 0 0)::(.int 17 0)::(.int 1 0)::(.int 1 0)::[])) 0,slots:=#[]}
noncomputable def Oh:bL:={cls:=.type "re.Pattern",dict:=aa,data:=.fields #[.str "([&~|])" 311,.int 32 346,.int 1 0,.none,.none,.ref 56,.int 0 0],slots:=#[]}
def Oi:bL:=co "translate" "translate" 348 20 1 0 0 3 58 59 (.none) (.ref 60) (.ref 61) (.ref 62) 354 355
def Oj:bL:=fo "translate" "translate" (bB 7) (.str "cpy313.fnmatch" 308) 63 (.none)
noncomputable def Ol:bL:={cls:=.type "dict",dict:=aa,data:=.dict (xZ (⟨40,.int 40 360,.str "\\(" 364⟩::⟨41,.int 41 366,.str "\\)" 370⟩::⟨91,.int 91 372,.str "\\[" 376⟩::⟨93,.int 93 378,.str "\\]" 382⟩::⟨123,.int 123 384,.str "\\{" 388⟩::⟨125,.int 125 390,.str "\\}" 394⟩::⟨63,.int 63 396,.str "\\?" 400⟩::⟨42,.int 42 402,.str "\\*" 406⟩::⟨43,.int 43 408,.str "\\+" 412⟩::⟨45,.int 45 414,.str "\\-" 418⟩::⟨124,.int 124 420,.str "\\|" 424⟩::⟨94,.int 94 426,.str "\\^" 430⟩::⟨36,.int 36 432,.str "\\$" 436⟩::⟨92,.int 92 438,.str "\\\\" 442⟩::⟨46,.int 46 444,.str "\\." 448⟩::⟨38,.int 38 450,.str "\\&" 454⟩::⟨126,.int 126 456,.str "\\~" 460⟩::⟨35,.int 35 462,.str "\\#" 466⟩::⟨32,.int 32 468,.str "\\ " 472⟩::⟨9,.int 9 474,.str "\\\t" 478⟩::⟨10,.int 10 480,.str "\\\n" 484⟩::⟨13,.int 13 486,.str "\\\x0d" 490⟩::⟨11,.int 11 492,.str "\\\x0b" 496⟩::⟨12,.int 12 498,.str "\\\x0c" 502⟩::[])) 24,slots:=#[]}
def Om:bL:=co "escape" "escape" 505 26 1 0 0 3 70 71 (.none) (.ref 72) (.ref 73) (.ref 74) 509 510
def Oo:bL:=fo "escape" "escape" (bB 10) (.str "re" 357) 75 (.none)
def Oq:bL:=co "_translate" "_translate" 514 33 3 0 0 3 77 78 (.none) (.ref 79) (.ref 80) (.ref 81) 530 531
def Ot:bL:=fo "_translate" "_translate" (bB 12) (.str "cpy313.fnmatch" 512) 82 (.none)
def Ou:bL:=co "_join_translated_parts" "_join_translated_parts" 533 95 2 0 0 3 84 85 (.none) (.ref 86) (.ref 87) (.ref 88) 543 544
def Ov:bL:=fo "_join_translated_parts" "_join_translated_parts" (bB 13) (.str "cpy313.fnmatch" 512) 89 (.none)
def NH:bL:=co "__init__" "_NodeInfo.__init__" 570 128 2 0 0 3 99 100 (.none) (.ref 101) (.ref 102) (.ref 103) 575 576
def NI:bL:=fo "__init__" "_NodeInfo.__init__" (fL 17 1) (.str "cpy313.graphlib" 546) 104 (.none)
def aaI(P:oJ):bL:={cls:=.type "dict",dict:=aa,data:=.dict #[de P "__module__" 561 (.str "cpy313.graphlib" 546),de P "__firstlineno__" 565 (.int 125 564),de P "__slots__" 569 (.ref 98),de P "__init__" 577 (.ref 105),de P "__static_attributes__" 581 (.ref 106),de P "node" 583 (.ref 110),de P "npredecessors" 585 (.ref 111),de P "successors" 587 (.ref 112),de P "__doc__" 588 .none] 5,slots:=#[]}
noncomputable def aaJ:bL:={cls:=.type "type",dict:=aa,data:=.cls {name:={cps:=#[95,78,111,100,101,73,110,102,111]},bases:=[tN "object"],mro:=[SM 109,tN "object"],ns:=108,qualname:={cps:=#[95,78,111,100,101,73,110,102,111]},hasDict:=ay,slotNames:=[{cps:=#[110,111,100,101]},{cps:=#[110,112,114,101,100,101,99,101,115,115,111,114,115]},{cps:=#[115,117,99,99,101,115,115,111,114,115]}],subclasses:=[],abstract:=ay,collection:=aa,hasDel:=ay},slots:=#[aa,aa,(D (.str "_NodeInfo" 554)),(D (.str "_NodeInfo" 562)),(D (.builtin "object.__new__")),(D (.bool ay))]}
noncomputable def aaK:bL:={cls:=.type "member_descriptor",dict:=aa,data:=.fields #[.str "node" 582,.ref 109,.builtin "proto.slot",.builtin "proto.slot#set",.int 2 0],slots:=#[]}
noncomputable def aaL:bL:={cls:=.type "member_descriptor",dict:=aa,data:=.fields #[.str "npredecessors" 584,.ref 109,.builtin "proto.slot",.builtin "proto.slot#set",.int 1 0],slots:=#[]}
noncomputable def aaM:bL:={cls:=.type "member_descriptor",dict:=aa,data:=.fields #[.str "successors" 586,.ref 109,.builtin "proto.slot",.builtin "proto.slot#set",.int 0 0],slots:=#[]}
noncomputable def aaN:bL:={cls:=.type "tuple",dict:=aa,data:=.seq #[.type "ValueError"] 0,slots:=#[]}
def aaO(P:oJ):bL:={cls:=.type "dict",dict:=aa,data:=.dict #[de P "__module__" 598 (.str "cpy313.graphlib" 546),de P "__firstlineno__" 602 (.int 132 601),de P "__static_attributes__" 603 (.ref 122),de P "__weakref__" 605 (.ref 125),de P "__doc__" 606 .none] 3,slots:=#[]}
noncomputable def aaP:bL:={cls:=.type "type",dict:=aa,data:=.cls {name:={cps:=#[67,121,99,108,101,69,114,114,111,114]},bases:=[tN "ValueError"],mro:=[SM 124,tN "ValueError",tN "Exception",tN "BaseException",tN "object"],ns:=123,qualname:={cps:=#[67,121,99,108,101,69,114,114,111,114]},hasDict:=Y,slotNames:=[],subclasses:=[],abstract:=ay,collection:=aa,hasDel:=ay},slots:=#[(D (.ref 115)),aa,(D (.str "CycleError" 591)),(D (.str "CycleError" 599)),(D (.builtin "ValueError.__new__")),(D (.bool Y))]}
noncomputable def aaQ:bL:={cls:=.type "tuple",dict:=aa,data:=.seq #[.none] 0,slots:=#[]}
def aaR:bL:=co "__init__" "TopologicalSorter.__init__" 621 136 2 0 0 3 136 137 (.none) (.ref 138) (.ref 139) (.ref 140) 628 629
def aaS:bL:=fo "__init__" "TopologicalSorter.__init__" (fL 19 0) (.str "cpy313.graphlib" 546) 141 (.ref 135)
def NJ:bL:=co "_get_nodeinfo" "TopologicalSorter._get_nodeinfo" 631 145 2 0 0 3 143 144 (.none) (.ref 145) (.ref 146) (.ref 147) 637 638
def NK:bL:=fo "_get_nodeinfo" "TopologicalSorter._get_nodeinfo" (fL 19 1) (.str "cpy313.graphlib" 546) 148 (.none)
def NL:bL:=co "add" "TopologicalSorter.add" 640 150 2 0 0 7 150 151 (.none) (.ref 152) (.ref 153) (.ref 154) 649 650
def NM:bL:=fo "add" "TopologicalSorter.add" (fL 19 2) (.str "cpy313.graphlib" 546) 155 (.none)
def NN:bL:=co "prepare" "TopologicalSorter.prepare" 652 159 1 0 0 3 157 158 (.none) (.none) (.none) (.ref 159) 655 656
def NO:bL:=fo "prepare" "TopologicalSorter.prepare" (fL 19 3) (.str "cpy313.graphlib" 546) 160 (.none)
def aaT:bL:=co "get_ready" "TopologicalSorter.get_ready" 658 167 1 0 0 3 162 163 (.none) (.ref 164) (.ref 165) (.ref 166) 665 666
def aaU:bL:=fo "get_ready" "TopologicalSorter.get_ready" (fL 19 4) (.str "cpy313.graphlib" 546) 167 (.none)
def NP:bL:=co "is_active" "TopologicalSorter.is_active" 668 178 1 0 0 3 169 170 (.none) (.ref 171) (.ref 172) (.ref 173) 672 673
def NQ:bL:=fo "is_active" "TopologicalSorter.is_active" (fL 19 5) (.str "cpy313.graphlib" 546) 174 (.none)
def NR:bL:=co "done" "TopologicalSorter.done" 682 186 1 0 0 7 183 184 (.none) (.ref 185) (.ref 186) (.ref 187) 693 694
def NS:bL:=fo "done" "TopologicalSorter.done" (fL 19 7) (.str "cpy313.graphlib" 546) 188 (.none)
def NU:bL:=co "_find_cycle" "TopologicalSorter._find_cycle" 696 209 1 0 0 3 190 191 (.none) (.ref 192) (.ref 193) (.ref 194) 706 707
def NV:bL:=fo "_find_cycle" "TopologicalSorter._find_cycle" (fL 19 8) (.str "cpy313.graphlib" 546) 195 (.none)
def aaV(P:oJ):bL:={cls:=.type "dict",dict:=aa,data:=.dict #[de P "__module__" 616 (.str "cpy313.graphlib" 546),de P "__firstlineno__" 620 (.int 134 619),de P "__init__" 630 (.ref 142),de P "_get_nodeinfo" 639 (.ref 149),de P "add" 651 (.ref 156),de P "prepare" 657 (.ref 161),de P "get_ready" 667 (.ref 168),de P "is_active" 674 (.ref 175),de P "__bool__" 681 (.ref 182),de P "done" 695 (.ref 189),de P "_find_cycle" 708 (.ref 196),de P "static_order" 715 (.ref 203),de P "__static_attributes__" 720 (.ref 204),de P "__dict__" 722 (.ref 207),de P "__weakref__" 724 (.ref 208),de P "__doc__" 725 .none] 4,slots:=#[]}
noncomputable def aaW:bL:={cls:=.type "type",dict:=aa,data:=.cls {name:={cps:=#[84,111,112,111,108,111,103,105,99,97,108,83,111,114,116,101,114]},bases:=[tN "object"],mro:=[SM 206,tN "object"],ns:=205,qualname:={cps:=#[84,111,112,111,108,111,103,105,99,97,108,83,111,114,116,101,114]},hasDict:=Y,slotNames:=[],subclasses:=[],abstract:=ay,collection:=aa,hasDel:=ay},slots:=#[aa,aa,(D (.str "TopologicalSorter" 609)),(D (.str "TopologicalSorter" 617)),(D (.builtin "object.__new__")),(D (.bool Y))]}
def NW:bL:=co "_law_stream" "_law_stream" 730 241 1 0 0 3 211 212 (.none) (.ref 213) (.ref 214) (.ref 215) 738 739
def NX:bL:=fo "_law_stream" "_law_stream" (bB 21) (.str "law_rx0064_02" 728) 216 (.none)
def NY:bL:=co "_law_counted" "_law_counted" 741 250 1 0 0 3 218 219 (.none) (.none) (.none) (.ref 220) 744 745
def NZ:bL:=fo "_law_counted" "_law_counted" (bB 22) (.str "law_rx0064_02" 728) 221 (.none)
def N1:bL:=co "_law_plain" "_law_plain" 747 252 1 0 0 3 223 224 (.none) (.ref 225) (.ref 226) (.ref 227) 751 752
def N2:bL:=fo "_law_plain" "_law_plain" (bB 23) (.str "law_rx0064_02" 728) 228 (.none)
def N3:bL:=co "_law_bracket" "_law_bracket" 754 254 1 0 0 3 230 231 (.none) (.none) (.none) (.ref 232) 757 758
def N4:bL:=fo "_law_bracket" "_law_bracket" (bB 24) (.str "law_rx0064_02" 728) 233 (.none)
def N5:bL:=co "_law_takes" "_law_takes" 760 258 2 0 0 3 235 236 (.none) (.ref 237) (.ref 238) (.ref 239) 772 773
def N6:bL:=fo "_law_takes" "_law_takes" (bB 25) (.str "law_rx0064_02" 728) 240 (.none)
def N7:bL:=co "_law_rounds" "_law_rounds" 775 279 1 0 0 3 242 243 (.none) (.ref 244) (.ref 245) (.ref 246) 781 782
def N8:bL:=fo "_law_rounds" "_law_rounds" (bB 26) (.str "law_rx0064_02" 728) 247 (.none)
def N9:bL:=co "_law_times" "_law_times" 784 289 2 0 0 3 249 250 (.none) (.none) (.none) (.ref 251) 787 788
def N_:bL:=fo "_law_times" "_law_times" (bB 27) (.str "law_rx0064_02" 728) 252 (.none)
def Oa:bL:=co "law" "law" 790 291 1 0 0 3 254 255 (.none) (.none) (.none) (.ref 256) 793 794
def aaX:bL:=fo "law" "law" (bB 28) (.str "law_rx0064_02" 728) 257 (.none)
def hK(P:oJ):Frag:=(3,o3 P)::(44,Oc)::(45,Od)::(51,Oe)::(52,Of)::(56,Og)::(57,Oh)::(63,Oi)::(64,Oj)::(66,Ol)::(75,Om)::(76,Oo)::(82,Oq)::(83,Ot)::(89,Ou)::(90,Ov)::(104,NH)::(105,NI)::(108,aaI P)::(109,aaJ)::(110,aaK)::(111,aaL)::(112,aaM)::(115,aaN)::(123,aaO P)::(124,aaP)::(135,aaQ)::(141,aaR)::(142,aaS)::(148,NJ)::(149,NK)::(155,NL)::(156,NM)::(160,NN)::(161,NO)::(167,aaT)::(168,aaU)::(174,NP)::(175,NQ)::(188,NR)::(189,NS)::(195,NU)::(196,NV)::(205,aaV P)::(206,aaW)::(216,NW)::(217,NX)::(221,NY)::(222,NZ)::(228,N1)::(229,N2)::(233,N3)::(234,N4)::(240,N5)::(241,N6)::(247,N7)::(248,N8)::(252,N9)::(253,N_)::(257,Oa)::(258,aaX)::[]
noncomputable def hA:I aq:=3::44::45::51::52::56::57::63::64::66::75::76::82::83::89::90::104::105::108::109::110::111::112::115::123::124::135::141::142::148::149::155::156::160::161::167::168::174::175::188::189::195::196::205::206::216::217::221::222::228::229::233::234::240::241::247::248::252::253::257::258::[]
theorem XO(P:oJ):hA=(hK P).map (·.1):=C
end Internal
end
section
open PySem PySem.W PyProof.Rows
namespace Internal
noncomputable def P7:bL:=⟨.none,aa,.fields #[],#[]⟩
def aae(K:oJ->Frag)(as:I aq)(e:∀P,as=(K P).map (·.1))(ts:I aq):Hook where
 α:=I (bg bL)×I (bg bL)
 obs:=λs=>(as.map s.heap.get?,ts.map s.heap.get?)
 val:=λw=>((K w.params).map λp=>D p.2,ts.map λ_=>D P7)
 says:=λw h=>InK K w h/\∀P∈ts,h.get? P=D P7
 of:=λw s x=>⟨InK.of e w s (mK x).1,List.map_inj_left.mp (mK x).2⟩
 keeps:=λw h h' x k=>⟨InK.keeps w h h' x.1 k,λP hP=>k _ _ (x.2 P hP)⟩
def lH:Hook:=aae hK hA XO [212,78]
noncomputable def P3:cy:=PySem.Challenge.rw_rx0064_02.row.prog
noncomputable def YZ:I J:=[0,1,3,4,6,7,9,10,12,13,15,16,17,18,19,21,22,23,24,25,26,27,28]
def q3:cy:=view P3 YZ
noncomputable def BW:I PySem.Str:=["_twin_re_1","_special_chars_map","_NodeInfo"]
abbrev tW(w:bX):Prop:=(openEnds treeTable PySem.Challenge.rw_rx0064_02.row.prog w 5824).map (λs=>(openSeen q3 BW (importedModules PySem.Challenge.rw_rx0064_02.row.prog.main.body) (λs=>xlAt q3 [] s&&recOk (RowW.records PySem.Challenge.rw_rx0064_02.row.toRowW) s) Y s,RH lH s))=D (openGood q3 BW,RI lH w)
theorem Za:∀w:bX,tW ((w.withFollow "special-get-raises" ay).withFollow "comprehension-iter-twice" ay):=by intro w;kernel_rfl
theorem Zb:∀w:bX,tW ((w.withFollow "special-get-raises" Y).withFollow "comprehension-iter-twice" ay):=by intro w;kernel_rfl
theorem Zc:∀w:bX,tW ((w.withFollow "special-get-raises" ay).withFollow "comprehension-iter-twice" Y):=by intro w;kernel_rfl
theorem Zd:∀w:bX,tW ((w.withFollow "special-get-raises" Y).withFollow "comprehension-iter-twice" Y):=by intro w;kernel_rfl
theorem ZC:LeftO PySem.Challenge.rw_rx0064_02.row.prog q3 BW (λs=>xlAt q3 [] s&&recOk (RowW.records PySem.Challenge.rw_rx0064_02.row.toRowW) s) (RH lH) (RI lH) 5824:=
 byRow2 (P:=tW) "comprehension-iter-twice" (byRow2 (P:=λw=>tW (w.withFollow "comprehension-iter-twice" ay)) "special-get-raises" Za Zb) (byRow2 (P:=λw=>tW (w.withFollow "comprehension-iter-twice" Y)) "special-get-raises" Zc Zd)
end Internal
end
namespace Internal
inductive Lx where
 |v(i:J)|n(k:J)|a(x y:Lx)|m(k:J)(x:Lx)|r(x:Lx)(k:J)
noncomputable def za:I J->J->J
 |[],_=>0
 |x::_,0=>x
 |_::r,i+1=>za r i
noncomputable def Lx.d(c:I J):Lx->J
 |.v i=>za c i
 |.n k=>k
 |.a x H=>x.d c+H.d c
 |.m k x=>k*x.d c
 |.r x k=>x.d c*k
noncomputable def Ca:I J->I J->I J
 |[],m=>m
 |l,[]=>l
 |x::l,H::m=>(x+H)::Ca l m
noncomputable def Lx.p:Lx->I J
 |.v i=>0::(nH i 0++[1])
 |.n k=>[k]
 |.a x H=>Ca x.p H.p
 |.m k x=>x.p.map (k*·)
 |.r x k=>x.p.map (k*·)
noncomputable def gI:I J->I J->J
 |[],_=>0
 |k::l,[]=>k*0+gI l []
 |k::l,x::c=>k*x+gI l c
noncomputable def Cc:I J->I J->bw
 |[],_=>Y
 |x::l,[]=>tL x 0&&Cc l []
 |x::l,H::m=>Nat.ble x H&&Cc l m
theorem GF:∀(l m c:I J),gI (Ca l m) c=gI l c+gI m c
 |[],m,c=>(jy _).symm
 |x::l,[],c=>C
 |x::l,H::m,[]=>by
  show(x+H)*0+gI _ []=(x*0+gI l [])+(H*0+gI m []);simp only [GF];exact Dx 0 0 _ _
 |x::l,H::m,E::c=>by
  show(x+H)*E+gI _ c=(x*E+gI l c)+(H*E+gI m c);simp only [GF,Nat.add_mul];exact Dx _ _ _ _
theorem Cb(k:J):∀(l c:I J),gI (l.map (k*·)) c=k*gI l c
 |[],_=>C
 |x::l,[]=>by
  show k*x*0+gI _ []=k*(x*0+gI l []);simp only [Cb,Dz,I0]
 |x::l,E::c=>by
  show k*x*E+gI _ c=k*(x*E+gI l c);simp only [Cb,Dz,I0]
theorem GG:∀(i:J)(c:I J),gI (nH i 0++[1]) c=za c i
 |0,[]=>C
 |0,x::c=>Sl x
 |i+1,[]=>by
  show 0*0+gI (nH i 0++[1]) []=0;rw [GG];exact C
 |i+1,x::c=>by
  show 0*x+gI (nH i 0++[1]) c=za c i;simp only [GG,DF,jy]
theorem wL(c:I J):∀x:Lx,x.d c=gI x.p (1::c)
 |.v i=>by
  show za c i=0*1+gI _ c;rw [GG];exact(jy _).symm
 |.n k=>(Si k).symm
 |.a x H=>by
  show x.d c+H.d c=gI (Ca x.p H.p) _;simp only [GF,wL c x,wL c H]
 |.m k x=>by
  show k*x.d c=gI (x.p.map _) _;simp only [Cb,wL c x]
 |.r x k=>by
  show x.d c*k=gI (x.p.map (k*·)) _;simp only [Cb,wL c x,I1]
theorem y_:∀{l m:I J}(c:I J),Cc l m=Y->gI l c<=gI m c
 |[],_,_,_=>gF _
 |x::l,[],c,h=>by
  have h:=cQ.mp h;have e:=Nat.eq_of_beq_eq_true h.1;cases c with
  |nil=>exact aD (fq (jy _)) (y_ [] h.2)
  |cons E c=>subst e;exact aD (fq (by show 0*E+_=_;rw [DF,jy])) (y_ c h.2)
 |x::l,H::m,c,h=>by
  have h:=cQ.mp h;cases c with
  |nil=>exact iO (y_ [] h.2) 0
  |cons E c=>exact iE (I2 E (ez h.1)) (y_ c h.2)
def y9(k:J)(L X H i:Lx):bw:=Cc (Lx.a (.m (k+1) L) i).p (Lx.a (.a (.m (k+1) X) H) (.n k)).p
theorem cS(k:J)(L X H i:Lx)(e:y9 k L X H i=Y)(c:I J)(h:H.d c<=i.d c):L.d c<=X.d c:=by
 have q:=y_ (1::c) e;rw [<-wL,<-wL]at q;have q:(k+1)*L.d c+i.d c<=((k+1)*X.d c+H.d c)+k:=q;refine rR (Nat.lt_of_mul_lt_mul_left (a:=k+1) ?_);exact Sg (Nat.le_of_add_le_add_right (aD q (by simp only [agt];exact iO h _)))
theorem eF(L X:Lx)(e:y9 0 L X (.n 0) (.n 0)=Y)(c:I J):L.d c<=X.d c:=cS 0 L X _ _ e c (dm 0)
theorem d_(k:J)(L X H i v x:Lx)(e:y9 k L X (.a H v) (.a i x)=Y)(c:I J)(h:H.d c<=i.d c)(O:v.d c<=x.d c):L.d c<=X.d c:=
 cS k L X _ _ e c (iE h O)
theorem jS(k:J)(L X H i v x b s:Lx)(e:y9 k L X (.a (.a H v) b) (.a (.a i x) s)=Y)(c:I J)(h:H.d c<=i.d c)(O:v.d c<=x.d c)(a:b.d c<=s.d c):L.d c<=X.d c:=
 cS k L X _ _ e c (iE (iE h O) a)
theorem m8(k:J)(L X H i v x b s l n:Lx)(e:y9 k L X (.a (.a H v) (.a b l)) (.a (.a i x) (.a s n))=Y)(c:I J)(h:H.d c<=i.d c)(O:v.d c<=x.d c)(a:b.d c<=s.d c)(B:l.d c<=n.d c):L.d c<=X.d c:=
 cS k L X _ _ e c (iE (iE h O) (iE a B))
theorem wI{a b:J}(h:tL a b=ay):a≠b:=agA h
theorem az{a b:J}(h:Nat.ble a b=Y):a<=b:=ez h
theorem rh(h:1<=0):False:=nomatch h
theorem Cd{a b:J}:a-b<=a:=DA a b
theorem m9{a b:J}:a<=a-b+b:=Nat.sub_le_iff_le_add.mp (dm _)
theorem lz{a b:J}(h:b<=a):a-b+b<=a:=fq (tM h)
theorem iX{a b:J}(h:a=b):a<=b:=fq h
theorem pB{a b:J}(h:a=b):b<=a:=fq h.symm
theorem aar{a b:J}:min a b<=a:=Ad a b
theorem GH{a b:J}:min a b<=b:=Nat.min_le_right a b
theorem wM(z:u+i=l+1)(h:i<l):u-1<u/\u-1+(i+1)=l+1:=by
 cases u with
 |zero=>exact bA (ae z.symm (jy i)) (vH (jZ h))
 |succ u=>exact⟨fG u,(agH u i).symm.trans z⟩
open PySem PySem.Calls PyProof.Rows
theorem cps{G:Prop}(h:∀P:Prop,(G->P)->P):G:=h G id
theorem aV{R:Type}{o:bg R}{x:R}{P:Prop}(h:o=aa)(e:o=D x):P:=nomatch ae h.symm e
theorem cY{P:Prop}(h:b=ay)(e:b=Y):P:=nomatch ae h.symm e
theorem mw{R:Type}{a b:Sem R}{Q:R->aU->Prop}(h:a=b)(q:aQ T L b Q H s):aQ T L a Q H s:=h▸q
theorem cV{R:Type}{o:bg R}{x:R}(h:o=D x):o.isSome=Y:=h▸C
abbrev Fz:=aq->bg bL
set_option genCtorIdx true in
inductive T where
 |none
 |bool(b:bw)
 |int(i:aS)
 |str(s:I J)
 |list(l:I T)
 |tup(l:I T)
 |atom
 |bV(v:aB)
noncomputable abbrev lo(n:I aB)(u:J):bL:={cls:=.type "list",data:=.seq n.toArray u}
noncomputable abbrev s_(n:I aB)(u:J):bL:={cls:=.type "tuple",data:=.seq n.toArray u}
structure Mk where
 star:aq
 mark:aq
mutual
inductive Den(ρ:Mk)(fz:Fz):aB->T->Prop
 |none:Den ρ fz .none .none
 |bool(b:bw):Den ρ fz (.bool b) (.bool b)
 |int(i:aS)(t:fT):Den ρ fz (.int i t) (.int i)
 |str(l:I J)(t:fT):Den ρ fz (.str ⟨l.toArray⟩ t) (.str l)
 |atom:Den ρ fz (.ref ρ.star) .atom
 |bV(v:aB):Den ρ fz v (.bV v)
 |list{a vs n ts}:fz a=D (lo vs n)->bu ρ fz vs ts->Den ρ fz (.ref a) (.list ts)
 |tup{a vs n ts}:fz a=D (s_ vs n)->bu ρ fz vs ts->Den ρ fz (.ref a) (.tup ts)
inductive bu(ρ:Mk)(fz:Fz):I aB->I T->Prop
 |nil:bu ρ fz [] []
 |cons{v vs t ts}:Den ρ fz v t->bu ρ fz vs ts->bu ρ fz (v::vs) (t::ts)
end
def Le(L f:Fz):Prop:=∀b o,L b=D o->f b=D o
def AH(L f:Fz):Prop:=∀b o z,o.data=.fields z->L b=D o->f b=D o
theorem Le.refl(L:Fz):Le L L:=λ_ _ e=>e
theorem Le.trans(x:Le L f)(H:Le f h):Le L h:=λb o e=>H b o (x b o e)
theorem Den.re(p:ρ.star=ρ'.star)(h:Le L f){v:aB}{A:T}(d:Den ρ L v A):Den ρ' f v A:=
 Den.rec .none .bool .int .str (p▸.atom) .bV (λe _ i=>.list (h _ _ e) i) (λe _ i=>.tup (h _ _ e) i) .nil (λ_ _ i t=>.cons i t) d
theorem bu.re(a:ρ.star=ρ'.star)(h:Le L f){z:I aB}{p:I T}(d:bu ρ L z p):bu ρ' f z p:=
 bu.rec .none .bool .int .str (a▸.atom) .bV (λe _ i=>.list (h _ _ e) i) (λe _ i=>.tup (h _ _ e) i) .nil (λ_ _ i t=>.cons i t) d
theorem Den.mono(h:Le L f)(d:Den F L v A):Den F f v A:=d.re C h
theorem bu.mono(h:Le L f)(d:bu F L z p):bu F f z p:=d.re C h
section
variable{ρ:Mk}{fz:Fz}
section
variable{P:I aB->Prop}
theorem bu.ja(d:bu ρ fz z [])(h:P []):P z:=by cases d;exact h
theorem bu.jA(d:bu ρ fz z (A::p))(h:∀v G,Den ρ fz v A->bu ρ fz G p->P (v::G)):P z:=by cases d with|cons a b=>exact h _ _ a b
end
theorem bu.ind{P:I aB->I T->Prop}(u:P [] [])(c:∀{v z A p},Den ρ fz v A->bu ρ fz z p->P z p->P (v::z) (A::p)):∀{p:I T}{z:I aB},bu ρ fz z p->P z p
 |[],_,d=>d.ja (P:=λz=>P z []) u
 |_::_,_,d=>d.jA (P:=λz=>P z _) λ_ _ a b=>c a b (bu.ind u c b)
theorem bu.length(d:bu ρ fz z p):U z=U p:=d.ind (P:=λz p=>U z=U p) C λ_ _ i=>aA Nat.succ i
theorem bu.get(d:bu ρ fz z p):∀{i:J}{t:T},p[i]?=D t->∃v,z[i]?=D v/\Den ρ fz v t:=
 d.ind (P:=λz p=>∀{i:J}{t:T},p[i]?=D t->∃v,z[i]?=D v/\Den ρ fz v t) (λh=>aV C h) λ{v _ _ _}a _ n{i _}h=>match i,h with
  |0,h=>aR v C (bj h▸a)
  |_+1,h=>n h
theorem bu.append(d:bu ρ fz z p)(h:bu ρ fz G j):bu ρ fz (z++G) (p++j):=d.ind (P:=λz p=>bu ρ fz (z++G) (p++j)) h λa _ i=>.cons a i
theorem bu.drop(d:bu ρ fz z p):∀(k:J),bu ρ fz (z.drop k) (p.drop k):=
 d.ind (P:=λz p=>∀(k:J),bu ρ fz (z.drop k) (p.drop k)) (λk=>k.casesOn .nil λ_=>.nil) λa b i k=>k.casesOn (.cons a b) i
theorem bu.take(d:bu ρ fz z p):∀(k:J),bu ρ fz (z.take k) (p.take k):=
 d.ind (P:=λz p=>∀(k:J),bu ρ fz (z.take k) (p.take k)) (λk=>k.casesOn .nil λ_=>.nil) λa _ i k=>k.casesOn .nil λk=>.cons a (i k)
theorem bu.reverse(d:bu ρ fz z p):bu ρ fz z.reverse p.reverse:=
 d.ind (P:=λz p=>bu ρ fz z.reverse p.reverse) .nil λa _ i=>IX.symm▸IX.symm▸i.append (.cons a .nil)
def Td(ρ:Mk)(fz:Fz)(v:aB):T->Prop
 |.none=>v=.none
 |.bool b=>v=.bool b
 |.int i=>∃A,v=.int i A
 |.str l=>∃A,v=.str ⟨l.toArray⟩ A
 |.atom=>v=.ref ρ.star
 |.bV w=>v=w
 |.list p=>∃a z u,fz a=D (lo z u)/\bu ρ fz z p/\v=.ref a
 |.tup p=>∃a z u,fz a=D (s_ z u)/\bu ρ fz z p/\v=.ref a
theorem Den.inv(d:Den ρ fz v A):Td ρ fz v A:=by
 cases d with
 |none=>rfl
 |bool=>rfl
 |int i A=>exact⟨A,C⟩
 |str l A=>exact⟨A,C⟩
 |atom=>rfl
 |bV=>rfl
 |list e d=>exact BD _ _ _ e d C
 |tup e d=>exact BD _ _ _ e d C
section
variable{P:aB->Prop}
theorem Den.qu(d:Den ρ fz v .none)(h:P .none):P v:=d.inv.symm▸h
theorem Den.ua(d:Den ρ fz v (.bool b))(h:P (.bool b)):P v:=d.inv.symm▸h
theorem Den.gR(d:Den ρ fz v (.int i))(h:∀A,P (.int i A)):P v:=bH d.inv λA e=>e.symm▸h A
theorem Den.i4(d:Den ρ fz v (.str l))(h:∀A,P (.str ⟨l.toArray⟩ A)):P v:=bH d.inv λA e=>e.symm▸h A
theorem Den.A1(d:Den ρ fz v .atom)(h:P (.ref ρ.star)):P v:=d.inv.symm▸h
theorem Den.OH(d:Den ρ fz v (.bV w))(h:P w):P v:=d.inv.symm▸h
theorem Den.listE(d:Den ρ fz v (.list p))(h:∀a z u,fz a=D (lo z u)->bu ρ fz z p->P (.ref a)):P v:=jl d.inv λa z u e d q=>q.symm▸h a z u e d
theorem Den.HG(d:Den ρ fz v (.tup p))(h:∀a z u,fz a=D (s_ z u)->bu ρ fz z p->P (.ref a)):P v:=jl d.inv λa z u e d q=>q.symm▸h a z u e d
end
theorem bu.jc(d:bu ρ fz z [a]):∃E,z=[E]/\Den ρ fz E a:=
 d.jA (P:=λz=>∃E,z=[E]/\Den ρ fz E a) λv G d b=>b.ja (P:=λG=>∃E,v::G=[E]/\Den ρ fz E a) (aR v C d)
theorem bu.HJ(d:bu ρ fz z [a,b]):∃E u,z=[E,u]/\Den ρ fz E a/\Den ρ fz u b:=
 d.jA (P:=λz=>∃E u,z=[E,u]/\Den ρ fz E a/\Den ρ fz u b) λv G d h=>ai h.jc λw e B=>gx v w (aA _ e) d B
theorem qw{R:Type}{x H:R}(h:(if c=Y then D x else aa)=D H):c=Y/\x=H:=by
 cases c with
 |true=>exact⟨C,bj h⟩
 |false=>exact aV C h
theorem bu.one(d:Den ρ fz v A):bu ρ fz [v] [A]:=.cons d .nil
end
inductive AV(O:Type)where
 |un
 |t(x:T)
 |own(l:I T)
 |obj(o:O)
 |gT(l:I T)
 |lu
structure OB(O:Type)where
 at_:O->aB->cf->I aq->Prop
 live:∀{o v h fp},at_ o v h fp->∀b∈fp,(h.get? b).isSome=Y
structure HB where
 b:Fz
 it:I aq
 f0:Fz
 lk:I (J×aB)
def bF(h O:cf):Prop:=∀b o,h.get? b=D o->O.get? b=D o
theorem bF.refl(h:cf):bF h h:=λ_ _ e=>e
theorem bF.trans(x:bF a b)(H:bF b c):bF a c:=λd o e=>H d o (x d o e)
theorem bF.push(h:cf)(o:bL):bF h (h.push o):=λ_ _ e=>eG _ e
structure bD(O:Type)where
 ob:OB O
 ok:cf->Prop
 h₀:cf
 base:∀{h},bF h₀ h->ok h
 frame:∀{o v h h' fp},ob.at_ o v h fp->bF h₀ h'->(∀b∈fp,∀x,h.get? b=D x->h'.get? b=D x)->ob.at_ o v h' fp
 tabs:I aq
 inv:Fz->cf->Prop
 live:∀{f h},inv f h->∀P∈tabs,(h.get? P).isSome=Y
 uJ:∀{f f' h h'},inv f h->AH f f'->(∀P∈tabs,∀o,h.get? P=D o->h'.get? P=D o)->inv f' h'
theorem bD.uK{X:bD q}{L u:Fz}{h O:cf}(l:Le L u)(i:X.inv L h)(k:∀P∈X.tabs,∀o,h.get? P=D o->O.get? P=D o):X.inv u O:=X.uJ i (λb o _ _ e=>l b o e) k
theorem bD.iy{B:bD q}{L:Fz}{h O:cf}(i:B.inv L h)(k:∀P∈B.tabs,∀o,h.get? P=D o->O.get? P=D o):B.inv L O:=B.uK (Le.refl L) i k
def kZ(X:bD q)(h O:cf):Prop:=∀b,b∉X.tabs->∀o,h.get? b=D o->O.get? b=D o
theorem bF.t{h O:cf}(x:bF h O):kZ X h O:=λb _ o e=>x b o e
theorem kZ.trans(x:kZ X a b)(H:kZ X b c):kZ X a c:=λd P o e=>H d P o (x d P o e)
theorem kZ.refl(h:cf):kZ X h h:=λ_ _ _ e=>e
noncomputable abbrev qb(a:aq):bL:={cls:=.type "builtin_function_or_method",data:=.fields #[.builtin "list.append",.ref a]}
inductive To(ρ:Mk)(fz:Fz)(x:T)(ov:bg aB)(fp:I aq):Prop
 |mk(e:fp=[])(v:aB)(ev:ov=D v)(d:Den ρ fz v x)
inductive Tj(ρ:Mk)(fz:Fz)(h:cf)(l:I T)(ov:bg aB)(fp:I aq):Prop
 |mk(a:aq)(vs:I aB)(n:J)(ev:ov=D (.ref a))(ha:h.get? a=D (lo vs n))(d:bu ρ fz vs l)(e:fp=[a])
inductive Tn(ob:OB O)(h:cf)(o:O)(ov:bg aB)(fp:I aq):Prop
 |mk(v:aB)(ev:ov=D v)(hv:ob.at_ o v h fp)
inductive Tl(ρ:Mk)(fz:Fz)(h:cf)(l:I T)(ov:bg aB)(fp:I aq):Prop
 |mk(vs:I aB)(n:J)(ev:ov=D (.ref ρ.mark))(ha:h.get? ρ.mark=D (lo vs n))(d:bu ρ fz vs l)(e:fp=[ρ.mark])
inductive Ti(a:aq)(h:cf)(ov:bg aB)(fp:I aq):Prop
 |mk(b:aq)(ev:ov=D (.ref b))(ha:h.get? b=D (qb a))(e:fp=[b])
def Holds(X:bD q)(F:Mk)(g:Fz)(h:cf):AV q->bg aB->I aq->Prop
 |.un,_,R=>R=[]
 |.t x,Q,R=>To F g x Q R
 |.own l,Q,R=>Tj F g h l Q R
 |.obj o,Q,R=>Tn X.ob h o Q R
 |.gT l,Q,R=>Tl F g h l Q R
 |.lu,Q,R=>Ti F.mark h Q R
theorem Holds.live(x:Holds X F g h E Q R):∀b∈R,(h.get? b).isSome=Y:=by
 cases E with
 |un=>intro b f;cases x;exact bA f dQ
 |t _=>obtain⟨rfl,_⟩:=x;intro b f;exact bA f dQ
 |own l=>
  obtain⟨a,z,e,_,u,_,rfl⟩:=x;intro b f;cases cO.mp f;rw [u];rfl
 |obj o=>obtain⟨v,_,d⟩:=x;exact X.ob.live d
 |gT l=>
  obtain⟨z,e,_,u,_,rfl⟩:=x;intro b f;cases cO.mp f;rw [u];rfl
 |lu=>
  obtain⟨a,_,u,rfl⟩:=x;intro b f;cases cO.mp f;rw [u];rfl
theorem Holds.mono{F e O}(x:Holds X F k e E Q R)(g:Le k j)(f:bF X.h₀ O)(B:∀b∈R,∀x,e.get? b=D x->O.get? b=D x):
  Holds X F j O E Q R:=by
 cases E with
 |un=>exact x
 |t _=>obtain⟨n,v,s,d⟩:=x;exact⟨n,v,s,d.mono g⟩
 |own l=>
  obtain⟨a,z,h,s,u,d,rfl⟩:=x;exact⟨a,z,h,s,B a (.head _) _ u,d.mono g,C⟩
 |obj o=>obtain⟨v,s,i⟩:=x;exact⟨v,s,X.frame i f B⟩
 |gT l=>
  obtain⟨z,h,s,u,d,rfl⟩:=x;exact⟨z,h,s,B _ (.head _) _ u,d.mono g,C⟩
 |lu=>
  obtain⟨a,s,u,rfl⟩:=x;exact⟨a,s,B a (.head _) _ u,C⟩
def eE(G:c3)(m:af->bg aB)(h:cf)(x:af)(Q:bg aB):Prop:=
 (G.kindOf x=D .local/\Q=m x)\/
 ((G.kindOf x=D .cell\/(G.kindOf x=D .free/\(x==("__classdict__":af))=ay))/\∃c,G.cells.lookup x=D c/\h.IsCell c Q)
inductive Jx(B:bD O)(ρ:Mk)(fz:Fz)(h:cf)(V:c3)(m:af->bg aB)(x:af)(av:AV O)(fp:I aq):Prop
 |mk(ov:bg aB)(a:eE V m h x ov)(hh:Holds B ρ fz h av ov fp)
structure gm(V:c3):Prop where
 kind:V.scope.kind=.function
 globals:V.globals=j0
 builtins:V.builtins=builtinsNs
structure aW(B:bD O)(ρ:Mk)(hB:HB)(fz:Fz)(V:c3)(xs:I af)(k:J)(lv:I (AV O))(m:af->bg aB)(cK:J->I aq)(h:cf):Prop where
 len:lv.length=xs.length
 base:bF B.h₀ h
 kept:∀b o,hB.b b=D o->h.get? b=D o
 bJ:∀b o,fz b=D o->h.get? b=D o
 ns:h.Ns V.locals m
 nL:hB.b V.locals=aa/\fz V.locals=aa
 f_:∀b o,B.h₀.get? b=D o->hB.b b=D o
 vars:∀(i:J)(x:af)(av:AV O),xs[i]?=D x->lv[i]?=D av->Jx B ρ fz h V m x av (cK i)
 own:∀(i:J)(x:af)(c:aq),i<k->xs[i]?=D x->V.kindOf x≠D .local->V.cells.lookup x=D c->hB.b c=aa
 jz:∀(i:J)(x:af)(c:aq),k<=i->xs[i]?=D x->V.cells.lookup x=D c->V.kindOf x≠D .local->∃o,hB.b c=D o
 cell:∀(i:J)(x:af)(c:aq),xs[i]?=D x->V.kindOf x≠D .local->V.cells.lookup x=D c->c≠V.locals/\fz c=aa
 qR:∀(i:J)(x:af),k<=i->xs[i]?=D x->V.kindOf x≠D .local
 inj:∀(i j:J)(x y:af)(c:aq),xs[i]?=D x->xs[j]?=D y->V.kindOf x≠D .local->V.kindOf y≠D .local->V.cells.lookup x=D c->V.cells.lookup y=D c->i=j
 nodup:∀(i j:J)(x:af),xs[i]?=D x->xs[j]?=D x->i=j
 fp:∀(i:J),i<xs.length->∀b∈cK i,hB.b b=aa/\fz b=aa/\b≠V.locals/\∀(j:J)(x:af),xs[j]?=D x->V.kindOf x≠D .local->V.cells.lookup x≠D b
 inv:B.inv fz h
 tab:∀P∈B.tabs,hB.b P=aa/\fz P=aa/\P≠V.locals/\(∀(j:J)(x:af),xs[j]?=D x->V.kindOf x≠D .local->V.cells.lookup x≠D P)/\∀i,i<xs.length->P∉cK i
 dJ:∀b∈hB.it,(hB.b b).isSome=Y/\fz b=aa/\(∀(j:J)(x:af),xs[j]?=D x->V.kindOf x≠D .local->V.cells.lookup x≠D b)/\B.h₀.get? b=aa
 new:∀b o,fz b=D o->hB.f0 b=D o\/hB.b b=aa
 lock:∀p∈hB.lk,∀x,xs[p.1]?=D x->eE V m h x (D p.2)
 apart:∀(i j:J),i<xs.length->j<xs.length->i≠j->∀b∈cK i,b∉cK j
inductive SR(B:bD O)(ρ:Mk)(hB:HB)(fz:Fz)(V:c3)(xs:I af)(k:J)(lv:I (AV O))(h:cf):Prop
 |mk(eo:gm V)(m:af->bg aB)(cK:J->I aq)(S:aW B ρ hB fz V xs k lv m cK h)
section
variable{B:bD O}{ρ:Mk}{hB:HB}{fz:Fz}{V:c3}{xs:I af}{k:J}{lv:I (AV O)}{m:af->bg aB}{h h':cf}
theorem eE.keep(a:eE V m h x Q)(B:∀c,V.kindOf x≠D .local->V.cells.lookup x=D c->∀o,h.get? c=D o->h'.get? c=D o):eE V m h' x Q:=by
 rcases a with a|⟨l,c,X,n,O,P⟩
 .exact .inl a
 .refine .inr ⟨l,c,X,n,B c (λq=>?_) X _ O,P⟩;rw [q]at l;rcases l with l|⟨l,_⟩<;>exact nc nK (bj l) C
theorem Ck(u:h.Ns a m)(B:∀o,h.get? a=D o->h'.get? a=D o):h'.Ns a m:=jC u λo Q L T r=>l7 o Q L (B o T) r
theorem Cj(u:h.Ns a m):(h.get? a).isSome=Y:=jC u λE E E T E=>T▸C
theorem aW.jb(S:aW B ρ hB fz V xs k lv m r h)(e:hB.b b=D o):b∉B.tabs:=λq=>aV ((S.tab b q).1) e
theorem aW.nu(S:aW B ρ hB fz V xs k lv m r h)(e:fz b=D o):b∉B.tabs:=λq=>aV ((S.tab b q).2.1) e
theorem aW.fresh(S:aW B ρ hB fz V xs k lv m r h)(f:h.get? b=aa):
  hB.b b=aa/\fz b=aa/\b≠V.locals/\(∀(t:J)(x:af),xs[t]?=D x->V.kindOf x≠D .local->V.cells.lookup x≠D b)/\(∀t,t<U xs->b∉r t)/\b∉B.tabs:=by
 refine yL ?_ ?_ ?_ (λt H L w l=>?_) (λt O R=>?_) (λR=>?_)
 .cases e:hB.b b with
  |none=>rfl
  |some o=>have:=S.kept b o e;exact aV f this
 .cases e:fz b with
  |none=>rfl
  |some o=>have:=S.bJ b o e;exact aV f this
 .rintro rfl;have:=Cj S.ns;rw [f]at this;exact cY C this
 .have O:t<U lv:=by rw [S.len];exact(cG.mp L).1
  obtain⟨Q,u,_⟩:=S.vars t H _ L (dB O);rcases u with⟨e,_⟩|⟨_,s,X,n,i,_⟩
  .exact w e
  .rw [l]at X;obtain rfl:=bj X;exact aV f i
 .have j:t<U lv:=by rw [S.len];exact O
  refine cps λ_ v=>?_;obtain⟨Q,_,a⟩:=S.vars t _ _ (dB O) (dB j);apply v;have:=a.live b R;rw [f]at this;exact cY C this
 .have:=B.live S.inv b R;rw [f]at this;exact cY C this
theorem aW.grow(S:aW B ρ hB fz V xs k lv m r h)(a:kZ B h h')(A:B.inv g8 h')(H:Le fz g8)(z:∀b o,g8 b=D o->fz b=D o\/h.get? b=aa/\h'.get? b=D o):
  aW B ρ hB g8 V xs k lv m r h':=by
 have s:∀b,fz b=aa->(h.get? b).isSome=Y->g8 b=aa:=λb O v=>by
  cases e:g8 b with
  |none=>rfl
  |some o=>
   rcases z b o e with R|⟨R,_⟩
   .exact aV O R
   .rw [R]at v;exact cY C v
 have g:bF B.h₀ h':=λb o e=>a b (S.jb (S.f_ b o e)) o (S.base b o e);refine{S with base:=g,kept:=λb o e=>a _ (S.jb e) _ (S.kept b o e),bJ:=λb o e=>?_,ns:=?_,nL:=⟨S.nL.1,?_⟩,vars:=λi x E j y=>?_,cell:=λi x c j t l=>?_,fp:=λi A b f=>?_,inv:=A,tab:=λP d=>?_,dJ:=λb f=>?_,new:=λb o e=>?_,lock:=λp L x j=>(S.lock p L x j).keep λc w l o e=>a c (λq=>(S.tab c q).2.2.2.1 p.1 x j w l) o e}
 .rcases z b o e with R|⟨_,R⟩
  .exact a _ (S.nu R) _ (S.bJ b o R)
  .exact R
 .exact Ck S.ns (a _ (λq=>(S.tab _ q).2.2.1 C))
 .exact s _ S.nL.2 (Cj S.ns)
 .obtain⟨Q,u,n⟩:=S.vars i x E j y;exact⟨Q,u.keep λc w l o e=>a c (λq=>(S.tab c q).2.2.2.1 i x j w l) o e,n.mono H g λb f o e=>a b (λq=>(S.tab b q).2.2.2.2 i (cG.mp j).1 f) o e⟩
 .have:=S.cell i x c j t l;refine⟨this.1,s _ this.2 ?_⟩;have A:i<U lv:=by rw [S.len];exact(cG.mp j).1
  obtain⟨Q,u,_⟩:=S.vars i x _ j (dB A);rcases u with⟨e,_⟩|⟨_,G,X,ah,F,_⟩
  .exact bA e t
  .rw [l]at X;obtain rfl:=bj X;exact cV F
 .have:=S.fp i A b f;refine dI this.1 (s _ this.2.1 ?_) this.2.2;obtain⟨Q,_,n⟩:=S.vars i _ _ (dB A) (dB (by rw [S.len];exact A));exact n.live b f
 .have:=S.tab P d;exact dI this.1 (s _ this.2.1 (B.live S.inv P d)) this.2.2
 .have:=S.dJ b f;refine dI this.1 (s _ this.2.1 ?_) this.2.2;obtain⟨o,T⟩:=gG.mp this.1;exact cV (S.kept b o T)
 .rcases z b o e with q|⟨q,_⟩
  .exact S.new b o q
  .exact .inr (S.fresh q).1
theorem aW.ux(S:aW B ρ hB fz V xs k lv m r h)(e:bF h h')(g:Le fz j)(z:∀b o,j b=D o->fz b=D o\/h.get? b=aa/\h'.get? b=D o):
  aW B ρ hB j V xs k lv m r h':=S.grow e.t (bD.uK ‹_› S.inv λP _ o a=>e P o a) g z
end
theorem d9{R:Type}{l:I R}{a:R}(i:J)(h:l[i]?=D a):a∈l:=cN h
theorem eJ{R:Type}{P:R->Prop}:∀b∈[],P b:=λ_ h=>nomatch h
theorem bO{R:Type}{P:R->Prop}{a:R}{l:I R}(h:P a)(A:∀b∈l,P b):∀b∈a::l,P b:=λb f=>(cD.mp f).elim (λe=>e▸h) (A b)
noncomputable def k_(L:Fz)(a:aq)(o:bL):Fz:=λb=>if b=a then D o else L b
theorem qW:k_ L a o a=D o:=aL C
theorem qY(h:b≠a)(e:L b=aa):k_ L a o b=aa:=ae (aJ h) e
theorem uv(h:b≠a)(e:L b=D x):k_ L a o b=D x:=ae (aJ h) e
theorem eZ{L:aq->bg bL}(h:L a=aa)(e:L b=D x):b≠a:=λq=>aV h (q▸e)
theorem yE(h:L a=aa):Le L (k_ L a o):=λ_ _ e=>uv (eZ h e) e
theorem qX{P:Prop}(e:k_ L a o b=D x)(w:b=a->o=x->P)(v:L b=D x->P):P:=
 (vv _).elim (λq=>w q (bj ((aL q).symm.trans e))) λq=>v ((aJ q).symm.trans e)
noncomputable def uy(A:I aq)(a:aq)(h:cf):Fz:=λb=>if b∈A\/b=a then aa else h.get? b
theorem uz(e:h.get? b=D o)(w:b∉A)(v:b≠a):uy A a h b=D o:=ae (aJ (λq=>q.elim w v)) e
theorem LU(e:uy A a h b=D o):h.get? b=D o:=
 (vv _).elim (λq=>aV (aL q) e) λq=>(aJ q).symm.trans e
theorem X_(e:h.get? b=aa):uy A a h b=aa:=by
 cases q:uy A a h b with
 |none=>rfl
 |some o=>exact aV e (LU q)
theorem Yb(q:b∈A):uy A a h b=aa:=aL (.inl q)
theorem X9:uy A a h a=aa:=aL (.inr C)
theorem iY{o:bg bL}(h:∀x,o=D x->False):o=aa:=by
 cases o with
 |none=>rfl
 |some x=>exact(h x C).elim
def bP(s t:aU):Prop:=∃h n,(t,AllBare t.gens)=({s with heap:=h,toks:=n,gens:=t.gens},AllBare s.gens)
theorem bP.refl(s:aU):bP s s:=cH s.heap s.toks C
theorem bP.trans(x:bP a b)(H:bP b c):bP a c:=
 jO x λh A e=>jO H λO P R=>cH O P (Su ((mK R).1.trans (aA (λE:aU=>{E with heap:=O,toks:=P,gens:=c.gens}) (mK e).1)) ((mK R).2.trans (mK e).2))
theorem bP.of(e:t={s with heap:=h,toks:=A}):bP s t:=by subst e;exact cH h A C
noncomputable def bU(L:J->I aq)(i:J)(l:I aq):J->I aq:=λt=>if t=i then l else L t
theorem IsCell.ext(l:h.IsCell c Q)(B:gW a h O)(e:c≠a):O.IsCell c Q:=ai l λo T P=>aR o (ae (B.2 c e) T) P
theorem aW.Mj(S:aW X F hB g G n k y m r h)(u:a∉X.tabs)(B:gW a h O):X.inv g O:=
 bD.iy S.inv λP s o e=>ae (B.2 P (λq=>u (q▸s))) e
structure oN(B:bD O)(hB:HB)(fz:Fz)(V:c3)(xs:I af)(cK:J->I aq)(i:J)(fp:I aq):Prop where
 a:∀b∈fp,hB.b b=aa/\fz b=aa/\b≠V.locals/\∀(j:J)(x:af),xs[j]?=D x->V.kindOf x≠D .local->V.cells.lookup x≠D b
 b:∀j,j≠i->j<xs.length->∀b∈fp,b∉cK j
 c:∀P∈B.tabs,P∉fp
theorem oN.nil:oN X hB g G n r i []:=⟨λE h=>bA h dQ,λE E E E h=>bA h dQ,λE E h=>bA h dQ⟩
theorem aW.OW(S:aW X F hB g G n aj au w r y){fp:I aq}(aE:hB.lk=[])(m:n[i]?=D x)(aM:G.kindOf x=D .local)
  (aP:j.Ns G.locals (λH=>if H=x then D v else w H))(hs:gW G.locals y j)(ao:Holds X F g y av (D v) fp)(A:oN X hB g G n r i fp):
  aW X F hB g G n aj (au.set i av) (λH=>if H=x then D v else w H) (bU r i fp) j:=by
 have k:∀{T:Fz}{b o},T G.locals=aa->T b=D o->b≠G.locals:=λQ ah e=>aV (ae (aA _ e) Q) ah;have h:=λb o e=>ae (hs.2 b (k S.nL.1 (S.f_ b o e))) (S.base b o e)
 refine{S with len:=by simp [S.len],base:=h,kept:=λb o e=>ae (hs.2 b (k S.nL.1 e)) (S.kept b o e),bJ:=λb o e=>ae (hs.2 b (k S.nL.2 e)) (S.bJ b o e),ns:=aP,lock:=(by rw [aE];intro aY aF;cases aF),vars:=λt H ak L d=>?_,fp:=λt O b f=>?_,inv:=S.Mj (λq=>(S.tab _ q).2.2.1 C) hs,tab:=λP s=>lj ((S.tab P s).1) ((S.tab P s).2.1) ((S.tab P s).2.2.1) ((S.tab P s).2.2.2.1) (λt O f=>by
   by_cases p:t=i
   .subst p
    rw [show bU r t fp t=fp from aL C]at f
    exact A.c P s f
   .rw [show bU r i fp t=r t from aJ ‹_›]at f
    exact(S.tab P s).2.2.2.2 t O f),apart:=λa b u f R c l=>?_}
 .by_cases p:t=i
  .subst p;rw [m]at L;obtain rfl:=bj L;have O:=by
    have:=(cG.mp d).1;simpa using this
   obtain rfl:=bj ((jw O)▸d);refine⟨D v,.inl ⟨aM,by simp⟩,?_⟩;simp only [show bU r t fp t=fp from aL C];exact ao.mono (Le.refl _) h λb f o e=>ae (hs.2 b (A.a b f).2.2.1) e
  .rw [lN (iF p)]at d;refine cps λa_ aK=>?_;obtain⟨aC,u,aN⟩:=S.vars t H ak L d;have aH:H≠x:=λe=>p (S.nodup t i x (e▸L) m);apply aK;refine⟨aC,?_,?_⟩
   .rcases u with⟨e,q⟩|⟨l,c,B,aT⟩
    .exact .inl ⟨e,by simp [aH,q]⟩
    .refine .inr ⟨l,c,B,IsCell.ext aT hs (S.cell t H c L (λq=>by rw [q]at l;rcases l with l|⟨l,_⟩<;>exact nc nK (bj l) C) B).1⟩
   .exact(show bU r i fp t=r t from aJ ‹_›)▸aN.mono (Le.refl _) h λb f o e=>ae (hs.2 b ((λt O b f=>(S.fp t O b f).2.2.1) t (cG.mp L).1 b f)) e
 .by_cases p:t=i
  .subst p;rw [show bU r t fp t=fp from aL C]at f;exact A.a b f
  .rw [show bU r i fp t=r t from aJ ‹_›]at f;exact S.fp t O b f
 .by_cases E:a=i<;>by_cases z:b=i
  .exact bA (ae E z.symm) R
  .subst E;have l:=((by simp [bU]:bU r a fp a=fp))▸l;exact((by simp [bU,z]:bU r a fp b=r b))▸A.b b z f c l
  .subst z;rw [(by simp [bU,E]:bU r b fp a=r a)]at l;rw [(by simp [bU]:bU r b fp b=fp)];exactλq=>A.b a E u c q l
  .rw [show bU r i fp a=r a from by simp [bU,E]]at l;exact(show bU r i fp b=r b from by simp [bU,z])▸(S.apart a b u f R c l)
theorem aW.abM(S:aW B ρ hB fz V xs k lv m cK h){fp:I aq}(yK:hB.lk=[])(hx:xs[i]?=D x)(Fw:i<k)(hl:V.kindOf x=D .cell)(hc:V.cells.lookup x=D c)
  (hn:h'.IsCell c (D v))(hs:gW c h h')(hv:Holds B ρ fz h av (D v) fp)(ok:oN B hB fz V xs cK i fp):
  aW B ρ hB fz V xs k (lv.set i av) m (bU cK i fp) h':=by
 have sL:V.kindOf x≠D .local:=by rw [hl];decide
 have LM:=S.own i x c Fw hx sL hc;refine bT (S.cell i x c hx sL hc) λXW X8=>?_;have ne:∀{f:Fz}{b o},f c=aa->f b=D o->b≠c:=λh1 h2 e=>aV (ae (aA _ e) h1) h2;have kB:=λb o e=>ae (hs.2 b (ne LM (S.f_ b o e))) (S.base b o e);have Xf:∀j,j<U xs->∀b∈cK j,b≠c:=λj hj b hb e=>(S.fp j hj b hb).2.2.2 i x hx sL (e▸hc)
 refine{S with len:=by simp [S.len],base:=kB,kept:=λb o e=>ae (hs.2 b (ne LM e)) (S.kept b o e),bJ:=λb o e=>ae (hs.2 b (ne X8 e)) (S.bJ b o e),ns:=S.ns.sameBut hs (iF XW),lock:=(by rw [yK];intro p hp;cases hp),vars:=λj y T_ hy By=>?_,fp:=λj hj b hb=>?_,inv:=S.Mj (λq=>(S.tab _ q).2.2.2.1 i x hx sL hc) hs,tab:=λP hP=>lj ((S.tab P hP).1) ((S.tab P hP).2.1) ((S.tab P hP).2.2.1) ((S.tab P hP).2.2.2.1) (λj hj hb=>by
   by_cases uB:j=i
   .subst uB
    rw [show bU cK j fp j=fp from aL C]at hb
    exact ok.c P hP hb
   .rw [show bU cK i fp j=cK j from aJ ‹_›]at hb
    exact(S.tab P hP).2.2.2.2 j hj hb),apart:=λa b ha hb LO c' wo=>?_}
 .by_cases uB:j=i
  .subst uB;rw [hx]at hy;obtain rfl:=bj hy;have hj:=by
    have:=(cG.mp By).1;simpa using this
   obtain rfl:=bj ((jw hj)▸By);refine⟨D v,.inr ⟨.inl hl,c,hc,hn⟩,?_⟩;simp only [show bU cK j fp j=fp from aL C];exact hv.mono (Le.refl _) kB λb hb o e=>ae (hs.2 b (λq=>(ok.a b hb).2.2.2 j x hx sL (q▸hc))) e
  .rw [lN (iF uB)]at By;obtain⟨ov,ha,hh⟩:=S.vars j y T_ hy By;refine⟨ov,?_,?_⟩
   .rcases ha with⟨e,q⟩|⟨wz,c',LY,XX⟩
    .exact .inl ⟨e,q⟩
    .have Yh:V.kindOf y≠D .local:=λq=>by rw [q]at wz;rcases wz with wz|⟨wz,_⟩<;>exact nc nK (bj wz) C
     refine .inr ⟨wz,c',LY,IsCell.ext XX hs λe=>uB (S.inj j i y x c hy hx Yh sL (e▸LY) hc)⟩
   .exact(show bU cK i fp j=cK j from aJ ‹_›)▸hh.mono (Le.refl _) kB λb hb o e=>ae (hs.2 b (Xf j (cG.mp hy).1 b hb)) e
 .by_cases uB:j=i
  .subst uB;rw [show bU cK j fp j=fp from aL C]at hb;exact ok.a b hb
  .rw [show bU cK i fp j=cK j from aJ ‹_›]at hb;exact S.fp j hj b hb
 .by_cases yH:a=i<;>by_cases yI:b=i
  .exact bA (ae yH yI.symm) LO
  .subst yH;rw [(by simp [bU]:bU cK a fp a=fp)]at wo;exact((by simp [bU,yI]:bU cK a fp b=cK b))▸ok.b b yI hb c' wo
  .subst yI;rw [(by simp [bU,yH]:bU cK b fp a=cK a)]at wo;rw [(by simp [bU]:bU cK b fp b=fp)];exactλq=>ok.b a yH ha c' q wo
  .rw [show bU cK i fp a=cK a from by simp [bU,yH]]at wo;exact(show bU cK i fp b=cK b from by simp [bU,yI])▸(S.apart a b ha hb LO c' wo)
theorem aW.Qh(S:aW X ak ao v G j aP aM m r h){fp:I aq}(w:j[i]?=D aF)
  (B:∀b,b∉r i->∀o,h.get? b=D o->x.get? b=D o)(aT:eE G m h aF Q)(aN:Holds X ak v x bh Q fp)
  (A:∀b∈fp,b∈r i\/h.get? b=aa):
  aW X ak ao v G j aP (aM.set i bh) m (bU r i fp) x:=by
 have l:=(cG.mp w).1;have F:=S.fp i l;have au:∀{aC:Fz}{b o},(∀b∈r i,aC b=aa)->aC b=D o->b∉r i:=λa_ bf e=>aV (a_ _ e) bf;have ah:=λ{b o}(e:ao.b b=D o)=>au (λb f=>(F b f).1) e;have aj:bF X.h₀ x:=λb o e=>B b (ah (S.f_ b o e)) o (S.base b o e);have n:∀{t H Q},j[t]?=D H->eE G m h H Q->eE G m x H Q:=λ{t H Q}L u=>by
  rcases u with⟨e,q⟩|⟨g,k,aE,o,T,aY⟩
  .exact .inl ⟨e,q⟩
  .exact .inr ⟨g,k,aE,o,B k (λq=>(F k q).2.2.2 t H L (λq=>by rw [q]at g;rcases g with g|⟨g,_⟩<;>exact nc nK (bj g) C) aE) o T,aY⟩
 have c:=λb(f:h.get? b=aa)=>S.fresh f
 refine{S with len:=by simp [S.len],base:=aj,kept:=λb o e=>B b (ah e) o (S.kept b o e),bJ:=λb o e=>B b ((λ{b o}(e:v b=D o)=>au (λb f=>(F b f).2.1) e) e) o (S.bJ b o e),lock:=λbI aH H L=>n L (S.lock bI aH H L),ns:=?_,vars:=λt H aK L d=>?_,fp:=λt O b f=>?_,inv:=bD.iy S.inv λP s o e=>B P ((S.tab P s).2.2.2.2 i l) o e,tab:=λP s=>lj ((S.tab P s).1) ((S.tab P s).2.1) ((S.tab P s).2.2.1) ((S.tab P s).2.2.2.1) (λt O f=>by
   by_cases p:t=i
   .subst p
    rw [show bU r t fp t=fp from aL C]at f
    rcases A P f with q|q
    .exact(S.tab P s).2.2.2.2 t O q
    .exact(c P q).2.2.2.2.2 s
   .rw [show bU r i fp t=r t from aJ ‹_›]at f
    exact(S.tab P s).2.2.2.2 t O f),apart:=λa b u f R k y=>?_}
 .exact jC S.ns λo bl bx T bz=>l7 o bl bx (B _ (λq=>(F _ q).2.2.1 C) o T) bz
 .by_cases p:t=i
  .subst p;rw [w]at L;obtain rfl:=bj L;have O:=by
    have:=(cG.mp d).1;simpa using this
   rw [jw O]at d;obtain rfl:=bj d;simp only [show bU r t fp t=fp from aL C];exact⟨Q,n w aT,aN⟩
  .rw [lN (iF p)]at d;obtain⟨bC,u,bE⟩:=S.vars t H aK L d;exact(show bU r i fp t=r t from aJ ‹_›)▸(⟨bC,n L u,bE.mono (Le.refl _) aj λb f o e=>B b (S.apart t i ((cG.mp L).1) l p b f) o e⟩)
 .by_cases p:t=i
  .subst p;rw [show bU r t fp t=fp from aL C]at f;rcases A b f with q|q
   .exact F b q
   .have:=c b q;exact lg this.1 this.2.1 this.2.2.1 this.2.2.2.1
  .rw [show bU r i fp t=r t from aJ ‹_›]at f;exact S.fp t O b f
 .by_cases E:a=i<;>by_cases z:b=i
  .exact bA (ae E z.symm) R
  .subst E;have y:=(show bU r a fp a=fp from aL C)▸y;refine(show bU r a fp b=r b from aJ ‹_›)▸?_;rcases A k y with q|q
   .exact S.apart a b u f R k q
   .exact(c k q).2.2.2.2.1 b f
  .subst z;rw [show bU r b fp a=r a from aJ ‹_›]at y;rw [show bU r b fp b=fp from aL C];intro q;rcases A k q with q|q
   .exact S.apart a b u f R k y q
   .exact(c k q).2.2.2.2.1 a u y
  .rw [show bU r i fp a=r a from by simp [bU,E]]at y;exact(show bU r i fp b=r b from by simp [bU,z])▸(S.apart a b u f R k y)
theorem aW.freeze(S:aW aM au aF g ao n aN v G r m){i:J}{l:I T}(Q:v[i]?=D (.own l)):
  ∃j,Le g j/\(∃a z u x,n[i]?=D x/\eE ao G m x (D (.ref a))/\j a=D (lo z u)/\bu au j z l/\g a=aa/\r i=[a]/\j=λb=>if b=a then D (lo z u)else g b)/\
   aW aM au aF j ao n aN (v.set i (.t (.list l))) G (bU r i []) m:=by
 have w:=(cG.mp Q).1;have A:=by exact(S.len)▸(w)
 obtain⟨bx,R,a,z,u,rfl,aK,ah,E⟩:=S.vars i _ _ (dB A) Q;have F:=S.fp i A a (by exact(E)▸(.head _));have B:Le g (λb=>if b=a then D (lo z u)else g b):=λb o e=>by
  by_cases f:b=a
  .subst f;exact aV F.2.1 e
  .simp [f,e]
 refine i12 _ B (Yx a z u _ (dB A) R (aL C) (ah.mono B) F.2.1 E C) ?_;have h:∀b,b≠a->g b=aa->(if b=a then D (lo z u)else g b)=aa:=λb aH aC=>by simp [aH,aC]
 refine{S with len:=by simp [S.len],inv:=bD.uK B S.inv (λP k o e=>e),bJ:=λb o e=>?_,nL:=⟨S.nL.1,h _ (iF F.2.2.1) S.nL.2⟩,vars:=λt H aE L d=>?_,cell:=λt H X L ak c=>?_,fp:=λt O b f=>?_,new:=λb o e=>(by
   by_cases aj:b=a
   .exact aj▸.inr F.1
   .simp only [aj]at e;exact S.new b o e),dJ:=λb f=>dI ((S.dJ b f).1) (h b (λe=>by have:=(S.dJ b f).1;rw [e,F.1]at this;exact cY C this) (S.dJ b f).2.1) ((S.dJ b f).2.2),tab:=λP s=>lj ((S.tab P s).1) (h P (λe=>(S.tab P s).2.2.2.2 i A (by exact(E)▸(e)▸(.head _))) (S.tab P s).2.1) ((S.tab P s).2.2.1) ((S.tab P s).2.2.2.1) (λt O f=>by
   by_cases p:t=i
   .subst p;rw [show bU r t [] t=[]from aL C]at f;exact nomatch f
   .rw [show bU r i [] t=r t from aJ ‹_›]at f
    exact(S.tab P s).2.2.2.2 t O f),apart:=λx b aP f aT aY y=>?_}
 .by_cases f:b=a
  .subst f;simp at e;subst e;exact aK
  .simp only [f]at e;exact S.bJ b o e
 .by_cases p:t=i
  .subst p;rw [jw w]at d;obtain rfl:=bj d;rw [dB A]at L;obtain rfl:=bj L;refine⟨_,R,?_⟩;simp only [show bU r t [] t=[]from aL C];exact⟨C,_,C,Den.list (aL C) (ah.mono B)⟩
  .rw [lN (iF p)]at d;obtain⟨bf,a_,bh⟩:=S.vars t H aE L d;exact(show bU r i [] t=r t from aJ ‹_›)▸⟨bf,a_,bh.mono B S.base λk k k e=>e⟩
 .have:=S.cell t H X L ak c;exact⟨this.1,h X (λe=>F.2.2.2 t H L ak (e▸c)) this.2⟩
 .by_cases p:t=i
  .subst p;rw [show bU r t [] t=[]from aL C]at f;exact nomatch f
  .have f:=(show bU r i [] t=r t from aJ ‹_›)▸f;have:=S.fp t O b f;refine dI this.1 (h b (λe=>?_) this.2.1) this.2.2;subst e;exact S.apart t i O A p b f (by rw [E];exact .head _)
 .by_cases bl:x=i
  .subst bl;rw [show bU r x [] x=[]from by simp [bU]]at y;cases y
  .rw [show bU r i [] x=r x from aJ ‹_›]at y
   by_cases q:b=i
   .subst q;rw [show bU r b [] b=[]from by simp [bU]];simp
   .exact((by simp [bU,q]:bU r i [] b=r b))▸(S.apart x b aP f aT aY y)
open PySem.SeqAt
structure cg(B:bD O)(fz:Fz)(s:aU)(g8:Fz)(s':aU):Prop where
 same:bP s s'
 keep:kZ B s.heap s'.heap
 inv:B.inv g8 s'.heap
 le:Le fz g8
 bJ:Le g8 s'.heap.get?
 new:∀b o,g8 b=D o->fz b=D o\/s.heap.get? b=aa
structure Ready(B:bD O)(fz:Fz)(s:aU):Prop where
 bJ:Le fz s.heap.get?
 base:bF B.h₀ s.heap
 inv:B.inv fz s.heap
 jb:∀P∈B.tabs,B.h₀.get? P=aa
 nu:∀P∈B.tabs,fz P=aa
section
variable{B:bD O}{fz g8 Lr:Fz}
theorem cg.ready(f:cg B fz s g8 t)(r:Ready B fz s):Ready B g8 t where
 bJ:=f.bJ
 base:=λb o e=>f.keep b (λq=>aV (r.jb b q) e) o (r.base b o e)
 inv:=f.inv
 jb:=r.jb
 nu:=λP h=>iY λo e=>(f.new P o e).elim (aV (r.nu P h)) λq=>cY (aA mJ q) (B.live r.inv P h)
theorem cg.refl(r:Ready B fz s):cg B fz s fz s:=⟨bP.refl _,kZ.refl _,r.inv,Le.refl _,r.bJ,λE E e=>.inl e⟩
theorem cg.trans(r:Ready B fz s)(a:cg B fz s g8 t)(b:cg B g8 t Lr k):cg B fz s Lr k where
 same:=a.same.trans b.same
 keep:=a.keep.trans b.keep
 inv:=b.inv
 le:=a.le.trans b.le
 bJ:=b.bJ
 new:=λx o e=>(b.new x o e).elim (a.new x o) λq=>.inr (iY λX h=>aV q (a.keep x (λl=>cY (aA mJ q) (B.live a.inv x l)) X h))
theorem cg.tok(r:Ready B fz s)(A:fT):cg B fz s fz {s with toks:=A}:=⟨(cH s.heap A C),kZ.refl _,r.inv,Le.refl _,r.bJ,λE E e=>.inl e⟩
theorem cg.push(r:Ready B fz s)(o:bL)(A:fT)(T:o.isFreed=ay):cg B fz s (k_ fz s.heap.objs.size o) {s with heap:=s.heap.push o,toks:=A}where
 same:=(cH _ _ C)
 keep:=(bF.push _ o).t
 inv:=bD.uK (λb x e=>uv (fH (fk (r.bJ b x e))) e) r.inv λP E x e=>eG _ e
 le:=λb x e=>uv (fH (fk (r.bJ b x e))) e
 bJ:=λb x e=>qX e (λq w=>q▸w▸eS _ T) λe=>eG _ (r.bJ b x e)
 new:=λb x e=>qX e (λq E=>.inr (iY λX h=>bA (q▸fk h) (i7 _))) .inl
theorem cg.iH(r:Ready B fz s)(o:bL)(A:fT):cg B fz s fz {s with heap:=s.heap.push o,toks:=A}where
 same:=(cH _ _ C)
 keep:=(bF.push _ o).t
 inv:=bD.iy r.inv λP E x e=>eG _ e
 le:=Le.refl _
 bJ:=λb x e=>eG _ (r.bJ b x e)
 new:=λE E e=>.inl e
theorem cg.keeps(r:Ready B fz s){t:fT}(h:bF s.heap a):cg B fz s fz {s with heap:=a,toks:=t}where
 same:=(cH _ _ C)
 keep:=h.t
 inv:=bD.iy r.inv λP E x e=>h _ _ e
 le:=Le.refl _
 bJ:=λb x e=>h _ _ (r.bJ b x e)
 new:=λE E e=>.inl e
end
def PO(X:bD q)(h:Model)(L:cZ)(F:Mk)(A:Sem aB)(g:Fz)(z:T):Prop:=
 ∀(s:aU)(Q:aB->aU->Prop)(H:aB->aU->Prop),Ready X g s->(∀t j v,cg X g s j t->Den F j v z->Q v t)->aQ h L A Q H s
def PB(X:bD q)(T:Model)(L:cZ)(A:Sem bw)(g:Fz)(b:bw):Prop:=
 ∀(s:aU)(Q:bw->aU->Prop)(H:aB->aU->Prop),Ready X g s->(∀t j,cg X g s j t->Q b t)->aQ T L A Q H s
structure dW(A:cZ)(n:J):Prop where
 depth:A.depth+4*n+16<recursionLimit
 units:A.units+8*n+64<cLine
 handled:A.handled=aa
theorem dW.deeper(r:dW L (n+1)):dW (L.deeper G) n:=⟨by have:=r.depth;exact cS 0 (.a (.a (.a (.a (.v 0) (.n 1)) (.m 4 (.v 1))) (.n 16)) (.n 1)) (.v 2) (.a (.a (.a (.v 0) (.m 4 (.a (.v 1) (.n 1)))) (.n 16)) (.n 1)) (.v 2) C [_,_,_] this,by have:=r.units;exact cS 0 (.a (.a (.a (.a (.v 0) (.n 3)) (.m 8 (.v 1))) (.n 64)) (.n 1)) (.v 2) (.a (.a (.a (.v 0) (.m 8 (.a (.v 1) (.n 1)))) (.n 64)) (.n 1)) (.v 2) C [_,_,_] this,r.handled⟩
theorem dW.less(r:dW L u)(h:m<=u):dW L m:=⟨kW (rQ (iO (x8 4 h) _) 16) r.depth,kW (rQ (iO (x8 8 h) _) 64) r.units,r.handled⟩
theorem dW.d(r:dW L n):L.depth<recursionLimit:=by have:=r.depth;exact cS 0 (.a (.v 0) (.n 1)) (.v 2) (.a (.a (.a (.v 0) (.m 4 (.v 1))) (.n 16)) (.n 1)) (.v 2) C [_,_,_] this
noncomputable def ir(i:aS):bw:=aO (i.natAbs<2^9000)
noncomputable def ej(u:J):bw:=aO (u<=1000000)
noncomputable def sP(L:aS->aS->bg T):T->T->bg T
 |.int a,.int b=>L a b
 |_,_=>aa
def JG:T->T->bg T
 |.int a,.int b=>D (.int (a+b))
 |.str a,.str b=>if ej (a.length+b.length)then D (.str (a++b))else aa
 |.list a,.list b=>if ej (a.length+b.length)then D (.list (a++b))else aa
 |_,_=>aa
def kH(n:Operator)(x H:T):bg T:=match n with
 |.Add=>JG x H
 |.Sub=>sP (λa b=>D (.int (a-b))) x H
 |.Mult=>sP (λa b=>if ir a&&ir b then D (.int (a*b))else aa) x H
 |.FloorDiv=>sP (λa b=>if b !=0&&ir a then D (.int (a.fdiv b))else aa) x H
 |.Mod=>sP (λa b=>if b !=0&&ir a then D (.int (a.fmod b))else aa) x H
 |.Pow=>sP (λa u=>if aO (0<=u)&&ir a&&aO (u<=1000)then D (.int (a^u.toNat))else aa) x H
 |_=>aa
section
variable{B:bD O}{Z:cy}{w:bX}{A:cZ}{ρ:Mk}{fz:Fz}
theorem kN(h:ej u=Y):u<=sizeLine:=by
 have:=dh h;exact aD this (az C)
theorem J0(h:ir i=Y):i.natAbs.log2<9000\/i=0:=
 (vv _).elim (λe=>.inr (Int.natAbs_eq_zero.mp e)) λe=>.inl ((Nat.log2_lt e).mpr (dh h))
theorem Er(h:ir i=Y):afI i<=9000:=by
 delta afI
 rcases J0 h with h|h
 .split<;>(first|exact az C|exact h|omega)
 .subst h;exact gF _
theorem Uc(h:ir i=Y):afM i t=ay:=by
 delta afM
 have:(if(i==0)=Y then 0 else i.natAbs.log2/30+1)<=300:=by
  rcases(J0 h)with h|h
  .split
   .exact az C
   .have:i.natAbs.log2/30<300:=Nat.div_lt_of_lt_mul (by assumption);exact this
  .subst h;exact gF _
 simp only [Bool.and_eq_false_iff,decide_eq_false_iff_not];omega
theorem CU(a b:I J):(⟨(a++b).toArray⟩:af)=⟨a.toArray⟩++⟨b.toArray⟩:=by
 show _=Str.append _ _
 first|rfl|(delta Str.append;simp)
theorem str_len(a:I J):(⟨a.toArray⟩:af).length=U a:=C
theorem M1(a b:I aB):({cls:=.type "list",data:=.seq (a.toArray++b.toArray)})=lo (a++b) 0:=by simp [lo]
theorem Ready.list(r:Ready B fz s){tk:fT}(d:bu ρ fz z p){Q:aB->aU->Prop}(R:∀t j v,cg B fz s j t->Den ρ j v (.list p)->Q v t):
  Q (.ref s.heap.objs.size) {s with heap:=s.heap.push (lo z n),toks:=tk}:=by
 have f:=cg.push r (lo z n) tk C;exact R _ _ _ f (.list (aL C) (d.mono f.le))
theorem Ready.tup(r:Ready B fz s){n:fT}(d:bu ρ fz z p){Q:aB->aU->Prop}(R:∀t j v,cg B fz s j t->Den ρ j v (.tup p)->Q v t):
  Q (.ref s.heap.objs.size) {s with heap:=s.heap.push (s_ z u),toks:=n}:=by
 have f:=cg.push r (s_ z u) n C;exact R _ _ _ f (.tup (aL C) (d.mono f.le))
variable{vb:aB}
theorem PO.give(e:∀(s:aU)(Q:aB->aU->Prop)(H:aB->aU->Prop),Ready B fz s->(∀v n,Den ρ fz v z->Q v {s with toks:=n})->aQ M A h Q H s):PO B M A ρ h fz z:=
 λs Q H r R=>e s Q H r λv n d=>R _ _ _ (cg.tok r n) d
theorem uI{g:aB->aB->Sem aB}(O:Den ρ fz E y)(L:Den ρ fz vb m)(e:sP i y m=D z)
  (x:∀a b h P,i a b=D z->PO B M A ρ (g (.int a h) (.int b P)) fz z):PO B M A ρ (g E vb) fz z:=by
 cases y with
 |int a=>cases m with
  |int b=>exact O.gR (P:=λv=>PO B M A ρ (g v vb) fz z) λh=>L.gR (P:=λv=>PO B M A ρ (g _ v) fz z) λP=>x a b h P e
  |_=>exact aV C e
 |_=>exact aV C e
theorem Nc(w:ir a=Y)(v:ir b=Y):IntMulOk a b:=λB=>bA (afV (dh (cQ.mp B).2) (Int.add_le_add (mE.mpr (Er w)) (mE.mpr (Er v)))) (nofun)
theorem J4{b:aS}(h:(b !=0)=Y):b≠0:=λe=>by subst e;exact cY C h
theorem TG(O:Den ρ fz E y)(L:Den ρ fz vb m)(h:JG y m=D z):PO B (aI Z w) A ρ (binaryOp .Add E vb) fz z:=by
 cases y with
 |int a=>cases m with
  |int b=>
   obtain rfl:=bj h;exact O.gR (P:=λv=>PO B _ A ρ (binaryOp .Add v vb) fz _) λx=>L.gR (P:=λv=>PO B (aI Z w) A ρ _ fz _) λi=>PO.give λs Q H r R=>P.add_int (R _ _ (.int _ _))
  |_=>exact aV C h
 |str a=>cases m with
  |str b=>
   refine bT (qw h) λe j=>?_;subst j;exact O.i4 (P:=λv=>PO B _ A ρ (binaryOp .Add v vb) fz _) λx=>L.i4 (P:=λv=>PO B (aI Z w) A ρ _ fz _) λi=>
    PO.give λs Q H r R=>agP (λi t=>CU a b▸R _ _ (.str _ _)) ((str_len a).symm▸(str_len b).symm▸kN e)
  |_=>exact aV C h
 |list a=>cases m with
  |list b=>
   refine bT (qw h) λe j=>?_;subst j;exact O.listE (P:=λv=>PO B (aI Z w) A ρ (binaryOp .Add v vb) fz _) λl k u S O=>L.listE (P:=λv=>PO B (aI Z w) A ρ (binaryOp .Add (.ref l) v) fz _) λn G o T L s Q H r R=>
    P.add_list (r.bJ _ _ S) (r.bJ _ _ T) (M1 k G▸r.list (O.append L) R) (by rw [<-O.length,<-L.length]at e;exact kN e)
  |_=>exact aV C h
 |_=>exact aV C h
theorem Ue(j:dW A u)(O:Den ρ fz E y)(L:Den ρ fz vb m)(h:kH n y m=D z):PO B (aI Z w) A ρ (binaryOp n E vb) fz z:=by
 cases n with
 |Add=>exact TG O L h
 |Sub=>
  exact uI O L h λx b i a h=>by obtain rfl:=bj h;exact PO.give λs Q H r R=>P.sub_int (R _ _ (.int _ _))
 |Mult=>
  exact uI O L h λx b i a h=>by
   obtain⟨e,rfl⟩:=qw h;have e:=cQ.mp e;exact PO.give λs Q H r R=>P.mul_int (R _ _ (.int _ _)) (Nc e.1 e.2)
 |FloorDiv=>
  exact uI O L h λx b i a h=>by
   obtain⟨e,rfl⟩:=qw h;have e:=cQ.mp e;exact PO.give λs Q H r R=>PyProof.Rows.floordiv_int (J4 e.1) (R _ _ (.int _ _)) (.inl (Uc e.2))
 |Mod=>
  exact uI O L h λx b i a h=>by
   obtain⟨e,rfl⟩:=qw h;exact PO.give λs Q H r R=>agS (J4 (cQ.mp e).1) (R _ _ (.int _ _))
 |Pow=>
  exact uI O L h λx b i a h=>by
   obtain⟨e,rfl⟩:=qw h;have e:=cQ.mp e;have k:=cQ.mp e.1;have l:=dh k.1;exact PO.give λs Q H r R=>PyProof.Rows.pow_int l (xP (Int.mul_le_mul (mE.mpr (Er k.2)) (dh e.2) l (by decide)) (by decide)) (R _ _ (.int _ _))
 |_=>exact aV C h
noncomputable def kh(L:T->T->bg bw):I T->I T->bg bw
 |[],[]=>D Y
 |x::n,H::S=>match L x H,kh L n S with
  |D a,D b=>D (a&&b)
  |_,_=>aa
 |_,_=>D ay
theorem adH{L:T->T->bg bw}(h:L x H=D a)(O:kh L n S=D b):kh L (x::n) (H::S)=D (a&&b):=
 (congr (aA (λo p=>kh.match_1 (λE A=>bg bw) o p _ λE A=>aa) h) O)
def C1(L:T->T->bg bw):T->T->bg bw
 |.none,.none=>D Y
 |.bool a,.bool b=>D (a==b)
 |.int a,.int b=>D (a==b)
 |.str a,.str b=>D (a==b)
 |.list a,.list b=>if a.length==b.length then kh L a b else D ay
 |_,_=>aa
noncomputable def gA:J->T->T->bg bw
 |0,_,_=>aa
 |u+1,a,b=>C1 (gA u) a b
inductive TQ(f:T->T->bg bw):T->T->bw->Prop
 |none:TQ f .none .none Y
 |bool(a b:bw):TQ f (.bool a) (.bool b) (a==b)
 |int(a b:aS):TQ f (.int a) (.int b) (a==b)
 |str(a b:I J):TQ f (.str a) (.str b) (a==b)
 |list{a b:I T}{c:bw}(hl:a.length=b.length)(h:kh f a b=D c):TQ f (.list a) (.list b) c
 |yQ{a b:I T}(hl:a.length≠b.length):TQ f (.list a) (.list b) ay
theorem C2(h:C1 L x H=D b):TQ L x H b:=by
 cases x with
 |none=>cases H with
  |none=>exact bj h▸.none
  |_=>exact aV C h
 |bool a=>cases H with
  |bool b=>exact bj h▸(.bool _ _)
  |_=>exact aV C h
 |int a=>cases H with
  |int b=>exact bj h▸(.int _ _)
  |_=>exact aV C h
 |str a=>cases H with
  |str b=>exact bj h▸(.str _ _)
  |_=>exact aV C h
 |list a=>cases H with
  |list c=>
   have h:(if(U a==U c)=Y then kh L a c else D ay)=D b:=h
   by_cases e:U a=U c
   .rw [aL (beq_iff_eq.mpr e)]at h;exact .list e h
   .rw [aJ λq=>e (beq_iff_eq.mp q)]at h;exact bj h▸(.yQ e)
  |_=>exact aV C h
 |_=>exact aV C h
theorem Qa{n S:I T}{b:bw}(h:kh L (x::n) (H::S)=D b):∃p q,L x H=D p/\kh L n S=D q/\b=(p&&q):=by
 have h:(match L x H,kh L n S with|D a,D b=>D (a&&b)|_,_=>aa)=D b:=h;cases w:L x H with
 |none=>rw [w]at h;exact aV C h
 |some p=>cases v:kh L n S with
  |none=>rw [w,v]at h;exact aV C h
  |some q=>rw [w,v]at h;exact bj h▸((gx p q C C C))
theorem P_:∀{n S:I T}{b:bw},U n=U S->kh L n S=D b->
  ∃e,b=(dz (U n)).all e/\∀t x H,n[t]?=D x->S[t]?=D H->L x H=D (e t)
 |[],S,b,X,h=>by
  rw [xT X.symm]at h;exact(aR (λE=>Y) ((bj h).symm) (λt x H h=>aV C h))
 |x::n,S,b,X,h=>by
  cases S with
  |nil=>exact nc Sa X C
  |cons H S=>
   refine e5 (Qa h) λp q w v s=>?_;subst s;refine ai (P_ (DD X) v) λe j m=>?_;subst j;refine(aR (λt=>Nat.casesOn t p e) ?_ (λt a b u f=>?_))
   .simp only [gB,List.range_succ_eq_map,List.all_cons,List.all_map];rfl
   .cases t with
    |zero=>exact bj u▸bj f▸w
    |succ t=>exact m t a b u f
theorem gy{s:aU}(g:Le fz s.heap.get?)(e:fz a=D (lo z u)):s.heap.IsList a z.toArray:=(i12 _ (g _ _ e) C ⟨u,C⟩)
theorem yN{s:aU}(g:Le fz s.heap.get?)(e:fz a=D (s_ z u)):s.heap.IsTuple a z.toArray:=(i12 _ (g _ _ e) C ⟨u,C⟩)
theorem Hv(a b:I J):((⟨a.toArray⟩:af)==⟨b.toArray⟩)=(a==b):=by
 rw [<-str_beq]
theorem acN{z G:I aB}(h:({cls:=c,data:=.seq z.toArray u}:bL)={cls:=c,data:=.seq G.toArray m}):z=G/\u=m:=
 (Data.seq.inj (aA So h)).imp (aA Rq) id
theorem ZK(h:lo z u=lo G m):z=G/\u=m:=acN h
theorem bu.U0(d:bu ρ fz (v::z) p):∃A r,p=A::r/\Den ρ fz v A/\bu ρ fz z r:=by cases d with|cons a b=>exact(gx _ _ C a b)
theorem M0(O:Den ρ fz v (.list a))(P:Den ρ fz v (.list c)):∃z,bu ρ fz z a/\bu ρ fz z c:=by
 refine jl O.inv λx z u S t h=>?_;subst h;exact jl P.inv λH G m T L e=>(aR z t ((ZK (bj (ae T.symm ((aA fz (SS e)).symm.trans S)))).1▸L))
theorem adI(g:∀v x H b,Den ρ fz v x->Den ρ fz v H->L x H=D b->b=Y)(d:bu ρ fz z n):∀{S:I T}{b:bw},bu ρ fz z S->kh L n S=D b->b=Y:=
 d.ind (P:=λz n=>∀{S:I T}{b:bw},bu ρ fz z S->kh L n S=D b->b=Y)
  (λ{S b}B h=>by rw [xT B.length.symm]at h;exact(bj h).symm)
  λd E a=>@λE E B h=>by
   obtain⟨P,r,rfl,B,i⟩:=B.U0;obtain⟨p,q,w,e,rfl⟩:=Qa h;rw [g _ _ _ p d B w,a i e];rfl
theorem Mg(e:SO a t=.int b P):a=b:=by refine bT (PySem.Value.int.inj e) λn j=>?_;subst n j;rfl
theorem PU{a b:I J}(e:DJ ⟨a.toArray⟩ t=.str ⟨b.toArray⟩ P):a=b:=by cases e;rfl
theorem Hz:∀{u:J}{v:aB}{x H:T}{b:bw},Den ρ fz v x->Den ρ fz v H->gA u x H=D b->b=Y
 |0,_,_,_,_,_,_,h=>aV C h
 |u+1,v,x,H,b,o,n,h=>by
  cases C2 h with
  |none=>rfl
  |bool a c=>obtain rfl:=PySem.Value.bool.inj (ae o.inv.symm n.inv);exact aL C
  |int a c=>
   refine bH o.inv λA j=>?_;subst j;exact bH n.inv λP e=>beq_iff_eq.mpr (Mg e)
  |str a c=>
   refine bH o.inv λA j=>?_;subst j;exact bH n.inv λP e=>beq_iff_eq.mpr (PU e)
  |list X h=>exact ai (M0 o n) λz d B=>adI (λv x H b=>Hz) d B h
  |yQ X=>exact ai (M0 o n) λz d B=>bA (ae d.length.symm B.length) X
theorem JW{z:I aB}(e:z[t]?=D v)(h:t<z.toArray.size):z.toArray[t]=v:=(cG.mp e).2
theorem Gq{R:aB->aB->bw->Prop}{S:I T}{r:bw}(O:bu ρ fz z n)(L:bu ρ fz G S)(X:U n=U S)(l:kh k n S=D r)
  (s:∀v w x H b,Den ρ fz v x->Den ρ fz w H->k x H=D b->R v w b):
  ∃e,r=(dz z.toArray.size).all e/\∀t(h:t<z.toArray.size)(a:t<G.toArray.size),R z.toArray[t] G.toArray[t] (e t):=by
 refine ai (P_ X l) λe j m=>?_;subst j;refine(aR e (aA (λu=>(dz u).all e) O.length.symm) (λt h a=>?_));have i:=dB ((O.length▸h:t<U n));have b:=dB (show t<U S from L.length▸a);exact ai (O.get i) λv q f=>ai (L.get b) λw g o=>(JW q h).symm▸(JW g a).symm▸(s _ _ _ _ _ f o (m t _ _ i b))
theorem up1(i:a+(u+1)<cLine):a+1+u<cLine:=by simp only [vD,qI 1 u];exact i
theorem xn(i:a+u<cLine):a<cLine:=kW (fO a u) i
theorem Hh{n S:I T}(O:bu ρ fz z n)(L:bu ρ fz G S)(X:U n=U S):z.toArray.size=G.toArray.size:=(ae O.length X).trans L.length.symm
theorem Hi{n S:I T}(O:bu ρ fz z n)(L:bu ρ fz G S)(X:U n≠U S):(z.toArray.size !=G.toArray.size)=Y:=
 bne_iff_ne.mpr λe=>X (ae (O.length.symm.trans e) L.length)
theorem Bm(g:Le fz s.heap.get?):∀{u:J}{A:cZ}{E vb:aB}{y m:T}{b:bw},A.units+u<cLine->Den ρ fz E y->Den ρ fz vb m->gA u y m=D b->EqAt A s E vb b
 |0,_,_,_,_,_,_,_,_,_,h=>aV C h
 |u+1,A,E,vb,y,m,b,i,O,L,h=>by
  cases C2 h with
  |none=>exact O.qu (P:=λv=>EqAt A s v vb Y) (L.qu (P:=λv=>EqAt A s _ v Y) (EqAt.same _))
  |bool x H=>exact O.ua (P:=λv=>EqAt A s v vb _) (L.ua (P:=λv=>EqAt A s _ v _) (EqAt.bool_bool _ _))
  |int x H=>exact O.gR (P:=λv=>EqAt A s v vb _) λk=>L.gR (P:=λv=>EqAt A s _ v _) λP=>EqAt.int_int _ _ _ _
  |str x H=>exact O.i4 (P:=λv=>EqAt A s v vb _) λk=>L.i4 (P:=λv=>EqAt A s _ v _) λP=>Hv x H▸EqAt.str_str _ _ _ _
  |list X j=>
   exact O.listE (P:=λv=>EqAt A s v vb _) λx z o S t=>L.listE (P:=λv=>EqAt A s _ v _) λH G n e a=>by
    by_cases R:x=H
    .subst R;exact(Hz (Den.list S t) (Den.list e a) h)▸(EqAt.same _)
    .refine ai (Gq (R:=EqAt A.in1 s) t a X j λv w x H b=>Bm g (up1 i)) λf q l=>?_;subst q;exact EqAt.of_refs R (RcAt.lists (gy g S) (gy g e) (Hh t a X) (xn i) l)
  |yQ X=>
   exact O.listE (P:=λv=>EqAt A s v vb _) λx z o S t=>L.listE (P:=λv=>EqAt A s _ v _) λH G n e a=>by
    by_cases R:x=H
    .subst R;exact cY C (Hz (Den.list S t) (Den.list e a) h)
    .exact EqAt.of_refs R (ag3 (gy g S) (gy g e) (Hi t a X) (xn i))
end
section
variable{B:bD O}{Z:cy}{w:bX}{A:cZ}{ρ:Mk}{fz:Fz}{va vb:aB}{ta tb:T}
noncomputable def zD:T->bw
 |.str _=>Y
 |.int _=>Y
 |_=>ay
theorem Qj(h:C1 L t (.str l)=D b):∃a,t=.str a/\b=(a==l):=by
 cases t<;>first|exact aV C h|exact⟨_,C,(bj h).symm⟩
theorem Qi(h:C1 L t (.int l)=D b):∃a,t=.int a/\b=(a==l):=by
 cases t<;>first|exact aV C h|exact⟨_,C,(bj h).symm⟩
theorem adE(j:zD x=Y)(d:Den ρ fz v t)(B:Den ρ fz v P)(h:gA (u+1) t x=D b)(O:gA (u+1) P x=D z):b=z:=by
 cases x with
 |str l=>
  refine ai (Qj h) λa e q=>ai (Qj O) λT R w=>?_;subst e R q w;exact bH d.inv λt e=>bH B.inv λP R=>aA (·==l) (PU (ae e.symm R))
 |int l=>
  refine ai (Qi h) λa e q=>ai (Qi O) λT R w=>?_;subst e R q w;exact bH d.inv λt e=>bH B.inv λP R=>aA (·==l) (Mg (ae e.symm R))
 |_=>exact cY C j
theorem abW(g:Le fz s.heap.get?)(i:A.units+u<cLine)(O:Den ρ fz va ta)(L:Den ρ fz vb tb)(h:gA u ta tb=D b):RcAt A s va vb b:=by
 cases u with
 |zero=>exact aV C (h)
 |succ u=>
  cases C2 h with
  |none=>exact O.qu (P:=λv=>RcAt A s v vb Y) (L.qu (P:=λv=>RcAt A s _ v Y) RcAt.none_none)
  |bool x H=>exact O.ua (P:=λv=>RcAt A s v vb _) (L.ua (P:=λv=>RcAt A s _ v _) (RcAt.bool_bool _ _))
  |int x H=>exact O.gR (P:=λv=>RcAt A s v vb _) λl=>L.gR (P:=λv=>RcAt A s _ v _) λP=>RcAt.int_int _ _ _ _
  |str x H=>exact O.i4 (P:=λv=>RcAt A s v vb _) λl=>L.i4 (P:=λv=>RcAt A s _ v _) λP=>Hv x H▸RcAt.str_str _ _ _ _
  |list X n=>
   exact O.listE (P:=λv=>RcAt A s v vb _) λx z e S t=>L.listE (P:=λv=>RcAt A s _ v _) λH G k T a=>by
    refine ai (Gq (R:=EqAt A.in1 s) t a X n λv w x H b=>Bm g (up1 i)) λo j m=>?_;subst j;exact RcAt.lists (gy g S) (gy g T) (Hh t a X) (xn i) m
  |yQ X=>
   exact O.listE (P:=λv=>RcAt A s v vb _) λx z e S t=>L.listE (P:=λv=>RcAt A s _ v _) λH G k T a=>
    ag3 (gy g S) (gy g T) (Hi t a X) (xn i)
theorem abX(g:Le fz s.heap.get?)(i:A.units+u<cLine)(O:Den ρ fz va ta)(L:Den ρ fz vb tb)(h:gA u ta tb=D b):RcNeAt A s va vb (!b):=by
 cases u with
 |zero=>exact nomatch h
 |succ u=>
  cases C2 h with
  |none=>exact O.qu (P:=λv=>RcNeAt A s v vb ay) (L.qu (P:=λv=>RcNeAt A s _ v ay) RcNeAt.none_none)
  |bool x H=>exact O.ua (P:=λv=>RcNeAt A s v vb _) (L.ua (P:=λv=>RcNeAt A s _ v _) (RcNeAt.bool_bool _ _))
  |int x H=>exact O.gR (P:=λv=>RcNeAt A s v vb _) λl=>L.gR (P:=λv=>RcNeAt A s _ v _) λP=>RcNeAt.int_int _ _ _ _
  |str x H=>exact O.i4 (P:=λv=>RcNeAt A s v vb _) λl=>L.i4 (P:=λv=>RcNeAt A s _ v _) λP=>Hv x H▸RcNeAt.str_str _ _ _ _
  |list X n=>
   exact O.listE (P:=λv=>RcNeAt A s v vb _) λx z e S t=>L.listE (P:=λv=>RcNeAt A s _ v _) λH G k T a=>by
    refine ai (Gq (R:=EqAt A.in1 s) t a X n λv w x H b=>Bm g (up1 i)) λo j m=>?_;subst j;exact RcNeAt.lists (gy g S) (gy g T) (Hh t a X) (xn i) m
  |yQ X=>
   exact O.listE (P:=λv=>RcNeAt A s v vb _) λx z e S t=>L.listE (P:=λv=>RcNeAt A s _ v _) λH G k T a=>
    RcNeAt.lists_lengths (gy g S) (gy g T) (Hi t a X) (xn i)
noncomputable def jR(x:T):I T->bg bw
 |[]=>D ay
 |H::S=>match gA 6 H x,jR x S with
  |D a,D b=>D (a||b)
  |_,_=>aa
theorem YG(h:jR x (H::S)=D b):∃p q,gA 6 H x=D p/\jR x S=D q/\b=(p||q):=by
 have h:(match gA 6 H x,jR x S with|D a,D b=>D _|_,_=>aa)=D b:=h;cases w:gA 6 H x with
 |none=>rw [w]at h;exact aV C h
 |some p=>cases v:jR x S with
  |none=>rw [w,v]at h;exact aV C h
  |some q=>rw [w,v]at h;exact bj h▸((gx p q C C C))
theorem YF(d:bu ρ fz z S):∀{b:bw},jR x S=D b->
  (∀v∈z,∃A c,Den ρ fz v A/\gA 6 A x=D c)/\∀e,(∀v A c,v∈z->Den ρ fz v A->gA 6 A x=D c->e v=c)->z.any e=b:=
 d.ind (P:=λz S=>∀{b:bw},jR x S=D b->(∀v∈z,∃A c,Den ρ fz v A/\gA 6 A x=D c)/\∀e,(∀v A c,v∈z->Den ρ fz v A->gA 6 A x=D c->e v=c)->z.any e=b)
  (λh=>⟨λv a=>(bA (a) dQ),λe m=>bj h⟩) λ{v z _ _}d E n E h=>by
  refine e5 (YG h) λp q w l s=>?_;subst s;refine bT (n l) λf X=>⟨λy i=>(cD.mp i).elim (λq=>q▸(gg _ _ d w)) (f y),λe m=>?_⟩;apply ae (IK);simp only [m _ _ _ gC d w,X e λv A c a=>m v A c (fF _ a)]
theorem GR{R:Type}{x:bg R}{H:R}(h:(if c=Y then x else aa)=D H):c=Y/\x=D H:=by cases c;exact aV C h;exact⟨C,h⟩
open Classical in
theorem FU(j:zD x=Y)(g:Le fz s.heap.get?)(i:A.units+8<cLine)(o:Den ρ fz l x){z:I aB}{b:bw}(n:bu ρ fz z S)(a:jR x S=D b):
  ∃e,(∀H,H∈z.toArray->EqAt A.in1 s H l (e H))/\z.toArray.any e=b:=by
 refine bT (YF n a) λf X=>?_
 let e:=λv=>aO (∃h,Den ρ fz v h/\gA 6 h x=D Y)
 have m:∀v h c,v∈z->Den ρ fz v h->gA 6 h x=D c->e v=c:=λv h c E d q=>by
  cases c with
  |true=>exact cL (aR h d q)
  |false=>exact ef λG=>ai G λP B w=>cY C (adE j d B q w)
 refine(aR e (λH L=>?_) (ae afY (X e m)));have L:=agh.mp L;exact d5 (f H L) λh c d q=>(m H h c L d q)▸(Bm g (kW (rS _) i) d o q)
noncomputable def Mm:T->bg bw
 |.none=>D ay
 |_=>aa
noncomputable def Ml(a b:bg bw):T->bg bw
 |.atom=>a
 |.str _=>b
 |_=>aa
def F4:T->T->bg bw
 |.atom=>Ml (D Y) (D ay)
 |.str _=>Ml (D ay) aa
 |.none=>λA=>(Mm A).map (!·)
 |.bV (.ref _)=>Mm
 |_=>λE=>aa
def nQ(Z:cy)(w:bX)(A:cZ)(Q H:aB->aU->Prop)(s:aU)(va vb:aB)(b:bw):Prop:=
 (Q (.bool b) s->aQ (aI Z w) A (compareOp .Is va vb) Q H s)/\(Q (.bool (!b)) s->aQ (aI Z w) A (compareOp .IsNot va vb) Q H s)
theorem Mt(O:Den ρ fz va ta)(L:Den ρ fz vb tb)(h:F4 ta tb=D b):nQ Z w A Q H s va vb b:=by
 have i:∀{va vb:aB}{b:bw},D ay=D b->plainIs va vb=Y->va≠vb->nQ Z w A Q H s va vb b:=
  λe p u=>bj e▸⟨(wpAny_is_other p u),(wpAny_isNot_other p u)⟩
 cases ta with
 |atom=>cases tb with
  |atom=>exact bj h▸O.A1 (P:=λv=>nQ Z w A Q H s v vb _) (L.A1 (P:=λv=>nQ Z w A Q H s _ v _) ⟨(wpAny_is_ref_self),(wpAny_isNot_ref_self)⟩)
  |str l=>exact O.A1 (P:=λv=>nQ Z w A Q H s v vb _) (L.i4 (P:=λv=>nQ Z w A Q H s _ v _) λa=>i h C nofun)
  |_=>exact aV C h
 |str l=>cases tb with
  |atom=>exact O.i4 (P:=λv=>nQ Z w A Q H s v vb _) λa=>L.A1 (P:=λv=>nQ Z w A Q H s _ v _) (i h C nofun)
  |_=>exact aV C h
 |none=>cases tb with
  |none=>exact bj h▸O.qu (P:=λv=>nQ Z w A Q H s v vb _) (L.qu (P:=λv=>nQ Z w A Q H s _ v _) ⟨(wpAny_is_self C),(wpAny_isNot_self C)⟩)
  |_=>exact aV C h
 |bV v=>cases v with
  |ref x=>cases tb with
   |none=>exact O.OH (P:=λv=>nQ Z w A Q H s v vb _) (L.qu (P:=λv=>nQ Z w A Q H s _ v _) (i h C nofun))
   |_=>exact aV C h
  |_=>exact aV C h
 |_=>exact aV C h
noncomputable def A8(L:aS->aS->bw):T->T->bg bw
 |.int a,.int b=>D (L a b)
 |_,_=>aa
noncomputable def XK:T->T->bg bw
 |.int a,.int b=>D (aO (a>b))
 |.str a,.str b=>D (aO (b<a))
 |_,_=>aa
noncomputable def FQ:T->I J->bg bw
 |.str [c],b=>D (aO (c∈b))
 |_,_=>aa
def UK(x:T):T->bg bw
 |.str b=>FQ x b
 |.list l=>if zD x=Y then jR x l else aa
 |.tup l=>if zD x=Y then jR x l else aa
 |_=>aa
def UU(x:T):T->bg bw
 |.str b=>(FQ x b).map (!·)
 |.list l=>if zD x=Y then(jR x l).map (!·)else aa
 |_=>aa
def gb(n:CmpOp)(a b:T):bg bw:=match n with
 |.Eq=>gA 6 a b
 |.NotEq=>(gA 6 a b).map (!·)
 |.Lt=>A8 (λa b=>aO (a<b)) a b
 |.LtE=>A8 (λa b=>aO (a<=b)) a b
 |.Gt=>XK a b
 |.GtE=>A8 (λa b=>aO (a>=b)) a b
 |.In=>UK a b
 |.NotIn=>UU a b
 |.Is=>F4 a b
 |.IsNot=>(F4 a b).map (!·)
theorem PO.same(e:∀(s:aU)(Q:aB->aU->Prop)(H:aB->aU->Prop),Ready B fz s->Q (.bool b) s->aQ M A h Q H s):PO B M A ρ h fz (.bool b):=
 λs Q H r R=>e s Q H r (R _ _ _ (cg.refl r) (.bool b))
theorem A9{g:aB->aB->Sem aB}(O:Den ρ fz va ta)(L:Den ρ fz vb tb)(h:A8 x ta tb=D b)
  (i:∀a b e P s(Q E:aB->aU->Prop),Q (.bool (x a b)) s->aQ M A (g (.int a e) (.int b P)) Q E s):PO B M A ρ (g va vb) fz (.bool b):=by
 cases ta with
 |int l=>cases tb with
  |int H=>
   exact bj h▸(O.gR (P:=λv=>PO B M A ρ (g v vb) fz _) λe=>L.gR (P:=λv=>PO B M A ρ _ fz _) λP=>PO.same λs Q E r R=>i l H e P s Q E R)
  |_=>exact aV C h
 |_=>exact aV C h
theorem Ma(O:Den ρ fz va ta)(h:FQ ta l=D b):∃c A,va=.str ⟨#[c]⟩ A/\b=aO (c∈l):=by
 cases ta with
 |str x=>match x,O,h with
  |[c],O,h=>exact bH O.inv λA e=>(gg c A e ((bj h).symm))
 |_=>exact aV C h
theorem A_(E:dW A n)(O:Den ρ fz va ta)(L:Den ρ fz vb tb)(h:gb y ta tb=D b):PO B (aI Z w) A ρ (compareOp y va vb) fz (.bool b):=by
 have q:A.units+8<cLine:=cS 0 (.a (.a (.v 0) (.n 8)) (.n 1)) (.v 2) (.a (.a (.a (.v 0) (.m 8 (.v 1))) (.n 64)) (.n 1)) (.v 2) C [_,_,_] E.units;have p:A.units+6<cLine:=kW (iO (az C) _) q;cases y with
 |Eq=>exact PO.same λs Q H r R=>abW r.bJ p O L h Z w H Q R
 |NotEq=>
  refine ai (pV.mp h) λc k d=>?_;subst d;exact PO.same λs Q H r R=>abX r.bJ p O L k Z w H Q R
 |Lt=>exact A9 O L h λa b e i s Q H R=>P.lt_int R
 |LtE=>exact A9 O L h λa b e i s Q H R=>P.le_int R
 |GtE=>exact A9 O L h λa b e i s Q H R=>P.ge_int R
 |Gt=>
  cases ta with
  |int l=>exact A9 O L (by cases tb<;>first|exact h|cases h) λa b e i s Q H R=>P.gt_int R
  |str l=>cases tb with
   |str X=>
    obtain rfl:=bj h;exact O.i4 (P:=λv=>PO B (aI Z w) A ρ (compareOp .Gt v vb) fz _) λe=>L.i4 (P:=λv=>PO B (aI Z w) A ρ (compareOp .Gt (.str ⟨l.toArray⟩ e) v) fz _) λi=>PO.same λs Q H r R=>P.gt_str (R)
   |_=>exact aV C h
  |_=>exact aV C h
 |In=>
  cases tb with
  |str g=>
   refine d5 (Ma O h) λc e d u=>?_;subst d u;exact L.i4 (P:=λv=>PO B (aI Z w) A ρ (compareOp .In _ v) fz _) λi=>PO.same λs Q H r R=>P.in_str (by rw [ag5];exact R)
  |list g=>
   exact L.listE (P:=λv=>PO B (aI Z w) A ρ (compareOp .In va v) fz _) λl z m T x=>PO.same λs Q H r R=>bT (GR h) λj h=>ai (FU (A:=A) j r.bJ q O x h) λt o f=>in_listAt t (gy r.bJ T) o (f▸R)
  |tup g=>
   exact L.HG (P:=λv=>PO B (aI Z w) A ρ (compareOp .In va v) fz _) λl z m T x=>PO.same λs Q H r R=>bT (GR h) λj h=>ai (FU (A:=A) j r.bJ q O x h) λt o f=>in_tupleAt t (yN r.bJ T) o (f▸R)
  |_=>exact aV C h
 |NotIn=>
  cases tb with
  |str g=>
   refine ai (pV.mp h) λb k d=>?_;subst d;refine d5 (Ma O k) λc e d u=>?_;subst d u;exact L.i4 (P:=λv=>PO B (aI Z w) A ρ (compareOp .NotIn _ v) fz _) λi=>PO.same λs Q H r R=>P.notIn_str (by rw [ag5];exact R)
  |list g=>
   refine bT (GR h) λj h=>ai (pV.mp h) λb k d=>?_;subst d;exact L.listE (P:=λv=>PO B (aI Z w) A ρ (compareOp .NotIn va v) fz _) λl z m T x=>PO.same λs Q H r R=>ai (FU (A:=A) j r.bJ q O x k) λt o f=>notIn_listAt t (gy r.bJ T) o (f▸R)
  |_=>exact aV C h
 |Is=>exact PO.same λs Q H r R=>(Mt O L h).1 R
 |IsNot=>
  refine ai (pV.mp h) λc k d=>?_;subst d;exact PO.same λs Q H r R=>(Mt O L k).2 R
end
theorem aW.ready(S:aW X F hB g G n k y m r s.heap):Ready X g s where
 bJ:=S.bJ
 base:=S.base
 inv:=S.inv
 jb:=λP h=>by
  cases e:X.h₀.get? P with
  |none=>rfl
  |some o=>have:=S.f_ P o e;exact aV ((S.tab P h).1) this
 nu:=λP h=>(S.tab P h).2.1
theorem SR.ready(S:SR X F hB g G n k y s.heap):Ready X g s:=let⟨_,_,_,S⟩:=S;S.ready
theorem aW.step(S:aW X F hB g G n k y m r s.heap)(f:cg X g s j t):aW X F hB j G n k y m r t.heap:=
 S.grow f.keep f.inv f.le λb o e=>(f.new b o e).imp id λq=>⟨q,f.bJ b o e⟩
theorem SR.step(S:SR X F hB g G n k y s.heap)(f:cg X g s j t):SR X F hB j G n k y t.heap:=let⟨a,m,L,S⟩:=S;⟨a,m,L,S.step f⟩
def cP(X:bD q)(m:cy)(w:bX)(L:cZ)(F:Mk)(G:c3)(n:I af)(k:J)(y:I (AV q))(e:cE)(x:I (AV q))(z:T):Prop:=
 ∀(h:HB)(g:Fz)(s:aU)(Q:aB->aU->Prop)(H:aB->aU->Prop),SR X F h g G n k y s.heap->
  (∀t j v,bP s t->Le g j->SR X F h j G n k x t.heap->Den F j v z->Q v t)->aQ (aI m w) L (eval e G) Q H s
def gn(X:bD q)(m:cy)(w:bX)(L:cZ)(F:Mk)(G:c3)(n:I af)(k:J)(y:I (AV q))(e:cE)(x:I (AV q))(b:bw):Prop:=
 ∀(T:HB)(g:Fz)(s:aU)(Q:bw->aU->Prop)(H:aB->aU->Prop),SR X F T g G n k y s.heap->
  (∀t j,bP s t->Le g j->SR X F T j G n k x t.heap->Q b t)->aQ (aI m w) L (isTrue e G (eval e G)) Q H s
def kE(X:bD q)(m:cy)(w:bX)(L:cZ)(F:Mk)(G:c3)(n:I af)(k:J)(y:I (AV q))(u:ig)(e:I cE)(x:I (AV q))(p:I T):Prop:=
 ∀(h:HB)(g:Fz)(s:aU)(Q:I aB->aU->Prop)(H:aB->aU->Prop),SR X F h g G n k y s.heap->
  (∀t j z,bP s t->Le g j->SR X F h j G n k x t.heap->bu F j z p->Q z t)->aQ (aI m w) L (spliced (backTo u (starEach e G))) Q H s
def tn:T->bg bw
 |.none=>D ay
 |.bool b=>D b
 |.int i=>D (i !=0)
 |.str l=>if ej l.length then D (!l.isEmpty)else aa
 |.list l=>if ej l.length then D (!l.isEmpty)else aa
 |_=>aa
section
variable{B:bD O}{Z:cy}{w:bX}{A:cZ}{ρ:Mk}{V:c3}{xs:I af}
theorem zB(h:ej u=Y):(u:aS)<2^63:=IG (mE.mpr (dh h)) (by decide)
theorem C4(k:dW A u){b:bw}(d:Den ρ g i y)(h:tn y=D b):PB B (aI Z w) A (truthy i) g b:=by
 intro s Q H r R;cases y with
 |none=>obtain rfl:=bj h;exact d.qu (P:=λv=>aQ (aI Z w) A _ Q H s) (λE E E=>R _ _ (cg.refl r))
 |bool b=>obtain rfl:=bj h;exact d.ua (P:=λv=>aQ (aI Z w) A _ Q H s) (yh (R _ _ (cg.refl r)))
 |int x=>obtain rfl:=bj h;exact d.gR (P:=λv=>aQ (aI Z w) A _ Q H s) λa=>P.truthy_int (R _ _ (cg.refl r))
 |str l=>
  refine bT (qw h) λe j=>?_;subst j;refine d.i4 (P:=λv=>aQ (aI Z w) A (truthy v) Q H s) λa=>P.truthy_str (by simp only [str_len];exact RN.mpr (zB e)) ?_;simp only [str_len,show(((U l):aS)!=0)=!l.isEmpty from by cases l<;>rfl];exact R _ _ (cg.tok r _)
 |list l=>
  refine bT (qw h) λe j=>?_;subst j;exact d.listE (P:=λv=>aQ (aI Z w) A (truthy v) Q H s) λn z u S O=>wpAny_truthy_list (gy r.bJ S) (qH.symm▸O.length.symm▸(zB e)) ((show z.toArray.isEmpty=l.isEmpty from by cases O<;>rfl)▸(R _ _ (cg.tok r _)))
 |_=>exact aV C h
theorem eK(e:gm V)(z:s.heap.Ns V.locals m)(u:eE V m s.heap x (D v))(h:Q v s):
  aQ (aI Z w) A (loadName V x) Q H s:=by
 rcases u with⟨X,d⟩|⟨X|⟨X,l⟩,c,i,o⟩
 .exact Jd e.kind X z d.symm h
 .exact wpAny_loadName_cell e.kind X i o h
 .exact wpAny_loadName_free e.kind X i o h l
theorem WC{i:J}(j:xs[i]?=D x)(X:y[i]?=D (.t z))(P:(x==("__debug__"))=ay):cP B Z w A ρ V xs k y (.Name x p) y z:=by
 rintro T g s a H⟨h,m,L,S⟩R;obtain⟨Q,u,e,v,rfl,d⟩:=S.vars i x _ j X;exact eO (eK h S.ns u (R s g v (bP.refl s) (Le.refl _) ⟨h,m,L,S⟩ d)) P
theorem WD{x:af}(e:xs[i]?=D x)(X:y[i]?=D (.own l))(P:(x==("__debug__"))=ay):
  cP B Z w A ρ V xs r y (.Name x p) (y.set i (.t (.list l))) (.list l):=by
 rintro T g s Q H⟨h,m,n,S⟩R;refine cps λE v=>dF (S.freeze X) λj b k a=>?_;refine KS (k) λo z q f L u t d E E E=>?_;apply v;obtain rfl:=bj (e▸L);exact eO (eK h S.ns u (R s j _ (bP.refl s) b ⟨h,m,_,a⟩ (.list t d))) P
def ZJ(c:Const):T->Prop
 |.int b=>c=.int b
 |.str b=>c=.str ⟨b.toArray⟩
 |.bool b=>c=.bool b
 |.none=>c=.none
 |_=>False
theorem yz(h:ZJ c τ):cP B Z w A ρ V xs k y (.Constant c v p) y τ:=by
 intro T g s Q H S R;cases τ with
 |int b=>exact h▸(SX (R _ g _ (cH _ _ C) (Le.refl _) S (.int _ _)))
 |str b=>exact h▸(rO (R _ g _ (cH _ _ C) (Le.refl _) S (.str _ _)))
 |bool b=>exact h▸(λE E E=>R _ g _ (bP.refl s) (Le.refl _) S (.bool _))
 |none=>exact h▸(λE E E=>R _ g _ (bP.refl s) (Le.refl _) S .none)
 |_=>exact h.elim
theorem cP.to(p:PO B (aI Z w) A ρ h g z)(S:SR B ρ hB g V xs k y s.heap)
  (R:∀t j v,bP s t->Le g j->SR B ρ hB j V xs k y t.heap->Den ρ j v z->Q v t):aQ (aI Z w) A h Q H s:=
 p s Q H S.ready λt j v f d=>R t j v f.same f.le (S.step f) d
theorem Wr(i:dW A G)(t:cP B Z w A ρ V xs k y e P a)(v:cP B Z w A ρ V xs k P x X m)(b:kH n a m=D z):
  cP B Z w A ρ V xs k y (.BinOp e n x ah) X z:=by
 intro T g l au aC S R;exact DL (t T g l _ _ S λc j aE q o E O=>v T j c _ _ E λaj ak ao s h f L=>(cP.to (Ue i (O.mono h) L b) f λr u H p Q F d=>R r u H ((q.trans s).trans p) ((o.trans h).trans Q) F d))
theorem Wt(i:dW A ah)(a:cP B Z w A ρ V xs k s u P y)(v:cP B Z w A ρ V xs k P x X m)(e:gb n y m=D b)(R:behindInMarks n x=ay):
  cP B Z w A ρ V xs k s (.Compare u [n] [x] aC) X (.bool b):=by
 intro T g l ao au S j;exact wpAny_Compare1 (a T g l _ _ S λc t aE q o E O=>v T t c _ _ E λaj ak b f h r L=>(cP.to (A_ i (O.mono h) L e) r λz H p F Q G d=>j z H p ((q.trans f).trans F) ((o.trans h).trans Q) G d)) R
theorem Vz(s:dW A G)(i:cP B Z w A ρ V xs k l r P y)(v:cP B Z w A ρ V xs k P x X m)(e:gb n y m=D b)(R:behindInMarks n x=ay):
  gn B Z w A ρ V xs k l (.Compare r [n] [x] aE) X b:=by
 intro T g j au aC S t;refine Ao (i T g j _ _ S λc a ah q o E O=>v T a c _ _ E λaj ak b u h f L=>(cP.to (A_ s (O.mono h) L e) f λz p ao Q H F d=>?_)) R;obtain rfl:=d.inv;exact yh (t z p ((q.trans u).trans Q) ((o.trans h).trans H) F)
theorem VD(i:dW A n)(a:cP B Z w A ρ V xs k l e P y)(h:tn y=D b)(m:∀x,isTrue e V x=(do let v<-x;standAt e.pos;holding [v] (truthy v))):
  gn B Z w A ρ V xs k l e P b:=by
 intro T g s Q H S R;exact agR (a T g s _ _ S λc j d q o E O=>(C4 i O h c _ _ E.ready λt u f=>R t u (q.trans f.same) (o.trans f.le) (E.step f))) (m _)
theorem VB{b:bw}(h:gn B Z w A ρ V xs k y e P b):gn B Z w A ρ V xs k y (.UnaryOp .Not e p) P (!b):=by
 intro T g s Q H S R;exact PyProof.Rows.isTrue_not (h T g s _ _ S λc a q o E=>R c a q o E)
theorem WE(h:cP B Z w A ρ V xs k y e a (.int i)):cP B Z w A ρ V xs k y (.UnaryOp .USub e p) a (.int (-i)):=by
 intro T g s Q H S R;refine wpAny_UnaryOp (h T g s _ _ S λc x l q o E O=>?_);obtain⟨b,rfl⟩:=O.inv;exact P.neg_int (R _ x _ (q.trans (cH _ _ C)) o E (.int _ _))
theorem WA(h:gn B Z w A ρ V xs k y e P b)(v:cP B Z w A ρ V xs k P (if b then x else m) X z):cP B Z w A ρ V xs k y (.IfExp e x m p) X z:=by
 intro T g s Q H S R;refine wpAny_IfExp (h T g s _ _ S λc a q o E=>?_);have:=v T a c Q H E λt u l i n j d=>R t u l (q.trans i) (o.trans n) j d;cases b<;>exact this
theorem lX:kE B Z w A ρ V xs k y u [] y []:=λT g s Q H S R=>lO (R s g [] (bP.refl s) (Le.refl _) S .nil)
theorem PM(h:∀x p,e≠.Starred x p):starEach (e::Q) V=(ay,eval e V)::starEach Q V:=by cases e<;>first|rfl|exact bA C (h _ _)
theorem mV(h:∀x p,e≠.Starred x p):backTo pos (starEach (e::es) V)=(ay,eval e V)::backTo pos (starEach es V):=ae (aA _ (PM h)) C
theorem qT(j:cP B Z w A ρ V xs k y e P z)(v:kE B Z w A ρ V xs k P u Q X p)(a:∀x i,e≠.Starred x i):
  kE B Z w A ρ V xs k y u (e::Q) X (z::p):=by
 intro T g s m H S R;exact mV a▸(pW (j T g s _ _ S λc l t q o E O=>v T l c _ _ E λF r d n h f b=>(R F r _ (q.trans n) (o.trans h) f (.cons (O.mono h) b))))
theorem WB(h:kE B Z w A ρ V xs k y a Q P p)(e:ej (U p)=Y):cP B Z w A ρ V xs k y (.List Q a) P (.list p):=by
 intro T g s i H S R;refine wpAny_List (h T g s _ _ S λc x z q o E b=>⟨?_,?_⟩)
 .exact(b.length)▸(kN e)
 .exact(E.ready).list b λt u v f d=>R t u v (q.trans f.same) (o.trans f.le) (E.step f) d
theorem Bp(h:kE B Z w A ρ V xs k y a Q P p)(e:ej (U p)=Y):cP B Z w A ρ V xs k y (.Tuple Q i a) P (.tup p):=by
 intro T g s l H S R;refine wpAny_Tuple (h T g s _ _ S λc x z q o E b=>⟨?_,?_⟩)
 .exact(b.length)▸(kN e)
 .exact(E.ready).tup b λt u v f d=>R t u v (q.trans f.same) (o.trans f.le) (E.step f) d
end
noncomputable def jQ(i:aS):bw:=aO (-(2^62)<i)&&aO (i<2^62)
def BF(l:I T)(i:aS):bg T:=if jQ i then(seqIndex? i l.length).bind (l[·]?)else aa
def FI:T->aS->bg T
 |.list l,i=>BF l i
 |.tup l,i=>BF l i
 |.str l,i=>if jQ i then((seqIndex? i l.length).bind (l[·]?)).map λc=>.str [c]else aa
 |_,_=>aa
def qm(x:T):T->bg T
 |.int i=>FI x i
 |_=>aa
noncomputable def cut{R:Type}(lo A:bg aS)(l:I R):I R:=(l.drop (lo.elim 0 (clipAt l.length))).take (A.elim l.length (clipAt l.length)-lo.elim 0 (clipAt l.length))
def CO:T->bg aS->bg aS->bg T
 |.list l,lo,A=>if ej l.length then D (.list (cut lo A l))else aa
 |.str l,lo,A=>if ej l.length then D (.str (cut lo A l))else aa
 |_,_,_=>aa
section
variable{B:bD O}{Z:cy}{w:bX}{A:cZ}{ρ:Mk}{V:c3}{xs:I af}{k:J}{lv:I (AV O)}{τ:T}
theorem GU{R:Type} [Decidable c]{x H:R}(h:(if c then D x else aa)=D H):c/\x=H:=by
 by_cases q:c
 .rw [aL q]at h;exact⟨q,bj h⟩
 .exact aV (aJ q) h
theorem abe{x H:J}(h:(if(c&&d)=Y then D x else aa)=D H):c=Y/\d=Y/\x=H:=
 have q:=GU h;have r:=cQ.mp q.1
 (dI r.1 r.2 q.2)
theorem Pe(h:seqIndex? i u=D t):(0<=i/\t=i.toNat/\t<u)\/(i<0/\-(u)<=i/\t=(i+u).toNat/\t<u):=by
 refine gv (abe (h)) λw v d=>?_;subst d;have R:=(Int.toNat_lt (dh w)).mpr (dh v)
 by_cases q:i<0
 .rw [aL q]at w R⊢;exact .inr (lg q (Int.neg_le_of_neg_le (Int.sub_nonneg.mp (by simp only [Int.sub_neg,Dr];exact dh w))) C R)
 .rw [aJ q]at R⊢;exact .inl (dI (xQ.mp q) C R)
theorem FN(h:jQ i=Y):-(2^63)<=i:=xP (by decide) (IE (dh (cQ.mp h).1))
theorem FJ(h:jQ i=Y):i<2^63:=rP (dh (cQ.mp h).2) (by decide)
theorem Ph(h:BF l i=D τ):jQ i=Y/\∃t,seqIndex? i (U l)=D t/\l[t]?=D τ:=by
 by_cases q:jQ i=Y
 .have h:(if jQ i=Y then(seqIndex? i (U l)).bind (l[·]?)else aa)=D τ:=h;rw [aL q]at h;exact⟨q,Option.bind_eq_some_iff.mp h⟩
 .exact aV (aJ q) h
theorem list_item(d:bu ρ g z l)(h:BF l x=D τ)(il:s.heap.IsList a z.toArray)(R:∀v,Den ρ g v τ->Q v s):aQ (aI Z w) A (getItem (.ref a) (.int x n)) Q H s:=by
 refine cps λE b=>bT (Ph h) λi j=>?_;refine ai (j) λk O h=>?_;refine ai (d.get h) λv t F=>b ?_;rcases Pe O with⟨T,rfl,_⟩|⟨T,e,rfl,_⟩
 .exact wpAny_getItem_list il T (FJ i) (ae R2 t) (R v F)
 .rw [(d.length.symm)]at e t;exact wpAny_getItem_list_neg il T e (FN i) (ae R2 t) (R v F)
theorem Xq(O:Den ρ g E y)(h:FI y i=D τ)(r:Ready B g s)(R:∀v n,Den ρ g v τ->Q v {s with toks:=n}):aQ (aI Z w) A (getItem E (.int i p)) Q H s:=by
 cases y with
 |list l=>exact O.listE (P:=λv=>aQ _ A (getItem v _) Q H s) λa z u S O=>list_item O h (gy r.bJ S) λv x=>R v _ x
 |tup l=>
  refine O.HG (P:=λv=>aQ _ A (getItem v _) Q H s) λa z u S O=>cps λX b=>bT (Ph h) λe j=>?_;refine ai (j) λm k h=>?_;exact ai (O.get h) λv t F=>b (P.getItem_tuple (r.bJ _ _ S) (FN e) (FJ e) (qH.symm▸O.length.symm▸k) (ae R2 t) (R v _ F))
 |str l=>
  refine O.i4 (P:=λv=>aQ _ A (getItem v _) Q H s) λL=>?_;refine cps λT f=>?_;obtain⟨e,h⟩:jQ i=Y/\((seqIndex? i (U l)).bind (l[·]?)).map _=D τ:=by
   by_cases q:jQ i=Y
   .exact⟨q,(aL q).symm.trans h⟩
   .exact aV C ((aJ q).symm.trans h)
  refine ai (pV.mp h) λc o d=>?_;subst d;apply f;refine P.getItem_str ?_ ?_ (R _ _ (.str [c] _))
  .exact Bool.or_eq_false_iff.mpr ⟨ef (xQ.mpr (FN e)),ef (RN.mpr (FJ e))⟩
  .simp only [str_len];simpa using o
 |_=>exact aV C h
theorem ZN(d:Den ρ e E y)(h:FI y i=D τ){s:aU}(g:Le e s.heap.get?):∃T id,s.TypeIs E T/\typeLookup (.type T) "__getitem__"=pure (D (.builtin id)):=by
 cases y with
 |list l=>exact d.listE (P:=λv=>∃T id,s.TypeIs v T/\typeLookup (.type T) "__getitem__"=pure (D (.builtin id))) λa z u S O=>(gg _ _ ((gy g S).typeIs) RE.lookup)
 |tup l=>exact d.HG (P:=λv=>∃T id,s.TypeIs v T/\typeLookup (.type T) "__getitem__"=pure (D (.builtin id))) λa z u S O=>(gg _ _ (aR _ (g _ _ S) C) F.slot_tuple_getitem.lookup)
 |str l=>exact d.i4 (P:=λv=>∃T id,s.TypeIs v T/\typeLookup (.type T) "__getitem__"=pure (D (.builtin id))) λA=>(gg _ _ (tR _ _ _) afQ.lookup)
 |_=>exact aV C h
theorem xd(h:∀a b c p,e≠.Slice a b c p):subscripted e ay o i=operate [o,i] (getItem o i):=by
 cases e with
 |Slice=>exact bA C (h _ _ _ _)
 |_=>rfl
theorem Wx(s:cP B Z w A ρ V xs k lv t P ah)(G:cP B Z w A ρ V xs k P x X m)(e:qm ah m=D τ)(z:∀i b c p,x≠.Slice i b c p):
  cP B Z w A ρ V xs k lv (.Subscript t x p) X τ:=by
 intro a g l Q H S R;refine ya (s a g l _ _ S λn j i q o E O=>G a j n _ _ E λF u b y h f L=>?_);cases m with
 |int aC=>
  refine L.gR (P:=λv=>aQ (aI Z w) A _ Q H F) λau=>?_;have r:=f.ready;exact d5 (ZN (O.mono h) e r.bJ) λT id aj ao=>vI aj ao (Xq (O.mono h) e r λv ak d=>R _ u v ((q.trans y).trans (cH _ _ C)) (o.trans h) (f.step (cg.tok r ak)) d) (xd z)
 |_=>exact aV C e
def p8(B:bD O)(Z:cy)(w:bX)(A:cZ)(ρ:Mk)(V:c3)(xs:I af)(k:J)(lv:I (AV O))(e:cE)(τ:T):Prop:=
 ∀(h:HB)(g:Fz)(s:aU)(Q:aB->aU->Prop)(H:aB->aU->Prop),SR B ρ h g V xs k lv s.heap->
  (∀n v,Den ρ g v τ->Q v {s with toks:=n})->aQ (aI Z w) A (eval e V) Q H s
theorem EY{i:J}(j:xs[i]?=D x)(X:lv[i]?=D (.t τ))(P:(x==("__debug__"))=ay):p8 B Z w A ρ V xs k lv (.Name x p) τ:=by
 rintro T g s Q H⟨h,m,L,S⟩R;obtain⟨e,u,a,v,rfl,d⟩:=S.vars i x _ j X;exact eO (eK h S.ns u (R s.toks v d)) P
theorem V3:p8 B Z w A ρ V xs k lv (.Constant (.int i) v p) (.int i):=
 λT g s Q H S R=>SX (R _ _ (.int _ _))
theorem V4{i:aS}(h:p8 B Z w A ρ V xs k lv e (.int i)):p8 B Z w A ρ V xs k lv (.UnaryOp .USub e p) (.int (-i)):=by
 intro T g s Q H S R;refine wpAny_UnaryOp (h T g s _ _ S λn v d=>?_);obtain⟨a,rfl⟩:=d.inv;exact P.neg_int (R _ _ (.int _ _))
theorem Wz{t:J}(j:xs[t]?=D x)(X:lv[t]?=D (.own o))(P:(x==("__debug__"))=ay)(O:p8 B Z w A ρ V xs k lv i (.int G))(b:qm (.list o) (.int G)=D τ)
  (E:∀a q c p,i≠.Slice a q c p):cP B Z w A ρ V xs k lv (.Subscript (.Name x ak) i p) lv τ:=by
 rintro T g s l H⟨h,m,L,S⟩R;refine cps λaj f=>?_;obtain⟨ah,y,a,z,d,rfl,u,r,ao⟩:=S.vars t x _ j X;apply f;refine ya (eO (eK h S.ns y (O T g s _ _ ⟨h,m,L,S⟩ λn v e=>e.gR (P:=λv=>aQ (aI Z w) A _ l H {s with toks:=n}) λau=>?_)) P);have Q:({s with toks:=n}).heap.IsList a z.toArray:=(i12 _ u C ⟨d,C⟩);exact vI Q.typeIs RE.lookup (list_item r b Q λv e=>R {s with toks:=n} g v (cH _ _ C) (Le.refl _) ⟨h,m,L,S⟩ e) (xd E)
theorem aW.lend(S:aW B ρ hB g V xs k lv m cK s.heap){v:J}{l:I T}(r:xs[v]?=D c)(X:lv[v]?=D (.own l)):
  ∃a j,eE V m s.heap c (D (.ref a))/\Ready B j s/\Le g j/\Den ρ j (.ref a) (.list l)/\
   ∀t P,cg B j s P t->∃n,Le g n/\aW B ρ hB n V xs k lv m cK t.heap:=by
 refine cps λE H=>dF (S.freeze X) λj i F A=>?_;refine KS (F) λa R u ah L p x y Q E z=>?_;apply H;rw [r]at L;obtain rfl:=bj L;refine L4 a j p A.ready i (.list x y) λt h f=>?_;have O:∀{b o},(if b=a then aa else h b)=D o->b≠a/\h b=D o:=λ{b o}e=>by
  by_cases q:b=a
  .rw [aL q]at e;exact aV C (e)
  .rw [aJ q]at e;exact⟨q,e⟩
 have d:Le g λb=>if b=a then aa else h b:=λb o e=>(aJ (eZ Q e)).trans (f.le _ _ (i _ _ e))
 refine aR _ d (S.grow f.keep (B.uJ f.inv (λb o w G e=>ae (aJ λq=>?_) e) λaj E o e=>e) d λb o e=>bT (O e) λu e=>(f.new b o e).elim (λq=>.inl ?_) λq=>.inr ⟨q,f.bJ _ _ e⟩)
 .subst q;have:=bj ((f.le _ _ x).symm.trans e);subst this;exact nomatch G
 .rw [z]at q;exact(aJ u).symm.trans q
end
section
variable{dc:I (AV O)}
def yl(X:bD O)(m:cy)(w:bX)(L:cZ)(F:Mk)(G:c3)(n:I af)(k:J)(y:I (AV O))(e:bg cE)(x:I (AV O))(i:bg aS):Prop:=
 ∀(T:HB)(g:Fz)(s:aU)(Q:aB->aU->Prop)(H:aB->aU->Prop),SR X F T g G n k y s.heap->
  (∀t j(p:bg (aS×fT)),p.map (·.1)=i->bP s t->Le g j->SR X F T j G n k x t.heap->Q (partValue p) t)->aQ (aI m w) L (evalPart e G) Q H s
theorem VY:yl X m w L F G n k y aa y aa:=λT g s Q H S R=>by
 exact bM (R s g aa C (bP.refl s) (Le.refl _) S)
theorem VZ(h:cP X m w L F G n k y e P (.int i)):yl X m w L F G n k y (D e) P (D i):=λT g s Q H S R=>by
 refine h T g s Q H S λt u v q l a d=>?_;cases d with
 |int i A=>exact R t u (D (i,A)) C q l a
theorem Mn:∀(p:bg _),IsPart (partValue p) (p.map (·.1))
 |aa=>.none
 |D (i,A)=>.int i A
theorem acW(x:af)(l y:bg _):
  (slicePicked x l y aa).filterMap (x.cps[·]?)=(x.cps.toList.drop ((l.map (·.1)).elim 0 (clipAt x.length))).take ((y.map (·.1)).elim x.length (clipAt x.length)-(l.map (·.1)).elim 0 (clipAt x.length)):=by
 have e:slicePicked x l y aa=sliceRange (sliceBounds (l.map _) (y.map (·.1)) aa x.length).1 (sliceBounds (l.map (·.1)) _ aa x.length).2.1 1:=C;rw [e,sliceBounds_plain];rw [sliceRange_one,pick_run]
theorem Pg(m:J):seqIndex? (-1) (m+1)=D m:=by
 show(if(aO (0<=(-1)+((m+1:J):aS))&&aO ((-1)+((m+1:J))<((m+1:J):aS)))=Y then D ((-1)+((m+1:J):aS)).toNat else aa)=_;rw [(ae (Dr _ _) (afT (m) 1))];exact aL (cQ.mpr ⟨cL (qG m),cL (jY.mpr (fG m))⟩)
theorem UM(u:J)(i:aS):clipAt u i<=u:=Int.toNat_le.mpr (Int.max_le.mpr ⟨qG u,Int.min_le_right _ _⟩)
theorem adl{x H u:J}(h:x-H=u+1)(w:x<=u+1):H=0:=Aa λL=>bA (Sm (eH (gE u) (h▸DA x H)) L) (ie.mpr (h.symm▸w))
set_option tactic.hygienic true in
theorem WI{lo A:bg cE}(i:cP X m w a h t n k bf bW aF y)(aH:yl X m w a h t n k aF lo dc S)(aT:yl X m w a h t n k dc A au aY)(e:CO y S aY=D bh):
  cP X m w a h t n k bf (.Subscript bW (.Slice lo A aa cM) cX) au bh:=by
 intro T cu cC cF cJ aE R;refine ya (i T cu cC _ _ aE λaN a_ c9 bx bC bE O=>(wpAny_Slice (aH T a_ aN _ _ bE λP ah x ak ao d aC=>aT T ah P _ _ aC λc p b aK aM z G=>(bM ?_))));subst ak aK;have r:=G.ready;have f:=cg.iH r {cls:=.type "slice",data:=.fields #[partValue x,partValue b,.none]} c.toks;have s:=f.ready r;have u:=(O.mono d).mono z;have L:=(bx.trans ao).trans aM;have g:=(bC.trans d).trans z;cases y with
 |list l=>
  obtain⟨B,rfl⟩:=GU e
  .
   cases u with
   |list bl E=>
    rename_i bz cU;have H:=E.length;have Q:=gy s.bJ bl;refine vI Q.typeIs RE.lookup (wpAny_getItem_list_slice Q (Heap.IsSliceOf.new ..) (Mn x) (Mn b) .none (nofun) ?_ (by simp only [qH,H];exact kN B)) C;rw [slicePick_plain];have aP:bu h p (cut (x.map (·.1)) (b.map (·.1)) bz) (cut (x.map (·.1)) (b.map (·.1)) l):=by
     unfold cut;exact(H)▸((E.drop _).take _)
    have:=s.list (n:=0) (tk:=c.toks) aP λbQ bR v o bZ=>R bQ bR v (L.trans (f.same.trans o.same)) (g.trans o.le) ((G.step f).step o) bZ;simpa [cut]using this
 |str l=>
  obtain⟨B,rfl⟩:=GU (c:=ej (U l)=Y) e
  .
   obtain⟨dG,rfl⟩:=u.inv;refine vI (tR _ _ _) afQ.lookup (wpAny_getItem_str_slice (st:=aa) (i12 _ (eS _ C) C C) C ?_) C;have bI:(slicePicked ⟨l.toArray⟩ x b aa).filterMap ((⟨l.toArray⟩:af).cps[·]?)=cut (x.map (·.1)) (b.map (·.1)) l:=by
    rw [acW,str_len];exact C
   unfold sliceMade
   split
   .rename_i ck;have j:=by simpa [str_len]using ck
    have b_:slicePicked ⟨l.toArray⟩ x b aa=sliceRange (sliceBounds (x.map (·.1)) (b.map (·.1)) aa (U l)).1 (sliceBounds (x.map (·.1)) (b.map (·.1)) aa (U l)).2.1 1:=by
     delta slicePicked Builtin.Str.strSliceIndices sliceBounds
     exact C
    rw [b_,sliceBounds_plain]at j;simp only [sliceRange_one,dg,xW]at j;have cB:∀q:bg aS,q.elim (U l) (clipAt (U l))<=U l:=λq=>by
     cases q with
     |none=>exact dm _
     |some dN=>exact UM _ _
    have i:=cB (b.map (·.1));have:cut (x.map (·.1)) (b.map (·.1)) l=l:=by
     unfold cut;rw [j];cases l with
     |nil=>simp
     |cons aj r=>
      have:(x.map (·.1)).elim 0 (clipAt (U (aj::r)))=0:=adl j i;rw [this];simp
    exact(this▸R) _ p _ (L.trans f.same) g (G.step f) (.str _ _)
   .refine bI▸(⟨?_,R _ p _ ((L.trans f.same).trans (cH _ _ C)) g (G.step (cg.trans r f (cg.tok s _))) (.str _ _)⟩);simp only [str_len];have:=kN B;unfold cut;simp only [z6,xU];exact jS 0 (.v 3) (.v 1) (.v 0) (.v 1) (.v 3) (.v 2) (.v 2) (.v 0) C [_,_,_,_] this GH Cd
 |_=>exact aV C e
theorem Wq(h:cP X m w L F G n k y e P z):cP X m w L F G n k y (.BoolOp a [e] p) P z:=
 λT g s Q H S R=>PyProof.Rows.BoolOp_one (h T g s Q H S R)
theorem WH(i:dW L x)(h:cP X m w L F G n k y e P z)(l:tn z=D Y):cP X m w L F G n k y (.BoolOp .Or (e::b::r) p) P z:=by
 intro T g s Q H S R;exact Sv (h T g s _ _ S λc j a q o E O=>(C4 i O l c _ _ E.ready λt u f=>R t u a (q.trans f.same) (o.trans f.le) (E.step f) (O.mono f.le)))
theorem WG(i:dW L au)(b:cP X m w L F G n k y e P h)(l:tn h=D ay)(v:cP X m w L F G n k P (.BoolOp .Or (x::r) p) dc z):cP X m w L F G n k y (.BoolOp .Or (e::x::r) p) dc z:=by
 intro T g s Q H S R;exact Sv (b T g s _ _ S λc ao ak q o E O=>(C4 i O l c _ _ E.ready λt u f=>(v T u t Q H (E.step f) λa B A j ah aj d=>R a B A ((q.trans f.same).trans j) ((o.trans f.le).trans ah) aj d)))
theorem Vy:gn X m w L F G n k y (.BoolOp .And [] p) y Y:=λT g s Q H S R=>PyProof.Rows.isTrue_and_nil (R s g (bP.refl s) (Le.refl _) S)
theorem VC:gn X m w L F G n k y (.BoolOp .Or [] p) y ay:=λT g s Q H S R=>PyProof.Rows.isTrue_or_nil (R s g (bP.refl s) (Le.refl _) S)
theorem Ms(n:BoolOp)(Q:I cE)(p:ig)(G:c3)(h e:Sem aB):isTrue (.BoolOp n Q p) G h=isTrue (.BoolOp n Q p) G e:=C
theorem ET{b c:bw}(e:gn X m w L F G n k y i P b)(v:if b then gn X m w L F G n k P (.BoolOp .And r p) dc c else(dc=P/\c=ay)):
  gn X m w L F G n k y (.BoolOp .And (i::r) p) dc c:=by
 intro T g s Q H S R;refine PyProof.Rows.isTrue_and (e T g s _ _ S λh a q o E=>?_);cases b with
 |true=>
  exact(Ms _ _ _ _ _ _).symm▸(v T a h Q H E λx l j B f=>R x l (q.trans j) (o.trans B) f)
 |false=>
  obtain⟨rfl,rfl⟩:=v;exact R h a q o E
theorem KW{b c:bw}(e:gn X m w L F G n k y i P b)(v:if b then(dc=P/\c=Y)else gn X m w L F G n k P (.BoolOp .Or r p) dc c):
  gn X m w L F G n k y (.BoolOp .Or (i::r) p) dc c:=by
 intro T g s Q H S R;refine PyProof.Rows.isTrue_or (e T g s _ _ S λh a q o E=>?_);cases b with
 |false=>
  exact(Ms _ _ _ _ _ _).symm▸(v T a h Q H E λx l j B f=>R x l (q.trans j) (o.trans B) f)
 |true=>
  obtain⟨rfl,rfl⟩:=v;exact R h a q o E
end
structure fe(B:bD O)(mg mb:af->bg aB):Prop where
 g:∀{h},bF B.h₀ h->h.Ns j0 mg
 b:∀{h},bF B.h₀ h->h.Ns builtinsNs mb
 nolimit:∀{h},bF B.h₀ h->h.NoLimit
def DR(X:bD q)(m:cy)(w:bX)(u:J)(h:aB)(e:I T)(r:T):Prop:=
 ∀(L:cZ)(F:Mk)(g:Fz)(z:I aB)(i:pX->aU->Prop)(s:aU),dW L u->Ready X g s->bu F g z e->
  (∀t j v,cg X g s j t->Den F j v r->i (.ok (.ret v)) t)->codeAny (aI m w) L (.call h ⟨z,[]⟩) i s
theorem kL:∀(Q:I cE),(∀e∈Q,∀x p,e≠.Starred x p)->(backTo pos (starEach Q V)).any (·.1)=ay:=λT=>T.rec
 (λE=>C)
 (λe Q n h=>mV (h e gC)▸n λe m=>h e (fF _ m))
theorem jM{es:I cE}(L:∀e∈es,∀x p,e≠.Starred x p)(h:kE X m w i F G a k y u es P b)(S:SR X F hB g G a k y s.heap)
  (R:∀t j z,bP s t->Le g j->SR X F hB j G a k P t.heap->bu F j z b->Q ⟨z,[]⟩ t):aQ (aI m w) i (evalArgs l Y (backTo u (starEach es G)) []) Q H s:=by
 cases es with
 |nil=>
  exact aG (kX (h hB g s _ H S R) (λz t O=>(gH (aG (bM (aG (bM (bM O))))))) λE E x=>x)
 |cons e es=>
  have n:=h hB g s _ H S R;rw [(mV (L e gC))]at n⊢;exact tO n
theorem nZ(h:fe X O A)(w:gm G)(f:bF X.h₀ s.heap)(j:G.kindOf x=D .globalImplicit)(d:O x=D v)(P:(x==("__debug__"))=ay)(e:Q v s):
  aQ (aI m a) L (eval (.Name x p) G) Q H s:=agr w.kind j (loadGlobal_global (w.globals▸h.g f) d e) P
theorem nY(h:fe X O A)(w:gm G)(f:bF X.h₀ s.heap)(j:G.kindOf x=D .globalImplicit)(R:O x=aa)(d:A x=D v)(P:(x==("__debug__"))=ay)(e:Q v s):
  aQ (aI m a) L (eval (.Name x p) G) Q H s:=agr w.kind j (loadGlobal_builtin (w.globals▸h.g f) R (w.builtins▸h.b f) d e) P
theorem cP.wU{s c:aU}(q:bP s c)(o:Le g a)(E:SR X F hB a G n k y c.heap)(p:PO X (aI m w) L F A a z)
  (R:∀t j v,bP s t->Le g j->SR X F hB j G n k y t.heap->Den F j v z->Q v t):aQ (aI m w) L A Q H c:=
 cP.to p E λt u v h l e d=>R t u v (q.trans h) (o.trans l) e d
theorem K9(e:fe X O A){id:String}(f:G.kindOf x=D .globalImplicit)(R:O x=aa)(d:A x=D (.builtin id))(P:(x==("__debug__"))=ay)
  (h:∀l∈Q,∀x p,l≠.Starred x p)(a:kE X m w L F G n k y u Q i s)(t:∀g z,bu F g z s->PO X (aI m w) L F (call (.builtin id) z) g j):
  cP X m w L F G n k y (.Call (.Name x p) Q [] u) i j:=by
 intro T g c B H S o;exact kD (nY e S.1 S.ready.base f R d P (kA (kL Q h) (jM h a S λah v z q r E b=>(cP.wU q r E (t v z b) o))))
theorem Ws(e:fe X O aN)(r:dW L u)(j:G.kindOf x=D .globalImplicit)(s:O x=D (.ref a))(ah:(x==("__debug__"))=ay)
  (au:∀{h},bF X.h₀ h->h.get? a=D o)(g:o.data=.func aC)(i:∀b∈Q,∀x p,b≠.Starred x p)(h:kE X m w L F G n k y l Q P t)(q:DR X m w u (.ref a) t z):
  cP X m w L F G n k y (.Call (.Name x p) Q [] l) P z:=by
 intro aE aF aH aK aM S R;exact kD (nZ e S.1 S.ready.base j s ah (yc (jM i h S λc H A B v E aj=>⟨⟨au E.ready.base,g⟩,(i8 (q L F H A _ c r E.ready aj λT ao ak f d=>R T ao ak (B.trans f.same) (v.trans f.le) (E.step f) d))⟩)))
theorem yW(k:(backTo u (starEach Q G)).any (·.1)=ay)(j:U Q<30):methodCallForm (U Q+U ([]:I Keyword)) (backTo u (starEach Q G)) (backToKw u (keywordEach [] G))=Y:=
 cQ.mpr ⟨cQ.mpr ⟨(by simpa using k),C⟩,cL j⟩
theorem Nb{e:cE}{A:ig}(E:(A.endLine==u.line)=Y):methodCallPos Y e G A u=pure u:=by delta methodCallPos;simp [E]
theorem La{T id:String}(O:attributeBase o R G (eval o G)=eval o G)(h:∀aH∈Q,∀r A,aH≠.Starred r A)
  (P:U Q<30)(aE:(aF.endLine==u.line)=Y)(aP:PlainAttrs T)(H:Slot T R id)(t:typeOf (.builtin id)=pure (.type "method_descriptor"))
  (f:cP X m w L F G n k aM o aN y)(l:kE X m w L F G n k aN u Q j p)
  (q:∀g v(s:aU),Ready X g s->Den F g v y->s.TypeIs v T/\(∀a,v=.ref a->∃e,s.heap.get? a=D e/\e.dict=aa))
  (S:∀g v z,Den F g v y->bu F g z p->PO X (aI m w) L F (call (.builtin id) (v::z)) g ah):
  cP X m w L F G n k aM (.Call (.Attribute o R aF) Q [] u) j ah:=by
 intro aj g s bf a_ au aC;have i:=kL (pos:=u) (V:=G) Q h;exact lP O (yW i P) aE aP H t (f aj g s _ _ au λc x v ak ao E d=>((dI ((q x v c E.ready d).1) ((q x v c E.ready d).2) (kA i (jM h l E λbh aK z aT B aY b=>cP.wU (ak.trans aT) (ao.trans B) aY (S aK v z (d.mono B) b) aC)))))
section
set_option tactic.hygienic true
variable{B:bD O}{k:J}{lv:I (AV O)}{hB:HB}
theorem gh(eo:gm G)(e:hB.lk=[])(S:aW B F hB g G n k lv m r s.heap)(j:n[i]?=D x)(a:i<k)
  (o:G.kindOf x=D .local\/G.kindOf x=D .cell)(d:Holds B F g s.heap av (D v) fp)(ok:oN B hB g G n r i fp)
  (R:∀t b,bP s t->aW B F hB g G n k (lv.set i av) b (bU r i fp) t.heap->Q () t):aQ (aI Z w) L (DP G x v) Q H s:=by
 rcases o with X|X
 .exact ahd X S.ns (λO z h=>R _ _ (cH _ _ C) (S.OW e j X z h d ok)) (eo.kind.symm▸C)
 .have A:=by exact(S.len)▸((cG.mp j).1)
  obtain⟨p,u,_⟩:=S.vars i x _ j (dB A);rcases u with⟨q,_⟩|⟨_,c,l,f⟩
  .rw [X]at q;exact nc nK (bj q) C
  .exact wpAny_storeName_cell eo.kind X l f λO z h=>R _ _ (cH _ s.toks C) (S.abM e j a X l z h d ok)
def p7(B:bD O)(m:cy)(w:bX)(L:cZ)(F:Mk)(G:c3)(n:I af)(k:J)(lv:I (AV O))(h:cE)(z:T)(x:I (AV O)):Prop:=
 ∀(hB:HB)(g:Fz)(s:aU)(v:aB)(Q:Unit->aU->Prop)(H:aB->aU->Prop),hB.lk=[]->SR B F hB g G n k lv s.heap->Den F g v z->
  (∀t,bP s t->SR B F hB g G n k x t.heap->Q () t)->aQ (aI m w) L (assign h G v) Q H s
theorem Vx(j:n[i]?=D x)(l:i<k)(h:G.kindOf x=D .local\/G.kindOf x=D .cell):p7 B m s f F G n k lv (.Name x p) z (lv.set i (.t z)):=by
 rintro hB g o v Q H e⟨w,a,L,S⟩d R;exact vM (gh (av:=.t z) w e S j l h ⟨C,v,C,d⟩ .nil λt b q A=>R t q ⟨w,b,_,A⟩)
theorem KU{x H:af}{q o:T}(A:L.handled=aa)(m:n[i]?=D x)(j:i<k)(v:G.kindOf x=D .local\/G.kindOf x=D .cell)(y:n[t]?=D H)(F:t<k)(aj:G.kindOf H=D .local\/G.kindOf H=D .cell):
  p7 B aY aE L bz G n k lv (.Tuple [.Name x bI,.Name H aF] bC bE) (.tup [q,o]) ((lv.set i (.t q)).set t (.t o)):=by
 rintro hB g s aK aT bx e S u R;refine cps λaH p=>?_;obtain⟨aM,aN,aP,c,b,rfl⟩:=u.inv;apply p;cases b with
 |cons d b=>cases b with
  |cons O b=>cases b with
   |nil=>
    rename_i z l;have r:=S.ready;refine wpAny_assign_Tuple A (yN r.bJ c) C C λX Q=>?_;have f:cg B g s g {s with heap:=X}:=cg.keeps r λP E h=>Q P E (fH (fk h)) h;obtain⟨w,a_,bf,S⟩:=S.step f;refine aG (gH (vM (gh (av:=.t q) w e S m j v ⟨C,z,C,d⟩ .nil λbh bl ak ah=>?_)));exact aG (gH (vM (gh (av:=.t o) w e ah y F aj ⟨C,l,C,O⟩ .nil λau ao aC a=>(bM (R au ((f.same.trans ak).trans aC) ⟨w,ao,_,a⟩)))))
noncomputable def HB.add(hB:HB)(z:I aq)(h:cf):HB:=⟨λb=>if b∈z then h.get? b else hB.b b,z++hB.it,hB.f0,hB.lk⟩
structure e9(B:bD O)(hB:HB)(fz:Fz)(V:c3)(xs:I af)(cK:J->I aq)(b:aq):Prop where
 hb:hB.b b=aa
 fz:fz b=aa
 loc:b≠V.locals
 cell:∀(j:J)(x:af),xs[j]?=D x->V.kindOf x≠D .local->V.cells.lookup x≠D b
 fp:∀j,j<xs.length->b∉cK j
 tab:b∉B.tabs
 h0:B.h₀.get? b=aa
theorem aW.b0(S:aW B F hB g G n k lv m r h)(e:hB.b b=aa):B.h₀.get? b=aa:=iY λo q=>aV e (S.f_ b o q)
theorem aW.free(S:aW B F hB g G n k lv m r h)(f:h.get? b=aa):e9 B hB g G n r b:=
 uh (S.fresh f) λa z c d e L=>⟨a,z,c,d,e,L,S.b0 a⟩
theorem aW.uu(S:aW B F hB g G n k lv m r h)(A:i<U n):∀b∈r i,g b=aa/\B.h₀.get? b=aa/\b∉B.tabs:=
 λb f=>(dI ((S.fp i A b f).2.1) (S.b0 (S.fp i A b f).1) (λq=>(S.tab b q).2.2.2.2 i A f))
theorem j7{R:Type}{l:I R}{x:R}(h:l[i]?=D x):i<U l:=(cG.mp h).1
theorem sy(f:b∈z):(hB.add z h).b b=h.get? b:=aL ‹_›
theorem lT(f:b∉z):(hB.add z h).b b=hB.b b:=aJ ‹_›
theorem aW.enter(S:aW B F hB g G n k lv m r h)(y:∀b∈z,e9 B hB g G n r b)(a:∀b∈z,(h.get? b).isSome=Y):
  aW B F (hB.add z h) g G n k lv m r h:=by
 refine{S with kept:=λb o e=>?_,nL:=⟨?_,S.nL.2⟩,f_:=λb o e=>ae (lT ((λe q=>aV ((y _ q).h0) e) e)) (S.f_ b o e),own:=λi x c A j H l=>?_,jz:=λi x c A j l H=>?_,fp:=λi A b f=>?_,tab:=λP s=>?_,dJ:=λb f=>?_,new:=λb o e=>by rw [lT λq=>aV ((y b q).fz) e];exact S.new b o e}
 .by_cases f:b∈z
  .exact(sy f).symm.trans e
  .rw [lT f]at e;exact S.kept b o e
 .exact ae (lT λq=>(y _ q).loc C) S.nL.1
 .exact ae (lT λq=>(y c q).cell i x j H l) (S.own i x c A j H l)
 .exact(lT λq=>(y c q).cell i x j H l).symm▸(S.jz i x c A j l H)
 .exact(lT λq=>(y b q).fp i A f).symm▸(S.fp i A b f)
 .exact(lT λq=>(y P q).tab s).symm▸(S.tab P s)
 .by_cases q:b∈z
  .exact(sy q).symm▸((lg (a b q) ((y b q).fz) ((y b q).cell) ((y b q).h0)))
  .rw [lT q];rcases fE.mp f with w|w
   .exact bA w q
   .exact S.dJ b w
theorem aW.turn(S:aW B F (hB.add z v) g G t k lv u p h)(s:∀b,b∉z->∀o,h.get? b=D o->h'.get? b=D o)(d:∀b∈z,(h'.get? b).isSome=Y):
  aW B F (hB.add z h') g G t k lv u p h':=by
 have A:∀b∈z,b∈(hB.add z v).it:=λb f=>gj _ f;have X:∀{b},(hB.add z v).b b=aa->b∉z:=λe q=>by have:=(S.dJ _ (A _ q)).1;rw [e]at this;exact cY C this
 have y:∀{b o},g b=D o->b∉z:=λe q=>aV ((S.dJ _ (A _ q)).2.1) e;have R:∀{b o},B.h₀.get? b=D o->b∉z:=λe q=>aV ((S.dJ _ (A _ q)).2.2.2) e;have nc:∀{c i x},t[i]?=D x->G.kindOf x≠D .local->G.cells.lookup x=D c->c∉z:=λj H l q=>(S.dJ _ (A _ q)).2.2.1 _ _ j H l;have a:∀{b},b∉z->(hB.add z h').b b=(hB.add z v).b b:=λq=>by apply ae (lT q);rw [lT q]
 have m:bF B.h₀ h':=λb o e=>s b (R e) o (S.base b o e);refine{S with base:=m,kept:=λb o e=>?_,bJ:=λb o e=>s b (y e) o (S.bJ b o e),ns:=?_,nL:=⟨?_,S.nL.2⟩,f_:=λb o e=>ae (a (R e)) (S.f_ b o e),vars:=λi x E j r=>?_,own:=λi x c A j H l=>?_,jz:=λi x c A j l H=>?_,fp:=λi A b f=>?_,inv:=bD.iy S.inv λP n o e=>s P (X (S.tab P n).1) o e,lock:=λT O x j=>(S.lock T O x j).keep λc w l o e=>s c (nc j w l) o e,tab:=λP n=>?_,dJ:=λb f=>?_,new:=λb o e=>(a (y e)).symm▸(S.new b o e)}
 .by_cases f:b∈z
  .exact(sy f).symm.trans e
  .exact s b f o (S.kept b o ((a f)▸e))
 .exact jC S.ns λo Q ah aj ak=>(l7 o Q ah (s _ (X S.nL.1) o aj) ak)
 .exact ae (a (X S.nL.1)) S.nL.1
 .obtain⟨ao,au,L⟩:=S.vars i x E j r;exact⟨ao,au.keep λc w l o e=>s c (nc j w l) o e,L.mono (Le.refl _) m λb f o e=>s b (X (S.fp i (cG.mp j).1 b f).1) o e⟩
 .exact ae (a (nc j H l)) (S.own i x c A j H l)
 .exact(a (nc j H l)).symm▸(S.jz i x c A j l H)
 .have:=S.fp i A b f;exact(a (X this.1)).symm▸this
 .have:=S.tab P n;exact(a (X this.1)).symm▸this
 .have:=S.dJ b f;refine⟨?_,this.2⟩
  by_cases q:b∈z
  .exact ae (aA _ (sy q)) (d b q)
  .exact ae (aA _ (a q)) this.1
theorem aW.leave{v:cf}{z:I aq}(S:aW B F (hB.add z v) g G t k lv m r d)(h:∀b,b∉z->∀o,d.get? b=D o->h'.get? b=D o)(L:∀b∈z,hB.b b=aa)(Q:∀b∈hB.it,(hB.b b).isSome=Y):
  aW B F hB g G t k lv m r h':=by
 have A:∀b∈z,b∈(hB.add z v).it:=λb f=>gj _ f;have X:∀{b},(hB.add z v).b b=aa->b∉z:=λe q=>by have:=(S.dJ _ (A _ q)).1;rw [e]at this;exact cY C (this)
 have y:∀{b o},g b=D o->b∉z:=λe q=>aV ((S.dJ _ (A _ q)).2.1) e;have R:∀{b o},B.h₀.get? b=D o->b∉z:=λe q=>aV ((S.dJ _ (A _ q)).2.2.2) e;have nc:∀{c i x},t[i]?=D x->G.kindOf x≠D .local->G.cells.lookup x=D c->c∉z:=λj H l q=>(S.dJ _ (A _ q)).2.2.1 _ _ j H l;have a:∀{b},b∉z->(hB.add z v).b b=hB.b b:=(lT);have n:bF B.h₀ h':=λb o e=>h b (R e) o (S.base b o e);refine{S with base:=n,kept:=λb o e=>?_,bJ:=λb o e=>h b (y e) o (S.bJ b o e),ns:=?_,nL:=⟨?_,S.nL.2⟩,f_:=λb o e=>(a (R e)).symm.trans (S.f_ b o e),vars:=λi x E j p=>?_,own:=λi x c A j H l=>?_,jz:=λi x c A j l H=>?_,fp:=λi A b f=>?_,inv:=bD.iy S.inv λP s o e=>h P (X (S.tab P s).1) o e,lock:=λT O x j=>(S.lock T O x j).keep λc w l o e=>h c (nc j w l) o e,tab:=λP s=>?_,dJ:=λb f=>?_,new:=λb o e=>(a (y e))▸(S.new b o e)}
 .have u:b∉z:=λq=>aV (L b q) e;exact h b u o (S.kept b o (ae (a u) e))
 .exact jC S.ns λo aj ak ao au=>(l7 o aj ak (h _ (X S.nL.1) o ao) au)
 .exact(a (X S.nL.1)).symm.trans S.nL.1
 .obtain⟨aC,aE,ah⟩:=S.vars i x E j p;exact⟨aC,aE.keep λc w l o e=>h c (nc j w l) o e,ah.mono (Le.refl _) n λb f o e=>h b (X (S.fp i (cG.mp j).1 b f).1) o e⟩
 .exact(a (nc j H l)).symm.trans (S.own i x c A j H l)
 .exact(a (nc j H l))▸(S.jz i x c A j l H)
 .have:=S.fp i A b f;exact(a (X this.1))▸this
 .have:=S.tab P s;exact(a (X this.1))▸this
 .exact⟨Q b f,(S.dJ b (i6 _ f)).2⟩
theorem aW.Mx(S:aW B F hB g G n k lv m r h):∀b∈hB.it,(hB.b b).isSome=Y:=λb f=>(S.dJ b f).1
theorem aW.alive(S:aW B F (hB.add z v) g G n k lv m r h):∀b∈z,(h.get? b).isSome=Y:=λb f=>bH (gG.mp (S.dJ b (gj _ f)).1) λo T=>cV (S.kept b o T)
end
set_option genCtorIdx true in
inductive fP where
 |next|brk|cont|ret(t:T)
def FD(F:Mk)(g:Fz):Flow->fP->Prop
 |.next,.next=>True
 |.brk,.brk=>True
 |.cont,.cont=>True
 |.ret v,.ret A=>Den F g v A
 |_,_=>False
theorem FD.bk(d:FD F g L .brk):L=.brk:=by cases L<;>first|rfl|exact d.elim
theorem FD.cn(d:FD F g L .cont):L=.cont:=by cases L<;>first|rfl|exact d.elim
theorem FD.rt(d:FD F g L (.ret A)):∃v,L=.ret v/\Den F g v A:=by cases L<;>first|exact⟨_,C,d⟩|exact d.elim
theorem FD.nx(d:FD F g L .next):L=.next:=by cases L<;>first|rfl|exact d.elim
theorem FD.ne(d:FD F g L A)(h:A≠.next):L≠.next:=λq=>by subst q;cases A<;>first|exact h C|exact d.elim
theorem FD.map{g j:Fz}{L:Flow}{A:fP}(d:FD F g L A)(a:∀{v h},Den F g v h->Den e j v h):FD e j L A:=by cases L<;>cases A<;>first|exact d|exact a d
def ik(X:bD q)(m:cy)(w:bX)(h:cZ)(F:Mk)(G:c3)(n:I af)(k:J)(y:I (AV q))(O:cz)(x:I (AV q))(A:fP):Prop:=
 ∀(T:HB)(g:Fz)(s:aU)(Q:Flow->aU->Prop)(H:aB->aU->Prop),T.lk=[]->SR X F T g G n k y s.heap->
  (∀t j L,bP s t->Le g j->SR X F T j G n k x t.heap->FD F j L A->Q L t)->aQ (aI m w) h (exec O G) Q H s
def eX(X:bD q)(m:cy)(w:bX)(h:cZ)(F:Mk)(G:c3)(n:I af)(k:J)(y:I (AV q))(O:I cz)(x:I (AV q))(A:fP):Prop:=
 ∀(T:HB)(g:Fz)(s:aU)(Q:Flow->aU->Prop)(H:aB->aU->Prop),T.lk=[]->SR X F T g G n k y s.heap->
  (∀t j L,bP s t->Le g j->SR X F T j G n k x t.heap->FD F j L A->Q L t)->aQ (aI m w) h (execs O G) Q H s
def qN(u:bw)(X:bD q)(m:cy)(w:bX)(L:cZ)(F:Mk)(G:c3)(n:I af)(k:J)(l:I (AV q))(o:cE)(x:I (AV q))(p:I T):Prop:=
 ∀(h:HB)(g:Fz)(s:aU)(Q:aB->aU->Prop)(H:aB->aU->Prop),SR X F h g G n k l s.heap->
  (∀t j a R z P y f r,bP s t->Le g j->gm G->aW X F h j G n k x f r t.heap->Walks m w L a R z p.length P y->(∀i v,P i v->∃A,p[i]?=D A/\Den F j v A)->
   y 0 t.heap->(∀b∈z,e9 X h j G n r b/\(t.heap.get? b).isSome=Y)->(∀b∈R,b∈z\/(j b).isSome=Y\/(X.h₀.get? b).isSome=Y)->(∀b∈R,b<t.heap.objs.size)->(∀i e,y i e->∀b∈z,(e.get? b).isSome=Y)->
   (u=Y->∀i(s:aU)(d:I cE)(E:J)(B:ig)(v:aB)(Q:Unit->aU->Prop)(H:aB->aU->Prop),y i s.heap->Q () s->aQ (aI m w) L (letOwnedTupleGo (.Tuple d E B) (.ref a) v) Q H s)->Q (.ref a) t)->
  aQ (aI m w) L (eval o G) (λS c=>aQ (aI m w) L (pyIter S) Q H c) H s
section
variable{B:bD O}{Z:cy}{w:bX}{A:cZ}{ρ:Mk}{ts:I T}
theorem i_:eX B Z w A ρ G n k y [] y .next:=λT g s Q H e S R=>rW (R s g .next (bP.refl s) (Le.refl _) S dj)
theorem WK(a:ik B Z w A ρ G n k y u P .next)(v:eX B Z w A ρ G n k P z X h):eX B Z w A ρ G n k y (u::z) X h:=by
 intro T g s Q H e S R;refine gN (a T g s _ _ e S λc i L q o E d=>?_);cases d.nx;exact v T i c Q H e E λF r L x b f d=>R F r L (q.trans x) (o.trans b) f d
theorem ur(a:ik B Z w A ρ G n k e u P h)(g:h≠.next):eX B Z w A ρ G n k e (u::z) P h:=by
 intro T i s Q H b S R;refine gN (a T i s _ _ b S λc x L q o E d=>?_);have y:=R c x L q o E d;cases L<;>first|exact bA C (d.ne g)|exact y
theorem gS(s:aU):s.heap.get? s.heap.objs.size=aa:=iY λE q=>bA (fk q) (i7 _)
theorem VI(g:A.handled=aa)(h:cP B Z w A ρ G ah o y e au (.list ts)):qN Y B Z w A ρ G ah o y e au ts:=by
 intro aE p s t ao q R;refine h aE p s _ _ q λc P v aj m E ak=>jl ak.inv λa z aN S b u=>?_;subst u;have r:=E.ready;have Q:=gy r.bJ S;apply Jf Q;have f:=cg.iH r {cls:=.type "list_iterator",data:=.fields #[.ref a,.int 0 0]} c.toks;obtain⟨X,L,F,l⟩:=E;have x:=fk (r.bJ _ _ S);have H:=SU (prog:=Z) (w:=w) g c.heap.objs.size a (fH x) z.toArray;simp only [show z.toArray.size=U ts from b.length]at H;have i:(c.heap.push {cls:=.type "list_iterator",data:=.fields #[.ref a,.int 0 0]}).objs.size=c.heap.objs.size+1:=lM _ _;refine R _ P _ _ _ _ _ L F (aj.trans f.same) m X (l.step f) H (λn v d=>?_) ⟨⟨_,eS _ C,C,C⟩,Q.at λaM e=>eG _ e⟩ (bO ⟨l.free (gS c),cV (eS _ C)⟩ eJ) (bO (.inl (.head _)) (bO (.inr (.inl (cV S))) eJ)) (bO (i.symm▸fG _) (bO (i.symm▸jZ x) eJ)) (λn h O=>bO (match O with|⟨⟨_,aF,_⟩,_⟩=>cV aF) eJ) ?_
 .have d:=by simpa using d
  have j:=b.length▸(cG.mp d).1;exact ai (b.get (dB j)) λaK aC aH=>bj (ae aC.symm d)▸⟨_,dB j,aH⟩
 .intro _ n s aP aT aY v t ao O k;cases v with
  |ref T=>exact aha O.1 k
  |_=>exact bM k
theorem EU{eI:aq}{s c:aU}{Q:aB->aU->Prop}{y:J->cf->Prop}{n:fT}
  (X:bP s c)(k:Le g a)(E:SR B ρ hB a G x p u c.heap)(T:o.isFreed=ay)
  (H:Walks Z w A c.heap.objs.size [c.heap.objs.size] [c.heap.objs.size] (U ts) P y)(d:∀i v,P i v->∃e,ts[i]?=D e/\Den ρ a v e)(aj:y 0 (c.heap.push o))(ao:∀i h,y i h->(h.get? c.heap.objs.size).isSome=Y)
  (q:∀t j eI R z P y m r,bP s t->Le g j->gm G->aW B ρ hB j G x p u m r t.heap->Walks Z w A eI R z (U ts) P y->(∀i v,P i v->∃e,ts[i]?=D e/\Den ρ j v e)->
   y 0 t.heap->(∀b∈z,e9 B hB j G x r b/\(t.heap.get? b).isSome=Y)->(∀b∈R,b∈z\/(j b).isSome=Y\/(B.h₀.get? b).isSome=Y)->(∀b∈R,b<t.heap.objs.size)->(∀i h,y i h->∀b∈z,(h.get? b).isSome=Y)->
   (ay=Y->∀i(s:aU)(S:I cE)(F:J)(L:ig)(v:aB)(Q:Unit->aU->Prop)(ah:aB->aU->Prop),y i s.heap->Q () s->aQ (aI Z w) A (letOwnedTupleGo (.Tuple S F L) (.ref eI) v) Q ah s)->Q (.ref eI) t):
  Q (.ref c.heap.objs.size) {c with heap:=c.heap.push o,toks:=n}:=by
 have f:=cg.iH (E.ready) o n;obtain⟨ak,m,r,l⟩:=E;exact q _ a _ _ _ _ _ m r (X.trans f.same) k ak (l.step f) H d aj (bO ⟨l.free (gS c),cV (eS _ T)⟩ eJ) (λb au=>.inl au) (bO ((lM c.heap o).symm▸fG _) eJ) (λi h O=>bO (ao i h O) eJ) nofun
set_option tactic.hygienic true in
theorem VK(k:A.handled=aa)(e:cP B Z w A ρ G t p S j P (.str l)):qN ay B Z w A ρ G t p S j P (l.map λc=>.str [c]):=by
 intro f g m aj ah L R;refine e f g m _ _ L λb Q v q o E d=>?_;obtain⟨h,rfl⟩:=d.inv;have s:∀i v,SignAt ⟨l.toArray⟩ i v->∃h,(l.map λc=>T.str [c])[i]?=D h/\Den ρ Q v h:=λi v r=>by
  refine d5 r λc y a z=>?_;subst z;have a:=by simpa using a
  exact aR _ (by simp [a]) (.str [c] y)
 have X:(⟨l.toArray⟩:af).cps.size=U (l.map λc=>T.str [c]):=by simp
 cases u:(⟨l.toArray⟩:af).cps.all _
 .apply wpAny_pyIter_wide u;have H:=Walks.strWide (prog:=Z) (w:=w) k b.heap.objs.size ⟨l.toArray⟩ h;rw [X]at H;exact EU (eI:=0) q o E C H s (i12 _ (eS _ C) C C) (λi e O=>ai O λF x n=>cV x) R
 .apply wpAny_pyIter_ascii u;have H:=Walks.strAscii (prog:=Z) (w:=w) k b.heap.objs.size ⟨l.toArray⟩ h;rw [X]at H;exact EU (eI:=0) q o E C H s (i12 _ (eS _ C) C C) (λi e O=>ai O λF x n=>cV x) R
inductive Out:fP->fP->Prop
 |brk:Out .brk .next
 |ret{r:T}:Out (.ret r) (.ret r)
theorem Out.fin{G P:Flow->Prop}(o:Out fl R)(d:FD ρ g L fl)(w:P .next->G .brk)(e:∀v,P (.ret v)->G (.ret v))(h:∀u,FD ρ g u R->P u):G L:=by
 cases o with
 |brk=>exact d.bk▸w (h _ dj)
 |ret=>refine ai d.rt λv j d=>?_;subst j;exact e v (h _ d)
theorem FD.go{G:Flow->Prop}(d:FD ρ g L fl)(o:fl=.next\/fl=.cont)(w:G .next)(v:G .cont):G L:=by
 rcases o with rfl|rfl
 .exact d.nx▸w
 .exact d.cn▸v
inductive D7(B:bD O)(Z:cy)(w:bX)(A:cZ)(ρ:Mk)(V:c3)(xs:I af)(k:J)(iC:cE)(body:I cz)(t:T)(lv lv':I (AV O))(Bs:fP)(X:I (AV O)->Prop):Prop
 |go{aX dc:I (AV O)}{fl:fP}(ha:p7 B Z w A ρ V xs k lv iC t aX)(hb:eX B Z w A ρ V xs k aX body dc fl)(hf:fl=.next\/fl=.cont)(h:X dc)
 |out{aX:I (AV O)}{fl:fP}(ha:p7 B Z w A ρ V xs k lv iC t aX)(hb:eX B Z w A ρ V xs k aX body lv' fl)(o:Out fl Bs)
def oM(B:bD O)(Z:cy)(w:bX)(A:cZ)(ρ:Mk)(G:c3)(n:I af)(k:J)(e:cE)(t:I cz):I T->I (AV O)->I (AV O)->fP->Prop
 |[],y,x,h=>y=x/\h=.next
 |a::ts,y,x,h=>D7 B Z w A ρ G n k e t a y x h λl=>oM B Z w A ρ G n k e t ts l x h
theorem oM.nil:oM B Z w A ρ G n k h t [] y y .next:=⟨C,C⟩
theorem oM.go(u:p7 B Z w A ρ G n k y iC e aX)(f:eX B Z w A ρ G n k aX body X h)(g:h=.next\/h=.cont)(a:oM B Z w A ρ G n k iC body ts X m7 R):oM B Z w A ρ G n k iC body (e::ts) y m7 R:=D7.go u f g a
theorem oM.ret(u:p7 B Z w A ρ G n k y h e P)(f:eX B Z w A ρ G n k P t X (.ret r)):oM B Z w A ρ G n k h t (e::ts) y X (.ret r):=D7.out u f .ret
inductive Tg(B:bD O)(Z:cy)(w:bX)(A:cZ)(ρ:Mk)(V:c3)(xs:I af)(k:J)(iC:cE)(body:I cz)(hB:HB)(wr:I aq)(St:J->cf->Prop)(ts:I T)(dc:I (AV O))(fl:fP)(s₁:aU)(eT:Fz)(n:J)(s₂:aU):Prop
 |mk(i:J)(lv':I (AV O))(qZ:Fz)(m₂:af->bg aB)(E8:J->I aq)(hn:n+i=ts.length+1)(zo:bP s₁ s₂)(l₂:Le eT qZ)(AP:aW B ρ (hB.add wr s₂.heap) qZ V xs k lv' m₂ E8 s₂.heap)(adk:St i s₂.heap)(hi:i<=ts.length)
  (F:oM B Z w A ρ V xs k iC body (ts.drop i) lv' dc fl)
theorem Wi(e6:qN dU B Z w A ρ G n k eM bW bx ts)(gU:oM B Z w A ρ G n k h t ts bx bI cB)(ee:∀s,foldedSetIterable bW G s=pure s)
  (ic:(∃s p,h=.Name s p)\/dU=Y/\∃aM aP p,h=.Tuple aM aP p):ik B Z w A ρ G n k eM (.For h bW t [] p) bI cB:=by
 intro T fj fZ rM pP bQ ko cu;refine wpAny_For (e6 T fj fZ _ _ ko λbh aE er rN z pQ a_ fy fB bf bz aK bE aF kR gc aN lJ rL kT dN=>?_) ee;have bR:=λb f=>(aN b f).1.hb;have ck:=bE.Mx;refine codeAny_forLoop_any (Tg B Z w A ρ G n k h t T z a_ ts bI cB bh aE) ?_ _ ⟨0,bx,aE,fy,fB,C,bP.refl _,Le.refl _,bE.enter (λb f=>(aN b f).1) (λb f=>(aN b f).2),gc,gF _,gU⟩;rintro eB F⟨x,eR,R,cJ,cF,cM,aT,i,bl,bC,eN,j⟩
 by_cases c:x<U ts
 .refine aF.item x F _ _ c bC λv O ak jq ao au=>ai (kR x v jq) λmC c9 dG=>?_;have j:=by
   rw [xS c,bj ((dB c).symm.trans c9)]at j;exact j
  have aC:=bl.turn (λb f o e=>au b o f e) (kT _ _ ao);have aY:∀(y:Flow->aU->Prop)(a:aB->aU->Prop)(ah:I _)(aH:fP)(aj:I _),p7 B Z w A ρ G n k eR h mC aj->eX B Z w A ρ G n k aj t ah aH->
    (∀d m S Q L,bP bh d->Le aE m->aW B ρ (T.add z d.heap) m G n k ah S Q d.heap->a_ (x+1) d.heap->FD ρ m L aH->y L d)->
    aQ (aI Z w) A (letOwnedTupleGo h (.ref er) v) (λE gi=>aQ (aI Z w) A (assign h G v) (λE F=>aQ (aI Z w) A (execs t G) y a F) a gi) a {F with heap:=O,toks:=ak}:=by
   intro y a ah aH aj u f gV;have bZ:aQ (aI Z w) A (assign h G v) (λE F=>aQ (aI Z w) A (execs t G) y a F) a {F with heap:=O,toks:=ak}:=by
    refine u (T.add z O) R _ v _ _ bQ ⟨aK,cJ,cF,aC⟩ (dG.mono i) λjf ew jr=>f (T.add z O) R jf _ _ bQ jr λd m L l H P q=>?_;obtain⟨_,S,Q,P⟩:=P;refine gV d m S Q L (((aT.trans (cH _ _ C)).trans ew).trans l) (i.trans H) (P.turn (λE E E e=>e) P.alive) (aF.frame _ O _ ao λb f o cC=>?_) q;have b_:∀{X},O.get? b=D X->d.heap.get? b=D X->d.heap.get? b=D o:=λe jt=>ae jt (ae e.symm cC);rcases lJ b f with g|g|g
    .exact P.kept b o (ae (sy g) cC)
    .exact bH (gG.mp g) λX r=>b_ (aC.bJ b X (i b X r)) (P.bJ b X (H _ _ (i _ _ r)))
    .exact bH (gG.mp g) λX r=>b_ (aC.base b X r) (P.base b X r)
   rcases ic with⟨s,p,rfl⟩|⟨rfl,aM,aP,p,rfl⟩
   .exact bM bZ
   .exact dN C _ _ aM aP p v _ _ ao bZ
  cases j with
  |go u f lK kS=>
   refine aY _ _ _ _ _ u f λd m S Q L l H P cU q=>?_;apply q.go lK<;>exact⟨eB-1,(wM cM c).1,x+1,_,m,S,Q,(wM cM c).2,l,H,P,cU,c,kS⟩
  |out u f o=>
   refine aY _ _ _ _ _ u f λd m S Q L l H P cU q=>?_;apply o.fin q ?_ ?_ (λmz=>cu d m mz (bf.trans l) (bz.trans H) ⟨aK,S,Q,P.leave (λE E E e=>e) bR ck⟩)
   .exact id
   .exactλE=>id
 .have:=fS eN (iP c);subst this;refine aF.done F _ _ bC λO ak au=>bT ((af2▸j)) λnF cX=>?_;subst nF cX;exact rW (cu _ R .next ((bf.trans aT).trans (cH _ _ C)) (bz.trans i) ⟨aK,cJ,cF,bl.leave (λb f o e=>au b o f e) bR ck⟩ dj)
end
structure oR(scope:jg)(xs:I af):Prop where
 kind:scope.kind=.function
 co:scope.isCoroutine=ay
 gen:scope.isGenerator=ay
 names:∀x∈xs,scope.names.lookup x=D .local\/scope.names.lookup x=D .cell
 nodup:xs.Nodup
theorem ud(l:I _):∀(u:J)(o:I _),l.lookup x=D .cell\/(o.lookup x).isSome=Y->((cellsFrom u l o).lookup x).isSome=Y:=by
 induction l with
 |nil=>exactλu o h=>h.elim ((aV C)) id
 |cons p l n=>
  obtain⟨H,c⟩:=p;intro u o h;rw [tK]at h;unfold cellsFrom;cases e:x==H with
  |true=>
   rw [e]at h
   split
   .exact n _ _ (.inr (by simp only [tK,e];rfl))
   .rename_i a;refine n _ _ (.inr ?_);rcases h with h|h
    .obtain rfl:=bj h;exact bA C a
    .exact h
  |false=>
   rw [e]at h
   split
   .refine n _ _ (h.imp id λh=>?_);simp only [tK,e];exact h
   .exact n _ _ h
theorem qt{R:Type}:∀{l:I R},l.Nodup->∀{i t:J}{x:R},l[i]?=D x->l[t]?=D x->i=t:=@λT=>T.rec
 (@λE i t x A E=>by simp at A)
 (@λH l n h i t x A O=>by
  have z:=gM.mp h;cases i with
  |zero=>cases t with
   |zero=>rfl
   |succ t=>simp at A O;subst A;exact bA (cN O) z.1
  |succ i=>cases t with
   |zero=>simp at A O;subst O;exact bA (cN A) z.1
   |succ t=>exact aA _ (n z.2 A O))
theorem qs{R:Type}{l:I R}(u:l.Nodup)(i t:J){a b:R}(h:l[i]?=D a)(O:l[t]?=D b)(q:tL i t=ay):a≠b:=λe=>agA q (qt u h (e▸O))
theorem xw{R z:Type}:∀(n:I R)(S:I z),(n.zip S).map (·.1)=n.take (U S)
 |[],_=>by simp
 |_::_,[]=>C
 |x::n,H::S=>by simp [xw n S]
theorem Ui(a:af->bg fc)(x:af):∀(r:I _)(m:af->bg aB),x∉r.map (·.1)->bindL a r m x=m x:=λT=>T.rec
 (λm E=>C)
 (λ(F,P)r n m g=>by
  have w:x≠F:=λe=>g (by simp [e]);apply ae (n _ (λq=>g (fF _ q)))
  split<;>simp [w])
theorem Uh(a:af->bg fc)(x:af):∀(r:I _)(m:af->bg aB),x∉r.map (·.1)->bindC a r m x=m x:=λT=>T.rec
 (λm E=>C)
 (λ(F,P)r n m g=>by
  have w:x≠F:=λe=>g (by simp [e]);apply ae (n _ (λq=>g (fF _ q)))
  split<;>simp [w])
noncomputable def e0(n:I af)(z:I aB):I (af×aB):=n.zip z
noncomputable def rf(n:I af)(p:I T):I (AV q):=p.map .t++nH (n.length-p.length) .un
theorem J2(a:af->bg fc)(l:I _):∀(m:af->bg aB)(x:af)(v:aB),(l.map (·.1)).Nodup->(x,v)∈l->a x=D .local->bindL a l m x=D v:=by
 induction l with
 |nil=>exactλm x v E h=>bA (h) dQ
 |cons p r n=>
  obtain⟨H,y⟩:=p;intro m x v z R B;have X:=gM.mp z;rcases cD.mp R with e|R
  .refine bT (mK e) λi j=>?_;subst i j;exact(Ui a _ _ _ X.1).trans (ae (congrFun (aL B) x) (aL C))
  .exact n _ x v X.2 R B
theorem J1(a:af->bg fc)(l:I _):∀(m:af->bg aB)(x:af)(v:aB),(l.map (·.1)).Nodup->(x,v)∈l->a x=D .cell->bindC a l m x=D v:=by
 induction l with
 |nil=>exactλm x v E h=>bA (h) dQ
 |cons p r n=>
  obtain⟨H,y⟩:=p;intro m x v z R B;have X:=gM.mp z;rcases cD.mp R with e|R
  .refine bT (mK e) λi j=>?_;subst i j;exact(Uh a _ _ _ X.1).trans (ae (congrFun (aJ λq=>nc nK (bj (B.symm.trans q)) C) x) (aL C))
  .exact n _ x v X.2 R B
theorem bu.LC(d:bu F g z p):∀{i:J}{v:aB},z[i]?=D v->∃A,p[i]?=D A/\Den F g v A:=
 d.ind (P:=λz p=>∀{i:J}{v:aB},z[i]?=D v->∃A,p[i]?=D A/\Den F g v A) ((aV C)) λ{_ _ A _}a E n{i _}h=>match i,h with
  |0,h=>(aR A C (bj h▸a))
  |_+1,h=>n h
theorem CR{s s₁:aU}(Q:oR fd.scope xs)(L:fd.globals=j0)(f:fd.builtins=builtinsNs)(r:Ready B fz s)(z:bu ρ fz vs tG)(aC:U tG<=U xs)
  (G:InCallC s (di fd s.heap.objs.size a).locals (bindL (di fd s.heap.objs.size a).kindOf (e0 xs vs) λE=>aa) (di fd s.heap.objs.size a).cells (bindC (di fd s.heap.objs.size a).kindOf (e0 xs vs) λE=>aa) s₁):
  SR B ρ ⟨λb=>if b∈B.tabs then aa else s.heap.get? b,[],fz,[]⟩ fz (di fd s.heap.objs.size a) xs (U xs) (rf xs tG) s₁.heap:=by
 have X:=G.toInCall.keep;have m:=λaH c l=>G.above aH c (mem_of_lookup l);have u:∀c,s.heap.objs.size<=c->s.heap.get? c=aa:=λc l=>by
  cases q:s.heap.get? c with
  |none=>rfl
  |some o=>exact bA (fk q) (ie.mpr l)
 have p:∀c,s.heap.objs.size<=c->fz c=aa:=λc l=>by
  cases q:fz c with
  |none=>rfl
  |some o=>have:=r.bJ c o q;exact aV (u c l) this
 have F:=λP k=>bH (gG.mp (B.live r.inv P k)) λo aE=>fk aE;have w:((e0 xs vs).map (·.1)).Nodup:=by
  have:(e0 xs vs).map (·.1)=xs.take (U vs):=by
   delta e0;rw [xw]
  simp only [this];exact Q.nodup.sublist (agq _ _)
 refine⟨⟨Q.kind,L,f⟩,(bindL (di fd s.heap.objs.size a).kindOf _ λE=>aa),λE=>[],({
  len:=by delta rf;simp;exact fS (cS 0 (.a (.v 0) (.v 2)) (.v 1) (.a (.v 2) (.v 0)) (.v 1) C [_,_,_] ((lz aC))) (cS 0 (.v 1) (.a (.v 0) (.v 2)) (.v 1) (.a (.v 2) (.v 0)) C [_,_,_] m9)
  base:=λb o e=>X b o (r.base b o e)
  kept:=λb o e=>?_
  bJ:=λb o e=>X b o (r.bJ b o e)
  ns:=G.toInCall.ns
  nL:=⟨?_,p _ (dm _)⟩
  f_:=λb o e=>?_
  vars:=λi x aN j d=>?_
  own:=λi x c A j H l=>?_
  jz:=λi x c A j E E=>bA (cG.mp j).1 (ie.mpr A)
  cell:=λi x c j H l=>⟨vH (m x c l),p c (e7 (m x c l))⟩
  qR:=λi x A j=>bA (cG.mp j).1 (ie.mpr A)
  inj:=λi t x aT c j T E E O ah=>?_
  nodup:=λi t x A aj=>qt Q.nodup A aj
  fp:=λi E b f=>bA (f) dQ
  inv:=bD.iy r.inv λP E o e=>X P o e
  tab:=λP k=>(lj (aL ‹_›) (r.nu P k) (fH (F P k)) (λt x j H l=>bA (m x P l) (ie.mpr (e7 (F P k)))) (λE E ak=>nomatch ak))
  apart:=λi t E E E b f=>nomatch f
  dJ:=λb f=>bA (f) dQ
  new:=λb o e=>.inl e
  lock:=λaP ao=>bA ao dQ})⟩
 .by_cases q:b∈B.tabs
  .simp [q]at e
  .simp [q]at e;exact X b o e
 .show(if s.heap.objs.size∈B.tabs then aa else s.heap.get? s.heap.objs.size)=aa
  split<;>first|rfl|exact(gS s)
 .have:b∉B.tabs:=λq=>aV (r.jb b q) e;simp [this,r.base b o e]
 .have h:=Q.names x (cN j);have S:∃n,eE (di fd s.heap.objs.size a) (bindL (di fd s.heap.objs.size a).kindOf (e0 xs vs) λE=>aa) s₁.heap x n/\∀v,(x,v)∈e0 xs vs->n=D v:=by
   rcases h with h|h
   .exact(aR _ (.inl ⟨h,C⟩) (λv R=>J2 _ _ _ x v w R h))
   .exact bH (gG.mp (ud fd.scope.names (s.heap.objs.size+1) [] (.inl h))) λc l=>(aR _ (.inr ⟨.inl h,c,l,G.cell x c l⟩) (λv R=>J1 _ _ _ x v w R h))
  refine ai S λn aF au=>⟨n,aF,?_⟩;unfold rf at d
  by_cases g:i<U tG
  .rw [nG (by simpa using g)]at d;have y:=dB g;simp only [jv,y,DG]at d;obtain rfl:=bj d;refine ai (z.get y) λv aM aK=>⟨C,v,au v ?_,aK⟩;have:(e0 xs vs)[i]?=D (x,v):=by
    delta e0
    rw [IU];exact⟨j,aM⟩
   exact cN this
  .rw [kU (by simpa using g)]at d;have:=by
    rw [R1]at d
    split at d
    .exact(bj d).symm
    .exact aV C d
   subst this
   rfl
 .show(if c∈B.tabs then aa else s.heap.get? c)=aa
  split<;>first|rfl|exact u c (e7 (m x c l))
 .have:=SW G.apart (mem_of_lookup O) (mem_of_lookup ah);subst this;exact qt Q.nodup j T
theorem J9(s:fe X bl aT)(T:∀{h},bF X.h₀ h->h.get? a=D o)(P:o.data=.func S)(aF:∀{h},bF X.h₀ h->h.CodeRec S.code S.qualname)
  (aK:S.body=.stmts t)(k:S.closure=[])(Q:oR S.scope n)(y:S.globals=j0)(f:S.builtins=builtinsNs)(j:p.length<=U n)
  (ak:∀z,U z=p.length->bindArgs S ⟨z,[]⟩=pure (e0 n z))
  (B:∀H L F,dW L u->∃x,eX X m w L F (di S H a) n (U n) (rf n p) t x (.ret r)):DR X m w (u+1) (.ref a) p r:=by
 intro L F g z aM v l O i E;refine I7 l.d (T O.base) P (s.nolimit O.base) (aF O.base) aK (ak z i.length) k ?_ ?_ Q.co Q.gen Q.kind
 .intro R ah;have aj:=by
   have:R.1∈(e0 n z).map (·.1):=fM ah
   delta e0 at this
   rw [xw]at this;exact Dv this
  rcases Q.names _ aj with h|h
  .exact .inl h
  .exact .inr ⟨h,ud S.scope.names _ [] (.inl h)⟩
 .intro c G;obtain⟨x,B⟩:=B v.heap.objs.size _ F l.deeper;refine B _ g c _ _ C (CR Q y f O i j G) λao au bf q aC A d=>?_;obtain⟨_,aN,aP,A⟩:=A;obtain⟨aE,rfl,d⟩:=d.rt;refine d5 (G.done) λaY a_ aH bh=>?_;refine E ao au aE ⟨(bP.trans (bP.of aH) q),λb f o e=>A.kept b o (by simp [f,e]),A.inv,aC,A.bJ,λb o e=>?_⟩ d;rcases A.new b o e with q|q
  .exact .inl q
  .right
   dsimp only at q
   split at q
   .rename_i f;exact aV ((A.tab b f).2.1) e
   .exact q
theorem A4:∀(F:I _)(u:J)(o:I _),cellsFrom u F o=cellsFrom u F []++o:=λT=>T.rec
 (λE E=>C)
 (λ(x,i)r n u o=>by
  unfold cellsFrom
  split
  .apply ae (n (u+1) _);simp only [n (u+1) [(x,u)]];simp
  .exact n u o)
theorem Ke:∀(F:I _)(u:J),(∀p∈F,p.1=H->p.2≠.cell)->(cellsFrom u F []).lookup H=aa
 |[],_,_=>C
 |(x,i)::r,u,h=>by
  unfold cellsFrom;have n:=λu=>Ke r u λp t=>h p (fF _ t)
  split
  .rename_i l;rw [A4,IV,n];have:x≠H:=λe=>h (x,i) gC e (dh l);have f:(H==x)=ay:=by simpa using iF this
   simp [tK,f]
  .exact n u
noncomputable def nS(a:I (af×aq)):I (af×fc)->I (af×aq)->I (af×aq)
 |[],o=>o
 |(u,i)::r,o=>if i==.free then nS a r ((u,(a.lookup u).getD 0)::o)else nS a r o
theorem Ey:nS a ((u,i)::r) o=if i==.free then nS a r ((u,(a.lookup u).getD 0)::o)else nS a r o:=C
theorem Ez(h:∀p∈v.names,p.2=.free->(G.cells.lookup p.1).isSome=Y):closureFor v G=pure (nS G.cells v.names []):=by
 delta closureFor
 suffices∀(F:I _)(o:I _),(∀p∈F,p.2=.free->(G.cells.lookup p.1).isSome=Y)->
   (forIn F o λx r=>if(x.2==.free)=Y then(do let c<-cellOf G x.1;pure (vy ((x.1,c)::r)):Sem _)else pure (vy r))=pure (nS G.cells F o)by
  have:=this v.names [] h
  first|exact this|simpa using this
 intro F
 induction F with
 |nil=>intro o _;rfl
 |cons p r n=>
  intro o h;obtain⟨u,i⟩:=p;simp only [RZ];simp only [Ey]
  by_cases B:(i==Dw)=Y
  .have:=h (u,i) gC (dh B);refine bH (gG.mp this) λc l=>?_;simp only [B,cellOf,l,bind_assoc];exact n _ λp t=>h p (fF _ t)
  .simp only [B,pure_bind];exact n _ λp t=>h p (fF _ t)
theorem UN(l:a.lookup H=D c):∀(F:I _)(o:I _),((H,Dw)∈F\/o.lookup H=D c)->(∀d,o.lookup H=D d->d=c)->(nS a F o).lookup H=D c:=λT=>T.rec
 (λo h E=>h.elim (λh=>bA (h) dQ) id)
 (λ(u,i)r n o h P=>by
  simp only [Ey]
  by_cases B:(i==Dw)=Y
  .rw [aL B]
   by_cases z:H=u
   .subst z;refine n _ (.inr ?_) λd q=>?_
    .simp [l]
    .simp [l]at q;exact q.symm
   .have f:(H==u)=ay:=by simpa using z
    refine n _ ?_ λd q=>?_
    .rcases h with h|h
     .rcases cD.mp h with e|h
      .exact bA (mK e).1 z
      .exact .inl h
     .right;apply ae (tK);exact(f)▸(h)
    .simp only [tK,f]at q;exact P d q
  .rw [aJ B];refine n o ?_ P;rcases h with h|h
   .rcases cD.mp h with e|h
    .have:=(mK e).2;subst this;exact bA C B
    .exact .inl h
   .exact .inr h)
def i9(scope:jg)(d:aq)(G:c3):c3:=
 {scope:=relabel scope G,locals:=d,globals:=G.globals,cells:=cellsFrom (d+1) scope.names (nS G.cells scope.names []),qual:=G.qual,func:=aa,code:=G.code,frame:=G.frame,builtins:=G.builtins}
theorem Nn(B:scope.kind=.function)
  (R:Q {scope,locals:=s.heap.objs.size,globals:=G.globals,cells:=cellsFrom (s.heap.objs.size+1) scope.names O,qual:=G.qual,func:=aa,code:=G.code,frame:=G.frame,builtins:=G.builtins}
   {s with heap:=pushCells (s.heap.push {cls:=.type "dict",data:=.dict #[]}) scope.names}):
  aQ M L (newFunctionEnv scope G.globals O [] G.qual aa .none (D G)) Q H s:=by
 exact aG (wpAny_alloc (aG (wpAny_layCells _ (λh e cells=>C) _ _ _ _ ((lM ..)▸(aG (bM (bM R)))))))
theorem Gs{R:Type}{L:af×R->af×R}(g:∀p,(L p).1=p.1){k:R}:∀{l:I _},l.lookup x=D k->(l.map L).lookup x=D (L (x,k)).2
 |(u,q)::r,h=>by
  rw [tK]at h;have e:L (u,q)=(u,(L (u,q)).2):=Su (g (u,q)) C;rw [iN,e,tK];cases f:x==u with
  |true=>
   rw [f]at h;have h:=bj h;subst h;have:=dh f;subst this
   rfl
  |false=>
   rw [f]at h;exact Gs g h
theorem O3(v:jg)(G:c3):(relabel v G).names=v.names.map λp=>(if(p.2==.free&&G.scope.kind==.function&&G.kindOf p.1==D .cell)then(p.1,.cell)else(p.1,p.2)):=C
theorem zu(B:i≠.free)(h:v.names.lookup x=D i):(relabel v G).names.lookup x=D i:=by
 rw [O3,Gs (λp=>by split<;>rfl) h];have:(i==Dw)=ay:=by simpa using B
 simp [this]
theorem O2(h:v.names.lookup x=D .free):(relabel v G).names.lookup x=D .free\/(relabel v G).names.lookup x=D .cell:=by
 rw [O3,Gs (λp=>by split<;>rfl) h]
 split
 .exact .inr C
 .exact .inl C
structure nP(scope:jg)(os cs:I af):Prop where
 kind:scope.kind=.function
 own:∀x∈os,scope.names.lookup x=D .local\/scope.names.lookup x=D .cell
 jz:∀y∈cs,scope.names.lookup y=D .free/\(∀p∈scope.names,p.1=y->p.2=.free)/\(y==("__classdict__":af))=ay
 free:∀p∈scope.names,p.2=.free->p.1∈cs
 nodup:(os++cs).Nodup
 names:∀x∈scope.names,x.2=.local->scope.names.lookup x.1=D .local
structure jh(V:c3)(xs:I af)(cs:I af)(ci:I J):Prop where
 len:ci.length=cs.length
 at_:∀(j i:J)(y:af),ci[j]?=D i->cs[j]?=D y->xs[i]?=D y
 nl:∀y∈cs,V.kindOf y≠D .local
noncomputable def nW(os:I af)(a:I J)(y:I (AV q)):I (AV q):=nH os.length .un++a.map λi=>(y[i]?).getD .un
noncomputable def uH(os:I af)(a:I J)(r:J->I aq):J->I aq:=λi=>if i<os.length then []else((a[i-os.length]?).map r).getD []
noncomputable def sO(x z:I aq)(a:I J)(r:J->I aq)(h:cf)(g:Fz):HB:=
 ⟨λb=>if b∈x\/b∈z\/(∃i∈a,b∈r i)then aa else h.get? b,[],g,[]⟩
noncomputable def nh(os:I af)(a:I J)(y H:I (AV q)):I (AV q):=y.mapIdx λi E=>if i∈a then(H[os.length+a.idxOf i]?).getD .un else E
noncomputable def n6(os:I af)(a:I J)(r v:J->I aq):J->I aq:=λi=>if i∈a then v (os.length+a.idxOf i)else r i
open Classical in
theorem BG{b:aq}(f:b∈x\/b∈z\/∃i∈a,b∈r i):(sO x z a r h g).b b=aa:=aL ‹_›
theorem F1(f:h.get? b=aa):(sO x z a r h g).b b=aa:=by
 delta sO;simp only;split<;>first|rfl|exact f
theorem BH{b:aq}(w:b∉x)(v:b∉z)(R:∀i∈a,b∉r i):(sO x z a r h g).b b=h.get? b:=by
 delta sO;simp only
 rw [aJ];rintro(q|q|⟨i,A,q⟩)
 .exact w q
 .exact v q
 .exact R i A q
theorem yF{l:I J}(h:i∈l):l[l.idxOf i]?=D i:=by
 apply ae (dB (List.idxOf_lt_length_iff.mpr h));simp
section
variable{V:c3}{xs os cs:I af}{ci:I J}{cK:J->I aq}
theorem Ex(r:nP v os cs)(L:H∈cs)(l:V.cells.lookup H=D c):(i9 v d V).cells.lookup H=D c:=by
 show(cellsFrom _ v.names _).lookup H=D c;refine gv (r.jz H L) λw h E=>?_;rw [A4,IV,Ke _ _ λp t e=>by rw [h p t e];decide];have R:=by
  have:=mem_of_lookup w;exact this
 apply ae (UN l v.names [] (.inl R) λa q=>aV C q)
 rfl
theorem abo(r:nP v os cs){d:aq}(j:v.names.lookup x=D .cell):∃c,(cellsFrom (d+1) v.names []).lookup x=D c/\(i9 v d V).cells.lookup x=D c:=by
 refine bH (gG.mp (ud v.names (d+1) [] (.inl j))) λc l=>⟨c,l,?_⟩;show(cellsFrom _ v.names _).lookup x=D c;rw [A4,IV,l];rfl
inductive S8(B:bD O)(ρ:Mk)(fz:Fz)(V:c3)(xs:I af)(ci:I J)(lv:I (AV O))(cK:J->I aq)(h:cf)(j:J)(y:af):Prop
 |mk(i:J)(c:aq)(ov:bg aB)(av:AV O)(hi:ci[j]?=D i)(hm:i∈ci)(hx:xs[i]?=D y)(hl:lv[i]?=D av)(hc:V.cells.lookup y=D c)(cell:h.IsCell c ov)(hh:Holds B ρ fz h av ov (cK i))(sL:V.kindOf y≠D .local)
inductive Ji(V:c3)(xs os cs:I af)(ci:I J)(scope:jg)(bq:J)(h:cf)(i:J)(x:af)(c:J):Prop
 |inl(hi:i<os.length)(hm:(x,c)∈cellsFrom (bq+1) scope.names [])(hc:bq+1<=c)
 |inr(hi:os.length<=i)(i':J)(hx:cs[i-os.length]?=D x)(XY:ci[i-os.length]?=D i')(hm:i'∈ci)(hxi:xs[i']?=D x)(q5:V.cells.lookup x=D c)(LP:(h.get? c).isSome=Y)(sL:V.kindOf x≠D .local)
theorem LK{h:cf}(l:h.objs.size<=c):h.get? c=aa:=iY λE q=>bA (fk q) (ie.mpr l)
theorem JQ{h:cf}(e:(h.get? b).isSome=Y):b<h.objs.size:=(gG.mp e).elim λE T=>fk T
theorem aW.JP(S:aW X F hB g V xs k y m cK h)(w:i<U xs):∀b∈cK i,(h.get? b).isSome=Y:=
 match S.vars i _ _ (dB w) (dB (S.len▸w))with|⟨_,_,B⟩=>B.live
theorem jh.ix(h:jh V xs cs ci){t i:J}(e:ci[t]?=D i):∃H,cs[t]?=D H/\xs[i]?=D H:=
 ⟨_,dB _,h.at_ t i _ e (dB (h.len▸j7 e))⟩
theorem jh.lt(e:jh V xs cs ci)(A:i∈ci):i<U xs:=bH (pS A) λE a=>ai (e.ix a) λE E h=>j7 h
theorem jh.inj(h:jh V xs cs ci)(Q:cs.Nodup){t m:J}(e:ci[t]?=D i)(O:ci[m]?=D i):t=m:=match h.ix e,h.ix O with
 |⟨_,a,b⟩,⟨_,T,z⟩=>qt Q a (ae T (ae z.symm b))
theorem UO(j:x∉cs):∀(F:I _)(o:I _),(∀p∈F,p.2=.free->p.1∈cs)->o.lookup x=aa->(nS V.cells F o).lookup x=aa:=λT=>T.rec
 (λE E h=>h)
 (λ(X,i)r n o g u=>by
  have l:=λp t=>g p (fF _ t);simp only [Ey]
  split
  .rename_i B;have:(x==X)=ay:=beq_false_of_ne λe=>j (e▸g (X,i) (.head _) (dh B));exact n _ l (by apply ae (tK);exact(this)▸(u))
  .exact n _ l u)
theorem Kd(co:jh V xs cs ci)(S:aW e F hB g V xs k h m cK a)(L:cs[t]?=D H):S8 e F g V xs ci h cK a t H:=by
 have A:=dB (co.len.symm▸j7 L);have j:=co.at_ t _ H A L;have X:=dB (S.len.symm▸j7 j);obtain⟨Q,u,B⟩:=S.vars _ H _ j X;have y:=co.nl H (cN L);rcases u with⟨q,_⟩|⟨_,c,l,o⟩
 .exact bA q y
 .exact⟨_,c,Q,_,A,cN A,j,X,l,o,B,y⟩
theorem UC(r:nP v os cs)(h:jh V xs cs ci)(S:aW X F hB g V xs n y f cK b)(s:∀{u c},(u,c)∈cellsFrom (d+1) v.names []->d+1<=c){c:J}(j:(os++cs)[i]?=D x)(l:(i9 v d V).cells.lookup x=D c):
  Ji V xs os cs ci v d b i x c:=by
 by_cases A:i<U os
 .have l:(cellsFrom (d+1) v.names _).lookup x=D c:=l;rw [A4,IV,UO (λq=>(gk.mp r.nodup).2.2 x (cN ((nG A).symm.trans j)) x q C) v.names [] r.free C,agN]at l;have a:=mem_of_lookup l;exact .inl A a (s a)
 .have A:=iP A;have j:=(kU A).symm.trans j;obtain⟨z,B,Q,E,w,k,R,o,H,m,p,G⟩:=Kd h S j;have e:=bj (ae l.symm (Ex r (cN j) H));exact ai m λL O t=>.inr A z j w k R (e.symm▸H) (e.symm▸cV O) G
inductive Th(os:I af)(ci:I J)(cK:J->I aq)(i:J)(b:aq):Prop
 |mk(i':J)(hle:os.length<=i)(XY:ci[i-os.length]?=D i')(hm:i'∈ci)(hb:b∈cK i')
theorem Bv(f:b∈uH os ci cK i):Th os ci cK i b:=by
 delta uH at f
 split at f
 .exact bA (f) dQ
 .cases q:ci[i-U os]? with
  |none=>exact bA ((q▸f)) dQ
  |some z=>exact⟨z,iP ‹_›,q,cN q,(q▸f:b∈((D z).map cK).getD [])⟩
theorem ZS(A:i<U os):(nW os ci y)[i]?=D .un:=by
 refine ae (nG (R3.symm▸A)) ?_;apply ae (R1);rw [aL A]
theorem ZR(A:U os<=i)(w:ci[i-U os]?=D z)(v:y[z]?=D E):(nW os ci y)[i]?=D E:=by
 refine ae (kU (R3.symm▸A)) ?_;simp only [R3,jv,w,DG,v];rfl
theorem Xe(A:i<U os):uH os ci cK i=[]:=aL A
theorem Xd(A:U os<=i)(w:ci[i-U os]?=D z):uH os ci cK i=cK z:=ae (aJ (ie.mpr A)) (w▸C)
theorem PD(r:nP v os cs)(a:jh V xs cs ci){s:aU}(bW:gm V)(S:aW X bR ew ao V xs mC bE kS cK s.heap)(aF:∀b∈a_,e9 X ew ao V xs cK b/\(s.heap.get? b).isSome=Y)
  (kT:∀i∈ci,∀eB,bE[i]?≠D (.own eB))(ic:ol.isFreed=ay)(dN:dG={cls:=.type "dict",data:=.dict #[]}){d:J}(aM:d=(s.heap.push ol).objs.size){y:cf}(au:y=pushCells ((s.heap.push ol).push dG) v.names):
  gm (i9 v d V)/\aW X bR ((sO X.tabs a_ ci cK s.heap ao).add (s.heap.objs.size::a_) y) ao (i9 v d V) (os++cs) (U os) (nW os ci bE) (λaj=>aa) (uH os ci cK) y:=by
 have O:=eH (fG _) (fq (by apply ae (aM);simp only [lM]:d=s.heap.objs.size+1).symm);have bz:∀{c:J},d+1<=c->s.heap.objs.size<=c:=(aD (e7 (jZ O)));have cu:∀{c:J}{P:Prop},d+1<=c->c<s.heap.objs.size->P:=λq h=>bA h (ie.mpr (bz q));have G:bF s.heap y:=λb o e=>au.symm▸ye _ _ b o (eG _ (eG _ e));have aY:∀c:J,s.heap.objs.size<=c->s.heap.get? c=aa:=λc l=>LK l;have fresh:=λc l=>S.free (aY c l);have aH:=cellsFrom_ok v.names ((s.heap.push ol).push dG) _ [] ⟨λaj aj R=>(bA (R) dQ),List.Pairwise.nil⟩ (by simp only [lM,<-aM];exact dm _);simp only [lM,<-aM,<-au]at aH;have u:∀(i:J)(x:af)(c:J),(os++cs)[i]?=D x->(i9 v d V).cells.lookup x=D c->Ji V xs os cs ci v d s.heap i x c:=λi x c j l=>UC r a S (λh=>(aH.empty _ _ h).2) j l;have cF:∀(i:J)(x:af),U os<=i->(os++cs)[i]?=D x->(i9 v d V).kindOf x=D .free\/(i9 v d V).kindOf x=D .cell:=λi x A j=>by
  rw [kU A]at j;exact O2 (r.jz x (cN j)).1
 have g:∀i∈ci,i<U xs:=λi A=>a.lt A;have E:∀{b:J},(s.heap.get? b).isSome=Y->b<s.heap.objs.size:=JQ;have aC:∀{b:J},b<s.heap.objs.size->b<d:=λh=>qJ h O;have ak:∀{b:J},b<d->(∀i x,xs[i]?=D x->V.kindOf x≠D .local->V.cells.lookup x≠D b)->∀(i:J)(x:af),(os++cs)[i]?=D x->(i9 v d V).kindOf x≠D .local->(i9 v d V).cells.lookup x≠D b:=λf aT i x j aj l=>by
  rcases u i x _ j l with⟨_,_,q⟩|⟨_,aK,bI,lJ,bQ,n,L,m,p⟩
  .exact ie.mpr q (jZ f)
  .exact aT aK x n p L
 have bC:∀{b:J},(∀i,i<U xs->b∉cK i)->∀t,t<U (os++cs)->b∉uH os ci cK t:=λaT t aj R=>match Bv R with|⟨z,_,_,R,k⟩=>aT z (a.lt R) k
 refine⟨⟨r.kind,bW.globals,bW.builtins⟩,?_⟩
 have base:aW X bR _ ao (i9 v d V) _ (U os) (nW os ci bE) _ (uH os ci cK) y:={
  lock:=λnF fj=>(dQ fj).elim
  len:=by delta nW;simp [a.len]
  base:=λb o e=>G b o (S.base b o e)
  kept:=λb o e=>by
   by_cases q:b∈X.tabs\/b∈a_\/∃i∈ci,b∈cK i
   .exact aV (BG q) e
   .rw [BH (λh=>q (.inl h)) (λh=>q (.inr (.inl h))) (λi A h=>q (.inr (.inr ⟨i,A,h⟩)))]at e
    exact G b o e
  bJ:=λb o e=>G b o (S.bJ b o e)
  ns:=by
   have:=by exact(aM)▸(dN)▸(Heap.Ns.new _ _)
   exact au.symm▸this.keeps (ye _ _)
  nL:=⟨F1 (aY d (e7 O)),(fresh d (e7 O)).fz⟩
  f_:=λb o e=>ae (BH (S.jb (S.f_ b o e)) (λq=>aV (aF b q).1.hb (S.f_ b o e)) λi A q=>aV (S.fp i (g i A) b q).1 (S.f_ b o e)) (S.base b o e)
  vars:=λi x lK j ck=>by
   by_cases A:i<U os
   .rw [nG A]at j
    obtain rfl:=bj ((ZS A).symm.trans ck)
    rw [Xe A]
    rcases r.own x (cN j)with q|q
    .exact⟨aa,.inl ⟨zu (nofun) q,C⟩,C⟩
    .exact ai (abo r q) λc aE cC=>⟨aa,.inr ⟨.inl (zu (nofun) q),c,cC,(aH.empty x c (mem_of_lookup aE)).1⟩,C⟩
   .have A:=iP A
    have B:=cF i x A j
    rw [kU A]at j
    obtain⟨z,c,gc,pP,aE,cC,pQ,gi,gU,e6,jf,mz⟩:=Kd a S j
    cases bj ((ZR A aE gi).symm.trans ck)
    rw [Xd A aE]
    refine ai e6 λdU ee er=>⟨gc,.inr ⟨?_,c,Ex r (cN j) gU,dU,G _ _ ee,er⟩,jf.mono (Le.refl _) (λb o e=>G b o (S.base b o e)) λb aj o e=>G b o e⟩
    rcases B with B|B
    .exact .inr ⟨B,(r.jz x (cN j)).2.2⟩
    .exact .inl B
  own:=λi x c A j cX l=>by
   rcases u i x c j l with⟨_,_,q⟩|⟨q,_⟩
   .exact F1 (aY c (bz q))
   .exact bA A (ie.mpr q)
  jz:=λi x c A j l cX=>by
   rcases u i x c j l with⟨q,_⟩|⟨_,z,bI,H,R,n,L,m,p⟩
   .exact bA q (ie.mpr A)
   .exact bH (gG.mp m) λo bf=>⟨o,ae (BH (λq=>(S.tab c q).2.2.2.1 z x n p L) (λq=>(aF c q).1.cell z x n p L) (λaK eN q=>(S.fp aK (g aK eN) c q).2.2.2 z x n p L)) bf⟩
  cell:=λi x c j cX l=>by
   rcases u i x c j l with⟨_,_,q⟩|⟨_,z,bI,H,R,n,L,m,p⟩
   .exact⟨vH q,(fresh c (bz q)).fz⟩
   .exact⟨fH (qJ (E m) O),(S.cell z x c n p L).2⟩
  qR:=λi x A j=>by
   rcases cF i x A j with q|q<;>rw [q]<;>decide
  inj:=λi t x bh c j bl ko kR fy b_=>by
   rcases u i x c j fy with⟨_,bx,fB⟩|⟨bx,z,bI,H,R,n,L,m,p⟩
   .rcases u t bh c bl b_ with⟨_,w,cB⟩|⟨w,ah,fZ,aN,eR,bZ,cM,cU,cJ⟩
    .have:=SW aH.apart bx w
     subst this
     exact qt r.nodup j bl
    .exact cu fB (E cU)
   .rcases u t bh c bl b_ with⟨_,w,cB⟩|⟨w,ah,fZ,aN,eR,bZ,cM,cU,cJ⟩
    .exact cu cB (E m)
    .have e:=S.inj z ah x bh c n bZ p cJ L cM
     subst e
     exact(tM bx).symm.trans (ae (aA (·+os.length) (a.inj (gk.mp r.nodup).2.1 H aN)) (tM w))
  nodup:=λi t x A c9=>qt r.nodup A c9
  fp:=λi A b f=>by
   obtain⟨z,_,_,R,k⟩:=Bv f
   have F:=S.fp z (g z R) b k
   have Q:=aC (E (S.JP (a.lt R) b k))
   exact⟨BG (.inr (.inr ⟨z,R,k⟩)),F.2.1,fH Q,ak Q F.2.2.2⟩
  inv:=bD.iy S.inv λP aP o e=>G P o e
  tab:=λP aP=>by
   have T:=S.tab P aP
   have Q:=aC (E (X.live S.inv P aP))
   exact⟨BG (.inl aP),T.2.1,fH Q,ak Q T.2.2.2.1,bC T.2.2.2.2⟩
  apart:=λi t A c9 gV b f jr=>by
   obtain⟨z,jq,H,R,k⟩:=Bv f
   obtain⟨ah,jt,aN,bQ,eM⟩:=Bv jr
   refine S.apart z ah (g z R) (g ah bQ) (λe=>?_) b k eM
   subst e
   exact gV ((tM jq).symm.trans (ae (aA (·+os.length) (a.inj (gk.mp r.nodup).2.1 H aN)) (tM jt)))
  dJ:=λb f=>(dQ f).elim
  new:=λb o e=>.inl e}
 refine base.enter (λb f=>?_) (λb f=>?_)
 .rcases cD.mp f with rfl|f
  .have F:=fresh _ (dm _);exact⟨F1 (gS s),F.fz,fH O,ak O F.cell,bC F.fp,F.tab,F.h0⟩
  .exact bT (aF b f) λF Q=>⟨BG (.inr (.inl f)),F.fz,fH (aC (E Q)),ak (aC (E Q)) F.cell,bC F.fp,F.tab,F.h0⟩
 .rcases cD.mp f with rfl|f
  .rw [au,ye _ _ _ _ (eG _ (eS _ ic))];rfl
  .exact bH (gG.mp (aF b f).2) λo bf=>cV (G b o bf)
end
section
variable{B:bD O}{os:I af}
theorem uR{R:Type}{o:bg R}{P:Prop}(h:o=aa)(e:o.isSome=Y):P:=cY C ((h▸e:(aa).isSome=Y))
structure Off(tabs wr:I aq)(ci:I J)(cK:J->I aq)(b:aq):Prop where
 t:b∉tabs
 w:b∉wr
 f:∀i∈ci,b∉cK i
theorem Off.b{b:aq}(p:Off B.tabs z a r b)(e:(h.get? b).isSome=Y):((sO B.tabs z a r h g).add (h.objs.size::z) v).b b=h.get? b:=
 ae (lT λq=>(cD.mp q).elim (λq=>bA (q▸JQ e) (i7 _)) p.w) (BH p.t p.w p.f)
theorem abh(h:y[i]?=D e):(nh os a y H)[i]?=D (if i∈a then(H[U os+a.idxOf i]?).getD .un else e):=ae R0 (aA _ h)
theorem abj(h:i∈a):n6 os a r v i=v (U os+a.idxOf i):=aL h
theorem abl(h:i∉a):n6 os a r v i=r i:=aJ h
theorem uW(h:i∈a)(f:b∈n6 os a r v i):b∈v (U os+a.idxOf i):=(aL h:n6 os a r v i=_)▸f
theorem uX(h:i∉a)(f:b∈n6 os a r v i):b∈r i:=(aJ h:n6 os a r v i=_)▸f
theorem jh.F2(e:jh G n h a)(A:i∈a):(os++h)[U os+a.idxOf i]?=n[i]?:=ai (e.ix (yF A)) λE x b=>ae ((kU (fO _ _)).trans ((aA _ (x6 _ _)).trans x)) b.symm
theorem jh.sN(h:jh G n b a)(A:i∈a):U os+a.idxOf i<U (os++b):=match dB (h.lt A)with
 |e=>j7 (ae (h.F2 A) e)
theorem aW.JO{i:J}(S:aW B F hB g G n k y m r h)(j:n[i]?=D x)(H:G.kindOf x≠D .local)(l:G.cells.lookup x=D c):(h.get? c).isSome=Y:=by
 obtain⟨Q,u,_⟩:=S.vars i x _ j (dB (S.len▸j7 j));rcases u with⟨e,_⟩|⟨_,a,X,b,O,_⟩
 .exact bA e H
 .exact bj (ae X.symm l)▸cV O
theorem PC(fj:nP fB os ck)(h:jh G n ck a){s:aU}(S:aW B aH k E G n b_ bf cB r s.heap)(w:∀b∈z,e9 B k E G n r b/\(s.heap.get? b).isSome=Y)
  (gi:∀i∈a,∀cM,bf[i]?≠D (.own cM))(eB:s.heap.objs.size<bI)(er:Le E p)
  (m:aW B aH ((sO B.tabs z a r s.heap E).add (s.heap.objs.size::z) gV) p (i9 fB bI G) (os++ck) os.length aE fZ v aM):
  aW B aH k p G n b_ (nh os a bf aE) cB (n6 os a r v) aM/\e9 B k p G n (n6 os a r v) s.heap.objs.size/\e9 B k p G n (n6 os a r v) bI/\(∀b,b∈z->e9 B k p G n (n6 os a r v) b):=by
 have aY:=λ{i}c9=>S.JP (i:=i) c9;have Q:∀{b o},s.heap.get? b=D o->Off B.tabs z a r b->aM.get? b=D o:=λe aN=>m.kept _ _ ((aN.b (cV e)).trans e);have ak:∀{b},(s.heap.get? b).isSome=Y->Off B.tabs z a r b->E b=aa->p b=aa:=λg aN aT=>iY λo e=>by
  rcases m.new _ o e with q|q
  .exact aV aT q
  .exact uR ((aN.b g).symm.trans q) g
 have aC:∀{b},(k.b b).isSome=Y->Off B.tabs z a r b:=λf=>⟨λq=>uR (S.tab _ q).1 f,λq=>uR (w _ q).1.hb f,λi A q=>uR (S.fp i (h.lt A) _ q).1 f⟩;have aP:Off B.tabs z a r G.locals:=⟨λq=>(S.tab _ q).2.2.1 C,λq=>(w _ q).1.loc C,λi A q=>(S.fp i (h.lt A) _ q).2.2.1 C⟩;have au:∀{i x c},n[i]?=D x->G.kindOf x≠D .local->G.cells.lookup x=D c->Off B.tabs z a r c:=λj H l=>
  ⟨λq=>(S.tab _ q).2.2.2.1 _ _ j H l,λq=>(w _ q).1.cell _ _ j H l,λt O q=>(S.fp t (h.lt O) _ q).2.2.2 _ _ j H l⟩
 have cC:=jC S.ns λao ao ao y ao=>cV y;have aj:∀{i b},i<n.length->i∉a->b∈r i->Off B.tabs z a r b:=λA aF f=>
  ⟨λq=>(S.tab _ q).2.2.2.2 _ A f,λq=>(w _ q).1.fp _ A f,λt O q=>S.apart _ t A (h.lt O) (λe=>aF (e▸O)) _ f q⟩
 have X:∀{i b},i∈a->b∈v _->(s.heap.get? b).isSome=Y->¬Off B.tabs z a r b:=λA f g q=>uR ((q.b g).symm.trans (m.fp _ (h.sN A) _ f).1) g
 have dN:aW B aH k p G n b_ (nh os a bf aE) cB (n6 os a r v) aM:={
  len:=List.length_mapIdx.trans S.len
  base:=m.base
  kept:=λb o e=>Q (S.kept b o e) (aC (cV e))
  bJ:=m.bJ
  ns:=jC S.ns λo ew cU y eM=>(l7 o ew cU (Q y aP) eM)
  nL:=⟨S.nL.1,ak cC aP S.nL.2⟩
  f_:=S.f_
  lock:=λeN eR x j=>(S.lock eN eR x j).keep λc aK l o e=>Q e (au j aK l)
  vars:=λi x gc j d=>by
   have bx:=S.len▸j7 j
   obtain⟨fy,bz,cJ⟩:=S.vars i x _ j (dB bx)
   have d:=bj (d.symm.trans (abh (dB bx)))
   by_cases l:i∈a
   .have bC:os.length+a.idxOf i<aE.length:=m.len▸h.sN l
    rw [aL l,dB bC]at d
    subst d
    obtain⟨cF,e6,cX⟩:=m.vars _ x _ ((h.F2 l).trans j) (dB bC)
    have bE:=(h.ix (yF l)).elim λao q=>bj (q.2.symm.trans j)▸d9 _ q.1
    rcases bz with⟨q,_⟩|⟨dG,c,L,_⟩
    .exact bA q (h.nl x bE)
    .rcases e6 with⟨q,_⟩|⟨_,gU,dU,ee⟩
     .exact bA q (m.qR _ x (fO _ _) ((h.F2 l).trans j))
     .exact⟨cF,.inr ⟨dG,c,L,bj ((Ex fj bE L).symm.trans dU)▸ee⟩,abj l▸cX⟩
   .rw [aJ l]at d
    subst d
    exact⟨fy,bz.keep λc aK l o e=>Q e (au j aK l),abl l▸cJ.mono er m.base λb f o e=>Q e (aj (j7 j) l f)⟩
  own:=S.own
  jz:=S.jz
  cell:=λi x c j H l=>by
   have F:=S.cell i x c j H l
   exact⟨F.1,ak (S.JO j H l) (au j H l) F.2⟩
  qR:=S.qR
  inj:=S.inj
  nodup:=S.nodup
  fp:=λi A b f=>by
   by_cases l:i∈a
   .replace f:=uW l f
    refine(lg (iY λo e=>X l f (cV (S.kept b o e)) (aC (cV e))) (m.fp _ (h.sN l) b f).2.1 (λe=>X l (e▸f) cC aP) (λt x j H L=>X l f (S.JO j H L) (au j H L)))
   .replace f:=uX l f
    have F:=S.fp i A b f
    exact(dI F.1 (ak (aY A b f) (aj A l f) F.2.1) F.2.2)
  inv:=m.inv
  tab:=λbQ bR=>by
   have T:=S.tab bQ bR
   have bl:=m.tab bQ bR
   refine(lj T.1 bl.2.1 T.2.2.1 T.2.2.2.1 (λi A f=>?_))
   by_cases l:i∈a
   .exact bl.2.2.2.2 _ (h.sN l) (uW l f)
   .exact T.2.2.2.2 i A (uX l f)
  apart:=λi t A O bZ b f u=>by
   by_cases l:i∈a<;>by_cases P:t∈a
   .exact m.apart _ _ (h.sN l) (h.sN P) (λe=>bZ (bj ((yF l).symm.trans ((aA _ (ags e)).trans (yF P))))) b (uW l f) (uW P u)
   .replace u:=uX P u
    exact X l (uW l f) (aY O b u) (aj O P u)
   .replace f:=uX l f
    exact X P (uW P u) (aY A b f) (aj A l f)
   .exact S.apart i t A O bZ b (uX l f) (uX P u)
  dJ:=λb f=>by
   have ah:=S.dJ b f
   exact bH (gG.mp ah.1) λo y=>(dI ah.1 (ak (cV (S.kept b o y)) (aC ah.1) ah.2.1) ah.2.2)
  new:=λb o e=>(m.new b o e).elim (S.new b o) λq=>.inr (iY λbW a_=>aV q (((aC (cV a_)).b (cV (S.kept b bW a_))).trans (S.kept b bW a_)))}
 have cu:∀{b},e9 B k E G n r b->p b=aa->(∀i∈a,b∉v (os.length+a.idxOf i))->e9 B k p G n (n6 os a r v) b:=λF aT aF=>⟨F.hb,aT,F.loc,F.cell,λi A R=>by
  by_cases l:i∈a
  .exact aF i l (uW l R)
  .exact F.fp i A (uX l R),F.tab,F.h0⟩
 have dJ:=λ{b}f=>m.dJ b (gj _ f);have bh:=λ{b}f F=>cu (b:=b) F (dJ f).2.1 λi l R=>uR (m.fp _ (h.sN l) _ R).1 (dJ f).1;exact(lg dN (bh gC (S.free (gS s))) (cu (S.free (LK (e7 eB))) m.nL.2 λi l R=>(m.fp _ (h.sN l) _ R).2.2.1 C) (λb f=>bh (fF _ f) (w b f).1))
theorem aW.iH{h O:cf}(S:aW B ρ hB g G n E y m r h)(F:e9 B hB g G n r s)(a:gW s h O):aW B ρ hB g G n E y m r O:=by
 have t:∀{L:Fz}{b o},L s=aa->L b=D o->b≠s:=λH v e=>aV (ae (aA _ e) H) v;have k:=λb o e=>ae (a.2 b (λq=>aV ((aA _ q).trans F.h0) e)) (S.base b o e)
 exact{S with
  base:=k
  kept:=λb o e=>ae (a.2 b (t F.hb e)) (S.kept b o e)
  bJ:=λb o e=>ae (a.2 b (t F.fz e)) (S.bJ b o e)
  ns:=S.ns.sameBut a (iF F.loc)
  vars:=λi x X j d=>by
   obtain⟨Q,u,f⟩:=S.vars i x X j d
   refine⟨Q,u.keep λc w l o e=>ae (a.2 c (λq=>F.cell i x j w (q▸l))) e,f.mono (Le.refl _) k λb A o e=>ae (a.2 b (λq=>F.fp i (cG.mp j).1 (q▸A))) e⟩
  lock:=λp T x j=>(S.lock p T x j).keep λc w l o e=>ae (a.2 c (λq=>F.cell p.1 x j w (q▸l))) e
  inv:=bD.iy S.inv λP z o e=>ae (a.2 P (λq=>F.tab (q▸z))) e}
theorem aW.Xk(S:aW B w hB g G n d y m r l)(F:e9 B hB g G n r a)(T:l.get? a=D (lo z X)):
  Le g (k_ g a (lo z X))/\aW B w hB (k_ g a (lo z X)) G n d y m r l:=
 have h:=yE F.fz
 ⟨h,{S with
  bJ:=λb o e=>qX e (λp v=>p▸v▸T) (S.bJ b o)
  nL:=⟨S.nL.1,qY (iF F.loc) S.nL.2⟩
  vars:=λi x L j O=>match S.vars i x L j O with|⟨Q,u,q⟩=>⟨Q,u,q.mono h S.base λE E E e=>e⟩
  cell:=λi x c j H t=>have A:=S.cell i x c j H t;⟨A.1,qY (λe=>F.cell i x j H (e▸t)) A.2⟩
  fp:=λi k b f=>have A:=S.fp i k b f;(dI A.1 (qY (λe=>F.fp i k (e▸f)) A.2.1) A.2.2)
  tab:=λP s=>have A:=S.tab P s;(dI A.1 (qY (λe=>F.tab (e▸s)) A.2.1) A.2.2)
  dJ:=λb f=>have A:=S.dJ b f;(dI A.1 (qY (λe=>uR F.hb (e▸A.1)) A.2.1) A.2.2)
  inv:=bD.uK h S.inv λP E o e=>e
  new:=λb o e=>qX e (λp E=>p▸.inr F.hb) (S.new b o)}⟩
end
def qM(X:bD q)(m:cy)(w:bX)(L:cZ)(F:Mk)(G:c3)(n:I af)(k:J)(y:I (AV q))(e:cE)(x:I (AV q))(p:I T):Prop:=
 ∀(h:HB)(g:Fz)(s:aU)(Q:aB->aU->Prop)(H:aB->aU->Prop),SR X F h g G n k y s.heap->
  (∀t j a z i b r,bP s t->Le g j->gm G->aW X F h j G n k x b r t.heap->e9 X h j G n r a->t.heap.get? a=D (lo z i)->bu F j z p->Q (.ref a) t)->
  aQ (aI m w) L (eval e G) Q H s
def vS(X:bD q)(m:cy)(w:bX)(L:cZ)(F:Mk)(G:c3)(n:I af)(k:J)(y:I (AV q))(e:I cE)(x:I (AV q))(b:bw):Prop:=
 ∀(T:HB)(g:Fz)(s:aU)(Q:bw->aU->Prop)(H:aB->aU->Prop),SR X F T g G n k y s.heap->
  (∀t j,bP s t->Le g j->SR X F T j G n k x t.heap->Q b t)->
  aQ (aI m w) L (forIn e Y λc r=>if r=Y then do let A<-isTrue c G (eval c G);pure (vy A)else pure (vy r)) Q H s
inductive DS(B:bD O)(Z:cy)(w:bX)(A:cZ)(ρ:Mk)(V:c3)(xs:I af)(k:J)(ifs:I cE)(elt:cE)(EA:I (AV O)->I (AV O)->Prop)(lv:I (AV O))(ys:I T)(X:I (AV O)->I T->Prop):Prop
 |go{y:T}{QG:I T}{aX dc m7:I (AV O)}(ha:EA lv aX)(ht:vS B Z w A ρ V xs k aX ifs dc Y)(he:cP B Z w A ρ V xs k dc elt m7 y)(h:X m7 QG)(e:ys=y::QG)
 |skip{aX dc:I (AV O)}(ha:EA lv aX)(ht:vS B Z w A ρ V xs k aX ifs dc ay)(h:X dc ys)
def mQ(X:bD q)(m:cy)(w:bX)(L:cZ)(F:Mk)(G:c3)(n:I af)(k:J)(e:I cE)(o:cE){z:Type}(a:I (AV q)->z->I (AV q)->Prop):I z->I (AV q)->I T->I (AV q)->Prop
 |[],y,S,x=>S=[]/\y=x
 |A::p,y,S,x=>DS X m w L F G n k e o (λl=>a l A) y S λl S=>mQ X m w L F G n k e o a p l S x
def yj(X:bD q)(m:cy)(w:bX)(L:cZ)(F:Mk)(G:c3)(n:I af)(k:J)(h:cE)(e:I cE)(o:cE)(p:I T)(y:I (AV q))(S:I T)(x:I (AV q)):Prop:=
 mQ X m w L F G n k e o (λy A x=>p7 X m w L F G n k y h A x) p y S x
section
variable{B:bD O}{Z:cy}{w:bX}{A:cZ}{ρ:Mk}{V:c3}{xs:I af}{k:J}{lv aX:I (AV O)}{wr:I aq}{iC:cE}{ifs:I cE}
theorem mQ.nil:mQ B Z w A ρ V xs k ifs o a [] lv [] lv:=⟨C,C⟩
theorem mQ.go{p:I z}(u:a lv t aX)(l:vS B Z w A ρ V xs k aX ifs X Y)(m:cP B Z w A ρ V xs k X o m7 e)(h:mQ B Z w A ρ V xs k ifs o a p m7 S H):mQ B Z w A ρ V xs k ifs o a (t::p) lv (e::S) H:=DS.go u l m h C
theorem mQ.skip{p:I z}(u:a lv h aX)(l:vS B Z w A ρ V xs k aX ifs X ay)(e:mQ B Z w A ρ V xs k ifs o a p X S H):mQ B Z w A ρ V xs k ifs o a (h::p) lv S H:=DS.skip u l e
theorem qM.ev(x:qM B Z w A ρ V xs k lv e aX p):cP B Z w A ρ V xs k lv e aX (.list p):=by
 intro T g s Q H S R;exact x T g s Q H S λt u b z X m r q l i a F L d=>bT (a.Xk F L) λh j=>R t _ _ q (l.trans h) ⟨i,m,r,j⟩ (.list (aL C) (d.mono h))
theorem K8:vS B Z w A ρ V xs k lv [] lv Y:=λT g s Q H S R=>wpAny_tests_nil (R s g (bP.refl s) (Le.refl _) S)
theorem Bo(h:gn B Z w A ρ V xs k lv c aX b):vS B Z w A ρ V xs k lv [c] aX b:=λT g s Q H S R=>wpAny_tests_one (h T g s Q H S R)
theorem UW(S:H=notedBy (aI Z w) A V λl g=>i (.error l) g)(a:J->aU->Prop)
  (z:∀u s,a u s->aQ (aI Z w) A (pyNext n) (λr c=>match r with
   |aa=>i (.ok .next) c
   |D v=>aQ (aI Z w) A (letOwnedTupleGo iC n v) (λE t=>aQ (aI Z w) A (assign iC V v) (λE F=>
     aQ (aI Z w) A (forIn ifs Y λh r=>if r=Y then do let ok<-isTrue h V (eval h V);pure (vy ok)else pure (vy r)) (λok j=>
      if ok=Y then aQ (aI Z w) A (eval f V) (λx d=>
       aQ (aI Z w) A (call (.builtin "list.append") [o,x]) (λE B=>∃m,m<u/\a m B) H d) H j
      else∃m,m<u/\a m j) H F) H t) H c) H s)
  (u:J)(k:a u s):
  codeAny (aI Z w) A (.compLoop (.ListComp f [⟨iC,iter,ifs,0⟩] scope pos) 0 n o V) i s:=by
 refine codeAny_loop C a (λu s q=>?_) u k;show aQ _ A _ _ _ s;apply wpAny_noted;rw [<-S,compTurn_list];refine aG (oH (aG (kX (z u s q) (λr c e=>?_) λE E O=>O)));cases r with
 |none=>exact bM e
 |some v=>
  refine aG (kX e (λE t p=>(aG (kX p (λE F y=>aG (kX y (λok j b=>?_) λE E O=>O)) λE E O=>O))) λE E O=>O);cases ok with
  |false=>exact bM ⟨C,b⟩
  |true=>
   exact aG (aG (kX b (λx d X=>aG (kX X (λE B L=>bM (bM ⟨C,L⟩)) λE E O=>O)) λE E O=>O))
inductive S_(B:bD O)(ρ:Mk)(V:c3)(xs:I af)(k:J)(hI:HB)(aZ:aq)(wr:I aq)(St:J->cf->Prop)(ys:I T)(s:aU)(fz:Fz){τ:Type}(Cm:I τ->I (AV O)->I T->Prop)(ts:I τ)(n:J)(s₂:aU):Prop
 |mk(i:J)(lv':I (AV O))(qZ:Fz)(m₂:af->bg aB)(E8:J->I aq)(vs:I aB)(nn:J)(HT QH:I T)(hn:n+i=ts.length+1)(zo:bP s s₂)(l₂:Le fz qZ)(AP:aW B ρ (hI.add (aZ::wr) s₂.heap) qZ V xs k lv' m₂ E8 s₂.heap)(adk:St i s₂.heap)(hi:i<=ts.length)
  (ahj:s₂.heap.get? aZ=D (lo vs nn))(dv:bu ρ qZ vs HT)(hy:ys=HT++QH)(hyl:HT.length<=i)(bq:Cm (ts.drop i) lv' QH)
abbrev vW(wr:I aq)(h O:cf):Prop:=∀b o,b∉wr->h.get? b=D o->O.get? b=D o
theorem Kr{p:I jq}{c:HB}{au e:aq}{aP wr:I aq}{y:J->cf->Prop}(ko:gm V)
  (bZ:∀i l h,y i l->(∀b∈aP,∀o,l.get? b=D o->h.get? b=D o)->y i h)
  (ic:∀(s:aU)(cF:bg aB->aU->Prop)(ak:aB->aU->Prop),y (U p) s.heap->(∀h Q,vW wr s.heap h->cF aa {s with heap:=h,toks:=Q})->aQ (aI Z w) A (pyNext (.ref au)) cF ak s)
  (cU:∀{i:J}{dN:jq}(F:aU)(r:Fz)(u cM:I _)(mC:aU->Prop)(eR:Unit->aU->Prop)(aK:aB->aU->Prop),p[i]?=D dN->y i F.heap->Le S r->cJ u dN cM->(∀h,vW wr F.heap h->y (i+1) h->SR B ρ (c.add (e::wr) h) r V xs k u h)->
   (∀h g,vW wr F.heap h->y (i+1) h->bP F g->SR B ρ (c.add (e::wr) h) r V xs k cM g.heap->eR () g)->
   aQ (aI Z w) A (pyNext (.ref au)) (λgU cX=>match gU with|aa=>mC cX|D dG=>aQ (aI Z w) A (letOwnedTupleGo iC (.ref au) dG) (λbf pP=>aQ (aI Z w) A (assign iC V dG) eR aK pP) aK cX) aK F)
  (pQ:y 0 s.heap)(xK:∀b∈aP,b∈wr\/(S b).isSome=Y\/(B.h₀.get? b).isSome=Y)(kT:e∉aP)(ee:e∉wr)(jt:∀i l,y i l->∀b∈wr,(l.get? b).isSome=Y)(xE:ej (U p)=Y)
  (xD:aW B ρ (c.add (e::wr) s.heap) S V xs k lv xJ xM s.heap)(gV:s.heap.get? e=D (lo [] 0))
  (f:mQ B Z w A ρ V xs k ifs eB cJ p lv L aX)
  (jr:∀t bQ lJ lK z E h Q,bP s t->Le S bQ->aW B ρ (c.add (e::wr) t.heap) bQ V xs k aX lJ lK t.heap->t.heap.get? e=D (lo z E)->bu ρ bQ z L->vW wr t.heap h->e6 (.ok .next) {t with heap:=h,toks:=Q}):
  codeAny (aI Z w) A (.compLoop (.ListComp eB [⟨iC,zU,ifs,0⟩] zT zR) 0 (.ref au) (.ref e) V) e6 s:=by
 obtain⟨ak,xH⟩:∃ak,ak=notedBy (aI Z w) A V λn t=>e6 (.error n) t:=⟨_,C⟩;refine UW xH (S_ B ρ V xs k c e wr y L s S (λp lv L=>mQ B Z w A ρ V xs k ifs eB cJ p lv L aX) p) ?_ _
  ⟨0,lv,S,xJ,xM,[],0,[],L,C,bP.refl _,Le.refl _,xD,pQ,gF _,gV,.nil,C,dm _,f⟩
 rintro b_ F⟨i,u,r,ck,cu,z,E,cB,zS,R,aN,j,aE,aY,c9,bh,aj,aH,aT,f⟩;have a_:∀{l:cf}{o xN},l.get? e=D o->y xN l->∀b∈e::wr,(l.get? b).isSome=Y:=λjf kS=>bO (cV jf) (jt _ _ kS)
 by_cases x:i<U p
 .have dU:∀h,vW wr F.heap h->y (i+1) h->SR B ρ (c.add (e::wr) h) r V xs k u h:=λh a T=>⟨ko,ck,cu,aE.turn (λb v o n=>a b o (λq=>v (fF _ q)) n) (a_ (a e _ ee bh) T)⟩;have er:∀{h:cf}{d:aU}{m:Fz}{ew:I (AV O)}{ao ah},vW wr F.heap h->y (i+1) h->Le r m->aW B ρ (c.add (e::wr) h) m V xs k ew ao ah d.heap->y (i+1) d.heap/\d.heap.get? e=D (lo z E):=λ{h d m ew ao ah}a T H P=>by
   refine⟨bZ _ h _ T λb v o aC=>?_,P.kept e _ (ae (sy (.head _)) (a e _ ee bh))⟩
   by_cases q:b∈wr
   .exact P.kept b o (ae (sy (fF _ q)) aC)
   .have cC:∀{X},F.heap.get? b=D X->d.heap.get? b=D X->d.heap.get? b=D o:=λn kR=>ae kR ((a b _ q n).symm.trans aC);rcases(xK b v).resolve_left q with q|q
    .obtain⟨X,G⟩:=gG.mp q;exact cC (aE.bJ b X (j b X G)) (P.bJ b X (H _ _ (j _ _ G)))
    .obtain⟨X,G⟩:=gG.mp q;exact cC (aE.base b X G) (P.base b X G)
  have f:=by
   rw [xS x]at f;exact f
  have eN:=dB x;cases f with
  |go aM bx mz bz nF=>
   refine cU F r u _ _ _ _ eN aY j aM dU λh g a T bC bl=>bx _ r g _ _ bl λd m bI H P=>?_;rw [aL C];refine mz _ m d _ _ P λzV rN fj xC bE aF xF=>?_;obtain⟨_,xG,rL,aF⟩:=aF;obtain⟨rM,xB⟩:=er a T (H.trans bE) aF;refine Jb (hsz:=ae (qH) aj.length▸aD (aD aT c9) (kN xE)) ⟨E,xB⟩ λeM bR fB=>?_;obtain⟨fZ,bR⟩:=bR;have fy:eM.get? e=D (lo (z++[fj]) fZ):=by rw [bR];simp [lo]
   have gc:=bZ _ _ _ rM λb v o aC=>ae (fB.2 b λq=>kT (q▸v)) aC;exact⟨b_-1,(wM R x).1,i+1,_,rN,xG,rL,z++[fj],fZ,cB++[_],_,(wM R x).2,(((aN.trans bC).trans bI).trans xC).trans (cH _ _ C),(j.trans H).trans bE,aF.turn (h':=eM) (λb v o n=>ae (fB.2 b λq=>v (q▸.head _)) n) (a_ fy gc),gc,x,fy,(aj.mono (H.trans bE)).append (.one xF),ae (aH.trans (aA _ nF)) (List.append_cons _ _ _),cA▸jx aT,bz⟩
  |skip aM bx bz=>
   refine cU F r u _ _ _ _ eN aY j aM dU λh g a T bC bl=>bx _ r g _ _ bl λd m bI H P=>?_;rw [aJ Ru];obtain⟨_,ao,ah,P⟩:=P;obtain⟨gi,bW⟩:=er a T H P;exact⟨b_-1,(wM R x).1,i+1,_,m,ao,ah,z,E,cB,_,(wM R x).2,(aN.trans bC).trans bI,j.trans H,P.turn (λbf bf bf n=>n) (a_ bW gi),gi,x,bW,aj.mono H,aH,Ac aT,bz⟩
 .refine ic F _ _ ((fS c9 (iP x))▸aY) λh Q a=>?_;obtain⟨rfl,rfl⟩:=(List.drop_eq_nil_of_le (iP x)▸f);exact jr F r ck cu z E h Q aN j aE bh (ae aH (ju _)▸aj) a
theorem UZ{c:HB}{x h:aq}{R wr:I aq}{P:J->aB->Prop}{y:J->cf->Prop}(aT:gm V)
  (H:Walks Z w A x R wr (U e) P y)(ah:∀i v,P i v->∃a,e[i]?=D a/\Den ρ g v a)(aE:y 0 s.heap)
  (aY:∀b∈R,b∈wr\/(g b).isSome=Y\/(B.h₀.get? b).isSome=Y)(bZ:h∉R)(b_:h∉wr)(E:∀i l,y i l->∀b∈wr,(l.get? b).isSome=Y)
  (aF:aM=Y->∀i(s:aU)(aP:I cE)(F:J)(p:ig)(v:aB)(q:Unit->aU->Prop)(bz:aB->aU->Prop),y i s.heap->q () s->aQ (aI Z w) A (letOwnedTupleGo (.Tuple aP F p) (.ref x) v) q bz s)
  (bW:(∃d p,iC=.Name d p)\/aM=Y/\∃Q F p,iC=.Tuple Q F p)(r:ej (U e)=Y)
  (S:aW B ρ (c.add (h::wr) s.heap) g V xs k lv cJ cC s.heap)(aj:s.heap.get? h=D (lo [] 0))
  (ak:yj B Z w A ρ V xs k iC ifs ao e lv au aX)
  (aC:∀t j aH aK z aN O n,bP s t->Le g j->aW B ρ (c.add (h::wr) t.heap) j V xs k aX aH aK t.heap->t.heap.get? h=D (lo z aN)->bu ρ j z au->
   (∀b f,b∉wr->t.heap.get? b=D f->O.get? b=D f)->a_ (.ok .next) {t with heap:=O,toks:=n})(X:c.lk=[]):
  codeAny (aI Z w) A (.compLoop (.ListComp ao [⟨iC,cU,ifs,0⟩] dN cF) 0 (.ref x) (.ref h) V) a_ s:=
 Kr aT H.frame H.done (λ{i a}m bh cX c9 dG bl bx o bC bE bI S bf=>H.item i m _ _ (cG.mp o).1 bC λv O n bR T u=>by
  refine ai (ah i v bR) λcM bQ ck=>?_;have L:=bI (c.add _ O) bh {m with heap:=O,toks:=n} v bl bx X (S O u T) ((bj (ae o.symm bQ)).symm▸ck.mono bE) λcu cB G=>bf O cu u T (bP.trans (cH O n C) cB) G;rcases bW with⟨d,p,rfl⟩|⟨rfl,Q,F,p,rfl⟩
  .exact bM L
  .exact aF C _ _ Q F p v _ _ T L) aE aY bZ b_ E r S aj ak aC
theorem aW.Mz(S:aW B ρ hB g V xs k lv m r s)(F:∀b∈wr,e9 B hB g V xs r b)(h:∀b o,b∉wr->s.get? b=D o->h'.get? b=D o):aW B ρ hB g V xs k lv m r h':=by
 have X:∀{b},(∀q:e9 B hB g V xs r b,False)->b∉wr:=λL hb=>L (F _ hb);have a:bF B.h₀ h':=λb o e=>h b o (X λq=>aV q.h0 e) (S.base b o e)
 exact{S with
  base:=a
  kept:=λb o e=>h b o ((λe=>X λq=>aV q.hb e) e) (S.kept b o e)
  bJ:=λb o e=>h b o ((λe=>X λq=>aV q.fz e) e) (S.bJ b o e)
  ns:=Ck S.ns λo=>h _ o (X λq=>q.loc C)
  vars:=λi x E j d=>by
   obtain⟨Q,u,n⟩:=S.vars i x E j d
   refine⟨Q,u.keep λc w l o e=>h c o (X λq=>q.cell i x j w l) e,n.mono (Le.refl _) a λb hb o e=>h b o (X λq=>q.fp i (cG.mp j).1 hb) e⟩
  lock:=λp f x j=>(S.lock p f x j).keep λc w l o e=>h c o (X λq=>q.cell p.1 x j w l) e
  inv:=B.iy S.inv λP t o e=>h P o (X λq=>q.tab t) e}
end
section
variable{os:I af}
theorem Kq(sc:nP scope os cs)(co:jh V xs cs ci)
  (hI:qN tup B Z w A ρ V xs k lv iter aX ts)(BC:∀i∈ci,∀l,aX[i]?≠D (.own l))
  (hC:∀bq,yj B Z w A ρ (i9 scope bq V) (os++cs) (U os) iC ifs elt ts (nW os ci aX) ys M7)
  (hs:∀x,foldedSetIterable iter V x=pure x)(ht:(∃x p,iC=.Name x p)\/(tup=Y/\∃es x1 p,iC=.Tuple es x1 p))(hsz:ej (U ts)=Y)
  (S:SR B ρ hB fz V xs k lv s.heap)
  (hQ:∀s' g8(aZ bq:aq)vs nn m cK mc,bP s s'->Le fz g8->gm V->aW B ρ hB g8 V xs k (nh os ci aX M7) m cK s'.heap->e9 B hB g8 V xs cK aZ->e9 B hB g8 V xs cK bq->aZ≠bq->
   s'.heap.get? aZ=D (lo vs nn)->bu ρ g8 vs ys->s'.heap.Ns bq mc->compPost (aI Z w) A E use Q (.ref aZ) bq (.ok .next) s'):
  aQ (aI Z w) A (comprehension (.ListComp elt [⟨iC,iter,ifs,0⟩] scope Pz) scope V pos (newList []) ay (eval iter V) use) Q E s:=by
 have q5:∀p∈scope.names,p.2=.free->(V.cells.lookup p.1).isSome=Y:=by
  intro p hp hf;refine cps λdX kk=>?_;obtain⟨eo,m,cK,S⟩:=S;have hm:=sc.free p hp hf;obtain⟨j,hj,e⟩:=af' hm;have Yd:j<U ci:=by simp only [co.len];exact hj
  have hx:=co.at_ j _ p.1 (dB Yd) (by apply ae (dB hj);rw [e]);have hi:ci[j]<U lv:=by simp only [S.len];exact(cG.mp hx).1
  obtain⟨ov,ha,_⟩:=S.vars _ _ _ hx (dB hi);apply kk;rcases ha with⟨q,_⟩|⟨_,c,hc,_⟩
  .exact bA q (co.nl _ hm)
  .exact cV hc
 refine ag' C hs (Ez q5) sc.kind sc.names (hI hB fz s _ _ S λs₁ eT eI fp wr P St m cK zm l₁ eo lS W hP uD hw q6 uC XQ own=>(DN (Nn sc.kind ?_)));have Fs:s₁.heap.objs.size<(s₁.heap.push (lo [] 0)).objs.size:=by simp only [lM];exact fG _
 obtain⟨VX,Tw⟩:=PD (ol:=lo [] 0) sc co eo lS hw BC C C C C;have k4:bF s₁.heap (pushCells ((s₁.heap.push (lo [] 0)).push {cls:=.type "dict",data:=.dict #[]}) scope.names):=λb o e=>ye _ _ b o (eG _ (eG _ e));have HN:=λb hb=>uC b (W.sub b hb);have PK:=W.frame 0 _ _ uD λb dX o e=>k4 b o e;have loop:codeAny (aI Z w) A (.compLoop (.ListComp elt [⟨iC,iter,ifs,0⟩] scope Pz) 0 (.ref eI) (.ref s₁.heap.objs.size) (i9 scope (s₁.heap.push (lo [] 0)).objs.size V))
   (compPost (aI Z w) A E use Q (.ref s₁.heap.objs.size) (s₁.heap.push (lo [] 0)).objs.size) {s₁ with heap:=pushCells ((s₁.heap.push (lo [] 0)).push {cls:=.type "dict",data:=.dict #[]}) scope.names}:=by
  refine UZ VX W hP PK q6 (λq=>(λb hb=>fH (uC b hb)) _ q C) (λq=>i7 _ (HN _ q)) XQ own ht hsz Tw ?_ (hC _) ?_ C
  .exact ye _ _ _ _ (eG _ (eS _ C))
  .intro s' g8 m' Xg vs nn h' tk q l S' XR d hk;refine sH (PC sc co lS hw BC Fs l S') λSb fD fC fw=>?_;refine hQ _ g8 _ _ vs nn _ _ m' ((zm.trans q).trans (cH h' tk C)) (l₁.trans l) eo (Sb.Mz fw hk) fD fC (fH Fs) (hk _ _ (λq=>i7 _ (HN _ q)) XR) d (cps λdX kk=>?_);refine jC (S'.ns) λo es ep ho r=>?_;exact kk ((l7 o es ep (hk _ o (λq=>i7 _ (qJ Fs (HN _ q))) ho) r))
 exact ag7 loop (W.self 0 _ _ _ PK loop)
theorem VG(r:nP v os b)(t:jh G n b a)
  (c:qN s X m w L F G n g y O P e)(aC:∀bl∈a,∀l,P[bl]?≠D (.own l))
  (f:∀d,yj X m w L F (i9 v d G) (os++b) (U os) h o q e (nW os a P) S H)
  (B:∀x,foldedSetIterable O G x=pure x)(u:(∃x p,h=.Name x p)\/(s=Y/\∃Q z p,h=.Tuple Q z p))(E:ej (U e)=Y)(T:nh os a P H=A):
  qM X m w L F G n g y (.ListComp q [⟨h,O,o,0⟩] v bQ) A S:=by
 intro bR bx bC bE bz ak ao;refine Kq r t c aC f B u E ak λbI au k d aE aF R aj aH aK l ah aN aP aT aY aM bf a_=>(aR aH a_ (λbh i=>?_));have j:=aN.iH aT i;rw [T]at j;exact ao _ au k aE aF R aj (aK.trans (cH bh _ C)) l ah j aP ((i.2 k aY).trans aM) bf
end
section
variable{B:bD O}{Z:cy}{w:bX}{A:cZ}{ρ:Mk}{V:c3}{xs os:I af}{k n:J}{lv dc:I (AV O)}{hB:HB}
theorem eE.det(a:eE V m e x Q)(T:eE V m e x q):Q=q:=by
 rcases a with⟨w,v⟩|⟨w,c,v,R⟩
 .rcases T with⟨P,h⟩|⟨P,d,h,y⟩
  .apply ae (v);rw [h]
  .rw [w]at P;rcases P with f|⟨f,_⟩<;>exact nc nK (bj f) C
 .rcases T with⟨P,h⟩|⟨P,d,h,y⟩
  .rw [P]at w;rcases w with f|⟨f,_⟩<;>exact nc nK (bj f) C
  .rw [v]at h;obtain rfl:=bj h;refine ai R λo g H=>ai y λX n u=>?_;rw [g]at n;obtain rfl:=bj n;rw [H]at u;exact afO u
noncomputable def HB.lock(hB:HB)(i:J)(v:aB):HB:={hB with lk:=(i,v)::hB.lk}
theorem aW.uM(S:aW B ρ hB g V xs k lv m r h)(j:xs[i]?=D x)(u:eE V m h x (D v)):aW B ρ (hB.lock i v) g V xs k lv m r h:=by
 have X:∀p∈(hB.lock i v).lk,∀H,xs[p.1]?=D H->eE V m h H (D p.2):=λp t H L=>by
  rcases cD.mp t with rfl|t
  .rw [j]at L;exact bj L▸u
  .exact S.lock p t H L
 exact{S with lock:=X}
theorem aW.unlock(S:aW B ρ (hB.lock i v) g V xs k lv m r h):aW B ρ hB g V xs k lv m r h:=
 {S with lock:=λp t H L=>S.lock p (fF _ t) H L}
theorem aW.locked(S:aW B ρ (hB.lock i v) g V xs k lv m r h)(j:xs[i]?=D x):eE V m h x (D v):=S.lock (i,v) gC x j
theorem aW.CA(S:aW B ρ hB g V xs k lv m r h)(j:xs[i]?=D x)(u:eE V m h x (D (.ref a)))(hf:r i=[a])
  (e:gW a h h')(L:h'.get? a=D (lo z X))(d:bu ρ g z l):aW B ρ hB g V xs k (lv.set i (.own l)) m (bU r i [a]) h':=by
 refine S.Qh j (λb f o s=>?_) u ⟨a,z,X,C,L,d,C⟩ λb f=>.inl (by rw [hf];exact f);rw [hf]at f;exact ae (e.2 b λq=>f (by simp [q])) s
theorem oN.sT{a:aq}(F:e9 B hB g V xs r a):oN B hB g V xs r i [a]where
 a:=λb f=>(cO.mp f).symm▸((lg F.hb F.fz F.loc F.cell))
 b:=λt E O b f=>by exact(cO.mp f)▸(F.fp t O)
 c:=λP s q=>F.tab ((cO.mp q)▸s)
theorem K4(j:xs[i]?=D x)(l:i<k)(m:V.kindOf x=D .local\/V.kindOf x=D .cell)(f:cP B Z w A ρ V xs k lv e P z)
  (b:gY e (D (.Name x c)) p.line V=pure ay):ik B Z w A ρ V xs k lv (.Assign [.Name x c] e p) (P.set i (.t z)) .next:=by
 intro hB g s Q H n S R;refine kC (f hB g s _ _ S λL t v q o E d=>?_) b;obtain⟨h,T,X,E⟩:=E;exact gh (av:=.t z) h n E j l m ⟨C,v,C,d⟩ .nil λr u y a=>R r t .next (q.trans y) o ⟨h,u,_,a⟩ dj
theorem Wm(j:xs[i]?=D x)(v:i<k)(b:V.kindOf x=D .local\/V.kindOf x=D .cell)(s:qM B Z w A ρ V xs k lv e P ts)
  (hs:gY e (D (.Name x c)) p.line V=pure ay):ik B Z w A ρ V xs k lv (.Assign [.Name x c] e p) (P.set i (.own ts)) .next:=by
 intro hB g l Q T n S R;exact kC (s hB g l _ _ S λO t q z X y H f o h E F L d=>(gh (av:=.own ts) h n E j v b ⟨q,z,X,C,L,d,C⟩ (.sT F) λm u r a=>R m t .next (f.trans r) o ⟨h,u,_,a⟩ dj)) hs
theorem K5(ak:nP v os j)(bl:jh V xs j s)
  (aN:qN aT B Z w A ρ V xs k lv iter P c)(au:∀i∈s,∀l,P[i]?≠D (.own l))
  (F:∀bq,yj B Z w A ρ (i9 v bq V) (os++j) (U os) a H f c (nW os s P) ys aF)
  (aM:∀x,foldedSetIterable iter V x=pure x)(aP:(∃x p,a=.Name x p)\/(aT=Y/\∃Q a_ p,a=.Tuple Q a_ p))(bh:ej (U c)=Y)(T:nh os s P aF=bx)
  (bz:xs[i]?=D x)(bQ:i<k)(b_:V.kindOf x=D .local)
  (bR:gY (.ListComp f [⟨a,iter,H,0⟩] v S) (D (.Name x px)) p.line V=pure Y):
  ik B Z w A ρ V xs k lv (.Assign [.Name x px] (.ListComp f [⟨a,iter,H,0⟩] v S) p) (bx.set i (.own ys)) .next:=by
 intro hB cX c9 cJ cM G ah aj;apply mw (exec_Assign_Name_used _ _ _ _ bR);refine aG (oH (aG ?_));refine aG (kX (Kq ak bl aN au F aM aP bh ah λe ao h bq aC aE cU r aH aK l m n fD g q aY L z=>?_) (λE e O=>bM (bM O)) λE E b=>b);rw [T]at n;have y:(e.heap.get? bq).isSome=Y:=by refine jC z λo E E T E=>?_;rw [T];rfl
 refine vM (gh (hB:=hB.add [bq] e.heap) (av:=.own ys) m G (n.enter (λd hb=>by exact(cO.mp hb)▸(g)) (λd hb=>(cO.mp hb).symm▸y)) bz bQ (.inl b_) ⟨h,aC,aE,C,aY,L,C⟩ (.sT ({fD with hb:=by apply ae (lT (by simpa using q));exact fD.hb})) λbC bE bI u=>?_);have bf:bC.heap.get? bq=e.heap.get? bq:=by
  refine bH (gG.mp y) λo T=>?_;exact(T)▸(u.kept bq o (by apply ae (sy (.head _));exact T))
 have bW:=u.leave (λE E E b=>b) (λd hb=>ae (aA _ (cO.mp hb)) g.hb) n.Mx;have bZ:∀t,t<U xs->bq∉bU r i [h] t:=λt ck R=>by
  by_cases cB:t=i
  .subst cB;rw [show bU r t [h] t=[h]from aL C]at R;exact q (cO.mp R).symm
  .rw [show bU r i [h] t=r t from aJ ‹_›]at R;exact g.fp t ck R
 refine(aR aH ?_ (λcu cC=>?_))
 .exact jC z λo Q cF T X=>(l7 o Q cF (ae bf T) X)
 .exact aj _ ao .next ((aK.trans bI).trans (cH cu _ C)) l ⟨m,bE,_,bW.iH ({g with fp:=bZ}) cC⟩ dj
theorem Wj(h:gn B Z w A ρ V xs k lv c P b)(v:eX B Z w A ρ V xs k P (if b then t else z) dc e):ik B Z w A ρ V xs k lv (.If c t z p) dc e:=by
 intro hB g s Q H i S R;refine An (h hB g s _ _ S λx a q o E=>?_);have:=v hB a x Q H i E λF r L l n f d=>R F r L (q.trans l) (o.trans n) f d;cases b
 .exact this
 .exact this
theorem Wn(h:cP B Z w A ρ V xs k lv e P z):ik B Z w A ρ V xs k lv (.Return (D e) p) P (.ret z):=by
 intro hB g s Q H i S R;exact I_ (h hB g s _ _ S λc a v q o E d=>R c a _ q o E d)
theorem Wb(h:gn B Z w A ρ V xs k lv c P Y):ik B Z w A ρ V xs k lv (.Assert c i p) P .next:=by
 intro hB g s Q H x S R;exact wpAny_Assert_holds (h hB g s _ _ S λe a q o E=>⟨C,R e a .next q o E dj⟩)
theorem Wg:ik B Z w A ρ V xs k lv (.Break p) lv .brk:=λhB g s Q H e S R=>wpAny_Break (R s g .brk (bP.refl s) (Le.refl _) S dj)
theorem Wh:ik B Z w A ρ V xs k lv (.Continue p) lv .cont:=λhB g s Q H e S R=>wpAny_Continue (R s g .cont (bP.refl s) (Le.refl _) S dj)
inductive k6(B:bD O)(Z:cy)(w:bX)(A:cZ)(ρ:Mk)(V:c3)(xs:I af)(k:J)(c:cE)(body orelse:I cz)(lv lv':I (AV O))(Bs:fP)(X:I (AV O)->Prop):Prop
 |stop{aX:I (AV O)}(hc:gn B Z w A ρ V xs k lv c aX ay)(ho:eX B Z w A ρ V xs k aX orelse lv' Bs)
 |go{aX dc:I (AV O)}{fl:fP}(hc:gn B Z w A ρ V xs k lv c aX Y)(hb:eX B Z w A ρ V xs k aX body dc fl)(hf:fl=.next\/fl=.cont)(h:X dc)
 |out{aX:I (AV O)}{fl:fP}(hc:gn B Z w A ρ V xs k lv c aX Y)(hb:eX B Z w A ρ V xs k aX body lv' fl)(o:Out fl Bs)
def kG(B:bD O)(Z:cy)(w:bX)(A:cZ)(ρ:Mk)(V:c3)(xs:I af)(k:J)(c:cE)(t z:I cz):J->I (AV O)->I (AV O)->fP->Prop
 |0,lv,x,h=>k6 B Z w A ρ V xs k c t z lv x h λE=>False
 |n+1,lv,x,h=>k6 B Z w A ρ V xs k c t z lv x h λl=>kG B Z w A ρ V xs k c t z n l x h
theorem kG.stop(l:gn B Z w A ρ V xs k lv c P ay)(T:eX B Z w A ρ V xs k P z dc h):kG B Z w A ρ V xs k c t z n lv dc h:=match n with|0=>k6.stop l T|n+1=>k6.stop l T
theorem kG.go(l:gn B Z w A ρ V xs k lv c aX Y)(f:eX B Z w A ρ V xs k aX t dc h)(g:h=.next\/h=.cont)(e:kG B Z w A ρ V xs k c t z n dc m7 R):kG B Z w A ρ V xs k c t z (n+1) lv m7 R:=k6.go l f g e
theorem kG.brk(l:gn B Z w A ρ V xs k lv c P Y)(f:eX B Z w A ρ V xs k P t dc .brk):kG B Z w A ρ V xs k c t z n lv dc .next:=match n with|0=>k6.out l f .brk|n+1=>k6.out l f .brk
theorem kG.ret(l:gn B Z w A ρ V xs k lv c P Y)(f:eX B Z w A ρ V xs k P t dc (.ret r)):kG B Z w A ρ V xs k c t z n lv dc (.ret r):=match n with|0=>k6.out l f .ret|n+1=>k6.out l f .ret
theorem Lb(b:hB.lk=[])(S:SR B ρ hB g V xs k lv s.heap)(l:gn B Z w A ρ V xs k lv c P Y)(f:eX B Z w A ρ V xs k P h dc e)
  (a:∀s,aQ (aI Z w) A (execs h V) Q y s->i Y s)(x:∀t j L,bP s t->Le g j->SR B ρ hB j V xs k dc t.heap->FD ρ j L e->Q L t):aQ (aI Z w) A (PySem.isTrue c V (eval c V)) i H s:=
 l hB g s _ _ S λF r q v n=>a _ (f hB r F _ _ b n λo p L m u G d=>x o p L (q.trans m) (v.trans u) G d)
inductive Jy(B:bD O)(Z:cy)(w:bX)(A:cZ)(ρ:Mk)(V:c3)(xs:I af)(k:J)(c:cE)(body orelse:I cz)(dc:I (AV O))(fl:fP)(hB:HB)(fz:Fz)(s:aU)(n:J)(s₁:aU):Prop
 |mk(lv':I (AV O))(eT:Fz)(q:bP s s₁)(l:Le fz eT)(S:SR B ρ hB eT V xs k lv' s₁.heap)(W:kG B Z w A ρ V xs k c body orelse n lv' dc fl)
theorem k6.imp(h:k6 B Z w A ρ V xs k c t z lv dc e G)(L:∀l,G l->qP l):k6 B Z w A ρ V xs k c t z lv dc e qP:=by
 cases h with
 |stop a b=>exact .stop a b
 |go a b i h=>exact .go a b i (L _ h)
 |out a b o=>exact .out a b o
theorem kG.inv(e:kG B Z w A ρ V xs k c t z n lv dc h):k6 B Z w A ρ V xs k c t z lv dc h λl=>∃m,m<n/\kG B Z w A ρ V xs k c t z m l dc h:=by
 cases n with
 |zero=>exact k6.imp e λE=>False.elim
 |succ n=>exact k6.imp e λE q=>(aR n (fG _) q)
theorem Wo(h:kG B Z w A ρ V xs k c t z n lv dc i):ik B Z w A ρ V xs k lv (.While c t z ak) dc i:=by
 intro hB g H au aj e P R;refine wpAny_While (codeAny_whileLoop (Jy B Z w A ρ V xs k c t z dc i hB g H) ?_ n ⟨lv,g,bP.refl _,Le.refl _,P,h⟩);rintro n X⟨ao,T,q,o,E,S⟩;cases S.inv with
 |stop l O=>
  exact l hB T X _ _ E λF r s m y=>O hB r F _ _ e y λj p L v u G d=>R j p L ((q.trans s).trans v) ((o.trans m).trans u) G d
 |go l f Q b=>
  refine Lb e E l f (λa h=>h) λj p L v u G d=>?_;apply d.go Q<;>exact(b.imp λa b=>b.imp_right (Jy.mk _ p (q.trans v) (o.trans u) G))
 |out l f ah=>
  refine Lb e E l f (λa h=>h) λj p L v u G d=>?_;apply ah.fin d ?_ ?_ (λx=>R j p x (q.trans v) (o.trans u) G)
  .exact id
  .exactλa=>id
end
section
set_option tactic.hygienic true
section
variable{Z:cy}{w:bX}
theorem ZL(z:I aB)(u t:J)(v:aB):∃k,nJ (·.setIfInBounds t v) (lo z u)=lo (z.set t v) k:=⟨_,by simp [nJ];rfl⟩
theorem set_list(X:s.heap.get? l=D (lo z u))(e:-(2^62)<i)(h:i<2^62)(a:seqIndex? i (U z)=D t)
  (R:∀O k,O.get? l=D (lo (z.set t v) k)->gW l s.heap O->b () {s with heap:=O}):aQ (aI Z w) L (setItem (.ref l) (.int i A) v) b H s:=by
 refine bH (ZL z u t v) λk x=>?_;have Q:s.heap.IsList l z.toArray:=(i12 _ X C ⟨u,C⟩);have P:(lo z u).data=.seq z.toArray u:=C;have y:=R (s.heap.update l (nJ (·.setIfInBounds t v))) k (by apply ae (pR _ X (C));rw [x]) (oG ..);unfold setItem
 try with_reducible apply gH
 refine aG (wpAny_sequenceKey Q.typeIs (C) (aG (ag_ Q.typeIs slot_list_setitem
  (wpAny_call_entry slot_list_setitem Q.typeIs entry_list_setitem ?_ (args_list_setitem _ _ _)))))
 show aQ _ _ (Builtin.List.listSubscript? (.int i A)>>=_) _ _ s;rcases Pe a with⟨T,rfl,B⟩|⟨T,n,rfl,B⟩
 .refine aG (ahb (fitsIndex_of T (rP h (by decide))) ?_);clear e h;obtain⟨t,rfl⟩:=Int.eq_ofNat_of_zero_le T;have p:z.toArray[t]?=D z[t]:=by simp
  refine aG (aG (wpAny_seqItemAt X P (bM (p▸(aG (wpAny_setSeqItemAt X P ?_))))))
  first
   |exact aG (bM (bM (aR (.none) C (bM y))))
   |exact bM ⟨.none,C,bM y⟩
 .refine aG (ahb (fitsIndex_neg T (xP (by decide) (IE e))) ?_);clear e h;obtain⟨t,rfl⟩:∃t:J,i=RL t:=by
   cases i with
   |ofNat u=>exact bA T (xQ.mpr (qG u))
   |negSucc u=>exact⟨u,C⟩
  refine aG (aG (aG (yg X P (bM (bM ?_)))));have j:=by simpa using a
  have p:z.toArray[(RL t+↑z.length).toNat]?=D z[(RL t+↑z.length).toNat]:=by simp
  refine j▸?_;simp only [Af,p,DG];refine aG (wpAny_setSeqItemAt X P ?_)
  first
   |exact aG (bM (bM (aR (.none) C (bM y))))
   |exact bM ⟨.none,C,bM y⟩
theorem YC:typeLookup (.type "list") (dunderI "add")=pure (D (.builtin "list.__iadd__")):=F.slot_list_iadd.lookup
theorem YB{z G:I aB}{n h:J}(X:s.heap.get? l=D (lo z n))(f:s.heap.get? b=D (lo G h))(m:U z+U G<=2000000)
  (R:∀O k,O.get? l=D (lo (z++G) k)->gW l s.heap O->Q (.ref l) {s with heap:=O}):aQ (aI Z w) L (inplaceOp .Add (.ref l) (.ref b)) Q H s:=by
 apply gH;have a:=by
  show(typeLookup (.type "list") (dunderI "add")>>=λB=>pure (B.isSome&&!isSeqSlot B))=pure ay;show(pure (Y&&!isSeqSlot (D (.builtin "list.__iadd__"))):Sem bw)=_;exact(show isSeqSlot (D (.builtin "list.__iadd__"))=Y from by decide)▸C
 have y:s.TypeIs (.ref l) "list":=(aR _ X C);refine aG (S5 y (aG (iQ a (aG (wpAny_binaryOp1_none y ((aR _ f C)) noFill_list_add (aG (iQ (PySem.seqSlot_of YC (C)) ?_)))))));have v:(2000000:J)<=sizeLine:=by decide
 have u:z.toArray.size=U z:=by simp
 have e:G.toArray.size=U G:=by simp
 have i:¬(!z.toArray.isEmpty&&Rx (z.toArray.size+G.toArray.size))=Y:=by
  have:Rx (z.toArray.size+G.toArray.size)=ay:=by
   unfold Rx;simp only [decide_eq_false_iff_not];exactλr=>rh (jS 0 (.n 1) (.n 0) (.a (.v 0) (.v 1)) (.n 2000000) (.n 2000000) (.v 2) (.a (.v 2) (.n 1)) (.a (.v 0) (.v 1)) C [_,_,_] m v r)
  refine this▸?_;simp
 have j:nJ (λx=>x++G.toArray) (lo z n)=lo (z++G) (if(z.toArray++G.toArray).size==z.toArray.size then n else n+1):=by simp [nJ,lo]
 refine aG (yf (DK F.slot_list_iadd y F.entry_list_iadd (F.args_list_iadd_2 _ _) (AutoSeq1.list___iadd___list_list_0 l z.toArray n b G.toArray h i (by exact(u)▸(d_ 0 (.v 0) (.v 2) (.a (.v 0) (.v 1)) (.n 2000000) (.n 2000000) (.v 2) C [_,_,_] m v)) (by exact u.symm▸e.symm▸(d_ 0 (.a (.v 0) (.v 1)) (.a (.v 2) (.n 1)) (.a (.v 0) (.v 1)) (.n 2000000) (.n 2000000) (.v 2) C [_,_,_] m v))) (dI X f (R _ (if(z.toArray++G.toArray).size==z.toArray.size then n else n+1) ?_ (oG ..)))));apply ae (pR _ X (by exact C));rw [j]
end
def JZ:T->T->bg T
 |.int a,.int b=>D (.int (a+b))
 |.str a,.str b=>if ej (a.length+b.length)then D (.str (a++b))else aa
 |_,_=>aa
def qc(n:Operator)(x H:T):bg T:=match n with
 |.Add=>JZ x H
 |.Sub=>sP (λa b=>D (.int (a-b))) x H
 |.Mult=>sP (λa b=>if ir a&&ir b then D (.int (a*b))else aa) x H
 |_=>aa
variable{Z:cy}{w:bX}
theorem T7(O:Den F g E y)(e:Den F g u m)(h:JZ y m=D z):PO X (aI Z w) L F (inplaceOp .Add E u) g z:=by
 cases y with
 |int a=>cases m with
  |int b=>
   obtain rfl:=bj h;exact O.gR (P:=λv=>PO X _ L F (inplaceOp .Add v u) g _) λA=>e.gR (P:=λv=>PO X (aI Z w) L F _ g _) λi=>PO.give λs Q H r R=>P.iadd_int (R _ _ (.int _ _))
  |_=>exact aV C h
 |str a=>cases m with
  |str b=>
   refine bT (qw h) λB j=>?_;subst j;exact O.i4 (P:=λv=>PO X _ L F (inplaceOp .Add v u) g _) λA=>e.i4 (P:=λv=>PO X (aI Z w) L F _ g _) λi=>
    PO.give λs Q H r R=>SB.iadd (λi n=>CU a b▸R _ _ (.str _ _)) ((str_len a).symm▸(str_len b).symm▸kN B)
  |_=>exact aV C h
 |_=>exact aV C h
theorem A2(O:Den F g E y)(L:Den F g u m)(h:qc n y m=D z):PO X (aI Z w) i F (inplaceOp n E u) g z:=by
 cases n with
 |Add=>exact T7 O L h
 |Sub=>exact uI O L h λa b A e h=>by obtain rfl:=bj h;exact PO.give λs Q H r R=>P.isub_int (R _ _ (.int _ _))
 |Mult=>
  exact uI O L h λa b A e h=>by
   refine bT (qw h) λB j=>?_;subst j;have B:=cQ.mp B;exact PO.give λs Q H r R=>P.imul_int (R _ _ (.int _ _)) (Nc B.1 B.2)
 |_=>exact aV C h
theorem Wc(j:n[i]?=D x)(s:i<k)(B:G.kindOf x=D .local\/G.kindOf x=D .cell)(X:y[i]?=D (.t r))(E:cP au Z w L F G n k y e P m)
  (a:qc b r m=D z):ik au Z w L F G n k y (.AugAssign (.Name x aH) b e aN) (P.set i (.t z)) .next:=by
 intro T g t bh bI v S R;have u:=S;refine cps λaY d=>?_;obtain⟨h,aK,aM,l⟩:=S;obtain⟨aT,p,a_,bf,rfl,c⟩:=l.vars i x _ j X;apply d;refine ag9 (eK h l.ns p (E T g t _ _ u λbl bC bE q o O Q=>(cP.wU q o O (A2 (c.mono o) Q a) λaP ah aj H ao f ak=>?_)));obtain⟨_,bx,bz,f⟩:=f;exact gh (av:=.t z) h v f j s B ⟨C,aj,C,ak⟩ .nil λaE aC aF A=>R aE ah .next (H.trans aF) ao ⟨h,aC,_,A⟩ dj
theorem oN.self(S:aW X F hB fz G n k y m r h)(A:i<U n)(g:r i=R):oN X hB fz G n r i R where
 a:=λb f=>S.fp i A b (by rw [g];exact f)
 b:=λt p O b f e=>S.apart i t A O (iF p) b (by rw [g];exact f) e
 c:=λP s q=>(S.tab P s).2.2.2.2 i A (by rw [g];exact q)
theorem We(j:n[i]?=D x)(ao:i<k)(B:G.kindOf x=D .local\/G.kindOf x=D .cell)(X:y[i]?=D (.own bI))(aN:cP c Z w O ah G n k y aj P (.list p))
  (aH:P[i]?=D (.own H))(aM:ej (U H)=Y)(t:ej (U p)=Y):ik c Z w O ah G n k y (.AugAssign (.Name x cC) .Add aj cF) (P.set i (.own (H++p))) .next:=by
 intro T g v cM bf m S R;refine cps λr f=>?_;obtain⟨h,Q,F,l⟩:=S;obtain⟨cu,u,a,cJ,bl,rfl,bE,bQ,b_⟩:=l.vars i x _ j X;apply f;refine ag9 (eK h l.ns u (aN (T.lock i _) g v _ _ ⟨h,Q,F,l.uM j u⟩ λck ak cB q o E d=>?_));refine cps λr f=>?_;obtain⟨_,cU,cX,E⟩:=E;obtain⟨bh,z,bx,bz,bC,rfl,aC,e,aE⟩:=E.vars i x _ j aH;obtain rfl:=ku (bj ((E.locked j).det z));have E:=E.unlock;obtain⟨bR,bW,bZ,aF,L,rfl⟩:=d.inv;apply f;refine YB aC (E.bJ _ _ aF) (m8 0 (.a (.v 0) (.v 2)) (.n 2000000) (.v 0) (.v 1) (.v 2) (.v 3) (.v 1) (.n 1000000) (.v 3) (.n 1000000) C [_,_,_,_] ((iX (e.length))) ((iX (L.length))) (dh aM) (dh t)) λaK au s aP=>?_;have b:=E.CA j z aE aP s (e.append L);refine gh (av:=.own _) h m b j ao B ⟨a,_,au,C,s,e.append L,C⟩ (oN.self b ((cG.mp j).1) (by simp [bU])) λaY aT a_ A=>?_;rw [IY]at A;exact R aY ak .next ((q.trans (cH aK _ C)).trans a_) o ⟨h,aT,_,A⟩ dj
end
section
variable{B:bD O}{Z:cy}{w:bX}{A:cZ}{ρ:Mk}{V:c3}{xs:I af}{lv dc:I (AV O)}{e:cE}{l':I T}{i:J}{τ ta:T}
theorem Wa(j:xs[i]?=D x)(aM:lv[i]?=D (.own c9))(X:(x==("__debug__"))=ay)(ak:cP B Z w A ρ V xs ao lv e P τ)(r:P[i]?=D (.own l'))(s:∀x p,e≠.Starred x p)
  (aj:(a.endLine==u.line)=Y)(aC:attributeBase (.Name x c) "append" V (eval (.Name x c) V)=eval (.Name x c) V)(aN:ej (U l')=Y)
  (aT:gY (.Call (.Attribute (.Name x c) "append" a) [e] [] u) aa aY.line V=pure ay):
  ik B Z w A ρ V xs ao lv (.Expr (.Call (.Attribute (.Name x c) "append" a) [e] [] u) aY) (P.set i (.own (l'++[τ]))) .next:=by
 intro cu cC cU cX bE cJ S m;refine cps λ_ g=>?_;refine cps λcM d=>?_;obtain⟨h,y,H,l⟩:=S;obtain⟨bZ,o,T,ah,dG,rfl,L,ck,cF⟩:=l.vars i x _ j aM;apply d;apply g;have Q:∀R∈[e],∀x p,R≠.Starred x p:=λR au=>by exact(cO.mp au)▸(s)
 have k:=kL (pos:=u) (V:=V) [e] Q;refine tT (lP aC ?_ aj RC RD IC (eO (eK h l.ns o ?_) X)) (by delta interactive;exact h.kind.symm▸C) aT
 .simp only [oz,oz];refine⟨⟨?_,C⟩,C⟩;simpa using k
 refine(dI (aR _ L C) (λbR aE=>by obtain rfl:=ku aE;exact(aR _ L C)) (kA k (jM Q (qT ak lX s) ⟨h,y,H,l.uM j o⟩ λb_ f cB aH aK E b=>?_)));obtain⟨_,aP,bI,E⟩:=E;obtain⟨bQ,z,bW,G,aF,rfl,bf,n,bh⟩:=E.vars i x _ j r;obtain rfl:=ku (bj ((E.locked j).det z));have E:=E.unlock;obtain⟨v,ah,rfl,bl,b⟩:=b.jA (P:=λa_=>∃v G,a_=v::G/\Den _ _ v _/\bu _ _ G _) λv G x bz=>⟨v,G,C,x,bz⟩;cases b;refine Jb (hsz:=(by simpa [n.length]using kN aN)) ⟨aF,bf⟩ λO t bx=>bH t λbC t=>?_;have q:O.get? T=D (lo (G++[v]) bC):=by apply ae (t);simp [lo]
 exact m _ f .next (aH.trans (cH O _ C)) aK ⟨h,aP,_,(E.CA j z bh bx q (n.append (.one bl)))⟩ dj
theorem acP(S:aW B ρ x g V xs f lv m r s.heap)(j:xs[i]?=D o)(u:eE V m s.heap o (D (.ref a)))(X:r i=[a])
  (P:s.heap.get? a=D (lo G aj))(e:bu ρ g G l)(k:jQ q=Y)(O:seqIndex? q (U l)=D t)(F:Den ρ g v τ)
  (R:∀h p c,bP s h->aW B ρ x g V xs f (lv.set i (.own (l.set t τ))) p c h.heap->Q () h):aQ (aI Z w) A (setItem (.ref a) (.int q ah) v) Q ao s:=by
 refine bT (cQ.mp k) λH E=>set_list P (dh H) (dh E) (by exact(e.length)▸(O)) λy ak z L=>R _ m _ (cH y _ C) (S.CA j u X L z ?_);have:∀{G:I aB}{l:I T}(t:J),bu ρ g G l->bu ρ g (G.set t v) (l.set t τ):=by
  intro G l t d
  induction t generalizing G l with
  |zero=>cases d with
   |nil=>exact .nil
   |cons d b=>exact .cons F b
  |succ t n=>cases d with
   |nil=>exact .nil
   |cons d b=>exact .cons d (n b)
 exact this t e
theorem Lu
  (L:s.heap.get? a=D (lo G X))(B:bu ρ fz G l)(h:qm (.list l) (.int q)=D τ)
  (R:∀v,Den ρ fz v τ->Q v s):aQ (aI Z w) A (getItem (.ref a) (.int q t)) Q H s:=
 list_item B h (i12 _ L C ⟨X,C⟩) R
theorem Wf(j:xs[i]?=D x)(H:(x==("__debug__"))=ay)(aE:lv[i]?=D (.own cu))(d:cP B Z w A ρ V xs k lv s P (.int q))(r:P[i]?=D (.own o))(L:qm (.list o) (.int q)=D ta)
  (X:cP B Z w A ρ V xs k P e dc aj)(ak:dc[i]?=D (.own h))(aM:qc bI ta aj=D τ)(m:jQ q=Y)(O:seqIndex? q (U h)=D g)
  (T:∀Q a S,augStore s Q a S=(do holding [S,Q,a] (setItem Q a S);release [S,Q,a] [];pure .next)):
  ik B Z w A ρ V xs k lv (.AugAssign (.Subscript (.Name x dN) s ee) bI e eR) (dc.set i (.own (h.set g τ))) .next:=by
 intro fB p c eB eM eN y R;refine cps λn f=>?_;obtain⟨b,F,ah,l⟩:=y;obtain⟨Q,u,gV,jr,jt,rfl,cJ,c9,dG⟩:=l.vars i x _ j aE;apply f;refine PyProof.Rows.wpAny_AugAssign_Subscript_any (eO (eK b l.ns u (d _ p c _ _ ⟨b,F,ah,l.uM j u⟩ λao au ew aC o E aF=>?_)) H) T;refine cps λn f=>?_;obtain⟨_,aH,aK,E⟩:=E;obtain⟨gU,z,ic,jf,jq,rfl,aN,aP,cB⟩:=E.vars i x _ j r;obtain rfl:=ku (bj ((E.locked j).det z));obtain⟨cC,rfl⟩:=aF.inv;apply f;refine Lu aN aP L λcF aT=>X _ au ao _ _ ⟨b,aH,aK,E⟩ λcM cU cX aY h a_ bf=>cP.wU (aC.trans aY) (o.trans h) a_ (A2 (aT.mono h) bf aM) λdU bh er bl bx G bC=>cps λ_ bE=>?_;refine cps λn f=>?_;obtain⟨_,e6,fj,G⟩:=G;obtain⟨fy,t,fZ,gc,gi,rfl,bQ,bz,bW⟩:=G.vars i x _ j ak;apply f;apply bE;obtain rfl:=ku (bj ((G.locked j).det t));exact acP (G.unlock) j t bW bQ bz m O bC λbZ bR b_ ck v=>R bZ bh .next (bl.trans ck) bx ⟨b,bR,b_,v⟩ dj
class inductive t6(Z:cy)(w:bX)(A:cZ)(V:c3)(xs:I af)(k:J):I (aB->Sem Unit)->I J->Prop
 |nil:t6 Z w A V xs k [] []
 |cons{f:aB->Sem Unit}{x:af}{i:J}{fs is}:(∀(v:aB)(Q:Unit->aU->Prop)(E:aB->aU->Prop)(s:aU),aQ (aI Z w) A (DP V x v) Q E s->aQ (aI Z w) A (f v) Q E s)->
   xs[i]?=D x->i<k->(V.kindOf x=D .local\/V.kindOf x=D .cell)->t6 Z w A V xs k fs is->t6 Z w A V xs k (f::fs) (i::is)
noncomputable def CL(lv:I (AV O)):I J->I T->I (AV O)
 |i::h,t::p=>CL (lv.set i (.t t)) h p
 |_,_=>lv
set_option tactic.hygienic true in
theorem JX(e:gm V)(j:a.lk=[]){P:I _}{i:I J}(x:t6 Z w A V xs k P i):∀{z:I aB}{p:I T}{lv:I _}{m:af->bg aB}{r:J->I aq}{s:aU}{Q:Unit->aU->Prop},U i=U p->bu ρ g z p->
  aW B ρ a g V xs k lv m r s.heap->(∀h,bP s h->SR B ρ a g V xs k (CL lv i p) h.heap->Q () h)->aQ (aI Z w) A (assignInOrder P z) Q H s:=by
 induction x with
 |nil=>
  intro z p lv m r s Q X b S R;cases b with
  |nil=>exact bM (R s (bP.refl s) ⟨e,m,r,S⟩)
  |cons d b=>exact nc Sa X C
 |cons o f l v y u=>
  intro z p lv m r s Q X b S R;cases b with
  |nil=>exact nc Sa X C
  |cons d b=>
   rename_i z t p;exact aG (gH (o _ _ _ _ (gh (av:=.t t) e j S f l v ⟨C,_,C,d⟩ .nil λL O q E=>(u (by simpa using X) b E λh c n=>R h (q.trans c) n))))
theorem K6(i:cP B Z w A ρ V xs k lv e P τ)(u:p7 B Z w A ρ V xs k P (.Tuple x v c) τ dc)
  (h:swapsWithSole [.Tuple x v c] e p.line V=pure ay)(y:swappedStores [.Tuple x v c] e V=pure aa):ik B Z w A ρ V xs k lv (.Assign [.Tuple x v c] e p) dc .next:=by
 intro T g s Q H l S R;exact PyProof.Rows.Assign_Tuple (i T g s _ _ S λn a b q o E d=>(u T a n b _ _ l E d λF j f=>R F a .next (q.trans j) o f dj)) h y
set_option tactic.hygienic true in
theorem K7(o:A.handled=aa)(i:cP B Z w A ρ V xs k lv e P (.tup ts))(z:t6 Z w A V xs k (F.reverse.map λu=>bindName V u) is)(X:U is=U ts)(L:F.length=U ts)
  (O:swapsWithSole [.Tuple x v c] e p.line V=pure ay)(y:swappedStores [.Tuple x v c] e V=pure (D F)):ik B Z w A ρ V xs k lv (.Assign [.Tuple x v c] e p) (CL P is ts.reverse) .next:=by
 intro T s l aH aC t S R;refine agO (i T s l _ _ S λh eT aE q f E d=>?_) O y;refine cps λaP m=>?_;obtain⟨aF,j,aN,n,b,rfl⟩:=d.inv;have r:=E.ready;have Q:U F=j.toArray.size:=by simp [L,b.length]
 apply m;refine Q▸(ahe o (yN r.bJ n) λG H=>?_);have g:cg B eT h eT {h with heap:=G}:=cg.keeps r λaj ak e=>H aj ak (fH (fk e)) e;obtain⟨ah,aK,aM,S⟩:=E.step g;exact JX ah t z (by simpa using X) (b.reverse) S λao au a=>R ao eT .next ((q.trans g.same).trans au) f a dj
theorem zG(v:aB)(Q:Unit->aU->Prop)(H:aB->aU->Prop)(s:aU)(h:aQ (aI Z w) A (DP V x v) Q H s):aQ (aI Z w) A (bindName V x v) Q H s:=Ja h
theorem CT(v:aB)(Q:Unit->aU->Prop)(H:aB->aU->Prop)(s:aU)(h:aQ (aI Z w) A (DP V x v) Q H s):aQ (aI Z w) A (assign (.Name x c) V v) Q H s:=vM h
end
section
open PySem.Builtin.Str
variable{B:bD O}{Z:cy}{w:bX}{A:cZ}{fz:Fz}{vb:aB}
theorem SR.newList{Q:aB->aU->Prop}{tk:fT}(q:bP s c)(o:Le fz j)(S:SR B F hB j G n k P c.heap)(b:bu F j z p)
  (R:∀t j a z nn m r,bP s t->Le fz j->gm G->aW B F hB j G n k P m r t.heap->e9 B hB j G n r a->t.heap.get? a=D (lo z nn)->bu F j z p->Q (.ref a) t):
  Q (.ref c.heap.objs.size) {c with heap:=c.heap.push (lo z nn),toks:=tk}:=by
 have f:=cg.iH S.ready (lo z nn) tk;obtain⟨w,m,r,l⟩:=S;exact R _ j _ z nn m r (q.trans f.same) o w (l.step f) (l.free (gS c)) (eS _ C) b
theorem KX(h:kE B Z w A F G n k y u Q P p)(e:ej (U p)=Y):qM B Z w A F G n k y (.List Q u) P p:=by
 intro T fz s a H S R;refine wpAny_List (h T fz s _ _ S λc i z q o E b=>⟨?_,?_⟩)
 .exact(b.length)▸(kN e)
 .exact SR.newList q o E b R
theorem jj{l:I J}(d:Den F fz v (.str l)):∃A,v=.str ⟨l.toArray⟩ A:=by obtain⟨A,rfl⟩:=d.inv;exact⟨_,C⟩
theorem qf{i:aS}(d:Den F fz v (.int i)):∃A,v=.int i A:=by obtain⟨A,rfl⟩:=d.inv;exact⟨_,C⟩
theorem qg(d:Den F fz v (.list l)):∃a z u,v=.ref a/\fz a=D (lo z u)/\bu F fz z l:=by cases d;exact(BD _ _ _ C (by assumption) (by assumption))
theorem abx{l:I J}(d:Den F fz E (.str l))(h:ej (U l)=Y):PO B (aI Z w) A F (call (.builtin "len") [E]) fz (.int (U l)):=by
 refine bH (jj d) λe j=>?_;subst j;refine PO.give λs Q H r R=>P.len_str ?_ ?_
 .simp only [str_len];have:=zB h;omega
 .exact R _ _ (.int _ _)
theorem OP(d:Den F fz E (.list l))(h:ej (U l)=Y):PO B (aI Z w) A F (call (.builtin "len") [E]) fz (.int (U l)):=by
 refine jl (qg d) λi z a u S b=>?_;subst u;refine PO.give λs Q H r R=>Calls.call_len_list (gy r.bJ S) ?_ ?_
 .have:=zB h;simpa [b.length]using this
 .have e:z.toArray.size=U l:=by simp [b.length]
  exact e.symm▸(R _ _ (.int _ _))
theorem abA{c:J}(d:Den F fz E (.str [c])):PO B (aI Z w) A F (call (.builtin "ord") [E]) fz (.int c):=by
 refine bH (jj d) λh j=>?_;subst j;exact PO.give λs Q H r R=>P.ord_of_char (R _ _ (.int _ _))
noncomputable def CV:I T->bg (I (I J))
 |[]=>D []
 |.str x::r=>(CV r).map (x::·)
 |_::_=>aa
set_option tactic.hygienic true in
theorem PV:∀{p:I T}{S:I _}{z:I aB},CV p=D S->bu F fz z p->PyProof.Rows.StrsAre z (S.map λl=>(⟨l.toArray⟩))
 |[],S,z,h,d=>by obtain rfl:=bj h;obtain rfl:=d.ja C;exact .nil
 |A::r,S,z,h,d=>by
  cases d with
  |cons d b=>
   cases d<;>first|exact aV C h|skip
   refine ai (pV.mp h) λa w e=>?_;subst e;exact .cons _ _ (PV w b)
theorem OO(O:Den F fz E (.str i))(L:Den F fz vb (.list p))(h:CV p=D x)(m:(x.map (U ·)).sum+U x*U i<=16777216){r:I J}
  (s:Ai ⟨i.toArray⟩ (x.map λl=>(⟨l.toArray⟩))=⟨r.toArray⟩):PO B (aI Z w) A F (call (.builtin "str.join") [E,vb]) fz (.str r):=by
 refine bH (jj O) λn j=>?_;subst j;refine jl (qg L) λa z o u S b=>?_;subst u;refine PO.give λt Q H k R=>Sw (gy k.bJ S) ((PV h b)) ?_ λP q=>?_
 .have e:(x.map λl=>(⟨l.toArray⟩:af)).map (·.length)=x.map (U ·):=by
   apply ae (dH);exact C
  simp only [e,dg];exact m
 .exact s.symm▸(R _ _ (.str _ _))
end
section
open PySem.Builtin.Str
noncomputable def u4{R:Type}(A:T)(L:aS->bg R):bg R:=match A with
 |.int i=>L i
 |_=>aa
theorem wW(h:u4 A L=D H):∃i,A=.int i/\L i=D H:=by
 cases A with
 |int i=>exact(aR i C h)
 |_=>exact aV C h
def G3:I T->bg (aS×aS×aS)
 |[A]=>u4 A λb=>D (0,b,1)
 |[A,y]=>u4 A λa=>u4 y λb=>D (a,b,1)
 |[A,y,v]=>u4 A λa=>u4 y λb=>u4 v λc=>if c==0 then aa else D (a,b,c)
 |_=>aa
noncomputable def sX:aS×aS×aS->bw
 |(a,b,c)=>aO (a.natAbs<2^40)&&aO (b.natAbs<2^40)&&aO (c.natAbs<2^29)
noncomputable def ro:aS×aS×aS->I T
 |(a,b,c)=>(dz (tI a b c).toNat).map λ(i:J)=>.int (a+(i:aS)*c)
theorem yR{a:aS}(h:a.natAbs<u):-(u)<a/\a<u:=⟨afW (IG (Int.natAbs_neg a▸Int.le_natAbs) (jY.mpr h)),IG Int.le_natAbs (jY.mpr h)⟩
theorem KJ{a b c:aS}(u:a.natAbs<1099511627776)(f:b.natAbs<1099511627776)(l:0<c)(h:a<b):0<=(b-a-1)/c+1/\(b-a-1)/c+1<4398046511104:=by
 have n:=Int.sub_nonneg_of_le (Int.le_sub_left_of_add_le h);exact⟨Int.add_nonneg (Int.ediv_nonneg n (IE l)) (by decide),IG (Int.add_le_add_right (xP (Int.ediv_le_self _ n) (Int.sub_le_self _ (by decide))) 1) (rP (Int.add_lt_add_right (RJ (yR f).2 (afW (yR u).1)) 1) (by decide))⟩
theorem OZ(u:a.natAbs<2^40)(f:b.natAbs<2^40)(l:c≠0):0<=tI a b c/\tI a b c<4398046511104:=by
 have E:(0:aS)<=0/\(0:aS)<4398046511104:=⟨by decide,by decide⟩
 by_cases h:c>0
 .by_cases q:a<b
  .rw [tI,aL h,aL q];exact KJ u f h q
  .rw [tI,aL h,aJ q];exact E
 .by_cases q:a>b
  .rw [tI,aJ h,aL q];exact KJ f u (Int.neg_pos_of_neg (Int.lt_iff_le_and_ne.mpr ⟨xQ.mp h,l⟩)) q
  .rw [tI,aJ h,aJ q];exact E
theorem E2(h:-4398046511104<i/\i<4398046511104):Ry i=Y:=
 cQ.mpr ⟨cL (xP (by decide) (IE h.1)),cL (rP h.2 (by decide))⟩
theorem E3(h:-1099511627776<i/\i<1099511627776):Ry i=Y:=E2 ⟨rP (by decide) h.1,rP h.2 (by decide)⟩
theorem JD(h:-1099511627776<b/\b<1099511627776)(f:-536870912<c/\c<536870912)(k:-1<=d/\d<=1):Ry (b+(c+d))=Y:=
 E2 ⟨rP (by decide) (RJ h.1 (afS f.1 k.1)),rP (RJ h.2 (afS f.2 k.2)) (by decide)⟩
theorem CE(h:sX (a,b,c)=Y):a.natAbs<2^40/\b.natAbs<2^40/\c.natAbs<2^29:=
 have w:=cQ.mp h;have v:=cQ.mp w.1
 (dI (dh v.1) (dh v.2) (dh w.2))
theorem acZ(h:sX (a,b,c)=Y)(l:c≠0):afJ a b c=Y:=by
 refine cps λx e=>?_;refine gv (CE h) λw v R=>?_;have g:=OZ w v l;have f:=yR (R);have L:=yR (v);apply e;delta afJ;rw [E3 (yR (w)),E3 L,E3 ⟨rP (by decide) f.1,rP f.2 (by decide)⟩,E2 ⟨afV (by decide) g.1,g.2⟩,show c-1=c+-1 from C,JD L f ⟨by decide,by decide⟩,JD L f ⟨by decide,by decide⟩,ite_self,Rw];rfl
variable{w:bX}
set_option tactic.hygienic true in
theorem VL(j:L.handled=aa)(s:cP X m w L F aM n g y e P (.tup p)):qN ay X m w L F aM n g y e P p:=by
 intro T aj t a_ aT aC aE;refine s T aj t _ _ aC λc aN v q o E k=>?_;obtain⟨a,z,aP,S,h,rfl⟩:=k.inv;have r:=E.ready;have Q:=yN r.bJ S;have u:=h.length;apply wpAny_pyIter_tuple Q;have i:=cg.iH r {cls:=.type "tuple_iterator",data:=.fields #[.ref a,.int 0 0]} c.toks;obtain⟨O,G,ah,l⟩:=E;have x:=fk (r.bJ _ _ S);have H:=Walks.tuple (prog:=m) (w:=w) j c.heap.objs.size a (fH x) z.toArray;simp only [show z.toArray.size=U p from by assumption]at H;refine aE _ aN _ _ _ _ _ G ah (q.trans i.same) o O (l.step i) H (λao v d=>?_) ⟨(i12 _ (eS _ C) C C),Q.at λau e=>eG _ e⟩ (λb f=>?_) (λb f=>?_) (λb f=>?_) (λao s ak b f=>by rw [cO.mp f];refine bT ak λaH aK=>?_;refine ai (aH) λau aF aK=>?_;rw [aF];rfl) ((cY C))
 .have d:=by simpa using d
  have A:=u▸(cG.mp d).1;refine ai (h.get (dB A)) λaY R B=>?_;simp only [d]at R;exact bj R▸((aR _ (dB A) B))
 .exact(cO.mp f)▸(⟨l.free (gS c),aA _ (eS _ C)⟩)
 .rcases cD.mp f with rfl|f
  .exact .inl (.head _)
  .refine(cO.mp f)▸?_;right;left;exact cV S
 .simp only [lM];rcases cD.mp f with rfl|f
  .exact fG _
  .exact(cO.mp f)▸(jZ x)
theorem Walks.bound{u:J}(W:Walks m w L a R z u P h):Walks m w L a R z u (λi v=>i<u/\P i v) h where
 sub:=W.sub
 frame:=W.frame
 item:=λi s Q H A O e=>W.item i s Q H A O λv x n t=>e v x n ⟨A,t⟩
 done:=W.done
 self:=W.self
theorem UA(b:bu F g z S)(h:G3 S=D r)(T:sX r=Y)
  (R:∀A y v o,r.2.2≠0->Q (.ref s.heap.objs.size) {s with heap:=s.heap.push {cls:=.type "range",data:=.fields #[.int r.1 A,.int r.2.1 y,.int r.2.2 v]},toks:=o}):aQ (aI m w) L (call (.type "range") z) Q H s:=by
 cases S with
 |nil=>exact aV C h
 |cons x S=>
  obtain⟨E,G,rfl,a,B⟩:∃E G,z=E::G/\Den F g E x/\bu F g G S:=b.jA (P:=λz=>∃E G,z=E::G/\Den F g E x/\bu F g G S) λv G d b=>(gx v G C d b);cases S with
  |nil=>
   refine ai (wW h) λi j h=>?_;subst j;obtain rfl:=bj h;exact B.ja (P:=λG=>aQ _ L (call _ _) Q H s) (a.gR (P:=λE=>aQ (aI m w) L (call (.type "range") [E]) Q H s) λA=>call_range_1 (R _ _ _ _ (nofun)))
  |cons ah S=>cases S with
   |nil=>
    refine cps λX p=>?_;refine ai (wW h) λi j h=>?_;subst j;refine ai (wW h) λt j h=>?_;subst j;obtain rfl:=bj h;refine ai B.jc λu j e=>?_;subst j;apply p;exact a.gR (P:=λE=>aQ _ L (call _ [E,u]) Q H s) λA=>e.gR (P:=λu=>aQ _ L (call _ [.int i A,u]) Q H s) λy=>call_range_2 (R _ _ _ _ (nofun))
   |cons c S=>cases S with
    |nil=>
     refine cps λ_ q=>ai (wW h) λi j h=>?_;subst j;refine ai (wW h) λt j h=>?_;subst j;refine ai (wW h) λc j O=>?_;subst j;refine e5 B.HJ λu k n e P=>?_;subst n;apply q;cases l:c==0 with
     |true=>
      rw [l]at O;exact aV C O
     |false=>
      rw [l]at O;obtain rfl:=bj O;have l:c≠(0:aS):=λf=>by subst f;exact cY C l.symm
      exact a.gR (P:=λE=>aQ (aI m w) L (call (.type "range") [E,u,k]) Q H s) λA=>e.gR (P:=λu=>aQ (aI m w) L (call (.type "range") [.int i A,u,k]) Q H s) λy=>
       P.gR (P:=λk=>aQ (aI m w) L (call (.type "range") [.int i A,.int t y,k]) Q H s) λv=>call_range_3 l (R _ _ _ _ l) (.inl (PyProof.noPylong_small (qJ (CE T).2.2 (dK _ _))))
    |cons d S=>exact aV C h
theorem VJ(j:fe e O s)(B:L.handled=aa)(z:G.kindOf "range"=D .globalImplicit)(ah:O "range"=aa)(d:s "range"=D (.type "range"))
  (i:∀k∈Q,∀g p,k≠.Starred g p)(h:kE e m w L aj G ak ao F aC Q aE aH)(u:G3 aH=D r)(T:sX r=Y):
  qN ay e m w L aj G ak ao F (.Call (.Name "range" p) Q [] aC) aE (ro r):=by
 intro a_ bf aM aT aY S R;refine kD (nY j S.1 S.ready.base z ah d (C) (agQ (kL Q i) (jM i h S λn aN aP q o E t=>(UA t u T λA y v P l=>?_))));obtain⟨a,b,c⟩:=r;have f:=cg.iH (E.ready) {cls:=.type "range",data:=.fields #[.int a A,.int b y,.int c v]} P;apply wpAny_pyIter_range (IsRange.new _ a b c A y v) (acZ T l);have X:U (ro (a,b,c))=(tI a b c).toNat:=by simp [ro]
 have H:=Walks.range (prog:=m) (w:=w) B (n.heap.push {cls:=.type "range",data:=.fields #[.int a A,.int b y,.int c v]}).objs.size a c (tI a b c).toNat;have H:=Walks.bound H;rw [<-X]at H;refine EU (eI:=0) (q.trans f.same) o (E.step f) C H (λau v d=>?_) ?_ (λau h aF=>?_) R
 .obtain⟨x,aK,rfl⟩:=d;simp only [X]at x;refine(aR _ ?_ (.int _ _));refine ae (jv) ?_;rw [List.getElem?_range x];rfl
 .refine ae (eS _ C) ?_;simp [(by exact(X)▸(afX ((OZ (CE T).1 (CE T).2.1 l).1)))]
 .exact aA _ (aF)
end
section
open PySem.Builtin.Str
def Jk(X:bD q)(m:cy)(w:bX)(L:cZ)(F:Mk)(G:c3)(n:I af)(k:J)(y:I (AV q))(e:cE)(p:I T)(x:I (AV q)):Prop:=
 ∀(h:HB)(g:Fz)(s:aU)(A:aq)(E:iR aB)(Q:Unit->aU->Prop)(H:aB->aU->Prop),h.lk=[]->SR X F h g G n k y s.heap->s.heap.IsTuple A E->bu F g E.toList p->
  (∀t,bP s t->SR X F h g G n k x t.heap->Q () t)->aQ (aI m w) L (assign e G (.ref A)) Q H s
def Az(X:bD q)(m:cy)(w:bX)(L:cZ)(F:Mk)(G:c3)(n:I af)(k:J)(h:cE)(e:I cE)(o:cE)(p:I (I T))(y:I (AV q))(S:I T)(x:I (AV q)):Prop:=
 mQ X m w L F G n k e o (λy A x=>Jk X m w L F G n k y h A x) p y S x
def AF(X:bD q)(m:cy)(w:bX)(L:cZ)(F:Mk)(G:c3)(n:I af)(k:J)(x:I (AV q))(o:cE)(f:I (AV q))(p:I (I T)):Prop:=
 ∀(e:HB)(g:Fz)(s:aU)(Q:aB->aU->Prop)(H:aB->aU->Prop),SR X F e g G n k x s.heap->
  (∀(t:aU)(j:Fz)(a:aq)(R z B:I aq)P y u l r,bP s t->Le g j->gm G->aW X F e j G n k f l r t.heap->WalksT m w L a R z p.length P y u->(∀i v,P i v->∃A,p[i]?=D A/\bu F j v.toList A)->
   y 0 t.heap->(∀b∈z,b∈B)->(∀b∈B,e9 X e j G n r b/\(t.heap.get? b).isSome=Y)->(∀b∈R,b∈B\/(j b).isSome=Y)->(∀b∈R,b<t.heap.objs.size)->(∀b∈B,b∈R)->
   (∀i h,y i h->∀b∈B,(h.get? b).isSome=Y)->(∀i T h,u i T h->∀b∈B,(h.get? b).isSome=Y)->Q (.ref a) t)->
  aQ (aI m w) L (eval o G) (λd c=>aQ (aI m w) L (pyIter d) Q H c) H s
variable{Z:cy}{w:bX}{os:I af}
theorem UY{c:HB}{s:aU}{R z B:I aq}{P:J->iR aB->Prop}{y:J->cf->Prop}{ah:J->aq->cf->Prop}{r:I cE}{E:J}{Q:ig}(cB:gm G)
  (H:WalksT Z w L eB R z (U p) P y ah)(aF:∀i v,P i v->∃A,p[i]?=D A/\bu F g v.toList A)(aY:y 0 s.heap)(b_:∀b∈z,b∈B)
  (bz:∀b∈R,b∈B\/(g b).isSome=Y)(bQ:k∉R)(cC:k∉B)(cM:∀i h,y i h->∀b∈B,(h.get? b).isSome=Y)(fy:∀i T h,ah i T h->∀b∈B,(h.get? b).isSome=Y)
  (bx:u=.Tuple r E Q)(bC:ej (U p)=Y)
  (S:aW X F (c.add (k::B) s.heap) g G x q dG ko gV s.heap)(eM:s.heap.get? k=D (lo [] 0))
  (eN:Az X Z w L F G x q u aH aK p dG aM aN)
  (aP:∀t j a_ bh d bl O n,bP s t->Le g j->aW X F (c.add (k::B) t.heap) j G x q aN a_ bh t.heap->t.heap.get? k=D (lo d bl)->bu F j d aM->
   (∀b o,b∉B->t.heap.get? b=D o->O.get? b=D o)->bE (.ok .next) {t with heap:=O,toks:=n})(bI:c.lk=[]):
  codeAny (aI Z w) L (.compLoop (.ListComp aK [⟨u,gi,aH,0⟩] gU gc) 0 (.ref eB) (.ref k) G) bE s:=by
 have l:∀{b},b∉B->b∉z:=λh bR=>h (b_ _ bR);refine Kr cB H.frame (λs bW bZ e ck=>H.done s bW bZ e λO n cu=>ck O n λb o f a=>cu b o (l f) a) (λ{i A}cF bf ic jf jq jt fB ak e cU cX S c9=>(H.item i cF _ _ (cG.mp ak).1 e λT ao O n dN jr dU aj ee=>(ai (aF i ao dN) λfZ cJ ew=>?_))) aY (λb f=>(bz b f).imp id .inl) bQ cC cM bC S eM eN aP;subst bx;refine H.go r E Q i T _ _ _ aj λm aC au=>ai dU λo er eR=>?_;have aE:=λb o f a=>au b o (l f) (ee b o (l f) a);exact cX (c.add _ m) bf _ T ao _ _ bI (S m aE aC) (aR o (au T o (H.apart i T O aj) er) eR) ((bj (ae ak.symm cJ)).symm▸ew.mono cU) λe6 fj aT=>c9 m e6 aE aC (bP.trans (cH m n C) fj) aT
theorem UX(r:nP v os aT)(a:jh G n aT i)
  (fZ:AF X Z w L F G n Q ah O P aK)(bl:∀eN∈i,∀l,P[eN]?≠D (.own l))
  (bE:∀d,Az X Z w L F (i9 v d G) (os++aT) (U os) g aj aC aK (nW os i P) eR eM)
  (bz:∀T,foldedSetIterable O G T=pure T)(ck:g=.Tuple mC x lJ)(eB:ej (U aK)=Y)
  (S:SR X F hB a_ G n Q ah u.heap)
  (bx:∀t j(aZ d:aq)z s m h dU,bP u t->Le a_ j->gm G->aW X F hB j G n Q (nh os i P eM) m h t.heap->e9 X hB j G n h aZ->e9 X hB j G n h d->aZ≠d->
   t.heap.get? aZ=D (lo z s)->bu F j z eR->t.heap.Ns d dU->compPost (aI Z w) L ak ao au (.ref aZ) d (.ok .next) t):
  aQ (aI Z w) L (comprehension (.ListComp aC [⟨g,O,aj,0⟩] v bW) v G mz (newList []) ay (eval O G) ao) au ak u:=by
 have dG:∀p∈v.names,p.2=.free->(G.cells.lookup p.1).isSome=Y:=by
  intro p cu cC;refine cps λaE x=>?_;obtain⟨k,m,h,S⟩:=S;have R:=r.free p cu cC;obtain⟨f,aF,e⟩:=af' R;have bC:f<U i:=by simp only [a.len];exact aF
  have aH:=a.at_ f _ p.1 (dB bC) (by apply ae (dB aF);rw [e]);have bI:i[f]<U ah:=by simp only [S.len];exact(cG.mp aH).1
  obtain⟨nF,bR,_⟩:=S.vars _ _ _ aH (dB bI);apply x;rcases bR with⟨q,_⟩|⟨_,jq,b_,_⟩
  .exact bA q (a.nl _ R)
  .exact cV b_
 refine ag' C bz (Ez dG) r.kind r.names (fZ hB a_ u _ _ S λc ko cB kR jf kT lK jr kS m h cJ cM k aM H cU cX c9 aN dN aP bQ bZ ee=>(DN (Nn r.kind ?_)));have y:c.heap.objs.size<(c.heap.push (lo [] 0)).objs.size:=by simp only [lM];exact fG _
 obtain⟨cF,er⟩:=PD (ol:=lo [] 0) r a k aM aN bl C C C C;have ew:bF c.heap (pushCells ((c.heap.push (lo [] 0)).push {cls:=.type "dict",data:=.dict #[]}) v.names):=λb o e=>ye _ _ b o (eG _ (eG _ e));have A:=λb E=>aP b (bQ b E);have bf:=H.frame 0 _ _ cX λb aE o e=>ew b o e;have aY:codeAny (aI Z w) L (.compLoop (.ListComp aC [⟨g,O,aj,0⟩] v bW) 0 (.ref cB) (.ref c.heap.objs.size) (i9 v (c.heap.push (lo [] 0)).objs.size G))
   (compPost (aI Z w) L ak ao au (.ref c.heap.objs.size) (c.heap.push (lo [] 0)).objs.size) {c with heap:=pushCells ((c.heap.push (lo [] 0)).push {cls:=.type "dict",data:=.dict #[]}) v.names}:=by
  refine UY cF H cU bf c9 dN (λq=>(λb E=>fH (aP b E)) _ q C) (λq=>i7 _ (A _ q)) bZ ee ck eB er ?_ (bE _) ?_ C
  .exact ye _ _ _ _ (eG _ (eS _ C))
  .intro t j fj jt z s fy fB q l bh gc gi B;refine cps λaE x=>?_;refine sH (PC r a aM aN bl y l bh) λgV gU ic e6=>?_;exact x (bx _ j _ _ z s _ _ fj ((cJ.trans q).trans (cH fy fB C)) (cM.trans l) k (gV.Mz e6 B) gU ic (fH y) (B _ _ (λq=>i7 _ (A _ q)) gc) gi (Ck bh.ns λo=>B _ o (λq=>i7 _ (qJ y (A _ q)))))
 exact ag7 aY (H.self 0 _ _ _ bf aY)
theorem VH(r:nP v os b)(i:jh G n b a)
  (c:AF X Z w L F G n t y O P p)(u:∀aT∈a,∀l,P[aT]?≠D (.own l))
  (f:∀d,Az X Z w L F (i9 v d G) (os++b) (U os) h s o p (nW os a P) S H)
  (B:∀x,foldedSetIterable O G x=pure x)(q:h=.Tuple bf bh aY)(g:ej (U p)=Y)(T:nh os a P H=E):
  qM X Z w L F G n t y (.ListComp o [⟨h,O,s,0⟩] v bC) E S:=by
 intro bE a_ bl bx bz A R;refine UX r i c u f B q g A λbI Q k d z ah aj ak ao m l aC aE aF aH au aM aN aK=>(aR ao aK (λaP e=>?_));have j:=aE.iH aH e;rw [T]at j;exact R _ Q k z ah aj ak (m.trans (cH aP _ C)) l aC j aF ((e.2 k au).trans aM) aN
theorem KV(B:L.handled=aa)(z:t6 Z w L G n k ((assignEach x G).map (·.2)) is)(X:U is=d.length)(l:(assignEach x G).findIdx? (·.1)=aa):Jk j Z w L F G n k y (.Tuple x c H) d (CL y is d):=by
 intro T g s Q E ao ak i S q b R;have t:∀{P:I (aB->Sem Unit)}{is:I J},t6 Z w L G n k P is->U P=U is:=by
  intro P is h
  induction h with
  |nil=>rfl
  |cons _ _ _ _ _ a=>simp [a]
 refine wpAny_assign_Tuple B q ?_ l λO m=>?_
 .have:=t z;rw [dg]at this;apply ae (this);apply ae (X);rw [<-b.length];rfl
 .have f:cg j g s g {s with heap:=O}:=cg.keeps (S.ready) λv o e=>m v o (fH (fk e)) e;obtain⟨r,ah,aj,S⟩:=S.step f;exact JX r i z X b S λu p A=>R u (f.same.trans p) A
theorem zq{u a b:J}(h:a≠b):u+a≠u+b:=λq=>h (ags q)
theorem Ra{u b:J}(h:0<b):u≠u+b:=fH (Se h)
theorem zl{a u b:J}(h:a<u):a≠u+b:=fH (eH h (fO _ _))
theorem AU{P:aq->Prop}{a b c d e:aq}(w:P a)(v:P b)(R:P c)(g:P d)(H:P e):∀x∈[a,b,c,d,e],P x:=bO w (bO v (bO R (bO g (bO H eJ))))
theorem wA{h:cf}{P:bL->Prop}(x:∃o,h.get? a=D o/\P o):(h.get? a).isSome=Y:=ai x λE e E=>cV e
theorem WS(eB:fe H eN a_)(bI:aP.handled=aa)(cu:G.kindOf "zip"=D .globalImplicit)(bl:eN "zip"=aa)(d:a_ "zip"=D (.type "zip"))
  (L:∀e∈Q,∀ah p,e≠.Starred ah p)(s:kE H Z w aP bQ G bR ck cB cJ Q bW [.list aK,.list aN]):
  AF H Z w aP bQ G bR ck cB (.Call (.Name "zip" p) Q [] cJ) bW ((aK.zip aN).map λh=>[h.1,h.2]):=by
 intro gi gU gV ic fy S bh;refine kD (nY eB S.1 S.ready.base cu bl d (C) (agQ (kL Q L) (jM L s S λc cU eR cC aY y b=>?_)));cases b with|cons bx b=>cases b with|cons bz b=>
 obtain rfl:=b.ja C;refine jl (qg bx) λbC z fj u i A=>?_;subst u;refine jl (qg bz) λcX m fZ u x R=>?_;subst u;have r:=y.ready;refine call_zip_2 (gy r.bJ i) (gy r.bJ x) λgc g aj ak q au bE B=>?_;have X:=fk (r.bJ _ _ i);have f:=fk (r.bJ _ _ x);apply wpAny_pyIter_zip g;obtain⟨aT,bZ,b_,l⟩:=y;have aC:=cg.keeps (t:=c.toks) r B;have a:∀aE,c.heap.get? _=aa:=λaE=>by
  cases cF:c.heap.get? (c.heap.objs.size+aE)with
  |none=>rfl
  |some o=>exact bA (fk cF) (ie.mpr (fO _ _))
 have cM:ZipApart (c.heap.objs.size+4) (c.heap.objs.size+2) (c.heap.objs.size+3) c.heap.objs.size (c.heap.objs.size+1) bC cX:=by
  constructor<;>first|exact zq (nofun)|exact Ra (gE _)|exact(Ra (by exact gE _)).symm|exact zl X|exact(zl X).symm|exact fH X|exact vH X|exact zl f|exact(zl f).symm|exact fH f|exact vH f
 have aF:=WalksT.zip2 (prog:=Z) (w:=w) bI _ _ _ _ _ _ _ cM z.toArray m.toArray;have bf:min z.toArray.size m.toArray.size=U ((aK.zip aN).map λh=>[h.1,h.2]):=by simp [(A.length),(R.length)]
 simp only [bf]at aF;refine bh _ cU _ _ _ [c.heap.objs.size+4,c.heap.objs.size+3,c.heap.objs.size,c.heap.objs.size+1,c.heap.objs.size+2] _ _ _ bZ b_ (cC.trans aC.same) aY aT (l.step aC) aF (λao e6 d=>?_)
  (Yu g aj (cH _ _ ak) q au ((gy r.bJ i).at λo e=>B _ o e) ((gy r.bJ x).at λo e=>B _ o e)) (bO (.head _) (bO (.tail _ (.head _)) (bO (.tail _ (.tail _ (.head _))) (bO (.tail _ (.tail _ (.tail _ (.head _)))) eJ))))
  (AU ⟨l.free (a 4),cV g⟩ ⟨l.free (a 3),cV ak⟩ ⟨l.free (a 0),wA q⟩ ⟨l.free (a 1),wA au⟩ ⟨l.free (a 2),cV aj⟩)
  (bO (.inl (.head _)) (bO (.inl (.tail _ (.tail _ (.tail _ (.tail _ (.head _)))))) (bO (.inl (.tail _ (.head _))) (bO (.inl (.tail _ (.tail _ (.head _)))) (bO (.inl (.tail _ (.tail _ (.tail _ (.head _))))) (bO (.inr (cV i)) (bO (.inr (cV x)) eJ)))))))
  (λdG dN=>bE▸bO (P:=(·<c.heap.objs.size+5)) (z_ (by exact fG _) _) (bO (z_ (by exact dK _ _) _) (bO (z_ (by exact dK _ _) _) (bO (Se (gE _)) (bO (z_ (by exact dK _ _) _) (bO (eH X (fO _ _)) (bO (eH f (fO _ _)) eJ)))))) dG dN)
  (AU (.head _) (.tail _ (.tail _ (.head _))) (.tail _ (.tail _ (.tail _ (.head _)))) (.tail _ (.tail _ (.tail _ (.tail _ (.head _))))) (.tail _ (.head _)))
  (λao s O=>?_) (λao T s O=>?_)
 .refine e5 d λah fB dU v ee=>?_;subst ee;have v:=by simpa using v
  refine ai (A.LC (by simpa using dU)) λaM c9 ew=>ai (R.LC v) λaH er eM=>(aR ([aM,aH]) ?_ (.cons ew (.cons eM .nil)));apply ae (jv);rw [(IU (z:=(aM,aH))).mpr ⟨c9,er⟩];rfl
 .refine uh O λF P k t n E=>?_;refine jO (k) λE E j=>?_;exact AU (cV F) (cV j) (wA t) (wA n) (cV P)
 .refine uh O λF P k t n E=>?_;refine jO (k) λE E j=>?_;exact AU (cV F) (cV j) (wA t) (wA n) (cV P)
end
section
open PySem.Builtin.Str
theorem Ho:Slot "method_descriptor" "__get__" "method_descriptor.__get__":=
 .of (owner:="method_descriptor") (n:="__get__") (by kernel_rfl) (C) (C) (C)
  (by first|exact .inl (C)|exact .inr _) (by exact C)
theorem Z0:typeLookup (.type "method_descriptor") "__set__"=pure aa:=by kernel_rfl
theorem ZZ:typeLookup (.type "method_descriptor") "__delete__"=pure aa:=by kernel_rfl
theorem VT:entryFor table "method_descriptor.__get__"=D Builtin.«method_descriptor.__get__»:=Ak (C)
theorem T4(a b c:aB):argsOk "method_descriptor.__get__" ⟨[a,b,c],[]⟩:=by kernel_rfl
theorem sub_list_self:isSubtype (.type "list") (.type (".".intercalate ("list.append".cutAt '.').dropLast))=pure Y:=by
 exact C
variable{E:aB->aU->Prop}{os:OsState}
theorem TZ(j:h.get? a=D o)(l:o.cls=.type "list")(k:i (.ok (.ret (.ref h.objs.size))) ⟨h.push (qb a),f,d,A,os⟩):
  codeAny (aI m w) L (.call (.builtin "method_descriptor.__get__") ⟨[.builtin "list.append",.ref a,.type "list"],[]⟩) i ⟨h,f,d,A,os⟩:=by
 have q:(⟨h,f,d,A,os⟩:aU).TypeIs (.ref a) "list":=(aR _ j l);have n:=sub_list_self;refine qL Ho.plain VT (Ho.check _ _ _ _ _ _ _ _ (IC) (T4 _ _ _) ?_)
 repeat(any_goals(first|assumption|wp_step))
theorem TX(j:h.get? a=D {cls:=.type "list",dict:=aa,data:=.seq t u,slots:=#[]})(k:Q (.done (.ret (.ref h.objs.size))) ⟨h.push (qb a),f,d,A,os⟩):
  aQ (aI m w) L (Builtin.«object.__getattribute__» ⟨[.ref a,.str "append" n],[]⟩) Q E ⟨h,f,d,A,os⟩:=by
 have q:(⟨h,f,d,A,os⟩:aU).TypeIs (.ref a) "list":=(aR _ j C);have e:(⟨h,f,d,A,os⟩:aU).TypeIs (.builtin "list.append") "method_descriptor":=IC;have B:typeLookup (.type "list") "append"=pure (D (.builtin "list.append")):=RD.lookup;have i:=Ho.lookup;have l:=Z0;have x:=ZZ
 repeat(any_goals(first|assumption|wp_step))
 apply TZ j C
 repeat(any_goals(first|assumption|wp_step))
theorem TV(j:h.get? a=D {cls:=.type "list",dict:=aa,data:=.seq t u,slots:=#[]})(k:i (.ok (.ret (.ref h.objs.size))) ⟨h.push (qb a),f,d,A,os⟩):
  codeAny (aI m w) L (.call (.builtin "list.__getattribute__") ⟨[.ref a,.str "append" n],[]⟩) i ⟨h,f,d,A,os⟩:=
 qL IB.plain F.entry_list_ga (IB.check _ _ _ _ _ _ _ _ ((aR _ j C)) (F.args_list_getattribute_2 _ _) (TX j k))
theorem TU(j:h.get? a=D {cls:=.type "list",dict:=aa,data:=.seq t u,slots:=#[]})(k:Q (.ref h.objs.size) ⟨h.push (qb a),f,d,A,os⟩):
  aQ (aI m w) L (getAttrBy (.ref a) (.str "append" n) Y Y) Q E ⟨h,f,d,A,os⟩:=by
 have q:(⟨h,f,d,A,os⟩:aU).TypeIs (.ref a) "list":=(aR _ j C);have v:=IB.lookup;have s:=IB.bind (.ref a)
 repeat(any_goals(first|assumption|wp_step))
 apply TV j
 repeat(any_goals(first|assumption|wp_step))
theorem TT(j:h.get? a=D {cls:=.type "list",dict:=aa,data:=.seq t u,slots:=#[]})(k:Q (.ref h.objs.size) ⟨h.push (qb a),f,d,A+1,os⟩):
  aQ (aI m w) L (getAttr (.ref a) "append" Y) Q E ⟨h,f,d,A,os⟩:=by
 repeat(any_goals(first|assumption|with_reducible apply TU j|wp_step))
theorem TY(O:attributeBase e "append" G (eval e G)=eval e G)
  (h:aQ (aI m w) L (eval e G) (λv c=>v=.ref a/\c.heap.get? a=D {cls:=.type "list",dict:=aa,data:=.seq t u,slots:=#[]}/\Q (.ref c.heap.objs.size) {c with heap:=c.heap.push (qb a),toks:=c.toks+1}) E s)
  (z:∀o r,letTemporaryGo e o r=pure ()):
  aQ (aI m w) L (eval (.Attribute e "append" p) G) Q E s:=by
 simp only [arm_eval_Attribute,O];refine aG (kX h (λv c i=>(gv i λn j k=>?_)) λb b x=>x);subst n;refine aG (oH (aG (gH (TT j ?_))));rw [z];exact aG (bM (bM k))
end
section
open PySem.Builtin.Str
section
variable{Z:cy}{w:bX}
theorem adp:isSubtype (.type "list") (.type "module")=pure ay:=by exact C
theorem Uu(e:args.any (·.1)=ay)
  (l:aQ (aI Z w) L (evalArgs (.ref b) Y args []) (λx c=>c.heap.get? b=D (qb a)/\aQ (aI Z w) L (call (.ref b) x.pos x.kw) Q H c) H h):aQ (aI Z w) L (callWith u (.ref b) [] args []) Q H h:=by
 refine aG (gH (kX l (λx c v=>aG (oH (bT v λT i=>?_))) λE E x=>x));rw [e];exact aG (aG (Jc T (bM (aG (kX i (λr F s=>aG (gH (wpAny_point (bM s)))) λE E x=>x)))))
theorem Uw(T:s.heap.get? b=D (qb a))(X:s.heap.get? a=D (lo z u))(m:U z<=1000000)
  (R:∀O k,O.get? a=D (lo (z++[v]) k)->gW a s.heap O->Q .none {s with heap:=O}):aQ (aI Z w) L (call (.ref b) [v]) Q H s:=by
 have q:s.TypeIs (.ref a) "list":=(aR _ X C);have j:nJ (·.push v) (lo z u)=lo (z++[v]) (u+1):=by simp [nJ,lo]
 refine i8 (codeAny_of_tree (aG (Jc T ?_)));have t:(nM "builtin_function_or_method"!=nM "method")=Y:=by decide
 show aQ _ _ (if(nM "builtin_function_or_method"!=nM "method")=Y then(do checkBoundCall "list.append" ⟨[.ref a,v],[]⟩;return<-again (.builtin "list.append" ⟨[.ref a,v],[]⟩))else _) _ _ s;apply aG (m:=checkBoundCall "list.append" ⟨[.ref a,v],[]⟩);have i:∀{g:Unit->aU->Prop}{h:aB->aU->Prop},g () s->aQ (aI Z w) L.in1 (checkBoundCall "list.append" ⟨[.ref a,v],[]⟩) g h s:=by
  intro g h x;have c:=adp
  repeat(any_goals(first|assumption|wp_step))
 refine i (aG (bM (bM (⟨zW _ (by decide+kernel),Aj F.entry_list_append ?_⟩))));show aQ _ _ (updateSeq a (·.push v)>>=λE=>ret .none) _ _ s;have e:(1000000:J)<=sizeLine:=by decide
 refine aG (wpAny_updateSeq X C (bM (R _ (u+1) ?_ (oG ..))) (hz:=by exact aD ‹_› ‹_›) (_hz':=by simp;exact aD ‹_› ‹_›));apply ae (pR _ X (by exact C));rw [j]
end
theorem Den.rm(a:aq)(d:Den F g v A):Den ⟨F.star,a⟩ g v A:=d.re (ρ:=F) (ρ':=⟨F.star,a⟩) C (Le.refl _)
theorem bu.rm(a:aq)(d:bu F g z p):bu ⟨F.star,a⟩ g z p:=d.re (ρ:=F) (ρ':=⟨F.star,a⟩) C (Le.refl _)
noncomputable def wO:AV q->bw
 |.gT _=>ay
 |.lu=>ay
 |_=>Y
variable{B:bD O}{xs:I af}{i j:J}
theorem Holds.rm(a:aq)(i:Holds B F g x E Q h)(R:wO E=Y):Holds B ⟨F.star,a⟩ g x E Q h:=by
 cases E with
 |un=>exact i
 |t n=>obtain⟨e,v,s,d⟩:=i;exact⟨e,v,s,d.rm a⟩
 |own l=>obtain⟨b,z,u,t,k,d,w⟩:=i;exact⟨b,z,u,t,k,d.rm a,w⟩
 |obj o=>exact i
 |gT l=>exact cY C R
 |lu=>exact cY C R
theorem aW.rm(a:aq)(S:aW B F hB g G xs k y m r e)(R:y.all wO=Y):aW B ⟨F.star,a⟩ hB g G xs k y m r e:=
 {S with
  vars:=λi x E j d=>by
   obtain⟨Q,u,h⟩:=S.vars i x E j d
   exact⟨Q,u,h.rm a (gK.mp R E (cN d))⟩}
theorem ad8(S:aW B F hB g G xs k y m r h)(n:∀x Q,xs[i]?=D x->eE G m h x Q->∀s,y[i]?=D s->Holds B F g h s Q (r i)->Holds B F g h E Q R):
  ∀(j:J)(x:af)(c:AV O),xs[j]?=D x->(y.set i E)[j]?=D c->Jx B F g h G m x c (bU r i R j):=by
 intro j x c b d
 by_cases p:j=i
 .subst p;have a:=by
   have:=(cG.mp d).1;simpa using this
  obtain rfl:=bj ((jw a)▸d);obtain⟨Q,u,e⟩:=S.vars j x _ b (dB a);refine⟨Q,u,?_⟩;simp only [show bU r j R j=R from aL C];exact n x Q b u _ (dB a) e
 .rw [lN (iF p)]at d;obtain⟨Q,u,e⟩:=S.vars j x c b d;exact⟨Q,u,((show bU r i R j=r j from aJ ‹_›)▸(e))⟩
theorem aW.G2{fp:I aq}(S:aW B F hB g G xs t y m r e)(k:∀b∈fp,b∈r i)(n:∀x Q,xs[i]?=D x->eE G m e x Q->∀l,y[i]?=D l->Holds B F g e l Q (r i)->Holds B F g e E Q fp):
  aW B F hB g G xs t (y.set i E) m (bU r i fp) e:=by
 have h:∀j b,b∈bU r i fp j->b∈r j:=λj b f=>by
  by_cases p:j=i
  .subst p;rw [show bU r j fp j=fp from aL C]at f;exact k b f
  .rw [show bU r i fp j=r j from aJ ‹_›]at f;exact f
 exact{S with
  len:=by simp [S.len]
  vars:=ad8 S n
  fp:=λj O b f=>S.fp j O b (h j b f)
  tab:=λP s=>(lj ((S.tab P s).1) ((S.tab P s).2.1) ((S.tab P s).2.2.1) ((S.tab P s).2.2.2.1) (λj O f=>(S.tab P s).2.2.2.2 j O (h j P f)))
  apart:=λa b u f R c q o=>S.apart a b u f R c (h a c q) (h b c o)}
theorem aW.unmark(S:aW B F hB g G xs k y m r h)(X:y[i]?=D (.gT l)):aW B F hB g G xs k (y.set i (.own l)) m (bU r i (r i)) h:=
 S.G2 (λE h=>h) λs Q j u x n e=>by
  obtain rfl:=bj (X▸n);obtain⟨z,a,t,b,d,w⟩:=e;exact⟨F.mark,z,a,t,b,d,w⟩
theorem aW.mark(S:aW B F hB g G xs k y m r h)(j:xs[i]?=D x)(X:y[i]?=D (.own l))(u:eE G m h x (D (.ref F.mark))):aW B F hB g G xs k (y.set i (.gT l)) m (bU r i (r i)) h:=
 S.G2 (λE h=>h) λo Q p s f n e=>by
  obtain rfl:=bj (j▸p);obtain rfl:=bj (X▸n);cases u.det s;obtain⟨q,z,a,t,b,d,w⟩:=e;obtain rfl:=ku (bj t);exact⟨z,a,C,b,d,w⟩
theorem aW.forget(S:aW B F hB g G xs k y m r h):aW B F hB g G xs k (y.set i .un) m (bU r i []) h:=
 S.G2 (λE h=>gj _ ‹_›) λE E E E E E E=>C
theorem WL(h:eX B m w L F G xs k (y.set i .un) z P A):eX B m w L F G xs k y z P A:=by
 rintro T g s Q H e⟨a,x,r,S⟩R;exact h T g s Q H e ⟨a,x,_,S.forget⟩ R
theorem WQ(X:y[i]?=D (.gT l))(h:eX B m w L F G xs k (y.set i (.own l)) z P A):eX B m w L F G xs k y z P A:=by
 rintro T g s Q H e⟨a,x,r,S⟩R;exact h T g s Q H e ⟨a,x,_,S.unmark X⟩ R
theorem VA(j:xs[i]?=D x)(X:y[i]?=D (.gT l))(b:gn B n f L F G xs k (y.set i (.own l)) e P a)(d:P[i]?=D (.own H)):gn B n f L F G xs k y e (P.set i (.gT H)) a:=by
 rintro T g s Q h⟨w,m,ah,S⟩R;obtain⟨p,u,z,O,rfl,_⟩:=S.vars i x _ j X;refine b _ g s Q h ⟨w,m,_,(S.unmark X).uM j u⟩ λt o q l A=>cps λE v=>?_;obtain⟨_,r,c,A⟩:=A;exact v (R t o q l ⟨w,r,_,A.unlock.mark j d (A.locked j)⟩)
theorem WN(j:xs[i]?=D x)(l:i<k)(aH:G.kindOf x=D .local\/G.kindOf x=D .cell)(b:∀a,eX B m r c ⟨F.star,a⟩ G xs k (y.set i (.gT [])) z P A)
  (R:y.all wO=Y)(S:P.all wO=Y):eX B m r c F G xs k y (.Assign [.Name x aN] (.List [] aM) bf::z) P A:=by
 intro T g n Q H e t q;refine gN (kC (KX lX C T g n _ _ t λaT f a aP v aY a_ u o w E s L d=>?_));obtain rfl:=d.ja C;refine gh (av:=.gT []) (fp:=[a]) w e (E.rm a R) j l aH ⟨[],v,C,L,.nil,C⟩ (.sT s) λO ah aj ak=>b a T f O Q H e ⟨w,ah,_,ak⟩ λp au aC aE ao h aF=>?_;obtain⟨_,aK,X,h⟩:=h;exact q p au aC ((u.trans aj).trans aE) (o.trans ao) ⟨w,aK,X,h.rm F.mark S⟩ (aF.map λd=>d.rm F.mark)
theorem Wl(e:xs[i]?=D x)(X:y[i]?=D (.gT q))(P:(x==("__debug__"))=ay)(L:xs[j]?=D H)(v:j<k)(Q:G.kindOf H=D .local\/G.kindOf H=D .cell)
  (O:attributeBase (.Name x c) "append" G (eval (.Name x c) G)=eval (.Name x c) G):ik B aE m z F G xs k y (.Assign [.Name H aF] (.Attribute (.Name x c) "append" A) p) (y.set j .lu) .next:=by
 rintro T g s ak aC a⟨w,aH,r,S⟩R;refine cps λE b=>?_;obtain⟨d,u,ah,aj,rfl,l,ao,au⟩:=S.vars i x _ e X;refine b (kC (TY O (eO (eK w S.ns u (dI C l ?_)) P) (λE E=>C)));have f:=cg.iH S.ready (qb F.mark) (s.toks+1);exact gh (av:=.lu) w a (S.step f) L v Q ⟨_,C,eS _ C,C⟩ (.sT (S.free (gS s))) λt n o h=>R t g .next (f.same.trans o) (Le.refl _) ⟨w,n,_,h⟩ dj
theorem V'(a:xs[i]?=D x)(L:xs[j]?=D H)(X:y[j]?=D .lu)(c:(H==("__debug__"))=ay)(z:cP B Z ao aE ρ s xs g y e P τ)(A:P[j]?=D .lu)(ak:P[i]?=D (.gT l))
  (uD:∀x p,e≠.Starred x p)(aH:ej (U l)=Y)(aM:gY (.Call (.Name H aN) [e] [] au) aa bl.line s=pure ay):
  ik B Z ao aE ρ s xs g y (.Expr (.Call (.Name H aN) [e] [] au) bl) (P.set i (.gT (l++[τ]))) .next:=by
 rintro bx cC cU bW ck cF⟨w,m,r,S⟩d;obtain⟨bI,u,b,rfl,bZ,b_⟩:=S.vars j H _ L X;have Q:∀R∈[e],∀x p,R≠.Starred x p:=λR T=>by exact(cO.mp T)▸(uD)
 refine tT (kD (eO (eK w S.ns u (Uu (a:=ρ.mark) (kL [e] Q) (jM Q (qT z lX uD) ⟨w,m,r,S.uM L u⟩ λbz O bQ ah aj E h=>?_))) c)) (by delta interactive;exact w.kind.symm▸C) aM;refine cps λcB o=>?_;obtain⟨_,k,cJ,E⟩:=E;obtain⟨cM,aC,cX,rfl,n,bC⟩:=E.vars j H _ L A;obtain rfl:=ku (bj ((E.locked L).det aC));have E:=E.unlock;obtain⟨bE,aF,G,bR,rfl,aK,F,t⟩:=E.vars i x _ a ak;obtain⟨v,cu,rfl,aT,h⟩:=h.jA (P:=λaY=>∃v G,aY=v::G/\Den _ _ v _/\bu _ _ G _) λv G x H=>⟨v,G,C,x,H⟩;obtain rfl:=h.ja C;apply o;refine⟨n,Uw n aK (by exact(F.length)▸(dh aH)) λa_ aP bh bf=>(d _ O .next (ah.trans (cH a_ _ C)) aj ⟨w,k,_,E.Qh a (λb f c9 e=>?_) aF ⟨_,aP,C,bh,F.append (.one aT),C⟩ λb f=>.inl (by rw [t];exact f)⟩ dj)⟩;rw [t]at f;exact(bf.2 b λq=>f (by simp [q])).trans e
end
section
open PySem.Builtin.Str
def yk(X:bD q)(m:cy)(w:bX)(L:cZ)(F:Mk)(G:c3)(n:I af)(k:J)(y:I (AV q))(h:I cE)(o:I J)(x:I (AV q))(b:I J):Prop:=
 ∀(T:HB)(g:Fz)(s:aU)(Q:af->aU->Prop)(H:aB->aU->Prop),SR X F T g G n k y s.heap->
  (∀t j,bP s t->Le g j->SR X F T j G n k x t.heap->Q ⟨b.toArray⟩ t)->Joins (aI m w) L H (evalEach h G) ⟨o.toArray⟩ Q s
noncomputable def kJ:I T->bg (I aS)
 |[]=>D []
 |.int i::r=>(kJ r).map (i::·)
 |_::_=>aa
theorem VN:yk X m w L F G n k y [] o y o:=λT g s Q H S R=>R s g (bP.refl s) (Le.refl _) S
theorem VM(i:cP X m w L F G n k y e P (.str o))(B:ej (U (h++o))=Y)(v:yk X m w L F G n k P Q (h++o) a b):yk X m w L F G n k y (e::Q) h a b:=by
 intro T g s x H S R;refine i T g s _ _ S λc l z q p E d=>?_;obtain⟨A,rfl⟩:=jj d;refine(gx _ A C ?_ ?_)
 .rw [<-CU,str_len];exact kN B
 .rw [<-CU];exact v T l c x H E λj r t u f=>R j r (q.trans t) (p.trans u) f
theorem Ww(h:yk X m w L F G n k y (e::x::Q) [] P b)(B:ej (U b)=Y):cP X m w L F G n k y (.JoinedStr (e::x::Q) p) P (.str b):=by
 intro T g s i H S R;refine wpAny_JoinedStr (h T g s _ _ S λc a q o E=>⟨?_,?_⟩)
 .exact kN B
 .exact R _ a _ (q.trans (cH _ _ C)) o (E.step (cg.tok E.ready _)) (.str b _)
theorem Wu(h:cP X m w L F G n k y e P (.str o))(B:ej (U o)=Y):cP X m w L F G n k y (.FormattedValue e (-1) aa x) P (.str o):=by
 intro T g s Q H S R;refine wpAny_FormattedValue_plain (h T g s _ _ S λc a v q p E d=>(bH (jj d) λA j=>?_));subst j;exact SB.field_str (λb i=>(R _ a _ (q.trans (cH _ _ C)) p (E.step (cg.tok E.ready _)) (.str _ _))) (by exact kN B)
end
section
open PySem.Builtin.Str
variable{O:Type}
theorem mro_object:mroOf (.type "object")=pure [.type "object"]:=by exact C
theorem VV:entryFor table "object.__new__"=D Builtin.«object.__new__»:=Ak (C)
section
variable{Z:cy}{w:bX}{A:cZ}{E:aB->aU->Prop}{s:aU}{Q:aB->aU->Prop}
theorem M4:typeLookup (.type "object") "__new__"=pure (D (.builtin "object.__new__")):=by kernel_rfl
theorem acX:Slot "object" "__init__" "object.__init__":=
 .of (owner:="object") (n:="__init__") (by kernel_rfl) (C) (C) (C)
  (by first|exact .inl (C)|exact .inr _) (by exact C)
theorem UB:TypeCalled "object" "object.__new__" "object.__init__":=
 ⟨C,C,(cH _ _ mro_object),madeBy_type mro_object M4 (by decide+kernel),by decide+kernel,by exact C,acX⟩
theorem ad2:checkTypeCall "object" ⟨[],[]⟩=pure ():=C
theorem aaj:checkBuiltinCall "object.__new__" ⟨[.type "object"],[]⟩=pure ():=by kernel_rfl
theorem args_object_init_1(a:aB):argsOk "object.__init__" ⟨[a],[]⟩:=by
 delta argsOk;kernel_rfl
theorem aa0:Meets (Builtin.«object.__new__» ⟨[.type "object"],[]⟩) (λE i s=>i (.ok (.ret (.ref s.heap.objs.size))) {s with heap:=s.heap.push {cls:=.type "object",data:=.plain}}):=
 .of_wp λZ w A i s h=>by
  have v:=M4
  wp_walk
  apply vN (by decide+kernel)
  wp_walk
  apply vN (by decide+kernel)
  iterate 3(first|assumption|wp_step)
  refine vN (by decide+kernel) (bM (vN C ?_));refine vN (c:=typeHasDict (.type "object")=Y) (by decide+kernel) (aG (bM (aG (rX ?_))));exact vN (c:=diesByItsTypesDel "object"=Y) (by decide+kernel) (bM (aR _ C h))
theorem Uz(h:Q (.ref s.heap.objs.size) {s with heap:=s.heap.push {cls:=.type "object",data:=.plain}}):aQ (aI Z w) A (call (.type "object") []) Q E s:=by
 refine callType_meets (Q₁:=λe c=>c.TypeIs e "object"/\Q e c) UB ad2 aaj VV F.entry_object_init aa0 ?_ λe c k=>?_
 .exact⟨(aR _ (eS _ C) C),h⟩
 .refine(dI k.1 (args_object_init_1 e) ⟨λa i s=>i (.ok (.ret .none)) s,?_,?_⟩)
  .exact .of_wp λZ w A i s B=>bM (aR _ C B)
  .exact⟨C,k.2⟩
end
variable{B:bD O}{Z:cy}{w:bX}{A:cZ}{ρ:Mk}{V:c3}{xs os cs:I af}{ci:I J}{k n:J}{lv aX dc m7 M7 lvo:I (AV O)}{fz g8 fzn:Fz}{hB:HB}{m mn:af->bg aB}{cK ahi:J->I aq}{scope:jg}{wr:I aq}{e qj ahh iC elt iter c:cE}{ifs es:I cE}{ts ys l l':I T}{pos p px py Pz apos:ig}{bb:bw}{i j:J}{x y:af}{τ ta tb tx:T}{tG:I T}{h h':cf}{body rest orelse:I cz}{fl:fP}{st:cz}{va vb vc:aB}{vs:I aB}{acc out l₁ l₂ ahn:I J}{mg mb:af->bg aB}
theorem Mi(e:bu ρ fz vs ts):∀{G:I aS},kJ ts=D G->∃l:I (aS×fT),vs=l.map (λp=>.int p.1 p.2)/\l.map (·.1)=G:=
 e.ind (P:=λvs ts=>∀{G:I aS},kJ ts=D G->∃l:I (aS×fT),vs=l.map _/\l.map _=G) (λh=>(aR ([]) C (bj h))) λ{v vs A ts}e E n=>@λG h=>by
  cases A<;>first|(exact aV C h;done)|skip
  refine bH e.inv λA j=>?_;subst j;refine ai (pV.mp h) λa w d=>?_;subst d;refine ai (n w) λl j d=>?_;subst j d;exact(aR ((_,A)::l) C C)
theorem abE(x:A.handled=aa)(d:Den ρ fz va (.list ts))(h:kJ ts=D G):PO B (aI Z w) A ρ (call (.builtin "sum") [va]) fz (.int G.sum):=by
 refine jl (qg d) λi vs X u S b=>?_;subst u;refine ai (Mi b h) λl j a=>?_;subst j a;intro s k H r R;have Q:s.heap.IsList i (intItems l.toArray):=by
  have:=gy r.bJ S;simpa [intItems]using this
 refine sum_intListG x Q λh' n P e=>?_;rw [preSum_eq,List.take_of_length_le (by simp)];exact R _ _ _ (cg.keeps r e) (.int _ _)
theorem abw(O:Den ρ fz va (.str l₁)):PO B (aI Z w) A ρ (call (.builtin "isinstance") [va,.type "str"]) fz (.bool Y):=by
 refine bH (jj O) λh j=>?_;subst j;exact PO.give λs Q H r R=>IsiPair.str_str (R _ s.toks (.bool _))
end
section
open PySem.Builtin.Str
mutual
noncomputable def Ce:T->bw
 |.atom=>ay
 |.list l=>sR l
 |.tup l=>sR l
 |_=>Y
noncomputable def sR:I T->bw
 |[]=>Y
 |t::r=>Ce t&&sR r
end
theorem Den.pG(a:aq){A:T}(d:Den F g v A):Ce A=Y->Den ⟨a,F.mark⟩ g v A:=
 Den.rec (motive_2:=λz p E=>sR p=Y->bu _ g z p) (λE=>.none) (λb E=>.bool b) (λi A E=>.int i A) (λl A E=>.str l A) ((cY C)) (λv E=>.bV v) (λe E i h=>.list e (i h)) (λe E i h=>.tup e (i h)) (λE=>.nil)
  (λE E i t h=>.cons (i (cQ.mp h).1) (t (cQ.mp h).2)) d
theorem bu.pG(a:aq)(d:bu F g z p):sR p=Y->bu ⟨a,F.mark⟩ g z p:=
 d.ind (P:=λz p=>sR p=Y->bu ⟨a,F.mark⟩ g z p) (λE=>.nil) λa E i h=>.cons (a.pG _ (cQ.mp h).1) (i (cQ.mp h).2)
def wN:AV q->bw
 |.t x=>Ce x
 |.own l=>sR l
 |.gT l=>sR l
 |_=>Y
def Nz:fP->bw
 |.ret A=>Ce A
 |_=>Y
variable{B:bD O}
theorem Holds.pG(a:aq)(i:Holds B F g h E Q k)(R:wN E=Y):Holds B ⟨a,F.mark⟩ g h E Q k:=by
 cases E with
 |un=>exact i
 |t n=>obtain⟨e,v,s,d⟩:=i;exact⟨e,v,s,d.pG a R⟩
 |own l=>obtain⟨x,z,u,t,b,d,w⟩:=i;exact⟨x,z,u,t,b,d.pG a R,w⟩
 |obj o=>exact i
 |gT l=>obtain⟨z,u,t,b,d,w⟩:=i;exact⟨z,u,t,b,d.pG a R,w⟩
 |lu=>exact i
theorem aW.pG(a:aq)(S:aW B F hB g G n k y m r h)(R:y.all wN=Y):aW B ⟨a,F.mark⟩ hB g G n k y m r h:=
 {S with
  vars:=λe x E j d=>by
   obtain⟨Q,u,i⟩:=S.vars e x E j d
   exact⟨Q,u,i.pG a (gK.mp R E (cN d))⟩}
theorem WM(i:J)(h:eX B m w L F G n k y z P A):eX B m w L F G n k y z (P.set i .un) A:=by
 intro T g s Q H e S R;refine h T g s Q H e S λc a x q o E d=>?_;obtain⟨b,l,j,E⟩:=E;exact R c a x q o ⟨b,l,_,E.forget⟩ d
theorem WO(m:fe B mg A)(j:n[i]?=D x)(l:i<k)(u:V.kindOf x=D .local\/V.kindOf x=D .cell)(hy:V.kindOf "object"=D .globalImplicit)(R:mg "object"=aa)(d:A "object"=D (.type "object"))
  (aj:∀ak,eX B au w a ⟨ak,F.mark⟩ V n k (y.set i (.t .atom)) z P fl)(b:y.all wN=Y)(o:P.all wN=Y)(v:Nz fl=Y):
  eX B au w a F V n k y (.Assign [.Name x aK] (.Call (.Name "object" aE) [] [] aN) aM::z) P fl:=by
 rintro T f s Q H e⟨h,aF,aH,S⟩r;refine gN (kC (kD (nY m h S.base hy R d (C) (PyProof.Rows.callWith_type0 (Uz ?_)))));have g:=cg.iH S.ready {cls:=.type "object",data:=.plain} s.toks;refine gh (av:=.t .atom) h e ((S.pG _ b).step g) j l u ⟨C,_,C,.atom (ρ:=⟨s.heap.objs.size,F.mark⟩)⟩ .nil λp m₂ q E=>aj s.heap.objs.size T f p Q H e ⟨h,m₂,_,E⟩ λO ah L c ao G t=>?_;obtain⟨_,aC,X,G⟩:=G;apply r O ah L ((g.same.trans q).trans c) ao ⟨h,aC,X,G.pG F.star o⟩;cases L<;>cases fl<;>first|exact t|exact t.pG F.star v
end
def pZ(X:bD q)(O:af->bg aB)(L:af)(u:J):Prop:=
 ∃a o y code r,O L=D (.ref a)/\(∀{h},bF X.h₀ h->h.get? a=D o)/\o.data=.func (docDef L (gw (bB u)) (dD (bB u)) (eg (bB u)) y code r)/\(∀{h},bF X.h₀ h->h.CodeRec code L)
def Aw(X:bD q)(m:cy)(w:bX)(O:af->bg aB)(u:J)(L:af)(e:I T)(r:T):Prop:=
 ∃a o S,O L=D (.ref a)/\(∀{h},bF X.h₀ h->h.get? a=D o)/\o.data=.func S/\DR X m w u (.ref a) e r
section
variable{V:c3}{e:cE}
def U8(L:af)(i:J)(y code r:aB)(H a:aq):c3:=di (docDef L (gw (bB i)) (dD (bB i)) (eg (bB i)) y code r) H a
theorem Uq(G:fe X O A)(k:pZ X O h i)(Q:oR (eg (bB i)) n)(j:p.length<=U n)
  (d:∀y code r(z:I aB),U z=p.length->bindArgs (docDef h (gw (bB i)) (dD (bB i)) (eg (bB i)) y code r) ⟨z,[]⟩=pure (e0 n z))
  (B:∀L F y code r H a,dW L u->∃b,eX X m w L F (U8 h i y code r H a) n (U n) (rf n p) (dD (bB i)) b (.ret x)):Aw X m w O (u+1) h p x:=KT k λa o y code r s v R g=>(o5 a o _ s v R (J9 G v R g C C Q C C j (d y code r) λH L F e=>B L F y code r H a e))
theorem Wv(G:fe X O A)(i:dW L u)(j:V.kindOf x=D .globalImplicit)(P:(x==("__debug__"))=ay)
  (h:∀e∈Q,∀x p,e≠.Starred x p)(a:kE X m w L F V n k y b Q s t)(l:Aw X m w O u x t z):
  cP X m w L F V n k y (.Call (.Name x p) Q [] b) s z:=mX l λq f S o v R g=>Ws G i j o P v R h a g
noncomputable def dO(e:cE):bw:=!(swappedStores.match_5 (λE=>bw) e (λE A=>Y) λE=>ay)
theorem l9{Q:I cE}(h:Q.all dO=Y):∀e∈Q,∀x p,e≠.Starred x p:=by
 intro e m x p q;have:=gK.mp h e m;subst q;exact cY C this
theorem g_(h:dO e=Y):∀x p,e≠.Starred x p:=by
 intro x p q;subst q;exact cY C h
end
noncomputable abbrev wc:I (af×aB):=[("len",.builtin "len"),("range",.type "range"),("ord",.builtin "ord"),("chr",.builtin "chr"),("sum",.builtin "sum"),("max",.builtin "max"),("sorted",.builtin "sorted"),
 ("zip",.type "zip"),("bytes",.type "bytes"),("isinstance",.builtin "isinstance"),("str",.type "str"),("object",.type "object"),("list",.type "list"),("tuple",.type "tuple"),("bool",.type "bool"),("set",.type "set"),("iter",.builtin "iter"),("StopIteration",.type "StopIteration"),("min",.builtin "min")]
structure Cx(O:Type)where
 B:bD O
 Z:cy
 w:bX
 A:cZ
 ρ:Mk
 V:c3
 mg:af->bg aB
 mb:af->bg aB
 n:J
 G:fe B mg mb
 R:dW A n
 bi:∀(i:J)(x:af)(v:aB),wc[i]?=D (x,v)->mg x=aa/\mb x=D v
structure EE(c:Cx O)(xs:I af)(k:J)(lv:I (AV O))(e:cE)(lv':I (AV O))(τ:T):Prop where
 ev:cP c.B c.Z c.w c.A c.ρ c.V xs k lv e lv' τ
structure EC(c:Cx O)(xs:I af)(k:J)(lv:I (AV O))(e:cE)(lv':I (AV O))(b:bw):Prop where
 ev:gn c.B c.Z c.w c.A c.ρ c.V xs k lv e lv' b
structure EF(c:Cx O)(xs:I af)(k:J)(lv:I (AV O))(e:cE)(lv':I (AV O))(ts:I T):Prop where
 ev:qM c.B c.Z c.w c.A c.ρ c.V xs k lv e lv' ts
structure ER(c:Cx O)(xs:I af)(k:J)(lv:I (AV O))(pos:ig)(es:I cE)(lv':I (AV O))(ts:I T):Prop where
 ev:kE c.B c.Z c.w c.A c.ρ c.V xs k lv pos es lv' ts
structure EI(tup:bw)(c:Cx O)(xs:I af)(k:J)(lv:I (AV O))(e:cE)(lv':I (AV O))(ts:I T):Prop where
 ev:qN tup c.B c.Z c.w c.A c.ρ c.V xs k lv e lv' ts
structure EZ(c:Cx O)(xs:I af)(k:J)(lv:I (AV O))(e:cE)(lv':I (AV O))(ts:I (I T)):Prop where
 ev:AF c.B c.Z c.w c.A c.ρ c.V xs k lv e lv' ts
structure EA(c:Cx O)(xs:I af)(k:J)(lv:I (AV O))(e:cE)(τ:T)(lv':I (AV O)):Prop where
 ev:p7 c.B c.Z c.w c.A c.ρ c.V xs k lv e τ lv'
structure ES(c:Cx O)(xs:I af)(k:J)(lv:I (AV O))(st:cz)(lv':I (AV O))(fl:fP):Prop where
 ev:ik c.B c.Z c.w c.A c.ρ c.V xs k lv st lv' fl
structure EX(c:Cx O)(xs:I af)(k:J)(lv:I (AV O))(st:I cz)(lv':I (AV O))(fl:fP):Prop where
 ev:eX c.B c.Z c.w c.A c.ρ c.V xs k lv st lv' fl
abbrev EW(c:Cx q)(n:I af)(k:J)(h:cE)(t z:I cz)(u:J)(y x:I (AV q))(A:fP):Prop:=kG c.B c.Z c.w c.A c.ρ c.V n k h t z u y x A
abbrev jH(c:Cx q)(n:I af)(k:J)(h:cE)(t:I cz)(p:I T)(y x:I (AV q))(A:fP):Prop:=oM c.B c.Z c.w c.A c.ρ c.V n k h t p y x A
abbrev AB(c:Cx q)(n:I af)(k:J)(h:cE)(e:I cE)(o:cE)(p:I T)(y:I (AV q))(S:I T)(x:I (AV q)):Prop:=yj c.B c.Z c.w c.A c.ρ c.V n k h e o p y S x
structure EO(c:Cx O)(xs:I af)(k:J)(lv:I (AV O))(e:bg cE)(lv':I (AV O))(i:bg aS):Prop where
 ev:yl c.B c.Z c.w c.A c.ρ c.V xs k lv e lv' i
abbrev CN(c:Cx q)(L:af)(h:I T)(r:T):Prop:=Aw c.B c.Z c.w c.mg c.n L h r
structure Fm(V:c3)(xs:I af)(k:J)(ns:I (af×fc)):Prop where
 loc:∀{i:J}{x:af},xs[i]?=D x->i<k->V.kindOf x=D .local\/V.kindOf x=D .cell
 eY:∀{i:J}{x:af},xs[i]?=D x->(x==("__debug__":af))=ay
 kn:∀(i:J){x:af}{kd:fc},ns[i]?=D (x,kd)->kd≠.free->V.kindOf x=D kd
 kf:∀(i:J){x:af},ns[i]?=D (x,.free)->V.kindOf x=D .free\/V.kindOf x=D .cell
 kg:∀(i:J){x:af}{kd:fc},ns[i]?=D (x,kd)->(x==("__debug__":af))=ay
abbrev Tf(G:I (af×fc))(n:I af)(k:J):Prop:=(∀x∈n.take k,G.lookup x=D .local\/G.lookup x=D .cell)/\(∀x∈n,(x==("__debug__":af))=ay)/\∀p∈G,G.lookup p.1=D p.2/\(p.1==("__debug__":af))=ay
noncomputable def qk(G:I (af×fc))(n:I af)(k:J):bw:=aO (Tf G n k)
theorem M9{n:I af}(j:n[i]?=D x)(A:i<k):x∈n.take k:=cN (ae (List.getElem?_take.trans (aL A)) j)
theorem jP(e:qk G n k=Y)(m:h.scope.names=G):Fm h n k G:=m▸gv (dh (m.symm▸e)) λw v R=>
 ⟨λ{_ x}j A=>w x (M9 j A),λ{_ x}j=>v x (cN j),λ_{_ _}j _=>(R _ (cN j)).1,λ_{_}j=>.inl (R _ (cN j)).1,λ_{_ _}j=>(R _ (cN j)).2⟩
theorem qU(h:qk r.names n k=Y):Fm (i9 r d G) n k r.names:=gv (dh h) λw v R=>
 ⟨λ{_ x}j A=>(w x (M9 j A)).imp (zu (nofun)) (zu (nofun)),λ{_ x}j=>v x (cN j),λ_{_ _}j B=>zu B (R _ (cN j)).1,λ_{_}j=>O2 (R _ (cN j)).1,λ_{_ _}j=>(R _ (cN j)).2⟩
abbrev Tt(r:jg)(n:I af):Prop:=r.kind=.function/\r.isCoroutine=ay/\r.isGenerator=ay/\(∀x∈n,r.names.lookup x=D .local\/r.names.lookup x=D .cell)/\n.Nodup
noncomputable def zz(r:jg)(n:I af):bw:=aO (Tt r n)
theorem mj(h:zz r n=Y):oR r n:=ug (dh h) oR.mk
abbrev Tc(r:jg)(os b:I af):Prop:=r.kind=.function/\(∀x∈os,r.names.lookup x=D .local\/r.names.lookup x=D .cell)/\(∀H∈b,r.names.lookup H=D .free/\(∀p∈r.names,p.1=H->p.2=.free)/\(H==("__classdict__":af))=ay)/\
 (∀p∈r.names,p.2=.free->p.1∈b)/\(os++b).Nodup/\∀x∈r.names,x.2=.local->r.names.lookup x.1=D .local
noncomputable def uf(r:jg)(os b:I af):bw:=aO (Tc r os b)
theorem Ba{os b:I af}(h:uf r os b=Y):nP r os b:=uh (dh h) nP.mk
abbrev S9(G:I (af×fc))(n b:I af)(a:I J):Prop:=a.map (n[·]?)=b.map D/\∀H∈b,(G.lookup H).isSome=Y/\G.lookup H≠D .local
noncomputable def uc(G:I (af×fc))(n b:I af)(a:I J):bw:=aO (S9 G n b a)
theorem A3(F:Fm h n j G)(l:uc G n b k=Y):jh h n b k:=bT (dh l) λw v=>
 ⟨(dg _).symm.trans (ae (aA U w) (dg _)),λt _ _ O L=>bj ((aA (qK (n[·]?)) O).symm.trans (ae jv.symm (ae (aA (·[t]?) w) (ae jv (aA (qK D) L))))),
  λH L q=>bT (v H L) λa x=>bH (gG.mp a) λs e=>bH (pS (PySem.mem_of_lookup e)) λi A=>by
   by_cases g:s=.free
   .exact(F.kf i (g▸A)).elim (λf=>nc nK (bj (ae f.symm q)) C) λf=>nc nK (bj (ae f.symm q)) C
   .exact x (ae e ((F.kn i A g).symm.trans q))⟩
section
variable{c:Cx O}{xs os:I af}{k:J}{ns:I (af×fc)}{lv aX:I (AV O)}{ts l:I T}{st:cz}
def uS(e:cE):bw:=!tL (xV e).2.2 3
def uT(e:cE):bw:=!tL (xV e).2.2 2
def HC(G:bw)(e:cE):bw:=tL (xV e).2.2 4||(tL (xV e).2.2 5&&G)
theorem zv(F:Fm c.V xs k ns)(i:J)(j:xs[i]?=D x)(X:lv[i]?=D (.t z)):EE c xs k lv (.Name x p) lv z:=⟨WC j X (F.eY j)⟩
theorem zQ(F:Fm c.V xs k ns)(i:J)(j:xs[i]?=D x)(X:lv[i]?=D (.own l)):EE c xs k lv (.Name x p) (lv.set i (.t (.list l))) (.list l):=⟨WD j X (F.eY j)⟩
theorem zi(a:aS):EE c xs k lv (.Constant (.int a) v p) lv (.int a):=⟨yz C⟩
theorem zs(s:I J)(h:t=⟨s.toArray⟩):EE c xs k lv (.Constant (.str t) kk p) lv (.str s):=⟨yz (aA Const.str h)⟩
theorem zb(a:bw):EE c xs k lv (.Constant (.bool a) v p) lv (.bool a):=⟨yz C⟩
theorem zn:EE c xs k lv (.Constant .none v p) lv .none:=⟨yz C⟩
theorem fh(w:EE c xs k lv e aX y)(v:EE c xs k aX x X m)(h:kH n y m=D z):EE c xs k lv (.BinOp e n x p) X z:=⟨Wr c.R w.1 v.1 h⟩
theorem xu(w:EE c xs k lv e aX y)(v:EE c xs k aX x X m)(h:gb op y m=D b)(R:behindInMarks op x=ay):EE c xs k lv (.Compare e [op] [x] p) X (.bool b):=⟨Wt c.R w.1 v.1 h R⟩
theorem nE(w:EC c xs k lv e aX b)(v:EE c xs k aX (if b then x else m) X z):EE c xs k lv (.IfExp e x m p) X z:=⟨WA w.1 v.1⟩
theorem vo(w:EE c xs k lv e aX (.int i)):EE c xs k lv (.UnaryOp .USub e p) aX (.int (-i)):=⟨WE w.1⟩
theorem cT:ER c xs k lv u [] lv []:=⟨lX⟩
theorem zr(w:EE c xs k lv e aX z)(v:ER c xs k aX u Q X p)(B:dO e=Y):ER c xs k lv u (e::Q) X (z::p):=⟨qT w.1 v.1 (g_ B)⟩
theorem oq(h:ER c xs k lv u Q aX p)(B:ej (U p)=Y):EE c xs k lv (.List Q u) aX (.list p):=⟨WB h.1 B⟩
theorem Ia(h:ER c xs k lv u Q aX p)(B:ej (U p)=Y):EE c xs k lv (.Tuple Q v u) aX (.tup p):=⟨Bp h.1 B⟩
theorem dS(w:EE c xs k lv e aX y)(v:EE c xs k aX x X m)(h:qm y m=D z)(B:uT x=Y):EE c xs k lv (.Subscript e x p) X z:=⟨Wx w.1 v.1 h λa b d p q=>by subst q;contradiction⟩
theorem kQ{lo A:bg cE}(w:EE c xs k lv e aX y)(v:EO c xs k aX lo X H)(R:EO c xs k X A m7 a)(h:CO y H a=D z):EE c xs k lv (.Subscript e (.Slice lo A aa S) p) m7 z:=⟨WI w.1 v.1 R.1 h⟩
theorem rJ:EO c xs k lv aa lv aa:=⟨VY⟩
theorem iM(h:EE c xs k lv e aX (.int i)):EO c xs k lv (D e) aX (D i):=⟨VZ h.1⟩
theorem zf(h:EF c xs k lv e aX ts):EE c xs k lv e aX (.list ts):=⟨h.1.ev⟩
theorem rG(h:ER c xs k lv u Q aX ts)(B:ej (U ts)=Y):EF c xs k lv (.List Q u) aX ts:=⟨KX h.1 B⟩
theorem zC(w:EE c xs k lv e aX y)(v:EE c xs k aX x X m)(h:gb n y m=D b)(R:behindInMarks n x=ay):EC c xs k lv (.Compare e [n] [x] p) X b:=⟨Vz c.R w.1 v.1 h R⟩
theorem C_(w:EC c xs k lv e aX b):EC c xs k lv (.UnaryOp .Not e p) aX (!b):=⟨VB w.1⟩
theorem lG(w:EE c xs k lv e aX ta)(h:tn ta=D b)(m:∀x,isTrue e c.V x=do let v<-x;standAt e.pos;holding [v] (truthy v)):EC c xs k lv e aX b:=⟨VD c.R w.1 h m⟩
theorem tD:EC c xs k lv (.BoolOp .And [] p) lv Y:=⟨Vy⟩
theorem zN:EC c xs k lv (.BoolOp .Or [] p) lv ay:=⟨VC⟩
theorem aeC(h:EC c xs k lv e aX ay):EC c xs k lv (.BoolOp .And (e::r) p) aX ay:=⟨ET h.1 ⟨C,C⟩⟩
theorem kO(h:EC c xs k lv e lv A)(v:A=Y->EC c xs k lv (.BoolOp .And r p) lv a):EC c xs k lv (.BoolOp .And (e::r) p) lv (A&&a):=by
 cases A with
 |true=>exact⟨ET h.1 (v C).1⟩
 |false=>exact⟨ET h.1 (And.intro C C)⟩
theorem nA(h:EC c xs k lv e lv b₁)(v:b₁=ay->EC c xs k lv (.BoolOp .Or r p) lv a):EC c xs k lv (.BoolOp .Or (e::r) p) lv (b₁||a):=by
 cases b₁ with
 |true=>exact⟨KW h.1 (And.intro C C)⟩
 |false=>exact⟨KW h.1 (v C).1⟩
theorem fY:EX c xs k lv [] lv .next:=⟨i_⟩
theorem zx(w:ES c xs k lv u aX .next)(v:EX c xs k aX z X A):EX c xs k lv (u::z) X A:=⟨WK w.1 v.1⟩
theorem h_(w:ES c xs k lv u aX (.ret r)):EX c xs k lv (u::z) aX (.ret r):=⟨ur w.1 nofun⟩
theorem vt(w:ES c xs k lv u aX .brk):EX c xs k lv (u::z) aX .brk:=⟨ur w.1 nofun⟩
theorem Rk(w:ES c xs k lv u aX .cont):EX c xs k lv (u::z) aX .cont:=⟨ur w.1 nofun⟩
theorem eL(F:Fm c.V xs k ns)(i:J)(j:xs[i]?=D x)(l:i<k)(h:EE c xs k lv e aX z)(B:gY e (D (.Name x a)) p.line c.V=pure ay):ES c xs k lv (.Assign [.Name x a] e p) (aX.set i (.t z)) .next:=⟨K4 j l (F.loc j l) h.1 B⟩
theorem vp(F:Fm c.V xs k ns)(i:J)(j:xs[i]?=D x)(l:i<k)(h:EF c xs k lv e aX ts)(B:gY e (D (.Name x a)) p.line c.V=pure ay):ES c xs k lv (.Assign [.Name x a] e p) (aX.set i (.own ts)) .next:=⟨Wm j l (F.loc j l) h.1 B⟩
theorem dP(w:EC c xs k lv e aX b)(v:EX c xs k aX (if b then t else z) dc fl):ES c xs k lv (.If e t z p) dc fl:=⟨Wj w.1 v.1⟩
theorem je(h:EE c xs k lv e aX z):ES c xs k lv (.Return (D e) p) aX (.ret z):=⟨Wn h.1⟩
theorem xt(h:EC c xs k lv e aX Y):ES c xs k lv (.Assert e i p) aX .next:=⟨Wb h.1⟩
theorem HU:ES c xs k lv (.Break p) lv .brk:=⟨Wg⟩
theorem aeJ:ES c xs k lv (.Continue p) lv .cont:=⟨Wh⟩
theorem lI(h:EW c xs k e t z u lv X A):ES c xs k lv (.While e t z p) X A:=⟨Wo h⟩
theorem iD(F:Fm c.V xs k ns)(i:J)(j:xs[i]?=D x)(l:i<k):EA c xs k lv (.Name x p) z (lv.set i (.t z)):=⟨Vx j l (F.loc j l)⟩
theorem Co(h:uS e=Y):∀v,foldedSetIterable e G v=pure v:=λv=>by cases e<;>first|rfl|exact cY C h
theorem Qd(e:HC G h=Y):(∃x p,h=.Name x p)\/G=Y/\∃Q F p,h=.Tuple Q F p:=by cases h<;>first|exact .inl ⟨_,_,C⟩|exact .inr ⟨e,_,_,_,C⟩|exact cY C e
theorem kP(e:EI G c xs k lv iter aX ts)(i:jH c xs k h t ts aX X A)(B:uS iter=Y)(l:HC G h=Y):ES c xs k lv (.For h iter t [] p) X A:=⟨Wi e.1 i (Co B) (Qd l)⟩
theorem tE(F:Fm c.V xs k ns)(i:J)(j:xs[i]?=D x)(l:i<k)(X:lv[i]?=D (.t y))(h:EE c xs k lv e aX m)(a:qc n y m=D z):ES c xs k lv (.AugAssign (.Name x b) n e p) (aX.set i (.t z)) .next:=⟨Wc j l (F.loc j l) X h.1 a⟩
theorem aeD(F:Fm c.V xs k ns)(i:J)(j:xs[i]?=D x)(h:i<k)(X:lv[i]?=D (.own l))(e:EE c xs k lv a aX (.list ts))(d:aX[i]?=D (.own H))(b:ej (U H)=Y)(A:ej (U ts)=Y):ES c xs k lv (.AugAssign (.Name x s) .Add a p) (aX.set i (.own (H++ts))) .next:=⟨We j h (F.loc j h) X e.1 d b A⟩
theorem vm(F:Fm c.V xs k ns)(i:J)(j:xs[i]?=D x)(X:lv[i]?=D (.own l))(h:EE c xs k lv e aX z)(d:aX[i]?=D (.own H))(L:dO e=Y)(E:(A.endLine==u.line)=Y)(m:ej (U H)=Y):
  ES c xs k lv (.Expr (.Call (.Attribute (.Name x a) "append" A) [e] [] u) w) (aX.set i (.own (H++[z]))) .next:=⟨Wa j X (F.eY j) h.1 d (g_ L) E C m C⟩
theorem nB(F:Fm c.V xs k ns)(t:J)(O:ns[t]?=D (x,.globalImplicit))(h:ER c xs k lv u Q aX p)(l:CN c x p z)(L:Q.all dO=Y):EE c xs k lv (.Call (.Name x e) Q [] u) aX z:=⟨Wv c.G c.R (F.kn t O nofun) (F.kg t O) (l9 L) h.1 l⟩
theorem rF(F:Fm c.V xs k ns)(t i:J){id:String}(O:ns[t]?=D (x,.globalImplicit))(f:wc[i]?=D (x,.builtin id))(e:ER c xs k lv u Q aX p)(L:Q.all dO=Y)(h:∀g z,bu c.ρ g z p->PO c.B (aI c.Z c.w) c.A c.ρ (call (.builtin id) z) g a):
  EE c xs k lv (.Call (.Name x b) Q [] u) aX a:=⟨K9 c.G (F.kn t O nofun) (c.bi i _ _ f).1 (c.bi i _ _ f).2 (F.kg t O) (l9 L) e.1 h⟩
theorem rH(F:Fm c.V xs k ns)(t:J)(O:ns[t]?=D (("len":af),.globalImplicit))(h:EE c xs k lv e aX (.str s))(B:ej (U s)=Y)(L:dO e=Y):EE c xs k lv (.Call (.Name "len" p) [e] [] u) aX (.int (U s)):=
 rF F t 0 O C (zr h cT L) (by simp [L]) λg z d=>by refine ai d.jc λv j q=>?_;subst j;exact abx q B
theorem ae0(F:Fm c.V xs k ns)(t:J)(O:ns[t]?=D (("len":af),.globalImplicit))(h:EE c xs k lv e aX (.list l))(B:ej (U l)=Y)(L:dO e=Y):EE c xs k lv (.Call (.Name "len" p) [e] [] u) aX (.int (U l)):=
 rF F t 0 O C (zr h cT L) (by simp [L]) λg z d=>by refine ai d.jc λv j q=>?_;subst j;exact OP q B
theorem Q_(F:Fm c.V xs k ns)(t:J)(O:ns[t]?=D (("ord":af),.globalImplicit))(h:EE c xs k lv e aX (.str [s]))(L:dO e=Y):EE c xs k lv (.Call (.Name "ord" p) [e] [] u) aX (.int s):=
 rF F t 2 O C (zr h cT L) (by simp [L]) λg z d=>by refine ai d.jc λv j q=>?_;subst j;exact abA q
theorem xA(F:Fm c.V xs k ns)(t:J)(O:ns[t]?=D (("sum":af),.globalImplicit))(h:EE c xs k lv e aX (.list l))(A:kJ l=D i)(L:dO e=Y):EE c xs k lv (.Call (.Name "sum" p) [e] [] u) aX (.int i.sum):=
 rF F t 4 O C (zr h cT L) (by simp [L]) λg z d=>by refine ai d.jc λv j q=>?_;subst j;exact abE c.R.handled q A
theorem tF(F:Fm c.V xs k ns)(t:J)(O:ns[t]?=D (("range":af),.globalImplicit))(h:ER c xs k lv u Q aX p)(e:G3 p=D r)(T:sX r=Y)(L:Q.all dO=Y):EI ay c xs k lv (.Call (.Name "range" a) Q [] u) aX (ro r):=⟨VJ c.G c.R.handled (F.kn t O nofun) (c.bi 1 _ _ C).1 (c.bi 1 _ _ C).2 (l9 L) h.1 e T⟩
theorem jd(h:EE c xs k lv e aX (.list ts)):EI Y c xs k lv e aX ts:=⟨VI c.R.handled h.1⟩
theorem H7(h:EE c xs k lv e aX (.tup ts)):EI ay c xs k lv e aX ts:=⟨VL c.R.handled h.1⟩
theorem xx(h:EE c xs k lv e aX (.str s)):EI ay c xs k lv e aX (s.map λa=>.str [a]):=⟨VK c.R.handled h.1⟩
abbrev Cx.ff(c:Cx O)(r:jg)(d:aq):Cx O:={c with V:=i9 r d c.V}
noncomputable def B7:bg (AV O)->bw|D (.own _)=>ay|_=>Y
def noOwn(lv:I (AV O))(a:I J):bw:=a.all λi=>B7 lv[i]?
theorem eP{lv:I (AV O)}(e:lv[i]?=D (.t a))(s:noOwn lv h=Y):noOwn lv (i::h)=Y:=cQ.mpr ⟨aA B7 e,s⟩
theorem Cf(h:noOwn lv a=Y):∀i∈a,∀l,lv[i]?≠D (.own l):=λi A l e=>cY C ((aA B7 e).symm.trans (gK.mp h i A))
theorem HV(os b:I af)(a:I J)(F:Fm c.V xs k ns)(r:uf v os b=Y)(e:uc ns xs b a=Y)(A:qk v.names (os++b) (U os)=Y)(i:EI G c xs k lv iter aX ts)
  (u:noOwn aX a=Y)
  (f:∀d,Fm (c.ff v d).V (os++b) (U os) v.names->AB (c.ff v d) (os++b) (U os) h x o ts (nW os a aX) S H)
  (B:uS iter=Y)(l:HC G h=Y)(m:ej (U ts)=Y)(T:nh os a aX H=E):
  EF c xs k lv (.ListComp o [⟨h,iter,x,0⟩] v w) E S:=⟨VG (Ba r) (A3 F e) i.1 (Cf u) (λd=>f d (qU A)) (Co B) (Qd l) m T⟩
noncomputable def qp(v:AV O):I T->AV O
 |[]=>v
 |t::ts=>qp (.t t) ts
theorem QY{R:Type}(F:Fm c.V (x::xs) (k+1) ns)(f L:R->T):∀(j:I R)(v:AV O),(∀y∈j,EE c (x::xs) (k+1) (.t (f y)::a) o (.t (f y)::a) (L y))->
  AB c (x::xs) (k+1) (.Name x p) [] o (j.map f) (v::a) (j.map L) (qp v (j.map f)::a):=λe=>e.rec
 (λv E=>.nil)
 (λt j n v h=>.go (iD F 0 C (gE k)).1 K8 (h t gC).1 (n _ λy i=>h y (fF _ i)))
theorem QZ{R:Type}(F:Fm c.V (x::xs) (k+1) ns)(f b:R->T)(q:R->bw):∀(j:I R)(v:AV O),(∀y∈j,EC c (x::xs) (k+1) (.t (f y)::a) s (.t (f y)::a) (q y))->
  (∀y∈j,q y=Y->EE c (x::xs) (k+1) (.t (f y)::a) o (.t (f y)::a) (b y))->
  AB c (x::xs) (k+1) (.Name x p) [s] o (j.map f) (v::a) ((j.filter q).map b) (qp v (j.map f)::a):=λl=>l.rec
 (λv E E=>.nil)
 (λt j n v w e=>by
  have r:=n (.t (f t)) (λy i=>w y (fF _ i)) λy i=>e y (fF _ i);have h:=w t gC;cases L:q t with
  |true=>
   rw [L]at h;exact(z4 L).symm▸.go (iD F 0 C (gE k)).1 (Bo h.1) (e t gC L).1 r
  |false=>
   rw [L]at h;rw [z0 (by simp [L])]
   exact .skip (iD F 0 C (gE k)).1 (Bo h.1) r)
theorem zg(t:pre.length=U os):nh os a lv (pre++a.map λi=>(lv[i]?).getD .un)=lv:=by
 delta nh
 apply RU;intro i;apply ae (R0);cases h:lv[i]? with
 |none=>rfl
 |some E=>
  simp only [DG]
  split
  .rename_i A;rw [kU (by exact cS 0 (.v 0) (.a (.v 1) (.v 2)) (.v 0) (.v 1) C [_,_,_] (iX t)),t,x6,jv,yF A];simp [h]
  .rfl
theorem jW{R:Type}{us:I R}{g:R->T}(x:af)(b:I af)(a:I J)(L:R->T)(F:Fm c.V xs k ns)(r:uf v [x] b=Y)(e:uc ns xs b a=Y)(A:qk v.names (x::b) 1=Y)(h:EI G c xs k lv iter aX (us.map g))(u:noOwn aX a=Y)
  (S:∀d,Fm (c.ff v d).V (x::b) 1 v.names->∀y∈us,EE (c.ff v d) (x::b) 1 (.t (g y)::a.map λi=>aX[i]?.getD .un) s (.t (g y)::a.map λi=>aX[i]?.getD .un) (L y))
  (B:uS iter=Y)(m:U us<=1000000):EF c xs k lv (.ListComp s [⟨.Name x p,iter,[],0⟩] v w) aX (us.map L):=
 HV [x] b a F r e A h u (λd o=>QY o g L us .un (S d o)) B C (cL (by rw [dg];exact m)) (zg (pre:=[qp .un _]) C)
theorem nC{R:Type}{us:I R}{g:R->T}(x:af)(b:I af)(a:I J)(L:R->T)(q:R->bw)(F:Fm c.V xs k ns)(r:uf v [x] b=Y)(h:uc ns xs b a=Y)(A:qk v.names (x::b) 1=Y)(e:EI G c xs k lv iter aX (us.map g))(u:noOwn aX a=Y)
  (l:∀d,Fm (c.ff v d).V (x::b) 1 v.names->∀y∈us,EC (c.ff v d) (x::b) 1 (.t (g y)::a.map λi=>aX[i]?.getD .un) s (.t (g y)::a.map λi=>aX[i]?.getD .un) (q y))
  (S:∀d,Fm (c.ff v d).V (x::b) 1 v.names->∀y∈us,q y=Y->EE (c.ff v d) (x::b) 1 (.t (g y)::a.map λi=>aX[i]?.getD .un) n (.t (g y)::a.map λi=>aX[i]?.getD .un) (L y))
  (B:uS iter=Y)(m:U us<=1000000):EF c xs k lv (.ListComp n [⟨.Name x p,iter,[s],0⟩] v w) aX ((us.filter q).map L):=
 HV [x] b a F r h A e u (λd o=>QZ o g L q us .un (l d o) (S d o)) B C (cL (by rw [dg];exact m)) (zg (pre:=[qp .un _]) C)
end
theorem xy{id:String}(H:Slot "str" R id)(e:typeOf (.builtin id)=pure (.type "method_descriptor"))(T:EE c n k y o P (.str s))(h:ER c n k P u Q X p)
  (f:attributeBase o R c.V (eval o c.V)=eval o c.V)(L:Q.all dO=Y)(j:U Q<30)(E:(A.endLine==u.line)=Y)
  (t:∀g v z,Den c.ρ g v (.str s)->bu c.ρ g z p->PO c.B (aI c.Z c.w) c.A c.ρ (call (.builtin id) (v::z)) g a):EE c n k y (.Call (.Attribute o R A) Q [] u) X a:=
 ⟨La f (l9 L) j E DH H e T.1 h.1 (λg v s r d=>by cases d;exact⟨C,λi q=>nc Ag q C⟩) t⟩
theorem My:∀(l:I _),Str.join ⟨([]).toArray⟩ (l.map λl=>(⟨l.toArray⟩))=⟨l.flatten.toArray⟩
 |[]=>C
 |[x]=>by simp [Str.join]
 |x::H::r=>by
  have n:=My (H::r);show(⟨x.toArray++#[]++_⟩:af)=_;rw [n];simp
theorem join_nil(l:I _):Ai ⟨([]).toArray⟩ (l.map λl=>(⟨l.toArray⟩))=⟨l.flatten.toArray⟩:=by
 show Builtin.Str.glued _ _=_;rw [PySem.StrLaws.glued_eq_join];exact My l
theorem strs_map:∀(l:I _),CV (l.map .str)=D l:=λT=>T.rec
 (C)
 (λx r n=>(aA _ n))
theorem De{vj:I _}(T:EE c n k y o P (.str []))(h:EE c n k P e X (.list (vj.map .str)))(f:attributeBase o "join" c.V (eval o c.V)=eval o c.V)(L:dO e=Y)(E:(A.endLine==u.line)=Y)
  (m:U vj.flatten<=16777216):EE c n k y (.Call (.Attribute o "join" A) [e] [] u) X (.str vj.flatten):=
 xy SA SH T (zr h cT L) f (by simp [L]) (dK _ _) E λg v z d b=>by
  refine ai b.jc λw j q=>?_;subst j;refine OO d q (strs_map vj) ?_ (join_nil vj);rw [List.length_flatten]at m;exact m
theorem cR(l:I Char):Str.ofString (String.ofList l)=⟨(l.map Char.toNat).toArray⟩:=PySem.W.Fast.ofString_ofList l
theorem eU(h:u<=1000000):ej u=Y:=cL h
theorem pH(h:U a+U b<=1000000):kH .Add (.str a) (.str b)=D (.str (a++b)):=by
 exact(aL (eU h))
theorem G7(h:U a+U b<=1000000):kH .Add (.list a) (.list b)=D (.list (a++b)):=by
 exact(aL (eU h))
theorem acI(h:ir a=Y)(O:ir b=Y):kH .Mult (.int a) (.int b)=D (.int (a*b)):=by
 show(if(ir a&&ir b)=Y then D _ else aa)=_;rw [h,O];rfl
theorem acF(h:ir a=Y)(O:b≠0):kH .FloorDiv (.int a) (.int b)=D (.int (a.fdiv b)):=by
 have:(b !=0)=Y:=by simpa using O
 show(if(b !=0&&ir a)=Y then _ else aa)=_;rw [h,this];rfl
theorem acH(h:ir a=Y)(O:b≠0):kH .Mod (.int a) (.int b)=D (.int (a.fmod b)):=by
 have:(b !=0)=Y:=by simpa using O
 show(if(b !=0&&ir a)=Y then _ else aa)=_;rw [h,this];rfl
theorem Pa(h:ir a=Y)(O:0<=b)(m:b<=1000):kH .Pow (.int a) (.int b)=D (.int (a^b.toNat)):=by
 show(if(aO _&&ir a&&aO _)=Y then _ else aa)=_;simp only [h,cL O,cL m];rfl
theorem Ud(h:a.natAbs<2^64):ir a=Y:=cL (qJ h (by decide+kernel))
theorem O9(h:U a+U b<=1000000):qc .Add (.str a) (.str b)=D (.str (a++b)):=by
 exact(aL (eU h))
theorem Pf{i u:J}(h:i<u):seqIndex? (i) u=D i:=by
 exact aL (cQ.mpr ⟨cL (qG i),cL (jY.mpr h)⟩)
theorem L6{i:J}(h:i<2^60):jQ (i)=Y:=by
 delta jQ;simp;omega
theorem jn{i:J}(A:i<2^60)(h:s[i]?=D a):qm (.str s) (.int i)=D (.str [a]):=by
 show(if jQ (i)then((seqIndex? (i) (U s)).bind (s[·]?)).map λc=>T.str [c]else aa)=_;apply ae (aL (L6 A));rw [Pf ((cG.mp h).1)];simp [h]
theorem fR{i:J}(A:i<2^60)(h:s[i]?=D a):qm (.list s) (.int i)=D a:=by
 show(if jQ (i)then(seqIndex? (i) (U s)).bind (s[·]?)else aa)=_;apply ae (aL (L6 A));rw [Pf ((cG.mp h).1)];assumption
theorem mh(h:aO (a<b)=d):gb .Lt (.int a) (.int b)=D d:=aA D h
theorem CI(h:(a==b)=d):gb .Eq (.str a) (.str b)=D d:=aA D h
theorem zA(h:(!(a==b))=d):gb .NotEq (.str a) (.str b)=D d:=aA D h
theorem G8(h:aO (a∈b)=d):gb .In (.str [a]) (.str b)=D d:=aA D h
theorem acM{d:bw}(B:U a<=1000000)(h:(!a.isEmpty)=d):tn (.str a)=D d:=by
 refine ae (aL (eU B)) ?_;rw [h]
theorem CJ{d:bw}(B:U a<=1000000)(h:(!a.isEmpty)=d):tn (.list a)=D d:=by
 refine ae (aL (eU B)) ?_;rw [h]
structure Ly(O:Type)where
 B:bD O
 Z:cy
 w:bX
 mg:af->bg aB
 mb:af->bg aB
 G:fe B mg mb
 bi:∀(i:J)(x:af)(v:aB),wc[i]?=D (x,v)->mg x=aa/\mb x=D v
noncomputable abbrev Ly.c(H:Ly q)(L:cZ)(F:Mk)(G:c3)(u:J)(i:dW L u):Cx q:=⟨H.B,H.Z,H.w,L,F,G,H.mg,H.mb,u,H.G,i,H.bi⟩
abbrev Ly.aZ(H:Ly q)(L:af)(i:J):Prop:=pZ H.B H.mg L i
abbrev Ly.F(H:Ly q)(u:J)(L:af)(h:I T)(r:T):Prop:=Aw H.B H.Z H.w H.mg u L h r
theorem Ly.fn(H:Ly q)(i:J)(n:I af)(G:I _)(aZ:H.aZ e i)(x:(eg (bB i)).names=G)(Q:zz (eg (bB i)) n=Y)(g:qk G n (U n)=Y)
  (j:p.length<=U n)(d:∀y code r(z:I aB),U z=p.length->bindArgs (docDef e (gw (bB i)) (dD (bB i)) (eg (bB i)) y code r) ⟨z,[]⟩=pure (e0 n z))
  (B:∀L F a(h:dW L u),Fm a n (U n) G->∃l,EX (H.c L F a u h) n (U n) (rf n p) (dD (bB i)) l (.ret b)):H.F (u+1) e p b:=
 Uq H.G aZ (mj Q) j d λL F y code r k t h=>(B L F _ h (jP g x)).imp λE s=>s.1
section
variable{y:Ly O}
theorem ZD{R:Type}{z:I R}{P:I R->Prop}(h:U z=0)(k:P []):P z:=(xT h).symm▸k
theorem BU{R:Type}{z:I R}{P:I R->Prop}(h:U z=u+1)(k:∀a r,U r=u->P (a::r)):P z:=match z,h with
 |a::r,h=>k a r (DD h)
section
variable{α:Type}{P:I α->Prop}
theorem Go(h:∀a,P [a])(l:I α)(X:U l=1):P l:=BU X λa E w=>ZD (P:=λr=>P _) w (h a)
theorem BR(h:∀a b,P [a,b])(l:I α)(X:U l=2):P l:=BU X λa r w=>Go (P:=λr=>P _) (h a) r w
theorem Gp(h:∀a b c,P [a,b,c])(l:I α)(X:U l=3):P l:=BU X λa r w=>BR (P:=λr=>P _) (h a) r w
theorem BS(h:∀a b c d,P [a,b,c,d])(l:I α)(X:U l=4):P l:=BU X λa r w=>Gp (P:=λr=>P _) (h a) r w
end
theorem M5{P:J->Prop}(n:P 0)(w:P 1)(v:P 2):∀i,i<3->P i:=λi=>i.rec (λE=>n) λi E=>i.rec (λE=>w) λi E=>i.rec (λE=>v) λi E h=>bA h (Sj (dK 3 i))
abbrev vP(S:rY)(n:I af)(z:I aB):Prop:=bindArgs S ⟨z,[]⟩=pure (e0 n z)
theorem bind1(h:∀a,vP S n [a]):∀z,U z=1->vP S n z:=Go h
theorem yt(h:∀a b,vP S n [a,b]):∀z,U z=2->vP S n z:=BR h
theorem Ug(h:∀a b d,vP S n [a,b,d]):∀z,U z=3->vP S n z:=Gp h
noncomputable def pD(a:J):I J:=if a∈[42,63,91]then [91,a,93]else [a]
theorem GX(a:J):U (pD a)<=3:=by delta pD;split<;>simp
end
theorem Ep{l:I J}:SJ ⟨l.toArray⟩ ⟨[o].toArray⟩ (U l) i<->l[i]?=D o:=by
 delta SJ Builtin.Str.subAt
 have e:(⟨[o].toArray⟩:af).length=1:=C;refine e▸?_;have b:(l.toArray.extract i (i+1)).toList=(l.drop i).take 1:=by simp
 have x:((l.toArray.extract i (i+1))==[o].toArray)=Y<->(l.drop i).take 1=[o]:=by
  rw [DO,<-Array.toList_inj,b]
 simp only [x];cases P:l.drop i with
 |nil=>
  have:=List.drop_eq_nil_iff.mp P;exact⟨λh=>bA h.2 (by simp),λh=>bA (cG.mp h).1 (λr=>rh (d_ 0 (.n 1) (.n 0) (.v 0) (.v 1) (.a (.v 1) (.n 1)) (.v 0) C [_,_] this r))⟩
 |cons a s=>
  have A:l[i]?=D a:=by apply ae (List.head?_drop).symm;rw [P];rfl
  have X:=(cG.mp A).1;simp only [A];simp;omega
section
variable{st:cz}
theorem Mu{R:Type}{p:Prop} [Decidable p]{x H:R}(h:H=x):(if p then x else H)=x:=h▸ite_self H
theorem PR(h:swappedStores.match_5 _ e (λE A=>Y) (λE=>ay)=Y):dO e=ay:=aA _ h
theorem P5{a b:cE}(B:G.blockKind=.function)(j:G.kindOf x=D .local)(L:G.kindOf H=D .local)(X:c.line=r.line)(s:(H==x)=ay)
  (g:[a,b].all (foldedForSure 8)=ay)(l:[a,b].all (constantsAlone 8)=ay)(w:dO a=Y)(v:dO b=Y):swappedStores [.Tuple [.Name x c,.Name H r] E k] (.Tuple [a,b] k₂ n) G=pure (D [x,H]):=by
 refine ae (aJ (λq=>?_)) (ae (aJ λq=>?_) ?_)
 .rw [B]at q;exact cY C q
 .refine ai (mH.mp q) λe m q=>?_;have:dO e=Y:=by rcases cD.mp m with rfl|m;exact w;exact cO.mp m▸v
  exact cY (PR q) this
 have z:=ae (IL (l:=[zX H r]) (a:=zX x c) (f:=λe=>match e with|.Name id i=>if G.kindOf id==D .local&&i.line==c.line then D id else aa|_=>aa) (aL (cQ.mpr ⟨beq_iff_eq.mpr j,beq_self_eq_true _⟩))) (aA _ (IL (aL (cQ.mpr ⟨beq_iff_eq.mpr L,beq_iff_eq.mpr X.symm⟩))));have m:[x,H].eraseDups=[x,H]:=by
  apply ae (List.eraseDups_cons);show x::((match !(H==x)with|Y=>[H]|ay=>[]).eraseDups)=_;exact s▸C
 exact(aJ λq=>(cY (aA (λh:I af=>h.length !=2) m) ((aA (λp:I af=>(U p !=2||U p.eraseDups !=U p)) z).symm.trans q))).trans (ae (aJ (cY g)) (ae (aJ (cY l)) (aA (λu=>pure (D u)) z)))
theorem z2(F:Fm c.V n k G)(i t z m:J){a b:cE}(j:n[i]?=D x)(A:i<k)(L:n[t]?=D h)(O:t<k)(p:G[z]?=D (x,.local))(B:G[m]?=D (h,.local))(y:ER c n k R aj [a,b] P [q,o])(X:e.line=r.line)(l:(h==x)=ay)
  (g:[a,b].all (foldedForSure 8)=ay)(f:[a,b].all (constantsAlone 8)=ay)(w:dO a=Y)(u:dO b=Y):
  ES c n k R (.Assign [.Tuple [.Name x e,.Name h r] aE au] (.Tuple [a,b] ao aj) aC) ((P.set t (.t o)).set i (.t q)) .next:=by
 refine⟨λT E s Q H d S ah=>?_⟩;have ak:c.V.blockKind=.function:=by
  have:=S.1.kind
  first|exact this|(delta Dp;simp [this])|trace_state
 exact K7 c.R.handled (Bp y.1 C) (.cons (λv Q H s=>zG v Q H s) L O (F.loc L O) (.cons (λv Q H s=>zG v Q H s) j A (F.loc j A) .nil)) C C C (P5 ak (F.kn z p nofun) (F.kn m B nofun) X l g f w u) T E s Q H d S ah
theorem fb(h:ES c n k y u P .next)(q:P=X):EX c n k y [u] X .next:=q▸zx h fY
theorem jo(h:EC c n k y e P b)(q:b=z):EC c n k y e P z:=q▸h
theorem gJ(h:EE c n k y e P A)(q:A=z):EE c n k y e P z:=q▸h
theorem QO(h:EC c n k y e P b)(d:aS)(q:(if b then i else t)=d):EE c n k y (.IfExp e (.Constant (.int i) E a) (.Constant (.int t) k₂ r) p) P (.int d):=by
 subst q;cases b with
 |true=>exact nE h (zi i)
 |false=>exact nE h (zi t)
theorem QN(h:EC c n k y e P b)(w:b=Y->EE c n k P a P z)(v:b=ay->EE c n k P x P z):EE c n k y (.IfExp e a x p) P z:=by
 cases b with
 |true=>exact nE h (w C)
 |false=>exact nE h (v C)
theorem afh(h:EE c n k y e P (.bool ay))(v:EE c n k P x X z):EE c n k y (.BoolOp .Or [e,x] p) X z:=⟨WG c.R h.1 C (Wq v.1)⟩
theorem afi(h:EE c n k y e P (.bool Y)):EE c n k y (.BoolOp .Or [e,x] p) P (.bool Y):=⟨WH c.R h.1 C⟩
theorem qz{l r:I J}{lo A:bg aS}(B:U l<=1000000)(h:cut lo A l=r):CO (.str l) lo A=D (.str r):=by
 refine ae (aL (eU B)) ?_;rw [h]
theorem w6{lo A:bg aS}(B:U l<=1000000)(h:cut lo A l=r):CO (.list l) lo A=D (.list r):=by
 refine ae (aL (eU B)) ?_;rw [h]
theorem Kh{u m:J}{i:aS}(e:(if i<0 then i+u else i)=(m))(h:m<=u):clipAt u i=m:=
 ae (aA (λt:aS=>(max 0 (min t (u))).toNat) e) (ae (aA (λt:aS=>(max 0 t).toNat) (Int.min_eq_left (mE.mpr h))) (aA II (RK (qG m))))
theorem UL{u m:J}{i:aS}(e:(if i<0 then i+u else i)=(m))(h:u<=m):clipAt u i=u:=
 ae (aA (λt:aS=>(max 0 (min t (u))).toNat) e) (ae (aA (λt:aS=>(max 0 t).toNat) (Int.min_eq_right (mE.mpr h))) (aA II (RK (qG u))))
theorem Kl(u m:J):(if(m:aS)<0 then(m:aS)+u else m)=(m):=aJ (xQ.mpr (qG m))
theorem we(u m:J):clipAt u (m)=min m u:=
 (Dy m u).elim (λh=>ae (Kh (Kl u m) h) (vF h).symm) λh=>ae (UL (Kl u m) h) (Sh h).symm
theorem A6(u m:J)(n:0<m):clipAt u (-(m))=u-m:=by
 have e:(if-(m:aS)<0 then-(m:aS)+u else-(m))=-(m)+u:=aL (Int.neg_neg_of_pos (Int.natCast_pos.mpr n));rcases Dy m u with h|h
 .exact Kh (ae e (ae (Dr _ _) (Int.ofNat_sub h).symm)) (DA u m)
 .refine ae (aA (λt:aS=>(max 0 (min t (u))).toNat) e) (ae (aA II (Int.max_eq_left (xP (Int.min_le_left _ _) ?_))) (agG h).symm);rw [Dr];exact Int.sub_nonpos_of_le (mE.mpr h)
theorem EH(l:I R)(u:J):cut aa (D (u)) l=l.take u:=by
 show l.take (clipAt (U l) (u))=_;rw [we];exact ago.symm
theorem U5(l:I R)(u:J):cut (D (u)) aa l=l.drop u:=by
 show(l.drop (clipAt (U l) (u))).take (U l-clipAt (U l) (u))=_;rw [we,<-xU,agp];exact(Dy u (U l)).elim (λh=>(vF h).symm▸C) λh=>(Sh h).symm▸(ae af2 (vz h).symm)
theorem Ks(l:I R)(u:J)(n:0<u):cut (D (-(u))) aa l=l.drop (U l-u):=by
 show(l.drop (clipAt (U l) (-(u)))).take (U l-clipAt (U l) _)=_;rw [A6 _ _ n,<-xU,agp]
theorem Ku(l:I R)(u m:J):cut (D (u)) (D (m)) l=(l.take m).drop u:=by
 show(l.drop (clipAt (U l) (u))).take (clipAt (U l) (m)-clipAt (U l) (u))=_;rw [we,we,<-RS,<-ago];rcases Dy u (U l)with h|h
 .rw [vF h]
 .rw [Sh h,vz (R4 m l),vz (aD (R4 m l) h)]
end
theorem yr{a:J}(h:a<2^2000):ir (a)=Y:=cL (qJ (h) (by decide+kernel))
theorem acJ{a b:J}(h:a<2^2000)(O:b<2^2000):kH .Mult (.int a) (.int b)=D (.int ((a*b:J))):=by exact acI (yr h) (yr O)
theorem acK{a b:J}(h:a<2^2000)(O:b<=1000):kH .Pow (.int a) (.int b)=D (.int ((a^b:J))):=by
 apply ae (Pa (yr h) (by exact mE.mpr (eF (.n 0) (.v 0) C [_])) (mE.mpr (O)));rw [IJ,Int.natCast_pow]
theorem O_{a b:J}(h:a<2^2000)(O:0<b):kH .FloorDiv (.int a) (.int b)=D (.int ((a/b:J))):=by
 apply ae (acF (yr h) (by exactλr=>rh (d_ 0 (.n 1) (.n 0) (.a (.n 0) (.n 1)) (.v 0) (.v 0) (.n 0) C [_] O ((iX (Ds r))))));rw [Int.fdiv_eq_ediv_of_nonneg _ (by exact mE.mpr (eF (.n 0) (.v 0) C [_]))];rfl
theorem G_{a b:J}(h:a<2^2000)(O:0<b):kH .Mod (.int a) (.int b)=D (.int ((a%b:J))):=by
 apply ae (acH (yr h) (by exactλr=>rh (d_ 0 (.n 1) (.n 0) (.a (.n 0) (.n 1)) (.v 0) (.v 0) (.n 0) C [_] O ((iX (Ds r))))));rw [Int.fmod_eq_emod_of_nonneg _ (by exact mE.mpr (eF (.n 0) (.v 0) C [_]))];rfl
def lE(s:bg cz):cE:=(nq s).1
def oZ(s:bg cz):cE:=(nq s).1
def v_(s:bg cz):cE:=(nq s).1
def uE(s:bg cz):cE:=(nq s).1
def lD(s:bg cz):I cz:=(nq s).2.2.1
def iw(s:bg cz):I cz:=(nq s).2.2.1
def L7(s:bg cz):I cz:=(nq s).2.2.1
def mZ(s:bg cz):I cz:=(nq s).2.2.2.1
theorem u5(h:a+b=d):qc .Add (.int a) (.int b)=D (.int d):=by subst h;rfl
theorem ru(h:a+b=d):kH .Add (.int a) (.int b)=D (.int d):=by subst h;rfl
theorem rK(a:EC c h k y e P ay)(v:EX c h k P z X A):EW c h k e t z n y X A:=.stop a.1 v.1
theorem ow(a:EC c h k y e P Y)(v:EX c h k P t X .next)(R:EW c h k e t z n X O A):EW c h k e t z (n+1) y O A:=.go a.1 v.1 (.inl C) R
theorem my:jH c n k h t [] y y .next:=.nil
theorem ki(w:EA c n k y h e P)(v:EX c n k P t dc .next)(R:jH c n k h t p dc O A):jH c n k h t (e::p) y O A:=.go w.1 v.1 (.inl C) R
noncomputable def u7:I J:=[40,41,91,93,123,125,63,42,43,45,124,94,36,92,46,38,126,35,32,9,10,13,11,12]
def lZ(a:J):I J:=if a∈u7 then [92,a]else [a]
noncomputable def sJ:I J:=[40,63,115,58]
noncomputable def CY:I J:=[41,92,90]
structure EP(c:Cx O)(xs:I af)(k:J)(lv:I (AV O))(e:cE)(τ:T):Prop where
 ev:p8 c.B c.Z c.w c.A c.ρ c.V xs k lv e τ
theorem vq(a:aS):EP c n k y (.Constant (.int a) v p) (.int a):=⟨V3⟩
theorem H9(F:Fm c.V n k G)(i:J)(j:n[i]?=D x)(X:y[i]?=D (.t z)):EP c n k y (.Name x p) z:=⟨EY j X (F.eY j)⟩
theorem Df(h:EP c n k y e (.int i)):EP c n k y (.UnaryOp .USub e p) (.int (-i)):=⟨V4 h.1⟩
theorem zP(F:Fm c.V n k G)(t:J)(j:n[t]?=D h)(X:y[t]?=D (.own l))(v:EP c n k y x (.int i))(e:qm (.list l) (.int i)=D z)(B:uT x=Y):EE c n k y (.Subscript (.Name h a) x p) y z:=
 ⟨Wz j X (F.eY j) v.1 e λb s d p q=>by subst q;contradiction⟩
theorem QK(F:Fm c.V n k G)(i:J)(a:n[i]?=D s)(t:y[i]?=D (.own q))(w:EE c n k y e P (.int ii))(d:P[i]?=D (.own l₁))(L:qm (.list l₁) (.int ii)=D x)
  (v:EE c n k P l X m)(H:X[i]?=D (.own l₂))(b:qc o x m=D τ)(A:jQ ii=Y)(O:seqIndex? ii (U l₂)=D j)
  (T:∀Q h S,augStore e Q h S=(do holding [S,Q,h] (setItem Q h S);release [S,Q,h] [];pure .next)):
  ES c n k y (.AugAssign (.Subscript (.Name s f) e r) o l p) (X.set i (.own (l₂.set j τ))) .next:=⟨Wf a (F.eY a) t w.1 d L v.1 H b A O T⟩
theorem Dc{R:Type}{j:I R}{f:R->T}(x:af)(b:I af)(a:I J)(L:R->T){i i':J}(F:Fm c.V n k G)(r:uf v [x] b=Y)(s:uc G n b a=Y)(A:qk v.names (x::b) 1=Y)(q:EI aM c n k aC O P (j.map f))(p:noOwn P a=Y)
  (Q:∀d,Fm (c.ff v d).V (x::b) 1 v.names->∀y∈j,EE (c.ff v d) (x::b) 1 (.t (f y)::a.map λi=>(P[i]?).getD .un) o (.t (f y)::a.map λi=>(P[i]?).getD .un) (L y))
  (B:uS O=Y)(m:U j<=1000000)(g:n[i]?=D E)(l:i<k)(z:G[i']?=D (E,.local))(X:h.line=w.line)(H:(v.names.any λ(u,e)=>u==E&&(e==.local||e==.cell))=ay):
  ES c n k aC (.Assign [.Name E h] (.ListComp o [⟨.Name x aK,O,[],0⟩] v w) aN) (P.set i (.own (j.map L))) .next:=by
 refine⟨λak ao au aj ah aE S aF=>?_⟩;have aH:c.V.blockKind=.function:=by
  have:=S.1.kind
  delta Dp;simp [this,ag4]
 have t:=F.kn i' z nofun;refine K5 (Ba r) (A3 F s) q.1 (Cf p) (λd=>QY (qU A) f L j .un (Q d (qU A))) (Co B) (.inl (cH _ _ C)) (cL (by rw [dg];exact m)) (zg (pre:=[qp .un _]) C) g l t ?_ ak ao au aj ah aE S aF
 .show(pure (c.V.blockKind==.function&&c.V.kindOf E==D .local&&h.line==w.line&&!(v.names.any λ(u,k)=>u==E&&(k==.local||k==.cell))))=pure Y;refine aH▸t▸X▸H▸?_;simp
theorem adG(u:J)(a b:I J):gA (u+1) (.str a) (.str b)=D (a==b):=C
theorem FT(h:I J):∀B:I _,jR (.str h) (B.map .str)=D (aO (h∈B))
 |[]=>C
 |a::r=>by
  show(match gA 6 _ _,jR _ _ with|D a,D b=>D _|_,_=>aa)=_;simp only [(FT h r),adG 5];simp only [cD,Option.some.injEq];rw [oE];simp only [afH,DO,oK];exact or_congr_left ⟨Dq,Dq⟩
theorem ints_map:∀l,kJ (l.map .int)=D l:=λT=>T.rec
 (C)
 (λx r n=>aA (qK (List.cons x)) n)
section
variable{c:Cx O}{st:cz}
noncomputable abbrev Cx.re(c:Cx O)(a:aq):Cx O:={c with ρ:=⟨c.ρ.star,a⟩}
noncomputable abbrev Cx.sr(c:Cx O)(a:aq):Cx O:={c with ρ:=⟨a,c.ρ.mark⟩}
theorem Q1(F:Fm c.V n k G)(i:J)(j:n[i]?=D x)(l:i<k)(h:∀a,EX (c.re a) n k (y.set i (.gT [])) z P A)(R:y.all wO=Y)(S:P.all wO=Y):EX c n k y (.Assign [.Name x e] (.List [] r) p::z) P A:=
 ⟨WN j l (F.loc j l) (λa=>(h a).1) R S⟩
theorem qE(i:J)(h:EX c n k (y.set i .un) z P A):EX c n k y z P A:=⟨WL h.1⟩
theorem rI(i:J)(h:EX c n k y z aX A):EX c n k y z (aX.set i .un) A:=⟨WM i h.1⟩
theorem Rj(i:J)(X:y[i]?=D (.gT l))(h:EX c n k (y.set i (.own l)) z P A):EX c n k y z P A:=⟨WQ X h.1⟩
theorem Q4(F:Fm c.V n k G)(i t:J)(j:n[i]?=D x)(X:y[i]?=D (.gT l))(L:n[t]?=D H)(v:t<k):ES c n k y (.Assign [.Name H r] (.Attribute (.Name x h) "append" A) p) (y.set t .lu) .next:=
 ⟨Wl j X (F.eY j) L v (F.loc L v) C⟩
theorem zO(F:Fm c.V n k G)(i t:J)(j:n[i]?=D x)(L:n[t]?=D H)(X:y[t]?=D .lu)(h:EE c n k y e P z)(d:P[t]?=D .lu)(A:P[i]?=D (.gT l))(a:dO e=Y)(m:ej (U l)=Y):
  ES c n k y (.Expr (.Call (.Name H r) [e] [] u) w) (P.set i (.gT (l++[z]))) .next:=⟨V' j L X (F.eY L) h.1 d A (g_ a) m C⟩
theorem QJ(i:J)(j:n[i]?=D x)(X:y[i]?=D (.gT l))(h:EC c n k (y.set i (.own l)) e P b)(d:P[i]?=D (.own H)):EC c n k y e (P.set i (.gT H)) b:=⟨VA j X h.1 d⟩
theorem afd(F:Fm c.V n k G)(i t:J)(j:n[i]?=D x)(l:i<k)(O:G[t]?=D (("object":af),.globalImplicit))(h:∀a,EX (c.sr a) n k (y.set i (.t .atom)) z P A)(e:y.all wN=Y)(w:P.all wN=Y)(v:Nz A=Y):
  EX c n k y (.Assign [.Name x b] (.Call (.Name "object" r) [] [] u) p::z) P A:=⟨WO c.G j l (F.loc j l) (F.kn t O nofun) (c.bi 11 _ _ C).1 (c.bi 11 _ _ C).2 (λa=>(h a).1) e w v⟩
structure EJ(c:Cx O)(xs:I af)(k:J)(lv:I (AV O))(es:I cE)(acc:I J)(lv':I (AV O))(out:I J):Prop where
 ev:yk c.B c.Z c.w c.A c.ρ c.V xs k lv es acc lv' out
theorem H8:EJ c n k y [] o y o:=⟨VN⟩
theorem zj(a:EE c n k y e P (.str h))(B:U (o++h)<=1000000)(v:EJ c n k P Q (o++h) X b):EJ c n k y (e::Q) o X b:=⟨VM a.1 (eU B) v.1⟩
theorem HZ(h:EJ c n k y (e::x::Q) [] P out)(B:U out<=1000000):EE c n k y (.JoinedStr (e::x::Q) p) P (.str out):=⟨Ww h.1 (eU B)⟩
theorem HY(a:EE c n k y e P (.str h))(B:U h<=1000000):EE c n k y (.FormattedValue e (-1) aa p) P (.str h):=⟨Wu a.1 (eU B)⟩
theorem Dg(h:EC c n k y e P Y)(v:EX c n k P t X .brk):EW c n k e t z u y X .next:=.brk h.1 v.1
theorem afl(h:ES c n k y u P .next)(q:P=X)(v:EX c n k X z m7 A):EX c n k y (u::z) m7 A:=zx h (q▸v)
theorem rE(h:EX c n k y z P A)(q:P=X):EX c n k y z X A:=q▸h
theorem C'(F:Fm c.V n k G)(i:J)(j:n[i]?=D x)(X:y[i]?=D (.own l))(e:tn (.list l)=D b):EC c n k y (.Name x p) y b:=by
 refine⟨?_⟩;rintro T g s Q H⟨w,m,L,S⟩R;exact um (S.lend j X) λv d u r o dl z=>agR (eO (eK w S.ns u (C4 c.R dl e s _ _ r λt q f=>ai (z _ _ f) λa B h=>R t a f.same B ⟨w,m,L,h⟩)) (F.eY j)) C
end
theorem US(x:I J)(l:I T):gb .In (.str x) (.list l)=jR (.str x) l:=C
theorem EB(x:I J)(B:I _):gb .In (.str x) (.list (B.map T.str))=D (aO (x∈B)):=by simp only [US,FT]
def hU(l:I cz)(u:J):cz:=(fV u l).getD (.Pass default)
noncomputable abbrev tS(l:I (I J)):I T:=l.map .str
theorem acO{u:J}(h:0<u):seqIndex? (-1) u=D (u-1):=by
 cases u with
 |zero=>exact bA h (i7 0)
 |succ m=>exact Pg m
theorem G9(h:l[U l-1]?=D t):qm (.list l) (.int (-1))=D t:=by
 show(if jQ (-1)then(seqIndex? (-1) (U l)).bind _ else aa)=_;rw [acO (by exact cS 0 (.a (.n 0) (.n 1)) (.v 0) (.a (.v 1) (.n 1)) (.v 0) C [_,_] ((cG.mp h).1))];assumption
theorem T9{op:Operator}{e:cE}(a:uT e=Y)(Q h S:aB):augStore e Q h S=(do holding [S,Q,h] (setItem Q h S);release [S,Q,h] [];pure .next):=by
 cases e<;>first|rfl|exact cY C a
noncomputable def Gy:I (af×fc):=[("inp",.local),("STAR",.local),("res",.local),("add",.local),("i",.local),("n",.local),("fixed",.local),("len",.globalImplicit)]
noncomputable def xq:I af:=["inp","STAR","res","add","i","n","fixed"]
abbrev DY(u:J):bg cz:=fV u (dD (bB 13))
theorem oU{R:Type}(d l:I R):(d++l)[U d]?=l[0]?:=by apply ae (kU (dm _));rw [Nat.sub_self]
abbrev Jr:I cz:=lD (DY 4)
noncomputable abbrev BX(s o:I T)(i:aS)(r:AV q):I (AV q):=[.t (.list s),.t .atom,.gT o,.lu,.t (.int i),.t (.int s.length),r]
theorem yO{l:I T}(X:U l<=1000)(h:l[i]?=D z):i<2^60:=eH (cG.mp h).1 (aD X (az C))
theorem F7(F:Fm c.V xq 7 Gy){i:J}{s:I T}(X:U s<=1000)(h:s[i]?=D z)(f:gb .IsNot z .atom=D b):
  EC c xq 7 [.t (.list s),.t .atom,a,e,.t (.int i),.t (.int (U s)),r] (.BoolOp .And [.Compare (.Name "i" k) [.Lt] [.Name "n" n] x,.Compare (.Subscript (.Name "inp" l) (.Name "i" j) t) [.IsNot] [.Name "STAR" o] q] v) [.t (.list s),.t .atom,a,e,.t (.int i),.t (.int (U s)),r] b:=
 jo (b:=Y&&(b&&Y)) (kO (zC (zv F 4 C C) (zv F 5 C C) (mh (cL (jY.mpr (cG.mp h).1))) C) λE=>kO (zC (dS (zv F 0 C C) (zv F 4 C C) (fR (yO X h) h) C) (zv F 1 C C) f C) λE=>tD) (by cases b<;>rfl)
noncomputable def qn(p:I (I J)):I T:=(p.map λA=>[T.atom,.str A]).flatten++[.atom]
noncomputable def q8(p:I (I J)):I (I J):=p.map (λA=>[40,63,62,46,42,63]++A++[41])++[[46,42]]
theorem YS(p:I (I J)):U (qn p)=2*U p+1:=p.rec C λA p n=>by
 show U (qn p)+2=_;rw [n];rfl
theorem BI{s y:I T}(h:s=y++l):s[U y+k]?=l[k]?:=by rw [h,kU (fO _ _),x6]
theorem YT(F:Fm c.V xq 7 Gy){s:I T}(X:U s<=1000):∀(p:I (I J))(y o:I T)(r:AV d),s=y++qn p->(∀t∈p,U t<=1000)->U o+U p<=1000->
  ∃a,EW c xq 7 (lE (DY 4)) Jr [] (U p) (BX s o (U y) r) (BX s (o++tS (q8 p)) (U s) a) .next:=λj=>j.rec
 (λy o r h _ z=>by
  have A:s[U y]?=D .atom:=BI (k:=0) h;have m:U s=U y+1:=by rw [h];exact cA
  have k:EW c xq 7 (lE (DY 4)) Jr [] 0 (BX s o (U y) r) (BX s (o++[.str [46,42]]) (U y+1:J) r) .next:=
   Dg (zC (zv F 4 C C) (zv F 5 C C) (mh (cL (jY.mpr (cG.mp A).1))) C) (zx (xt (zC (dS (zv F 0 C C) (zv F 4 C C) (fR (yO X A) A) C) (zv F 1 C C) C C)) (zx (tE F 4 C (dK _ _) C (zi 1) (u5 (d:=(U y+1:J)) C))
    (vt (dP (b:=Y) (zC (zv F 4 C C) (zv F 5 C C) (aA D (by rw [m];exact beq_self_eq_true _)) C) (zx (zO F 2 3 C C C (zs [46,42] (cR ['.','*'])) C C C (eU (aD (fO _ _) (aD z (az C))))) (vt HU))))))
  rw [<-m]at k
  exact⟨r,k⟩)
 (λt p f y o r h g z=>by
  have h:s=y++(.atom::.str t::qn p):=h;have n:s[U y]?=D .atom:=BI (k:=0) h;have w:s[U y+1]?=D (.str t):=BI h;have v:s[U y+2]?=D .atom:=ae (BI h) (by cases p<;>rfl);have e:=g t (.head _);have b:∀{x:J}{l},s[x]?=D l->((x:aS)==(U s:aS))=ay:=λi=>beq_eq_false_iff_ne.mpr λq=>fH (cG.mp i).1 (Ds q);have i:U (y++[T.atom,.str t])=U y+2:=cA;refine bH (f (y++[.atom,.str t]) (o++[.str ([40,63,62,46,42,63]++t++[41])]) (.t (.str t)) (ae h (gX y [.atom,.str t] _).symm) (λP u=>g P (.tail _ u)) (by rw [cA];show _+1+_<=_;rw [vD,qI 1];exact z)) λa q=>⟨a,?_⟩;rw [i,gX o]at q;have Q:U o<=1000000:=aD (fO _ _) (aD z (az C))
  exact ow (zC (zv F 4 C C) (zv F 5 C C) (mh (cL (jY.mpr (cG.mp n).1))) C) (zx (xt (zC (dS (zv F 0 C C) (zv F 4 C C) (fR (yO X n) n) C) (zv F 1 C C) C C)) (zx (tE F 4 C (dK _ _) C (zi 1) (u5 (d:=(U y+1:J)) C))
   (zx (dP (b:=ay) (zC (zv F 4 C C) (zv F 5 C C) (aA D (b w)) C) fY) (zx (xt (zC (dS (zv F 0 C C) (zv F 4 C C) (fR (yO X w) w) C) (zv F 1 C C) C C))
   (zx (vp F 6 C (fG _) (rG cT C) C) (zx (lI (ow (n:=0) (F7 F X w C) (zx (vm F 6 C C (dS (zv F 0 C C) (zv F 4 C C) (fR (yO X w) w) C) C C C C) (zx (tE F 4 C (dK _ _) C (zi 1) (u5 (d:=(U y+2:J)) C)) fY)) (rK (F7 F X v C) fY)))
   (zx (eL F 6 C (fG _) (gJ (De (vj:=[t]) (zs [] (cR [])) (zQ F 6 C C) C C C (by rw [IT,List.flatten_nil,ju];exact aD e (az C))) (aA T.str (ju t))) C)
   (fb (dP (b:=ay) (zC (zv F 4 C C) (zv F 5 C C) (aA D (b v)) C) (zx (zO F 2 3 C C C (HZ (out:=[40,63,62,46,42,63]++t++[41]) (zj (zs [40,63,62,46,42,63] (cR ['(','?','>','.','*','?'])) (az C) (zj (HY (zv F 6 C C) (aD e (az C))) (by rw [cA];exact aD (iO e _) (az C)) (zj (zs [41] (cR [')'])) (by rw [cA,cA];exact aD (rQ (iO e _) _) (az C)) H8))) (by rw [cA,cA];exact aD (rQ (iO e _) _) (az C))) C C C (eU Q)) fY)) C)))))))) q)
section
variable{y:Ly O}
theorem aeh(k:y.aZ "_join_translated_parts" 13)(p:I (I J))(g:∀t∈p,U t<=1000)(z:U p<=100)(O:U (sJ++(q8 p).flatten++CY)<=100000):
  y.F (n+1) "_join_translated_parts" [.list (qn p),.atom] (.str (sJ++(q8 p).flatten++CY)):=by
 refine y.fn 13 xq Gy k C (C) (C) (ez C) (λj code l=>yt λE E=>C) λL e G i F=>?_;have X:U (qn p)<=1000:=by rw [YS];exact aD (jx (x8 2 z)) (az C)
 have a:(qn p)[0]?=D .atom:=by cases p<;>rfl
 have h:(q8 p).flatten.length<=100000:=by rw [cA,cA]at O;exact aD (dK _ _) (aD (fO _ _) O)
 generalize A:qn p=s at*;refine⟨[.t (.list s),.t .atom,.t (.str (q8 p).flatten),.un,.t (.int (U s)),.t (.int (U s)),.un],Q1 F 2 C (ez C) (λx=>?_) C C⟩;refine bH (YT (c:=(y.c L e G n i).re x) F X p [] [] .un A.symm g (by rw [aga,jy];exact aD z (az C))) λr b=>?_;rw [R8]at b;refine rE (rI (aX:=[.t (.list s),.t .atom,.t (.str (q8 p).flatten),.un,.t (.int (U s)),.t (.int (U s)),r]) 6 (zx (Q4 F 2 3 C C C (ez C)) (zx (z2 F 4 5 4 5 C (ez C) C (fO _ _) C C (zr (zi 0) (zr (ae0 F 7 C (zv F 0 C C) (eU (aD X (az C))) C) cT C) C) C (C) C C C C) (zx (lI (rK (n:=0) (F7 (i:=0) F X a C) fY)) (zx (lI b) (zx (xt (zC (zv F 4 C C) (zv F 5 C C) (aA D (beq_self_eq_true _)) C)) ?_)))))) C;exact Rj 2 C (qE 3 (zx (eL F 2 C (ez C) (De (zs [] (cR [])) (zQ F 2 C C) C C C (aD h (az C))) C) (h_ (je (HZ (out:=sJ++(q8 p).flatten++CY) (zj (zs [40,63,115,58] (cR ['(','?','s',':'])) (az C) (zj (HY (zv F 2 C C) (aD h (az C))) (by rw [cA];exact aD (iO h _) (az C)) (zj (zs [41,92,90] (cR [')','\\','Z'])) (aD O (az C)) H8))) (aD O (az C)))))))
end
section
variable{c:Cx O}
noncomputable def n9:I (af×fc):=[("pat",.local),("STAR",.local),("QUESTION_MARK",.local),("res",.local),("add",.local),("i",.local),("n",.local),("c",.local),("j",.local),("stuff",.local),("chunks",.local),("k",.local),("chunk",.local),("len",.globalImplicit),("range",.globalImplicit),("_twin_re_1",.globalImplicit),("escape",.globalImplicit)]
noncomputable def x9:I af:=["pat","STAR","QUESTION_MARK","res","add","i","n","c","j","stuff","chunks","k","chunk"]
abbrev B9:I cz:=lD (fV 3 (dD (bB 12)))
noncomputable abbrev L9(d:I J)(o:I T)(i:J)(c Q H f l z:AV O):I (AV O):=[.t (.str d),.t .atom,.t (.str [46]),.gT o,.lu,.t (.int i),.t (.int d.length),c,Q,H,f,l,z]
theorem HE(F:Fm c.V x9 13 n9)(t:U d<=1000)(h:d[i]?=D a)(k:EX c x9 13 (L9 d o (i+1) (.t (.str [a])) Q H f l z) (B9.drop 2) y A):EX c x9 13 (L9 d o i e Q H f l z) B9 y A:=by
 have X:=(cG.mp h).1;exact zx (eL F 7 C (dK _ _) (dS (zv F 0 C C) (zv F 5 C C) (jn (by omega) h) C) C) (afl (eL F 5 C (dK _ _) (fh (zv F 5 C C) (zi 1) (ru (C))) C) C k)
theorem wZ(h:aO (a=b)=d):gb .Eq (.str [a]) (.str [b])=D d:=by
 apply CI;rw [<-h,oE];simp
theorem Qq(F:Fm c.V x9 13 n9)(t:U d<=1000)(h:d[i]?=D 42)(O:o=[]\/∃q s,o=q++[.str s])(X:U o<=100000):
  EX c x9 13 (L9 d o i a7 a8 a9 iq fJ fK) B9 (L9 d (o++[.atom]) (i+1) (.t (.str [42])) a8 a9 iq fJ fK) .next:=by
 have l:EC c x9 13 (L9 d o (i+1) (.t (.str [42])) a8 a9 iq fJ fK) (uE (fV 0 (L7 (fV 2 B9)))) (L9 d o (i+1) (.t (.str [42])) a8 a9 iq fJ fK) Y:=by
  rcases O with rfl|⟨q,s,rfl⟩
  .exact QJ 3 C C (jo (b:=Y||ay) (nA (C_ (b:=ay) (C' F 3 C C C)) nofun) C) C
  .exact QJ 3 C C (jo (b:=ay||(Y||ay)) (nA (C_ (C' (b:=Y) F 3 C C (CJ (aD X (az C)) (by simp)))) λE=>nA (zC (zP F 3 C C (Df (vq 1)) (G9 (t:=.str s) (by simp)) C) (zv F 1 C C) C C) nofun) C) C
 exact HE F t h (fb (dP (b:=Y) (zC (zv F 7 C C) (zs [42] (cR ['*'])) C C) (fb (dP l (fb (zO F 3 4 C C C (zv F 1 C C) C C C (eU (aD X (az C)))) C)) C)) C)
theorem adR(F:Fm c.V x9 13 n9)(t:U d<=1000)(h:d[i]?=D a)(u:a∉[42,63,91])(m:CN c "escape" [.str [a]] (.str (lZ a)))(X:U o<=100000):
  EX c x9 13 (L9 d o i e Q H f l z) B9 (L9 d (o++[.str (lZ a)]) (i+1) (.t (.str [a])) Q H f l z) .next:=by
 simp only [cD,dQ,or_false,not_or]at u
 exact HE F t h (fb (dP (zC (zv F 7 C C) (zs [42] (cR ['*'])) (wZ (ef u.1)) C) (fb (dP (zC (zv F 7 C C) (zs [63] (cR ['?'])) (wZ (ef u.2.1)) C)
  (fb (dP (zC (zv F 7 C C) (zs [91] (cR ['['])) (wZ (ef u.2.2)) C) (fb (zO F 3 4 C C C (nB F 16 C (zr (zv F 7 C C) cT C) m C) C C C (eU (aD X (az C)))) C)) C)) C)) C)
abbrev R9:I cz:=L7 (fV 0 (mZ (fV 0 (mZ (fV 2 B9)))))
theorem occ_none{s:I J}{d:J}(a:d∉s)(u:J)(z:1<=u):(afK ⟨s.toArray⟩ ⟨[d].toArray⟩ 0 (U s) u).isEmpty=Y:=by
 rcases PySem.StrLaws.occ_head _ _ u z with⟨e,_⟩|⟨i,r,e,h,_⟩
 .exact aA _ (e)
 .exact bA (cN (Ep.mp h)) a
abbrev t7:cE:=v_ (fV 2 (mZ (fV 4 R9)))
end
def Ly.DC(H:Ly q)(L:af)(i:J)(S:aB):Prop:=∃a o y r,H.mg L=D (.ref a)/\(∀{h},bF H.B.h₀ h->h.get? a=D o)/\o.data=.func (docDef L (gw (bB i)) (dD (bB i)) (eg (bB i)) y S r)/\(∀{h},bF H.B.h₀ h->h.CodeRec S L)
theorem Ly.W8(H:Ly q)(i:J)(n:I af)(a:I _)(aZ:H.DC h i S)(b:(eg (bB i)).names=a)(Q:zz (eg (bB i)) n=Y)(t:qk a n (U n)=Y)
  (j:p.length<=U n)(d:∀y code r(z:I aB),U z=p.length->bindArgs (docDef h (gw (bB i)) (dD (bB i)) (eg (bB i)) y code r) ⟨z,[]⟩=pure (e0 n z))
  (B:∀L F G(e:dW L u),Fm G n (U n) a->G.code=S->G.qual=h++".<locals>."->∃s,EX (H.c L F G u e) n (U n) (rf n p) (dD (bB i)) s (.ret l)):H.F (u+1) h p l:=Bj aZ λk o y r w v R g=>(o5 k o _ w v R (J9 H.G v R g C C (mj Q) C C j (d y S r) λf L F e=>(B L F _ e (jP t b) C C).imp λE x=>x.1))
section
variable{y:Ly O}
noncomputable def Nf:I (af×fc):=[("text",.local),("len",.globalImplicit)]
noncomputable def C8:I af:=["text"]
theorem ad_(k:y.aZ "_law_counted" 22)(s:I J)(B:U s<=1000):y.F (n+1) "_law_counted" [.str s] (.list (.int (U s)::s.map λ(a:J)=>.int a)):=by
 refine y.fn 22 C8 Nf k C C C (dm _) (λe code r=>bind1 λa=>C) λL h G i F=>?_;apply Exists.intro;refine h_ (je (fh (oq (zr (rH F 1 C (zv F 0 C C) (eU (aD B (az C))) C) cT C) C) (zf (jW "sign" [] [] (λ(a:J)=>.int a) F C C C (xx (zv F 0 C C)) C (λd o A l=>?_) C (aD B (az C)))) ?_))
 .exact Q_ o 2 C (zv o 0 C C) C
 .exact G7 (by simp;exact cS 0 (.a (.n 1) (.v 0)) (.n 1000000) (.v 0) (.n 1000) C [_] B)
noncomputable def n23:I (af×fc):=[("sign",.local)]
noncomputable def x23:I af:=["sign"]
theorem aej(e:y.aZ "_law_plain" 23)(k:J):y.F (u+1) "_law_plain" [.str [k]] (.str (pD k)):=by
 refine y.fn 23 x23 n23 e C C C (dm _) (λa code r=>bind1 λi=>C) λL x G b F=>?_;apply Exists.intro
 delta pD
 by_cases h:k∈[42,63,91]
 .rw [aL h];exact h_ (je (nE (zC (zv F 0 C C) (zs [42,63,91] (cR ['*','?','['])) (G8 (cL h)) C) (fh (fh (zs [91] (cR ['['])) (zv F 0 C C) C) (zs [93] (cR [']'])) C)))
 .rw [aJ h];exact h_ (je (nE (zC (zv F 0 C C) (zs [42,63,91] (cR ['*','?','['])) (G8 (ef h)) C) (zv F 0 C C)))
noncomputable def j3(l:I J):I J:=91::(if 93∈l then [93]else [])++(l.filter λa=>aO (a∉[93,45]))++(if 45∈l then [45]else [])++[93]
end
noncomputable abbrev kM(l:I J):I T:=l.map λa=>T.str [a]
theorem Z7{l:I J}:[a]∈l.map (λa=>[a])<->a∈l:=⟨λh=>ai (dZ.mp h) λb f e=>(zZ e).1▸f,fM⟩
theorem ED(a:J)(l:I J):gb .In (.str [a]) (.list (kM l))=D (aO (a∈l)):=by
 have:=EB [a] (l.map λa=>[a]);rw [dH]at this;exact this.trans (aA D (decide_eq_decide.mpr Z7))
theorem Mb(h:a∈l):gb .In (.str [a]) (.list (kM l))=D Y:=ae (ED a l) (aA D (cL h))
theorem Nt(h:a∉l):gb .In (.str [a]) (.list (kM l))=D ay:=ae (ED a l) (aA D (ef h))
section
variable{y:Ly O}
noncomputable def n24:I (af×fc):=[("signs",.local),("front",.local),("back",.local)]
noncomputable def HR:I af:=["signs","front","back"]
theorem uZ(l:I J):(l.map λa=>[a]).flatten=l:=by
 induction l with
 |nil=>rfl
 |cons a l n=>simp only [iN,IT,n];rfl
theorem ad9(k:y.aZ "_law_bracket" 24)(l:I J)(X:U l<=100):y.F (n+1) "_law_bracket" [.list (kM l)] (.str (j3 l)):=by
 refine y.fn 24 HR n24 k C C C (az C) (λf code r=>bind1 λa=>C) λL b G x F=>?_;have g:U (l.filter λa=>aO (a∉[93,45]))<=100:=aD (kq _ _) X;generalize p:(if 93∈l then [93]else [])=Q;generalize e:(if 45∈l then [45]else [])=i;have t:EE (y.c L b G n x) HR 3 [.t (.list (kM l)),.un,.un] (v_ (D (hU (dD (bB 24)) 0))) [.t (.list (kM l)),.un,.un] (.str Q):=by
  subst p
  by_cases h:93∈l
  .rw [aL h];exact nE (zC (zs [93] (cR [']'])) (zv F 0 C C) (Mb h) C) (zs [93] (cR [']']))
  .rw [aJ h];exact nE (zC (zs [93] (cR [']'])) (zv F 0 C C) (Nt h) C) (zs [] (cR []))
 have j:EE (y.c L b G n x) HR 3 [.t (.list (kM l)),.t (.str Q),.un] (v_ (D (hU (dD (bB 24)) 1))) [.t (.list (kM l)),.t (.str Q),.un] (.str i):=by
  subst e
  by_cases h:45∈l
  .rw [aL h];exact nE (zC (zs [45] (cR ['-'])) (zv F 0 C C) (Mb h) C) (zs [45] (cR ['-']))
  .rw [aJ h];exact nE (zC (zs [45] (cR ['-'])) (zv F 0 C C) (Nt h) C) (zs [] (cR []))
 have q:U Q<=1:=by subst p;split<;>exact az C
 have s:U i<=1:=by subst e;split<;>exact az C
 refine⟨[.t (.list (kM l)),.t (.str Q),.t (.str i)],(zx (eL F 1 C (by decide) t C) (zx (eL F 2 C (by decide) j C) ?_))⟩;refine h_ (je (gJ (fh (fh (fh (fh (zs [91] (cR ['['])) (zv F 1 C C) (pH ?_)) (De (vj:=(l.filter λa=>aO (a∉[93,45])).map λa=>[a]) (zs [] (cR [])) (gJ (zf (nC (us:=l) (g:=λa:J=>T.str [a]) "sign" [] [] (λa=>T.str [a]) (λa=>aO (a∉[93,45])) F C C C (jd (zv F 0 C C)) C (λd o a u=>?_) (λd o a u E=>zv o 0 C C) C (aD X (az C)))) (aA T.list (dH.symm))) C C C ?_) (pH ?_)) (zv F 2 C C) (pH ?_)) (zs [93] (cR [']'])) (pH ?_)) (aA T.str ?_)))
 .exact aD (iO q 1) (az C)
 .exact zC (zv o 0 C C) (zs [93,45] (cR [']','-'])) (aA D (Dq (decide_not (p:=a∈[93,45])):_)) C
 .rw [uZ];exact aD g (az C)
 .rw [uZ];exact aD (iE (aD (fq cA) (iO q 1)) g) (az C)
 .rw [uZ,cA,cA];exact aD (iE (iE (iO q 1) g) s) (az C)
 .rw [uZ,cA,cA,cA];exact aD (rQ (iE (iE (iO q 1) g) s) 1) (az C)
 .subst p e;rw [uZ];rfl
end
noncomputable abbrev nL(l:I J):T:=.list (l.map λ(x:J)=>T.int x)
abbrev mL(h:I (I J)):T:=.list (h.map nL)
noncomputable def KM(r:I J)(T:I (I J))(k:J):J:=((dz 4).map λt=>r.getD t 0*(T.getD t []).getD k 0).sum
def jF(L T:I (I J)):I (I J):=L.map λr=>(dz 4).map (KM r T)
structure Tab(b:J)(M:I (I J)):Prop where
 l:M.length=4
 r:∀r∈M,r.length=4/\∀x∈r,x<b
theorem Fj{l:I J}{t:J}(h:t<U l):(l.map λ(x:J)=>T.int x)[t]?=D (.int (l.getD t 0:J)):=by
 apply ae (jv);rw [tJ,dB h];rfl
theorem getM{M:I (I J)}{t:J}(h:t<U M):(M.map nL)[t]?=D (nL (M.getD t [])):=by
 rw [jv,tJ,dB h];rfl
theorem getD_mem'{R:Type}{M:I R}{d:R}(h:j<U M):M.getD j d∈M:=by
 rw [tJ,dB h];exact af_ h
section
variable{y:Ly O}
noncomputable def n27:I (af×fc):=[("rows",.local),("others",.cell)]
noncomputable def x27:I af:=["rows","others"]
theorem aep(b:y.aZ "_law_times" 27)(L h:I _)(i:Tab (2^1000) L)(a:Tab (2^1000) h):y.F (n+1) "_law_times" [mL L,mL h] (mL (jF L h)):=by
 refine y.fn 27 x27 n27 b C C C (dm _) (λg code u=>yt λj q=>C) λf v G l F=>⟨_,h_ (je (gJ (zf (jW "row" ["others"] [1] (λr=>nL _) F C C C (jd (zv F 0 C C)) C (λd o r s=>?_) C (i.l▸az C))) (by delta jF;show T.list _=T.list _;simp only [dH];rfl)))⟩;refine gJ (zf (jW (us:=dz 4) (g:=λk:J=>T.int k) "k" ["others","row"] [1,0] (λk=>T.int (KM r h k)) o C C C (tF o 2 C (zr (zi 4) cT C) C C C) C (λd H k B=>?_) C (az C))) (aA T.list dH.symm);have B:=fm.mp B;have x:=i.r r s;refine gJ (xA H 2 C (zf (jW (us:=dz 4) (g:=λt:J=>T.int t) "j" ["k","others","row"] [0,1,2] (λt=>T.int (r.getD t 0*(h.getD t []).getD k 0:J)) H C C C (tF H 3 C (zr (zi 4) cT C) C C C) C (λd e t O=>?_) C (az C))) (ae (aA kJ dH.symm) (ints_map _)) C) C;have O:=fm.mp O;have m:t<2^60:=eH O (az C);have A:k<2^60:=eH B (az C);have R:=a.r _ (getD_mem' (d:=[]) (a.l.symm▸O:t<U h));exact fh (dS (zv e 3 C C) (zv e 0 C C) (fR m (Fj (x.1.symm▸O))) C) (dS (dS (zv e 2 C C) (zv e 0 C C) (fR m (getM (a.l.symm▸O))) C) (zv e 1 C C) (fR A (Fj (R.1.symm▸B))) C) (acJ (qJ (x.2 _ (getD_mem' (x.1.symm▸O))) (agF (by decide) (by decide))) (qJ (R.2 _ (getD_mem' (R.1.symm▸B))) (agF (by decide) (by decide))))
end
theorem aW.xj(S:aW X aT c l G n cX z m r s){fp:I aq}(aC:n[i]?=D bz)
  (B:∀b,b∉r i->b∉X.tabs->b≠G.locals->∀o,s.get? b=D o->h.get? b=D o)(bQ:h.Ns G.locals m)(bR:X.inv j h)(cC:Le l j)(bW:Le j h.get?)(bh:∀b o,j b=D o->l b=D o\/s.get? b=aa\/b∈r i)
  (bC:eE G m s bz Q)(bE:Holds X aT j h E Q fp)(P:∀b∈fp,(b∈r i\/e9 X c l G n r b)/\j b=aa):
  aW X aT c j G n cX (z.set i E) m (bU r i fp) h:=by
 have ah:=(cG.mp aC).1;have F:=S.fp i ah;have bf:∀{b o},c.b b=D o->b∉r i:=λv e=>aV ((F _ e).1) v;have aN:∀{b o},c.b b=D o->b≠G.locals:=λv e=>aV (ae (aA _ e) S.nL.1) v;have a_:bF X.h₀ h:=λb o e=>B b (bf (S.f_ b o e)) (S.jb (S.f_ b o e)) (aN (S.f_ b o e)) o (S.base b o e);have x:∀b,l b=aa->(s.get? b).isSome=Y->b∉r i->j b=aa:=λb bZ v b_=>by
  cases e:j b with
  |none=>rfl
  |some o=>
   rcases bh b o e with R|R|R
   .exact aV bZ R
   .rw [R]at v;exact cY C v
   .exact bA R b_
 have ak:∀{t H Q},n[t]?=D H->eE G m s H Q->eE G m h H Q:=λ{t H Q}L u=>by
  rcases u with⟨e,q⟩|⟨g,k,A,o,T,bx⟩
  .exact .inl ⟨e,q⟩
  .have aE:G.kindOf H≠D .local:=λq=>by rw [q]at g;rcases g with g|⟨g,_⟩<;>exact nc nK (bj g) C
   exact .inr ⟨g,k,A,o,B k (λq=>(F k q).2.2.2 t H L aE A) (λq=>(S.tab k q).2.2.2.1 t H L aE A) (S.cell t H k L aE A).1 o T,bx⟩
 have cJ:∀{t H},n[t]?=D H->∃E,z[t]?=D E:=λ{t H}L=>by
  have:t<U z:=by simp only [S.len];exact(cG.mp L).1
  exact⟨_,dB this⟩
 refine{S with len:=by simp [S.len],base:=a_,kept:=λb o e=>B b (bf e) (S.jb e) (aN e) o (S.kept b o e),bJ:=bW,lock:=λbI ck H L=>ak L (S.lock bI ck H L),ns:=bQ,nL:=⟨S.nL.1,?_⟩,vars:=λt H cu L d=>?_,cell:=λt H aY L aF ao=>?_,fp:=λt O b f=>?_,inv:=bR,tab:=λau aK=>?_,dJ:=λb f=>?_,new:=λb o e=>?_,apart:=λa b u f w k y=>?_}
 .exact jC S.ns λo aP aP T aP=>x _ S.nL.2 (cV T) λq=>(F _ q).2.2.1 C
 .by_cases p:t=i
  .subst p;obtain rfl:=bj (aC▸L);have O:=by
    have:=(cG.mp d).1;simpa using this
   obtain rfl:=bj ((jw O)▸d);simp only [show bU r t fp t=fp from aL C];exact⟨Q,ak aC bC,bE⟩
  .have d:=(lN (iF p))▸d;obtain⟨cB,u,aH⟩:=S.vars t H cu L d;have O:=(cG.mp L).1;exact(show bU r i fp t=r t from aJ ‹_›)▸(⟨cB,ak L u,aH.mono cC a_ λb f o e=>B b (S.apart t i O ah p b f) (λq=>(S.tab b q).2.2.2.2 t O f) (S.fp t O b f).2.2.1 o e⟩)
 .have:=S.cell t H aY L aF ao;refine⟨this.1,x _ this.2 (bH (cJ L) λE d=>?_) λq=>(F aY q).2.2.2 t H L aF ao⟩;obtain⟨Q,u,_⟩:=S.vars t H E L d;rcases u with⟨e,_⟩|⟨_,k,cF,c9,cM,_⟩
  .exact bA e aF
  .obtain rfl:=bj (ao▸cF);exact cV cM
 .by_cases p:t=i
  .subst p;rw [show bU r t fp t=fp from aL C]at f;refine bT (P b f) λq bl=>?_;rcases q with q|q
   .have:=F b q;exact(dI this.1 bl this.2.2)
   .exact(lg q.hb bl q.loc q.cell)
  .rw [show bU r i fp t=r t from aJ ‹_›]at f;have:=S.fp t O b f;have cU:t<U z:=by simp only [S.len];exact O
   obtain⟨Q,_,aH⟩:=S.vars t _ _ (dB O) (dB cU);exact(dI this.1 (x _ this.2.1 (aH.live b f) (S.apart t i O ah p b f)) this.2.2)
 .have:=S.tab au aK;refine(lj this.1 (x _ this.2.1 (X.live S.inv au aK) (this.2.2.2.2 i ah)) this.2.2.1 this.2.2.2.1 (λt O f=>?_))
  by_cases p:t=i
  .subst p;rw [show bU r t fp t=fp from aL C]at f;rcases(P au f).1 with q|q
   .exact this.2.2.2.2 t O q
   .exact q.tab aK
  .have f:=(show bU r i fp t=r t from aJ ‹_›)▸f;exact this.2.2.2.2 t O f
 .have:=S.dJ b f;exact(dI this.1 (x _ this.2.1 (bH (gG.mp this.1) λo T=>(cV (S.kept b o T))) (λq=>by rw [(F b q).1]at this;exact cY C this.1)) this.2.2)
 .rcases bh b o e with q|q|q
  .exact S.new b o q
  .exact .inr (S.fresh q).1
  .exact .inr (F b q).1
 .by_cases aM:a=i<;>by_cases aj:b=i
  .exact bA (ae aM aj.symm) w
  .subst aM;have y:=(show bU r a fp a=fp from aL C)▸y;refine(show bU r a fp b=r b from aJ ‹_›)▸?_;rcases(P k y).1 with q|q
   .exact S.apart a b u f w k q
   .exact q.fp b f
  .subst aj;rw [show bU r b fp a=r a from aJ ‹_›]at y;rw [show bU r b fp b=fp from aL C];intro q;rcases(P k q).1 with q|q
   .exact S.apart a b u f w k y q
   .exact q.fp a u y
  .have y:=(show bU r i fp a=r a from by simp [bU,aM])▸y;exact(show bU r i fp b=r b from by simp [bU,aj])▸(S.apart a b u f w k y)
theorem aW.xh(S:aW X F hB g G n k y m r h){fp:I aq}(e:n[i]?=D x)
  (B:∀b,b∉r i->b∉X.tabs->∀o,h.get? b=D o->O.get? b=D o)(a:X.inv j O)(s:Le g j)(l:Le j O.get?)(z:∀b o,j b=D o->g b=D o\/h.get? b=aa\/b∈r i)
  (t:eE G m h x Q)(d:Holds X F j O av Q fp)(A:∀b∈fp,(b∈r i\/e9 X hB g G n r b)/\j b=aa):
  aW X F hB j G n k (y.set i av) m (bU r i fp) O:=
 S.xj e (λb f v E=>B b f v) (jC S.ns λo u L T p=>(l7 o u L (B _ (λq=>(S.fp i (cG.mp e).1 _ q).2.2.1 C) (λq=>(S.tab _ q).2.2.1 C) o T) p)) a s l z t d A
theorem aW.qB(S:aW X F hB g G n k y m r h){fp:I aq}(e:n[i]?=D t)
  (B:∀b,b∉r i->b∉X.tabs->∀o,h.get? b=D o->O.get? b=D o)(a:X.inv j O)(x:Le g j)(s:Le j O.get?)(z:∀b o,j b=D o->g b=D o\/h.get? b=aa\/b∈r i)
  (l:eE G m h t Q)(d:Holds X F j O E Q fp)(A:∀b∈fp,(b∈r i\/h.get? b=aa)/\j b=aa):
  aW X F hB j G n k (y.set i E) m (bU r i fp) O:=S.xh e B a x s z l d λb f=>⟨(A b f).1.imp id S.free,(A b f).2⟩
section
variable{B:bD O}
def DQ(B:bD O)(m:cy)(w:bX)(u:J)(h:aB)(o:O)(e:I T)(r:T)(X:O):Prop:=
 ∀(L:cZ)(F:Mk)(g:Fz)(y:aB)(z:I aB)(i:pX->aU->Prop)(s:aU)(R:I aq),dW L u->Ready B g s->B.ob.at_ o y s.heap R->(∀b∈R,g b=aa/\B.h₀.get? b=aa/\b∉B.tabs)->bu F g z e->
  (∀t j v c,bP s t->Le g j->(∀b,b∉R->b∉B.tabs->∀x,s.heap.get? b=D x->t.heap.get? b=D x)->B.inv j t.heap->Le j t.heap.get?->(∀b x,j b=D x->g b=D x\/s.heap.get? b=aa\/b∈R)->
   B.ob.at_ X y t.heap c->(∀b∈c,(b∈R\/s.heap.get? b=aa)/\j b=aa)->Den F j v r->i (.ok (.ret v)) t)->codeAny (aI m w) L (.call h ⟨y::z,[]⟩) i s
noncomputable def l8(o:O)(n:I af)(p:I T):I (AV O):=.obj o::p.map .t++nH (n.length-(p.length+1)) .un
theorem ac2{s O:aU}(Q:oR S.scope h)(bx:S.globals=j0)(f:S.builtins=builtinsNs)(r:Ready B g s)(T:B.ob.at_ o y s.heap fp)(H:∀b∈fp,g b=aa/\B.h₀.get? b=aa/\b∉B.tabs)
  (bC:bu aP g z L)(aK:U L+1<=U h)
  (G:InCallC s (di S s.heap.objs.size a).locals (bindL (di S s.heap.objs.size a).kindOf (e0 h (y::z)) λE=>aa) (di S s.heap.objs.size a).cells (bindC (di S s.heap.objs.size a).kindOf (e0 h (y::z)) λE=>aa) O):
  SR B aP ⟨λb=>if b∈B.tabs\/b∈fp then aa else s.heap.get? b,[],g,[]⟩ g (di S s.heap.objs.size a) h (U h) (l8 o h L) O.heap:=by
 have X:=G.toInCall.keep;have m:=λn c l=>G.above n c (mem_of_lookup l);have ao:∀c,s.heap.objs.size<=c->s.heap.get? c=aa:=λc l=>by
  cases q:s.heap.get? c with
  |none=>rfl
  |some o=>exact bA (fk q) (ie.mpr l)
 have ak:∀c,s.heap.objs.size<=c->g c=aa:=λc l=>by
  cases q:g c with
  |none=>rfl
  |some o=>have:=r.bJ c o q;exact aV (ao c l) this
 have au:=λP t=>bH (gG.mp (B.live r.inv P t)) λo T=>fk T;have aj:=λb f=>bH (gG.mp (B.ob.live T b f)) λo T=>fk T;have aC:((e0 h (y::z)).map (·.1)).Nodup:=by
  have:(e0 h (y::z)).map (·.1)=h.take (U (y::z)):=by
   delta e0;rw [xw]
  simp only [this];exact Q.nodup.sublist (agq _ _)
 refine⟨⟨Q.kind,bx,f⟩,(bindL (di S s.heap.objs.size a).kindOf _ λE=>aa),λi=>if i=0 then fp else [],({
  len:=by delta l8;simp;exact fS (cS 0 (.a (.a (.v 0) (.v 2)) (.n 1)) (.v 1) (.a (.v 2) (.a (.v 0) (.n 1))) (.v 1) C [_,_,_] ((lz aK))) (cS 0 (.v 1) (.a (.a (.v 0) (.v 2)) (.n 1)) (.v 1) (.a (.v 2) (.a (.v 0) (.n 1))) C [_,_,_] m9)
  base:=λb o e=>X b o (r.base b o e)
  kept:=λb o e=>?_
  bJ:=λb o e=>X b o (r.bJ b o e)
  ns:=G.toInCall.ns
  nL:=⟨?_,ak _ (dm _)⟩
  f_:=λb o e=>?_
  vars:=λi x bZ j d=>?_
  own:=λi x c A j F l=>?_
  jz:=λi x c A j E E=>bA (cG.mp j).1 (ie.mpr A)
  cell:=λi x c j F l=>⟨vH (m x c l),ak c (e7 (m x c l))⟩
  qR:=λi x A j=>bA (cG.mp j).1 (ie.mpr A)
  inj:=λi u x bW c j bz E E bI aM=>?_
  nodup:=λi u x A aN=>qt Q.nodup A aN
  fp:=λi E b f=>?_
  inv:=bD.iy r.inv λP E o e=>X P o e
  tab:=λP t=>(lj (by simp [t]) (r.nu P t) (fH (au P t)) (λu x j F l=>bA (m x P l) (ie.mpr (e7 (au P t)))) (λi E w=>?_))
  apart:=λi u E E aT b f aE=>?_
  dJ:=λb f=>bA (f) dQ
  new:=λb o e=>.inl e
  lock:=λbR bf=>bA bf dQ})⟩
 .dsimp only at e
  split at e
  .exact aV C e
  .exact X b o e
 .show(if s.heap.objs.size∈B.tabs\/s.heap.objs.size∈fp then aa else s.heap.get? s.heap.objs.size)=aa
  split<;>first|rfl|exact(gS s)
 .have bh:b∉B.tabs:=λq=>aV (r.jb b q) e;have bl:b∉fp:=λq=>aV ((H b q).2.1) e;simp [bh,bl,r.base b o e]
 .have A:=(cG.mp j).1;have k:(di S s.heap.objs.size a).kindOf x=D .local\/(di S s.heap.objs.size a).kindOf x=D .cell:=Q.names x (cN j);have aY:∃p,eE (di S s.heap.objs.size a) (bindL (di S s.heap.objs.size a).kindOf (e0 h (y::z)) λE=>aa) O.heap x p/\∀v,(x,v)∈e0 h (y::z)->p=D v:=by
   rcases k with k|k
   .exact(aR _ (.inl ⟨k,C⟩) (λv R=>J2 _ _ _ x v aC R k))
   .exact bH (gG.mp (ud S.scope.names (s.heap.objs.size+1) [] (.inl k))) λc l=>(aR _ (.inr ⟨.inl k,c,l,G.cell x c l⟩) (λv R=>J1 _ _ _ x v aC R k))
  refine ai aY λp bE aF=>⟨p,bE,?_⟩;cases i with
  |zero=>
   obtain rfl:=bj d;have:(e0 h (y::z))[0]?=D (x,y):=by
    unfold e0;rw [IU];exact⟨j,C⟩
   exact⟨y,aF y (cN this),(B.frame T (λb o e=>X b o (r.base b o e)) λb E o e=>X b o e)⟩
  |succ i=>
   rw [aJ (DE i)];have d:=by simpa [l8]using d
   by_cases ah:i<U L
   .rw [nG (by simpa using ah)]at d;have aH:=dB ah;simp only [jv,aH,DG]at d;obtain rfl:=bj d;refine ai (bC.get aH) λv bQ a_=>⟨C,v,aF v ?_,a_⟩;have:(e0 h (y::z))[i+1]?=D (x,v):=by
     unfold e0;rw [IU];exact⟨j,bQ⟩
    exact cN this
   .rw [kU (by simpa using ah)]at d;have:=by
     rw [R1]at d
     split at d
     .exact(bj d).symm
     .exact aV C d
    subst this
    rfl
 .show(if c∈B.tabs\/c∈fp then aa else s.heap.get? c)=aa
  split<;>first|rfl|exact ao c (e7 (m x c l))
 .have:=SW G.apart (mem_of_lookup bI) (mem_of_lookup aM);subst this;exact qt Q.nodup j bz
 .by_cases A:i=0
  .have f:=(aL A)▸f;refine(lg (by simp [f]) ((H b f).1) (fH (aj b f)) (λu x j F l=>bA (m x b l) (ie.mpr (e7 (aj b f)))))
  .rw [aJ A]at f;exact nomatch f
 .by_cases A:i=0
  .rw [aL A]at w;exact(H P w).2.2 t
  .rw [aJ A]at w;exact nomatch w
 .by_cases A:i=0
  .rw [aJ (λq=>aT (ae A q.symm))]at aE;exact nomatch aE
  .rw [aJ A]at f;exact nomatch f
theorem K_(ao:fe B X cX)(cM:dW A v){L x:af}(a_:V.kindOf L=D .globalImplicit)(bz:X L=D (.ref a))(bC:(L==("__debug__"))=ay)
  (bI:∀{h},bF B.h₀ h->h.get? a=D u)(z:u.data=.func fd)(j:xs[i]?=D x)(G:(x==("__debug__"))=ay)(ak:lv[i]?=D (.obj o))(aF:∀e∈es,∀x p,e≠.Starred x p)
  (h:kE B n s A ρ V xs bQ lv b_ es P tG)(d:P[i]?=D (.obj o))(hc:DQ B n s v (.ref a) o tG τ o')(Yo:∀{y h R g O c},B.ob.at_ o y h R->B.ob.at_ o g O c->g=y):
  cP B n s A ρ V xs bQ lv (.Call (.Name L p) (.Name x px::es) [] b_) (P.set i (.obj o')) τ:=by
 intro hB fz Q cU er S ah;have aj:∀e∈(zX x px::es),∀x p,e≠.Starred x p:=λe m x p q=>by
  rcases cD.mp m with rfl|m
  .contradiction
  .exact aF e m x p q
 refine kD (nZ ao S.1 S.ready.base a_ bz bC (yc (fd:=fd) (o:=u) ((mV (aj _ gC))▸(tO (pW (cps λdU au=>?_))))));obtain⟨w,aC,aE,l⟩:=S;obtain⟨dN,aH,y,rfl,aK⟩:=l.vars i x _ j ak;refine au (eO (eK w l.ns aH (h hB fz Q _ _ ⟨w,aC,aE,l⟩ λaM aN aP aT aY E bf=>⟨⟨bI E.ready.base,z⟩,?_⟩)) G);refine cps λee T=>?_;obtain⟨w,bl,c9,E⟩:=E;obtain⟨dG,bx,r,rfl,t⟩:=E.vars i x _ j d;have bE:=Yo aK t;subst bE;have hi:=(cG.mp j).1;apply T;refine i8 (hc A ρ aN r aP _ aM _ cM E.ready t (λb f=>?_) bf λbR bW bh c q k ck cu cB bZ cF cC cJ=>?_)
 .have F:=E.fp i hi b f;refine(dI F.2.1 ?_ (λq=>(E.tab b q).2.2.2.2 i hi f));cases e:B.h₀.get? b with
  |none=>rfl
  |some H=>simp only [E.f_ b H e]at F;exact aV C F.1.symm
 .exact ah bR bW bh (aT.trans q) (aY.trans k) ⟨w,bl,_,E.qB j ck cu k cB bZ bx ⟨r,C,cF⟩ cC⟩ cJ
end
open PySem.W
section
set_option backward.match.sparseCases true
variable{g:cf}
noncomputable def bD.up(X:bD q)(g:cf)(B:bF X.h₀ g):bD q:={X with h₀:=g,base:=λk=>X.base (B.trans k),frame:=λa k L=>X.frame a (B.trans k) L}
theorem fe.up(G:fe X O A)(B:bF X.h₀ g):fe (X.up g B) O A:=⟨λk=>G.g (B.trans k),λk=>G.b (B.trans k),λk=>G.nolimit (B.trans k)⟩
theorem pZ.up(e:pZ X O L i)(B:bF X.h₀ g):pZ (X.up g B) O L i:=
 e.imp λE=>IA λE=>IA λE=>IA λE=>IA λE h=>(lg h.1 (λk=>h.2.1 (B.trans k)) h.2.2.1 (λk=>h.2.2.2 (B.trans k)))
theorem SR.up(S:SR X F hB e G n k y h)(B:bF X.h₀ g)(L:bF g h)(f:∀b o,g.get? b=D o->hB.b b=D o)(A:hB.it=[]):SR (X.up g B) F hB e G n k y h:=by
 obtain⟨w,m,r,S⟩:=S;refine⟨w,m,r,{len:=S.len,base:=L,kept:=S.kept,bJ:=S.bJ,ns:=S.ns,nL:=S.nL,f_:=f,vars:=λi x E j d=>?_,own:=S.own,jz:=S.jz,cell:=S.cell,qR:=S.qR,inj:=S.inj,nodup:=S.nodup,fp:=S.fp,inv:=S.inv,tab:=S.tab,dJ:=λb f=>(by rw [A]at f;exact bA (f) dQ),new:=S.new,lock:=S.lock,apart:=S.apart}⟩;obtain⟨Q,u,a⟩:=S.vars i x E j d;refine⟨Q,u,?_⟩;cases E<;>exact a
noncomputable def rest(h:cf)(l:I aq):cf:=hideAll h l
theorem CC(e:(rest h l).get? b=D o):h.get? b=D o/\b∉l:=
 ⟨of_hideAll l e,λq=>by simp only [rest,tP l q]at e;exact aV C e⟩
theorem u3(l:I aq):bF (rest h l) h:=λb o e=>(CC e).1
theorem n8(e:h.get? b=D o)(q:b∉l):(rest h l).get? b=D o:=hideAll_get l e q
def Binds(X:bD q)(m:cy)(w:bX)(S:rY)(n:I af)(h p:I T):Prop:=
 ∀(L:cZ)(F:Mk)(y:aB)(z:I aB)(g:Fz)(s:aU)(Q:I (af×aB)->aU->Prop)(H:aB->aU->Prop),L.handled=aa->Ready X g s->bu F g z h->
  (∀t j o,cg X g s j t->bu F j o p->bF s.heap t.heap->Q (e0 n (y::o)) t)->aQ (aI m w) L (bindArgs S ⟨y::z,[]⟩) Q H s
theorem Binds.plain(d:∀z,U z=args.length+1->bindArgs S ⟨z,[]⟩=pure (e0 n z)):Binds X m w S n args args:=by
 intro L F y z g s Q H B O b R;exact(d (y::z) (by simp [b.length])).symm▸(bM (R s g z (cg.refl O) b (bF.refl _)))
theorem J8(cC:fe X eN er){aC:bL}(aP:∀{a},bF X.h₀ a->a.get? i=D aC)(dU:aC.data=.func S)(a_:∀{a},bF X.h₀ a->a.CodeRec S.code S.qualname)
  (bx:S.body=.stmts bW)(bZ:S.closure=[])(Q:oR S.scope n)(cF:S.globals=j0)(f:S.builtins=builtinsNs)(aN:R.length+1<=U n)(aY:Binds X m w S n bE R)
  {s:aU}{fp:I aq}(aj:dW L (ew+1))(O:Ready X k s)(aE:X.ob.at_ o y s.heap fp)(ah:∀b∈fp,k b=aa/\X.h₀.get? b=aa/\b∉X.tabs)(bl:bu F k ao bE)
  (bI:∀(B:bF X.h₀ (rest s.heap (X.tabs++fp)))H c v,bP s c->Le k v->(∀b x,v b=D x->k b=D x\/s.heap.get? b=aa)->SR (X.up _ B) F ⟨(rest s.heap (X.tabs++fp)).get?,[],v,[]⟩ v (di S H i) n (U n) (l8 o n R) c.heap->(s.heap.get? H=aa)->
   aQ (aI m w) (L.deeper (di S H i)) (execs bW (di S H i)) (λcJ p=>t (.ok (.ret (match cJ with|.ret dN=>dN|_=>.none))) p)
    (λe p=>aQ (aI m w) (L.deeper (di S H i)) (leaving (di S H i) e) (λE d=>t (.error e) d) (λaT d=>t (.error aT) d) p) c):
  codeAny (aI m w) L (.call (.ref i) ⟨y::ao,[]⟩) t s:=by
 refine ag6 aj.d (aP O.base) dU Q.co Q.gen bx (a_ O.base) (aY L.in1 F y ao k s _ _ aj.handled O bl λz u bf g bh r=>?_);have T:=g.ready O;refine bZ▸(wpAny_newFunctionEnv_cells Q.kind ?_ λee bC c G=>?_)
 .intro x j;have bQ:=by
   have:x.1∈(e0 n (y::bf)).map (·.1):=fM j;unfold e0 at this;rw [xw]at this;exact Dv this
  rcases Q.names _ bQ with a|a
  .exact .inl a
  .exact .inr ⟨a,ud S.scope.names _ [] (.inl a)⟩
 .subst bC;refine⟨(cC.nolimit T.base).keeps G.toInCall.keep,codeAny_func ?_⟩;have bR:∀b∈fp,u b=aa/\X.h₀.get? b=aa/\b∉X.tabs:=λb f=>by
   have:=ah b f;refine⟨?_,this.2⟩;cases e:u b with
   |none=>rfl
   |some x=>
    rcases g.new b x e with q|q
    .exact aV this.1 q
    .have ak:=X.ob.live aE b f;rw [q]at ak;exact cY C ak
  have h:=ac2 Q cF f T (X.frame aE T.base λb E x e=>r b x e) bR bh aN G;have ck:∀{b o},X.h₀.get? b=D o->b∉X.tabs++fp:=λ{b o}e q=>by
   rcases fE.mp q with q|q
   .exact aV (O.jb b q) e
   .exact aV ((ah b q).2.1) e
  have B:bF X.h₀ (rest s.heap (X.tabs++fp)):=λb o e=>n8 (O.base b o e) (ck e);have au:=r.trans G.toInCall.keep;have cB:∀b,z.heap.objs.size<=b->s.heap.get? b=aa:=λb f=>by
   cases q:s.heap.get? b with
   |none=>rfl
   |some o=>exact bA (fk (r _ _ q)) (ie.mpr f)
  refine bI B z.heap.objs.size c u (g.same.trans (d5 G.done λeB eM bz E=>(bP.of bz))) g.le g.new ?_ (cB _ (dm _));have cM:SR X F ⟨(rest s.heap (X.tabs++fp)).get?,[],u,[]⟩ u (di S z.heap.objs.size i) n (U n) (l8 o n R) c.heap:=by
   obtain⟨cU,cX,b_,h⟩:=h;have sub:∀{b},(if b∈X.tabs\/b∈fp then aa else z.heap.get? b)=aa->(rest s.heap (X.tabs++fp)).get? b=aa:=λ{b}e=>by
    cases q:(rest s.heap (X.tabs++fp)).get? b with
    |none=>rfl
    |some o=>
     refine bT (CC q) λcu P=>?_;have:=r _ _ cu;simp only [fE,not_or]at P;simp [P.1,P.2,this]at e
   refine⟨cU,cX,b_,{h with kept:=λb x e=>au b x (CC e).1,nL:=⟨sub h.nL.1,h.nL.2⟩,f_:=λb x e=>B b x e,own:=λl x aF A j dG c9=>sub (h.own l x aF A j dG c9),jz:=λl x aF A j E E=>bA ((λl x j=>(cG.mp j).1) l x j) (ie.mpr A),fp:=λl A b f=>⟨sub (h.fp l A b f).1,(h.fp l A b f).2⟩,tab:=λaH aK=>⟨sub (h.tab aH aK).1,(h.tab aH aK).2⟩,dJ:=λb f=>(by cases f),new:=λb x e=>.inl e,lock:=λeR aM=>(by cases aM)}⟩
  exact cM.up B (λb x e=>au b x (CC e).1) (λb x e=>e) C
end
section
variable{B:bD O}{Z:cy}{w:bX}{A:cZ}{ρ:Mk}{V:c3}{xs:I af}{k:J}{lv aX:I (AV O)}
def v5(A:fP)(r:T):Prop:=A=.ret r\/(A=.next/\r=.none)
structure j2(B:bD O)(a:aq)(ob:bL)(fd:rY)(body:I cz)(xs:I af):Prop where
 ho:∀{h},bF B.h₀ h->h.get? a=D ob
 hd:ob.data=.func fd
 yJ:∀{h},bF B.h₀ h->h.CodeRec fd.code fd.qualname
 BA:fd.body=.stmts body
 BB:fd.closure=[]
 l5:oR fd.scope xs
 hg:fd.globals=j0
 hb:fd.builtins=builtinsNs
theorem j2.up(h:j2 B a u S t xs)(e:bF B.h₀ f):j2 (B.up f e) a u S t xs:=
 ⟨λk=>h.ho (e.trans k),h.hd,λk=>h.yJ (e.trans k),h.BA,h.BB,h.l5,h.hg,h.hb⟩
def e8(B:bD O)(Z:cy)(w:bX)(u:J)(L:aB)(o:O)(h:I T)(n:O->T->Prop):Prop:=
 ∀(A:cZ)(ρ:Mk)(g:Fz)(y:aB)(z:I aB)(i:pX->aU->Prop)(s:aU)(R:I aq),dW A u->Ready B g s->B.ob.at_ o y s.heap R->(∀b∈R,g b=aa/\B.h₀.get? b=aa/\b∉B.tabs)->bu ρ g z h->
  (∀t j v c X r,n X r->bP s t->Le g j->(∀b,b∉R->b∉B.tabs->∀x,s.heap.get? b=D x->t.heap.get? b=D x)->B.inv j t.heap->Le j t.heap.get?->(∀b x,j b=D x->g b=D x\/s.heap.get? b=aa\/b∈R)->
   B.ob.at_ X y t.heap c->(∀b∈c,(b∈R\/s.heap.get? b=aa)/\j b=aa)->Den ρ j v r->i (.ok (.ret v)) t)->codeAny (aI Z w) A (.call L ⟨y::z,[]⟩) i s
theorem e8.ob(h:e8 B Z w u L o args λm e=>m=X/\e=r):DQ B Z w u L o args r X:=
 λA ρ g y z i s R a b c d x k=>h A ρ g y z i s R a b c d x λt j v l m e p=>by refine cps λn f=>?_;obtain⟨rfl,rfl⟩:=p;apply f;exact k t j v l
theorem e8.mono(h:e8 B Z w u L o args n)(p:∀X r,n X r->x X r):e8 B Z w u L o args x:=
 λA ρ g y z i s R a b c d e k=>h A ρ g y z i s R a b c d e λt j v l X r q=>k t j v l X r (p X r q)
def j1(B:bD O)(Z:cy)(w:bX)(A:cZ)(ρ:Mk)(V:c3)(xs:I af)(k:J)(lv:I (AV O))(st:I cz)(b:I (AV O)->fP->Prop):Prop:=
 ∀(T:HB)(g:Fz)(s:aU)(Q:Flow->aU->Prop)(H:aB->aU->Prop),T.lk=[]->SR B ρ T g V xs k lv s.heap->
  (∀t j L x h,b x h->bP s t->Le g j->SR B ρ T j V xs k x t.heap->FD ρ j L h->Q L t)->aQ (aI Z w) A (execs st V) Q H s
def AE(B:bD O)(Z:cy)(w:bX)(A:cZ)(ρ:Mk)(V:c3)(xs:I af)(k:J)(lv:I (AV O))(st:cz)(b:I (AV O)->fP->Prop):Prop:=
 ∀(T:HB)(g:Fz)(s:aU)(Q:Flow->aU->Prop)(H:aB->aU->Prop),T.lk=[]->SR B ρ T g V xs k lv s.heap->
  (∀t j L x h,b x h->bP s t->Le g j->SR B ρ T j V xs k x t.heap->FD ρ j L h->Q L t)->aQ (aI Z w) A (exec st V) Q H s
section
variable{st:cz}{rest:I cz}{Φ:I (AV O)->fP->Prop}
theorem eX.p{st:I cz}(h:eX B Z w A ρ V xs k lv st aX fl)(p:Φ aX fl):j1 B Z w A ρ V xs k lv st Φ:=λT g s Q H a b c=>h T g s Q H a b λt j L=>c t j L _ _ p
theorem ik.p(h:ik B Z w A ρ V xs k lv u aX fl)(p:Φ aX fl):AE B Z w A ρ V xs k lv u Φ:=λT g s Q H a b c=>h T g s Q H a b λt j L=>c t j L _ _ p
theorem zL(i:AE B Z w A ρ V xs k lv u Ψ)(v:∀aX h,Ψ aX h->h=.next/\j1 B Z w A ρ V xs k aX rest Φ\/h≠.next/\Φ aX h):j1 B Z w A ρ V xs k lv (u::rest) Φ:=by
 intro T g s Q H e S R;refine gN (i T g s _ _ e S λc a L aX h p q o E d=>?_);rcases v aX h p with⟨rfl,v⟩|⟨z,p⟩
 .obtain rfl:=d.nx;exact v T a c Q H e E λF r L X h p x b f d=>R F r L X h p (q.trans x) (o.trans b) f d
 .have y:=R c a L aX h p q o E d;cases L<;>first|exact bA C (d.ne z)|exact y
theorem C9(h:ik B Z w A ρ V xs k lv u aX .next)(v:j1 B Z w A ρ V xs k aX rest Φ):j1 B Z w A ρ V xs k lv (u::rest) Φ:=
 zL (Ψ:=λl L=>l=aX/\L=.next) (h.p ⟨C,C⟩) λl L p=>by obtain⟨rfl,rfl⟩:=p;exact .inl ⟨C,v⟩
theorem aeA(p:Φ lv .next):j1 B Z w A ρ V xs k lv [] Φ:=i_.p p
def Wk(B:bD O)(E c:AV O):Prop:=∀ρ g h Q R,Holds B ρ g h E Q R->Holds B ρ g h c Q R
def qa(B:bD O)(lv x:I (AV O)):Prop:=lv.length=x.length/\∀(i:J)(a b:AV O),lv[i]?=D a->x[i]?=D b->Wk B a b
theorem SR.wk(S:SR B ρ hB g V xs k lv h)(q:qa B lv aX):SR B ρ hB g V xs k aX h:=by
 obtain⟨w,m,r,S⟩:=S;refine⟨w,m,r,{S with len:=q.1▸S.len,vars:=λi x E j d=>?_}⟩;have A:=by exact(q.1)▸((cG.mp d).1)
 obtain⟨Q,u,e⟩:=S.vars i x _ j (dB A);exact⟨Q,u,q.2 i _ _ (dB A) d _ _ _ _ _ e⟩
theorem j1.x{st:I cz}(h:j1 B Z w A ρ V xs k lv st Φ)(p:∀x R,Φ x R->qa B x aX/\R=e):eX B Z w A ρ V xs k lv st aX e:=
 λT g s Q H a b c=>h T g s Q H a b λt i L x R q l n S d=>by refine bT (p x R q) λw j=>?_;subst j;exact c t i L l n (S.wk w) d
theorem j1.wk{st:I cz}(h:j1 B Z w A ρ V xs k lv st Φ)(p:∀x R,Φ x R->∃aX,qa B x aX/\i aX R):j1 B Z w A ρ V xs k lv st i:=
 λT g s Q H a b c=>h T g s Q H a b λt j L x R q e l S d=>ai (p x R q) λaX w q=>c t j L aX R q e l (S.wk w) d
end
def Ax(h:cZ->Prop)(B:bD O)(Z:cy)(w:bX)(u:J)(L:aB)(o:O)(e:I T)(n:O->T->Prop):Prop:=
 ∀(A:cZ)(ρ:Mk)(g:Fz)(y:aB)(z:I aB)(i:pX->aU->Prop)(s:aU)(R:I aq),h A->dW A u->Ready B g s->B.ob.at_ o y s.heap R->(∀b∈R,g b=aa/\B.h₀.get? b=aa/\b∉B.tabs)->bu ρ g z e->
  (∀t j v c X r,n X r->bP s t->Le g j->(∀b,b∉R->b∉B.tabs->∀x,s.heap.get? b=D x->t.heap.get? b=D x)->B.inv j t.heap->Le j t.heap.get?->(∀b x,j b=D x->g b=D x\/s.heap.get? b=aa\/b∈R)->
   B.ob.at_ X y t.heap c->(∀b∈c,(b∈R\/s.heap.get? b=aa)/\j b=aa)->Den ρ j v r->i (.ok (.ret v)) t)->codeAny (aI Z w) A (.call L ⟨y::z,[]⟩) i s
theorem zw(e:h.get? b=D o)(d:b∉l)(F:b∉H):(rest h (l++H)).get? b=D o:=n8 e λq=>(fE.mp q).elim d F
inductive Jp(B:bD O)(fz f':Fz)(h h':cf)(fp Xh:I aq)(L:aq)(u:aB)(AK:O->Prop):Prop
 |mk(o':O)(E7:I aq)(PP:AK o')(kp:∀b,b∉Xh->b∉B.tabs->∀x,h.get? b=D x->h'.get? b=D x)(nw:∀b x,f' b=D x->fz b=D x\/h.get? b=aa\/b∈fp)(wm:B.ob.at_ o' u h' E7)
  (fr:∀b∈E7,(b∈fp\/h.get? b=aa)/\f' b=aa)(in1:∀b∈E7,b≠L/\b∉B.tabs)(nL:f' L=aa)(nT:∀b∈B.tabs,f' b=aa)(m:af->bg aB)(ns:h'.Ns L m)
theorem OM{ρ:Mk}{v u:Fz}{V:c3}{r:J->I aq}{o:O->Prop}(s:B.ob.at_ aM y h R)(aK:B.ob.at_ aH y h L)(sub:∀b∈L,b∈R)(E:∀b∈R,g b=aa/\b∉B.tabs)
  (P:∀b x,v b=D x->g b=D x\/h.get? b=aa)(p:h.get? V.locals=aa)(A:aW (B.up au aE) ρ ⟨(rest h (B.tabs++L)).get?,[],v,[]⟩ u V xs k aF ah r a)(T:0<U xs)(aP:B.ob.at_ aC y a (r 0))
  (aj:(∀b∈R,b∉L->∀x,h.get? b=D x->a.get? b=D x)->(∀b∈r 0,b∈L\/h.get? b=aa)->∃X c,o X/\B.ob.at_ X y a c/\∀b∈c,b∈r 0\/b∈R/\b∉L):Jp B g u h a R L V.locals y o:=by
 have F:=A.fp 0 T;have l:∀b∈r 0,b∉B.tabs:=λb f q=>(A.tab b q).2.2.2.2 0 T f;have t:=λb f=>(vv _).imp id λi=>iY λx e=>aV (F b f).1 (zw e (l b f) i);have Q:=λb d m x e=>A.kept b x (zw e m d);refine e5 (aj (λb f z x e=>Q b z (E b f).2 x e) t) λX c w S j=>?_;have n:=λb x e=>(A.new b x e).imp (P b x) λq=>(vv _).imp id λi=>iY λH ak=>aV q (zw ak (λao=>aV (A.tab b ao).2.1 e) i);refine⟨X,c,w,Q,λb x e=>(n b x e).elim (λq=>q.imp id .inl) λq=>.inr (q.symm.imp id (sub b)),S,λb f=>?_,λb f=>?_,A.nL.2,λb f=>(A.tab b f).2.1,ah,A.ns⟩
 .refine(j b f).elim (λf=>⟨(t b f).imp (sub b) id,(F b f).2.1⟩) λG=>bT G λf z=>⟨.inl f,iY λH e=>?_⟩;have lv:=B.ob.live s b f;exact(n b H e).elim (λq=>q.elim (aV (E b f).1) λq=>cY (aA mJ q) lv) λq=>q.elim z λq=>cY (aA mJ q) lv
 .exact(j b f).elim (λf=>⟨(F b f).2.2.1,l b f⟩) λG=>bT G λf aN=>⟨λq=>cY (aA mJ p) (q▸B.ob.live s b f),(E b f).2⟩
theorem Ew(aK:fe B eR ew){o:O}{au g:O->T->Prop}(k:j2 B a eN S bZ xs)(aC:aH.length+1<=U xs)(aT:Binds B Z w S xs aY aH)
  (bl:∀{y h R},B.ob.at_ o y h R->∃L,B.ob.at_ m y h L/\∀b∈L,b∈R)(bh:∀{y h R G s c i r},g i r->B.ob.at_ m y h R->B.ob.at_ i G s c->G=y)
  (aN:∀{y h R L t}(u:bF B.h₀ t),B.ob.at_ o y h R->B.ob.at_ m y h L->(∀b x,h.get? b=D x->b∉B.tabs->b∉L->t.get? b=D x)->(∀b∈R,b∉B.tabs)->∀H A ρ,PA A->dW A (n+1)->
   j1 (B.up t u) Z w (A.deeper (di S H a)) ρ (di S H a) xs (U xs) (l8 m xs aH) bZ λak aF=>∃i r,ak[0]?=D (.obj i)/\v5 aF r/\g i r)
  (b_:∀{y h R L s q i r},g i r->B.ob.at_ o y h R->B.ob.at_ m y h L->B.ob.at_ i y s q->(∀b∈R,b∉L->∀x,h.get? b=D x->s.get? b=D x)->(∀b∈q,b∈L\/h.get? b=aa)->∃X c,au X r/\B.ob.at_ X y s c/\∀b∈c,b∈q\/b∈R/\b∉L):
  Ax PA B Z w (n+1) (.ref a) o aY au:=by
 intro A ρ eB y eM dU er R aM ao aP j E a_ bf;refine ai (bl j) λL l sub=>?_;refine J8 aK k.ho k.hd k.yJ k.BA k.BB k.l5 k.hg k.hb aC aT ao aP l (λb f=>E b (sub b f)) a_ λu H bx bz bC bE bI bQ bR=>aN u j l (λb x p z F=>n8 p (by simp [z,F])) (λb f=>(E b f).2.2) H A ρ aM ao _ bz bx _ _ C bQ λck cB dG ak aF P Q cC e d=>?_;obtain⟨i,r,cF,bW,P⟩:=P;obtain⟨_,e6,dN,e⟩:=e;have aE:0<U xs:=cS 0 (.a (.n 0) (.n 1)) (.v 1) (.a (.v 0) (.n 1)) (.v 1) C [_,_] aC;obtain⟨ee,_,G,rfl,ah⟩:=e.vars 0 _ _ (dB aE) cF;have cJ:=bh P l ah;subst cJ;obtain⟨X,c,cu,cU,cM,cX,c9,_⟩:=OM j l sub (λb f=>⟨(E b f).1,(E b f).2.2⟩) bI bR e aE ah (b_ P j l ah);have aj:=λv d=>bf ck cB v c X r cu (bC.trans Q) (bE.trans cC) (λb z F x p=>cU b (λQ=>z (sub b Q)) F x p) e.inv e.bJ cM cX c9 d;rcases bW with rfl|⟨rfl,rfl⟩
 .obtain⟨v,rfl,d⟩:=d.rt;exact aj _ d
 .obtain rfl:=d.nx;exact aj _ .none
theorem J_(G:fe B aH aK){n oQ:O->T->Prop}(t:j2 B l aM S u xs)(d:p.length+1<=U xs)(ao:Binds B Z w S xs j p)
  (E:∀{y h R},B.ob.at_ o y h R->∃L,B.ob.at_ o₁ y h L/\∀b∈L,b∈R)(m:∀{y h R g e c i r},oQ i r->B.ob.at_ o₁ y h R->B.ob.at_ i g e c->g=y)
  (q:∀{y h R L f}(a:bF B.h₀ f),B.ob.at_ o y h R->B.ob.at_ o₁ y h L->(∀b x,h.get? b=D x->b∉B.tabs->b∉L->f.get? b=D x)->(∀b∈R,b∉B.tabs)->∀H A ρ,dW A z->
   j1 (B.up f a) Z w A ρ (di S H l) xs (U xs) (l8 o₁ xs p) u λQ F=>∃i r,Q[0]?=D (.obj i)/\v5 F r/\oQ i r)
  (ah:∀{y h R L e P i r},oQ i r->B.ob.at_ o y h R->B.ob.at_ o₁ y h L->B.ob.at_ i y e P->(∀b∈R,b∉L->∀x,h.get? b=D x->e.get? b=D x)->(∀b∈P,b∈L\/h.get? b=aa)->∃X c,n X r/\B.ob.at_ X y e c/\∀b∈c,b∈P\/b∈R/\b∉L):
  e8 B Z w (z+1) (.ref l) o j n:=λA ρ v y ak s au R=>
 Ew (PA:=λaj=>True) G t d ao E m (λa aE aC aF k H A ρ aj s=>q a aE aC aF k H _ ρ s.deeper) ah A ρ v y ak s au R dj
end
noncomputable abbrev cj(l:I J):af:=⟨l.toArray⟩
class inductive iU:I aB->I (I J)->Prop
 |nil:iU [] []
 |cons{l:I J}{t:fT}{vs ls}:iU vs ls->iU (.str (cj l) t::vs) (l::ls)
theorem iU.qh{z:I aB}{s:I (I J)}(h:iU z s):bu ρ fz z (s.map .str):=iU.rec .nil (λE i=>.cons (.str _ _) i) h
theorem iU.of:∀{s:I (I J)}{z:I aB},bu F g z (s.map .str)->iU z s
 |[],_,d=>d.ja (P:=λz=>iU z []) .nil
 |_::_,_,d=>d.jA (P:=λz=>iU z _) λE G a b=>a.i4 (P:=λv=>iU (v::G) _) λE=>.cons (iU.of b)
theorem iU.append{s e:I (I J)}(h:iU z s)(k:iU G e):iU (z++G) (s++e):=iU.rec k (λE i=>.cons i) h
structure Nd where
 key:I J
 i:aq
 id:aq
 su:aq
 np:aS
 succ:I (I J)
structure SG where
 self:aq
 d:aq
 aZ:aq
 cW:bg aq
 rl:I (I J)
 po:aS
 fi:aS
 bS:I Nd
structure Cl where
 K:Frag
 bq:aq
 N:aq
 fs:I (af×aq)
 ni:aq
 p0:aq
 p1:aq
 p2:aq
theorem Bd{u k:J}(e:dictOf Q u=dictOf m k):Q=m:=aA Rq (Data.dict.inj (aA So e)).1
noncomputable def rV:bg aq->aB
 |D a=>.ref a
 |aa=>.none
inductive Tq(aZ:aq)(cW:bg aq)(po fi:aS)(o:bL):Prop
 |mk(es:I DictEntry)(n:J)(tp tf:fT)(e:o=dictOf es n)(hl:es.length<=8)(h1:getL "_node2info" es=D (D (.ref aZ)))(h2:getL "_ready_nodes" es=D (D (rV cW)))(h3:getL "_npassedout" es=D (D (.int po tp)))(h4:getL "_nfinished" es=D (D (.int fi tf)))
  (h5:∀x,x≠("_node2info":af)->x≠("_ready_nodes":af)->x≠("_npassedout":af)->x≠("_nfinished":af)->getL x es=D aa)
def iK(G:SG):bL->Prop:=Tq G.aZ G.cW G.po G.fi
def fQ(s:I (I J))(o:bL):Prop:=∃z u,o=lo z u/\iU z s
def qx(p:aq)(Q:Nd)(o:bL):Prop:=∃A y,o=⟨.ref p,D Q.id,.plain,#[D (.str (cj Q.key) A),D (.int Q.np y),D (.ref Q.su)]⟩
def c_(G:SG):I (af×aB):=G.bS.map λQ=>(cj Q.key,.ref Q.i)
def j_(m:cy)(w:bX)(G:SG)(o:bL):Prop:=∀(h:cf)(a:aq),h.get? a=D o->h.DictOf (strKind m w) a (c_ G)
noncomputable def j5(p:aq)(Q:Nd):I (aq×(bL->Prop)):=[(Q.i,qx p Q),(Q.id,λE=>True)]
noncomputable def fX(d:aq)(G:SG):I (aq×(bL->Prop)):=(G.self,λo=>o=instObj d G.d)::(G.d,iK G)::(match G.cW with|D a=>[(a,fQ G.rl)]|aa=>[])
def gP(p:aq)(G:SG):I (aq×(bL->Prop)):=G.bS.flatMap (j5 p)
noncomputable def g9(m:cy)(w:bX)(G:SG):I (aq×(bL->Prop)):=(G.aZ,j_ m w G)::G.bS.map λQ=>(Q.su,fQ Q.succ)
def objs(m:cy)(w:bX)(c:Cl):J->SG->I (aq×(bL->Prop))
 |0,G=>fX c.bq G++gP c.N G++g9 m w G
 |1,G=>fX c.bq G++gP c.N G
 |_,G=>fX c.bq G
theorem n5{c:Cl}:objs m w c 0 G=fX c.bq G++gP c.N G++g9 m w G:=C
theorem Cs{c:Cl}:objs m w c 1 G=fX c.bq G++gP c.N G:=C
theorem Ow{c:Cl}:objs m w c (u+2) G=fX c.bq G:=C
def rq(m:cy)(w:bX)(c:Cl):J->SG->I (aq×(bL->Prop))
 |0,_=>[]
 |1,G=>g9 m w G
 |_,G=>gP c.N G++g9 m w G
def sx(l:I (aq×(bL->Prop)))(h:cf):Prop:=∀x∈l,∃o,h.get? x.1=D o/\x.2 o
theorem sx.keep(s:sx l h)(k:∀b∈l.map (·.1),∀o,h.get? b=D o->O.get? b=D o):sx l O:=λx j=>ai (s x j) λo T p=>(aR o (k _ (fM j) o T) p)
structure gp(l:I (aq×(bL->Prop)))(h:cf)(fp:I aq):Prop where
 dY:sx l h
 ad:fp=l.map (·.1)
 nd:fp.Nodup
theorem gp.live(s:gp l h R):∀b∈R,(h.get? b).isSome=Y:=by
 intro b f;rw [s.ad]at f;refine ai (dZ.mp f) λx j d=>?_;subst d;refine ai (s.dY x j) λo T E=>?_;rw [T];rfl
theorem gp.keep{R:I aq}(s:gp l h R)(k:∀b∈R,∀o,h.get? b=D o->O.get? b=D o):gp l O R:=
 ⟨s.dY.keep (by rw [<-s.ad];exact k),s.ad,s.nd⟩
theorem gp.set{h O:cf}(s:gp l h R)(B:gW a h O)(e:H.map (·.1)=l.map (·.1))(X:∀x∈H,(x∈l/\x.1≠a)\/(x.1=a/\∃o,O.get? a=D o/\x.2 o)):gp H O R:=
 ⟨λx j=>by
  rcases X x j with⟨q,u⟩|⟨q,o,T,p⟩
  .obtain⟨o,T,p⟩:=s.dY x q;exact(aR o (ae (B.2 _ u) T) p)
  .exact(aR o (ae (aA _ q) T) p),by rw [e];exact s.ad,s.nd⟩
theorem gp.sub{l o B:I (aq×(bL->Prop))}(s:gp (o++B) h R):gp o h (o.map (·.1)):=
 ⟨λx j=>s.dY x (gj _ j),C,by have:=s.nd;rw [s.ad,eW]at this;exact(gk.mp this).1⟩
inductive Ob where
 |bB(st:aq)(xs:I J)(k:J)
 |bY(p:J)(G:SG)
 |Ht(p:J)(G:SG)
 |bN(self:aq)(l:I (I J×aS×I (I J)))(cW:bg (I (I J)))(po fi:aS)
 |gQ(self d:aq)(st:J)
 |jT(st:J)(nd:Nd)
 |dJ(l:I (aq×J))
 |wB(l:I (aq×J))
 |set(l:I (I J))
 |k8(l:I (I J×aS))
def slotsOf(Q:Nd)(A y:fT):J->iR (bg aB)
 |0=>#[]
 |1=>#[D (.str (cj Q.key) A)]
 |2=>#[D (.str (cj Q.key) A),D (.int Q.np y)]
 |_=>#[D (.str (cj Q.key) A),D (.int Q.np y),D (.ref Q.su)]
def sV(p:aq)(st:J)(Q:Nd)(o:bL):Prop:=∃A y,o=⟨.ref p,D Q.id,.plain,slotsOf Q A y st⟩
noncomputable def wJ(p:aq)(st:J)(Q:Nd):I (aq×(bL->Prop)):=(Q.i,sV p st Q)::(Q.id,λE=>True)::(if st=3 then [(Q.su,fQ Q.succ)]else [])
noncomputable def SG.abs(G:SG):Ob:=.bN G.self (G.bS.map λQ=>(Q.key,Q.np,Q.succ)) (G.cW.map λE=>G.rl) G.po G.fi
noncomputable def j6:J->af
 |0=>"_node2info"
 |1=>"_ready_nodes"
 |2=>"_npassedout"
 |_=>"_nfinished"
noncomputable def FY(k:aq)(G c:fT):J->aB
 |0=>.ref k
 |1=>.none
 |2=>.int 0 G
 |_=>.int 0 c
noncomputable def o8(k:aq)(G c:fT):J->af->bg aB
 |0,_=>aa
 |u+1,x=>if x=j6 u then D (FY k G c u)else o8 k G c u x
theorem YK:o8 k G c 0 x=aa:=C
theorem FW:o8 k G c (u+1) x=if x=j6 u then D (FY k G c u)else o8 k G c u x:=C
def rj(k:aq)(st:J)(o:bL):Prop:=∃Q u G c,o=dictOf Q u/\Q.length<=st/\∀x,getL x Q=D (o8 k G c st x)
noncomputable def Me(m:cy)(w:bX)(h t d k:aq)(st:J):I (aq×(bL->Prop)):=
 (t,λo=>o=instObj h d)::(d,rj k st)::(if st=0 then []else [(k,j_ m w ⟨t,d,k,aa,[],0,0,[]⟩)])
def u_:bg cz:=fV 1 (dD (bB 21))
theorem qQ(t:S.params=p)(P:S.defaults=d)(T:Args):bindArgs S T=bindArgs {S with params:=p,defaults:=d} T:=by subst t P;rfl
structure Jq(fd:rY)(c1 c2 cc:aq):Prop where
 params:fd.params=gw u_
 body:fd.body=.stmts (dD u_)
 scope:fd.scope=eg u_
 nS:fd.closure=[(("octets":af),c2),(("at":af),c1)]
 Xw:fd.globals=j0
 Un:fd.builtins=builtinsNs
 code:fd.code=.ref cc
 Vh:fd.defaults=.none
 kdf:fd.kwdefaults=.none
class inductive kF:I aB->I J->Prop
 |nil:kF [] []
 |cons{i:J}{t:fT}{vs xs}:kF vs xs->kF (.int (i:aS) t::vs) (i::xs)
def abu(O:aq)(o:bL):Prop:=∀(h:cf)(a:aq),h.get? a=D o->h.Ns a λx=>if x="read"then D (.ref O)else aa
def w_(st d O y a g n p:aq)(h:I J)(k:J):I (aq×(bL->Prop)):=
 [(st,λo=>∃S L,o=⟨.type "function",D d,.func S,L⟩),(d,abu O),
  (O,λo=>∃S L,o=⟨.type "function",aa,.func S,L⟩/\Jq S y g p/\S.qualname="_law_stream.<locals>._law_read"),(y,λo=>o.data=.cell (D (.ref a))),(a,λo=>∃A u,o=lo [.int (k:aS) A] u),(g,λo=>o.data=.cell (D (.ref n))),
  (n,λo=>∃z u,o=lo z u/\kF z h),(p,λo=>∃z A,o.data=.fields z/\z[1]?=D (.str "_law_stream.<locals>._law_read" A))]
theorem uV(m:cy)(w:bX)(c:Cl)(p:J)(G:SG):objs m w c 0 G=objs m w c p G++rq m w c p G:=by
 match p with
 |0=>exact(ju _).symm
 |1=>rfl
 |u+2=>exact gX _ _ _
section
open Builtin Builtin.ObjectAttr Builtin.Getset_descriptor
set_option tactic.hygienic true
theorem OV(R:af)(T:aS)(f v:aB)(Q:I DictEntry):U (putL R T f v Q)<=U Q+1:=by
 induction Q with
 |nil=>exact dm _
 |cons e r n=>
  unfold putL;split
  .exact rS _
  .exact jx n
theorem abO(r:I DictEntry):(putL R o4 (.str R h) v r).any (·.refKey)=r.any (·.refKey):=by
 induction r with
 |nil=>rfl
 |cons e r n=>
  unfold putL;split
  .rfl
  .exact aA _ n
variable{Z:cy}{w:bX}{A:cZ}{K:Frag}{R:pX->aU->Prop}
theorem abf{n:J}(G:K.In s.heap)
  (a:InstAt s.heap x y d (D (dictOf Q n)))(P:y.dict=D o)(t:plainOver K d=Y)(l:takerIn K d h=D aa)(B:hasDictIn K d=Y)
  (X:(getL h Q).isSome=Y)(g:U Q<=900)
  (q:∀O,gW o s.heap O->O.get? o=D (dictOf (putL h (rT w.params h) (.str h s.toks) v Q) (putN h Q n))->R (.ok (.ret .none)) {s with heap:=O,toks:=s.toks+1}):
  codeAny (aI Z w) A (.call (.builtin "object.__setattr__") ⟨[.ref x,.str h aj,v],[]⟩) R s:=by
 refine osa_open G a t l λf=>cps λH i=>ai (any_some B) λT b F=>?_;obtain⟨j,L,ah,k⟩:=a;obtain⟨ak,u,r,p⟩:=y;apply i;dsimp only at L P k;subst L P;have e:=putName_dict h (rT w.params h) (.str h s.toks) v Q n;have z:(s.heap.update o (Sq h (rT w.params h) (.str h s.toks) v)).get? o=D (dictOf (putL h (rT w.params h) (.str h s.toks) v Q) (putN h Q n)):=by
  apply ae (pR _ k (aA _ e));exact aA _ (e)
 refine aG (bM (aG (aG (Je j (aG ((looks_clsIn G b).here ?_))))));rw [F];refine bM (aG (bM (aG (aG (aG (wpAny_askSetting (bM (aG (Aq (aG (Je k ?_)))))))))));have c:(!Q.toArray.any (·.key.isStr h)&&Q.toArray.any (·.refKey))=ay:=by
  simp only [afY]
  delta getL at X
  split at X
  .rename_i S m;exact(mH.mpr (aR S (agf m) (af7 m))).symm▸C
  .split at X
   .exact cY C X
   .rename_i E;simp only [E,Iv]
 dsimp only;rw [aRefKeyMayBeTheName_at,c];refine S6 k ?_;have len:=OV h (rT w.params h) (.str h s.toks) v Q;exact aG (wpAny_lookBehind z (pastItsLine_dict (qH.symm▸rU.symm▸(d_ 0 (.v 1) (.a (.n 16777216) (.n 1)) (.v 0) (.n 900) (.v 1) (.a (.v 0) (.n 1)) C [_,_] g len))) (bM (q _ (oG ..) z)))
theorem Xj(o:bL)(L:iR _):({o with slots:=L}).isFreed=o.isFreed:=by
 obtain⟨_,_,d,_⟩:=o;cases d<;>rfl
theorem acY{p i:J}(G:K.In s.heap)(a:InstAt s.heap x y d z)
  (q:slotIn K p d=D i)(t:i<1000)(g:y.isFreed=ay)
  (c:∀O,gW x s.heap O->O.get? x=D {y with slots:=(y.slots++Iu (i+1-y.slots.size) aa).setIfInBounds i (D v)}->R (.ok (.ret .none)) {s with heap:=O}):
  codeAny (aI Z w) A (.call (.builtin "member_descriptor.__set__") ⟨[.ref p,.ref x,v],[]⟩) R s:=by
 refine cps λE h=>?_;obtain⟨n,b,k,e,m,H,L,S,T,f,l,u,rfl⟩:=slot_of G q;apply h;have j:=a.at_;have E:=c (s.heap.update x (λo=>{o with slots:=(o.slots++Iu (U S.slotNames-1-e.toNat+1-o.slots.size) aa).setIfInBounds (U S.slotNames-1-e.toNat) (D v)})) (oG ..)
  (pR _ j (ae (Xj y _) g))
 have X:=a.type (M:=aI Z w);have B:=looks_mroIn (M:=aI Z w) G l;have Q:Looks (aI Z w) s.heap (Slots.slotNamesOf (.ref d)) S.slotNames:=(looks_clsIn G f).andThen .now;have F:=I8 (M:=aI Z w) T 0 (v:=.str n b) C;have P:=I8 (M:=aI Z w) T 1 (v:=k) C;have ah:=I8 (M:=aI Z w) T 3 (v:=.builtin "proto.slot#set") C;have aj:=I8 (M:=aI Z w) T 4 (v:=.int e m) C;refine qL RP.plain KF.entry_mset (RP.check _ _ _ _ _ _ _ _ (aR _ T C) (KF.args_mset _ _ _) ?_);have ak:Looks (aI Z w) s.heap (descrItself (.ref p)) [.ref p]:=((Looks.ld T).andThen .now).andThen (Looks.of_pure (C))
 repeat lk
 refine⟨zW _ (by decide+kernel),Aj KF.entry_slotset ?_⟩
 repeat lk
 refine(aJ u)▸(bM (aG ?_));refine mw (aJ (by rw [rU];exactλr=>rh (d_ 0 (.n 1) (.n 0) (.a (.v 0) (.n 1)) (.n 1000) (.n 16777216) (.v 0) C [_] t r))) ?_;exact S6 j (bM E)
theorem CM(G:K.In s.heap)
  (a:InstAt s.heap x y d (D (dictOf es u)))(P:y.dict=D o)(B:findIn K (.ref d) "__setattr__"=D (D (.builtin "object.__setattr__")))(t:plainOver K d=Y)(l:takerIn K d name=D aa)(e:hasDictIn K d=Y)
  (X:(getL name es).isSome=Y)(g:U es<=900)
  (h:∀O T n k,gW o s.heap O->O.get? o=D (dictOf (putL name T (.str name n) v es) k)->Q () {s with heap:=O,toks:=s.toks+2}):
  aQ (aI Z w) A (setAttr (.ref x) name v) Q H s:=
 set_plain G a B (abf G a P t l e X g λO i b=>h O _ _ _ i b)
theorem Hg{p i:J}(G:K.In s.heap)(a:InstAt s.heap x y d n)
  (B:findIn K (.ref d) "__setattr__"=D (D (.builtin "object.__setattr__")))(t:plainOver K d=Y)(l:takerIn K d name=D (D (.ref p)))(q:typeIn K (.ref p)=D (.type "member_descriptor"))(hi:slotIn K p d=D i)(g:i<1000)(h:y.isFreed=ay)
  (e:∀O,gW x s.heap O->O.get? x=D {y with slots:=(y.slots++Iu (i+1-y.slots.size) aa).setIfInBounds i (D v)}->Q () {s with heap:=O,toks:=s.toks+1}):
  aQ (aI Z w) A (setAttr (.ref x) name v) Q H s:=
 set_plain G a B (osa_descr RP G a t l q (acY G a hi g h λO k b=>e O k b))
theorem F3{x R:af}(l:x≠R){k:aB}(h:k.isStr R=Y):¬k.isStr x=Y:=by
 cases k with
 |str s A=>exactλq=>l ((iS q).symm.trans (iS h))
 |_=>exact cY C h
theorem Mr(R:af)(n:fT):(DJ R n).isStr R=Y:=beq_self_eq_true R
theorem yD{x:af}{r:I DictEntry}(h:¬e.key.isStr x=Y):(e::r).find? (·.key.isStr x)=r.find? (·.key.isStr x):=IQ h
theorem Ln{x:af}{r:I DictEntry}(h:e.key.isStr x=Y):(e::r).find? (·.key.isStr x)=D e:=IS h
theorem Xr(h:Q.find? (·.key.isStr name)=D e):getL name Q=D (D e.val):=by
 delta getL;rw [h]
theorem W4(h:getL name Q=D (D r)):∃e,Q.find? (·.key.isStr name)=D e:=by
 delta getL at h
 split at h
 .exact⟨_,‹_›⟩
 .split at h<;>exact nomatch h
theorem W5(Q:I DictEntry):∃a b,(putL name o4 (.str name n) v Q).find? (·.key.isStr name)=D ⟨a,b,v⟩:=by
 induction Q with
 |nil=>exact(cH _ _ (Ln (Mr name n)))
 |cons e r h=>
  unfold putL
  split
  .exact(cH _ _ (Ln ‹_›))
  .exact h.imp λE q=>q.imp λE q=>ae (yD ‹_›) q
theorem W2{R x:af}(l:x≠R)(Q:I DictEntry):(putL R o4 (.str R h) v Q).find? (·.key.isStr x)=Q.find? (·.key.isStr x):=by
 induction Q with
 |nil=>exact yD (F3 l (Mr R h))
 |cons e r n=>
  unfold putL
  split
  .exact ae (yD (F3 l ‹_›)) (yD (F3 l ‹_›)).symm
  .apply ae (RW);rw [RW,n]
theorem Bw(Q:I DictEntry):getL name (putL name o4 (.str name n) v Q)=D (D v):=jO (W5 Q) λE E h=>Xr h
theorem mY{R x:af}(l:x≠R)(Q:I DictEntry):getL x (putL R o4 (.str R n) v Q)=getL x Q:=by
 delta getL;rw [W2 l,abO]
theorem abP{x:DictEntry}(Q:I DictEntry)(h:Q.find? (·.key.isStr name)=D x):U (putL name o4 f v Q)=U Q:=by
 induction Q with
 |nil=>exact aV C h
 |cons e r n=>
  unfold putL
  split
  .rfl
  .exact aA (·+1) (n ((yD ‹_›).symm.trans h))
theorem G0(Q:I DictEntry)(h:∃r,getL name Q=D (D r)):U (putL name o4 f v Q)=U Q:=h.elim λE h=>(W4 h).elim λE h=>abP Q h
end
structure eu(Z:cy)(w:bX)(c:Cl)(p:J)(G:SG)(v:aB)(h:cf)(fp:I aq):Prop where
 v:v=.ref G.self
 sm:(G.aZ==sysModules)=ay
 nd:((c_ G).map (·.1)).Nodup
 ob:gp (objs Z w c p G) h fp
inductive Tu(Z:cy)(w:bX)(l:I (I J))(v:aB)(h:cf)(fp:I aq):Prop
 |mk(a:aq)(n:J)(e:v=.ref a)(f:fp=[a])(g:n<=l.length)(s:h.SetOf (strKind Z w) a (λk=>l.any (λx=>aO (cj x=k))) n)
class inductive fU:I (af×aB)->I (I J×aS)->Prop
 |nil:fU [] []
 |cons{l:I J}{i:aS}{t:fT}{kv r}:fU kv r->fU ((cj l,.int i t)::kv) ((l,i)::r)
inductive AA(Z:cy)(w:bX)(l:I (I J×aS))(v:aB)(h:cf)(fp:I aq):Prop
 |mk(a:aq)(kv:I (af×aB))(e:v=.ref a)(f:fp=[a])(g:(a==sysModules)=ay)(s:h.DictOf (strKind Z w) a kv)(q:fU kv l)
structure AI(c:Cl)(st:J)(nd:Nd)(v:aB)(h:cf)(fp:I aq):Prop where
 v:v=.ref nd.i
 ob:∃su,gp (wJ c.N st {nd with su:=su}) h fp
structure yn(Z:cy)(w:bX)(c:Cl)(sf d:aq)(st:J)(v:aB)(h:cf)(fp:I aq):Prop where
 v:v=.ref sf
 ob:∃aZ,(st≠0->(aZ==sysModules)=ay)/\gp (Me Z w c.bq sf d aZ st) h fp
noncomputable abbrev j8(n:aq):bL:={cls:=.type "method-wrapper",data:=.fields #[.builtin "list_iterator.__next__",.ref n]}
noncomputable def iW(a:aq)(G:I (aq×aq)):I aq:=a::G.flatMap λw=>[w.1,w.2]
def DX(h:cf)(G:I (aq×aq))(l:I (aq×J)):Prop:=∀(i:J)(w:aq×aq)(x:aq×J),G[i]?=D w->l[i]?=D x->h.get? w.1=D (j8 w.2)/\h.IsListIter w.2 x.1 x.2
inductive oO(x:J)(l:I (aq×J))(v:aB)(h:cf)(fp:I aq):Prop
 |mk(a:aq)(ws:I (aq×aq))(n:J)(e:v=.ref a)(f:fp=iW a ws)(nd:fp.Nodup)(hl:ws.length=l.length+x)(lv:∀b∈fp,(h.get? b).isSome=Y)(g:h.get? a=D (lo (ws.map λw=>.ref w.1) n))(r:DX h ws l)
inductive yp(st:aq)(xs:I J)(k:J)(v:aB)(h:cf)(fp:I aq):Prop
 |mk(e:v=.ref st)(d rd c1 a c2 oc cc:aq)(ob:gp (w_ st d rd c1 a c2 oc cc xs k) h fp)
theorem yp.v{st:aq}{v:aB}(x:yp st n k v h R):v=.ref st:=by cases x;assumption
theorem F6{i:J}(a:aq)(h:G[i]?=D w):w.1∈iW a G/\w.2∈iW a G:=by
 have:=cN h;exact⟨fF _ (vB.mpr (aR w this (by simp))),fF _ (vB.mpr (aR w this (by simp)))⟩
theorem oO.keep{R:I aq}(x:oO u l v i R)(k:∀b∈R,∀x,i.get? b=D x->O.get? b=D x):oO u l v O R:=by
 obtain⟨a,G,u,e,L,Q,X,d,h,r⟩:=x;subst L;refine⟨a,G,u,e,C,Q,X,λb f=>?_,k a (gC) _ h,λs w x y j=>?_⟩
 .refine bH (gG.mp (d b f)) λo T=>?_;rw [k b f o T];rfl
 .refine bT (r s w x y j) λq n=>?_;refine ai (n) λo T t=>?_;have m:=F6 a y;exact⟨k _ m.1 _ q,o,k _ m.2 _ T,t⟩
theorem oO.live(x:oO u l v h R):∀b∈R,(h.get? b).isSome=Y:=
 by cases x;assumption
def wQ(m:cy)(w:bX)(c:Cl)(o:Ob)(v:aB)(h:cf)(R:I aq):Prop:=
 match o with
 |.bY p G=>eu m w c p G v h R
 |.set l=>Tu m w l v h R
 |.k8 l=>AA m w l v h R
 |.Ht p G=>∃a,eu m w c p {G with cW:=D a} v h R
 |.bN E l r q B=>∃G:SG,G.abs=.bN E l r q B/\eu m w c 0 G v h R
 |.gQ t d st=>yn m w c t d st v h R
 |.jT st Q=>AI c st Q v h R
 |.bB st n k=>yp st n k v h R
 |.dJ l=>oO 0 l v h R
 |.wB l=>oO 1 l v h R
theorem Tv{h O:cf}{a:aq}(x:h.SetOf (strKind m w) a S u)(k:∀o,h.get? a=D o->O.get? a=D o):O.SetOf (strKind m w) a S u:=KR x λo Q L A T r=>Yv o Q L A (k o T) r
theorem Jj{h O:cf}{P:I _}(x:h.DictOf (strKind m w) a P)(k:∀o,h.get? a=D o->O.get? a=D o):O.DictOf (strKind m w) a P:=jC x λo Q L T r=>l7 o Q L (k o T) r
theorem aaZ(x:wQ m w c o v h R):∀b∈R,(h.get? b).isSome=Y:=by
 cases o with
 |bY p G=>exact x.ob.live
 |Ht p G=>obtain⟨a,x⟩:∃a,eu m w c p {G with cW:=D a} v h R:=x;exact x.ob.live
 |bN E l r q B=>obtain⟨G,_,x⟩:∃G:SG,G.abs=.bN E l r q B/\eu m w c 0 G v h R:=x;exact x.ob.live
 |gQ t d st=>
  exact ai x.ob λk n u=>u.live
 |jT st j=>
  exact bH x.ob λg u=>u.live
 |set l=>
  obtain⟨a,s,_,e,_,o,Q,L,A,T,_⟩:=x;intro b f;subst e;rw [cO.mp f,T];rfl
 |k8 l=>
  obtain⟨a,P,_,e,_,⟨o,Q,L,T,_⟩,_⟩:=x;intro b f;subst e;rw [cO.mp f,T];rfl
 |bB st y z=>
  obtain⟨_,d,O,H,a,X,S,i,u⟩:=x;exact u.live
 |dJ l=>exact x.live
 |wB l=>exact x.live
theorem aaY{R:I aq}(x:wQ m w c o v h R)(k:∀b∈R,∀x,h.get? b=D x->t.get? b=D x):wQ m w c o v t R:=by
 cases o with
 |bY p G=>
  exact⟨x.v,x.sm,x.nd,x.ob.keep k⟩
 |gQ X d st=>
  exact ai x.ob λj e u=>⟨x.v,j,e,u.keep k⟩
 |jT st Q=>
  exact bH x.ob λg u=>⟨x.v,g,u.keep k⟩
 |Ht p G=>
  obtain⟨a,x⟩:∃a,eu m w c p {G with cW:=D a} v h R:=x;exact⟨a,x.v,x.sm,x.nd,x.ob.keep k⟩
 |bN E l r q B=>
  obtain⟨G,e,x⟩:∃G:SG,G.abs=.bN E l r q B/\eu m w c 0 G v h R:=x;exact⟨G,e,x.v,x.sm,x.nd,x.ob.keep k⟩
 |set l=>
  obtain⟨a,i,e,L,f,s⟩:=x;exact⟨a,i,e,L,f,Tv s (k a (by rw [L];simp))⟩
 |k8 l=>
  obtain⟨a,P,e,L,f,s,y⟩:=x;exact⟨a,P,e,L,f,Jj s (k a (by rw [L];simp)),y⟩
 |bB st S i=>
  obtain⟨e,d,O,H,a,z,A,n,u⟩:=x;exact⟨e,d,O,H,a,z,A,n,u.keep k⟩
 |dJ l=>exact x.keep k
 |wB l=>exact x.keep k
noncomputable def Jo(m:cy)(w:bX)(c:Cl):OB Ob:=⟨wQ m w c,aaZ⟩
structure t5(c:Cl)(x:af)(p:aq)(i:J):Prop where
 fi:findIn c.K (.ref c.N) x=D (D (.ref p))
 sp:specialIn c.K (.ref p) "__get__"=D (D (.builtin "member_descriptor.__get__"))
 ta:takesIn c.K (.ref p)=D Y
 sl:slotIn c.K p c.N=D i
 ty:typeIn c.K (.ref p)=D (.type "member_descriptor")
theorem t5.Hy{p:J}(h:t5 c x p i):takerIn c.K c.N x=D (D (.ref p)):=by
 delta takerIn;rw [h.fi,Af];simp [h.ta]
structure tV(c:Cl):Prop where
 pg:∀x,plainGet c.K c.bq x=Y
 hd:hasDictIn c.K c.bq=Y
 sa:findIn c.K (.ref c.bq) "__setattr__"=D (D (.builtin "object.__setattr__"))
 po:plainOver c.K c.bq=Y
 Gv:makesIn c.K c.bq=Y
 MK:keepIn c.K (.ref c.bq)=Y
 MJ:keepIn c.K (.ref c.N)=Y
 lt:2<=c.bq
 JY:(["_node2info","_ready_nodes","_npassedout","_nfinished"]:I af).all (λx=>findIn c.K (.ref c.bq) x==D aa)=Y
 Lq:c.fs.all (λp=>findIn c.K (.ref c.bq) p.1==D (D (.ref p.2))&&isFn c.K (.ref p.2))=Y
 GL:∀x,plainGet c.K c.N x=Y
 Ng:isClsIn c.K c.N=Y
 Cn:findIn c.K (.ref c.N) "__setattr__"=D (D (.builtin "object.__setattr__"))
 Ci:plainOver c.K c.N=Y
 Ny:makesIn c.K c.N=Y
 Nr:findIn c.K (.ref c.N) "__init__"=D (D (.ref c.ni))
 Nq:isFn c.K (.ref c.ni)=Y
 s0:t5 c "node" c.p0 0
 s1:t5 c "npredecessors" c.p1 1
 s2:t5 c "successors" c.p2 2
theorem tV.at_(p:tV c)(x:af)(j:x∈(["_node2info","_ready_nodes","_npassedout","_nfinished"]:I af)):findIn c.K (.ref c.bq) x=D aa:=beq_iff_eq.mp (gK.mp p.JY x j)
theorem tV.fs(h:tV c)(p:af×aq)(t:p∈c.fs):findIn c.K (.ref c.bq) p.1=D (D (.ref p.2))/\isFn c.K (.ref p.2)=Y:=
 have q:=cQ.mp (gK.mp h.Lq p t)
 ⟨beq_iff_eq.mp q.1,q.2⟩
structure bK(B:bD Ob)(Z:cy)(w:bX)(c:Cl):Prop where
 ob:B.ob=Jo Z w c
 iI:∀{h},bF B.h₀ h->c.K.In h
 ok:tV c
theorem bK.up(p:bK X m w c)(B:bF X.h₀ f):bK (X.up f B) m w c:=⟨p.ob,λk=>p.iI (B.trans k),p.ok⟩
structure GT(G:SG)(x:af)(τ:T):Prop where
 mem:x∈(["_node2info","_ready_nodes","_npassedout","_nfinished"]:I af)
 get:∀{o:bL},iK G o->∃es n v,o=dictOf es n/\getL x es=D (D v)/\handedIn v=Y/\∀ρ fz,Den ρ fz v τ
theorem GT.uP:GT G "_node2info" (.bV (.ref G.aZ)):=⟨d9 0 C,λp=>by
 obtain⟨Q,u,_,_,e,_,h,_⟩:=p
 exact o5 Q u _ e h C λ_ _=>.bV _⟩
theorem GT.O0(q:G.cW=aa):GT G "_ready_nodes" .none:=⟨d9 1 C,λp=>by
 obtain⟨Q,u,_,_,e,_,_,h,_⟩:=p
 rw [q]at h;exact o5 Q u _ e h C λ_ _=>.none⟩
theorem GT.u0(q:G.cW=D a):GT G "_ready_nodes" (.bV (.ref a)):=⟨d9 1 C,λp=>by
 obtain⟨Q,u,_,_,e,_,_,h,_⟩:=p
 rw [q]at h;exact o5 Q u _ e h C λ_ _=>.bV _⟩
theorem GT.po:GT G "_npassedout" (.int G.po):=⟨d9 2 C,λp=>by
 obtain⟨Q,u,_,_,e,_,_,_,h,_⟩:=p
 exact o5 Q u _ e h C λ_ _=>.int _ _⟩
theorem GT.fi:GT G "_nfinished" (.int G.fi):=⟨d9 3 C,λp=>by
 obtain⟨Q,u,_,_,e,_,_,_,_,h,_⟩:=p
 exact o5 Q u _ e h C λ_ _=>.int _ _⟩
structure NT(c:Cl)(nd:Nd)(x:af)(p:aq)(i:J)(τ:T):Prop where
 slot:tV c->t5 c x p i
 get:∀{o:bL},qx c.N nd o->∃v,(o.slots[i]?).join=D v/\handedIn v=Y/\∀ρ fz,Den ρ fz v τ
theorem NT.node:NT c Q "node" c.p0 0 (.str Q.key):=⟨λk=>k.s0,λh=>jO h λA y e=>e▸i12 _ C C λ_ _=>.str _ _⟩
theorem NT.np:NT c Q "npredecessors" c.p1 1 (.int Q.np):=⟨λk=>k.s1,λh=>jO h λA y e=>e▸i12 _ C C λ_ _=>.int _ _⟩
theorem NT.su:NT c Q "successors" c.p2 2 (.bV (.ref Q.su)):=⟨λk=>k.s2,λh=>jO h λA y e=>e▸i12 _ C C λ_ _=>.bV _⟩
theorem m_(h:x∈fX c.bq G):x∈objs m w c p G:=by
 match p with
 |0=>exact gj _ (gj _ h)
 |1=>exact gj _ h
 |u+2=>exact h
theorem OD(t:p<=1)(h:x∈gP c.N G):x∈objs m w c p G:=by
 match p,t with
 |0,_=>exact gj _ (i6 _ h)
 |1,_=>exact i6 _ h
section
variable{i:J}
def sq(c:Cx Ob)(n:I af)(k:J)(y:I (AV Ob))(P:cf->Prop):Prop:=∀T g m r h,aW c.B c.ρ T g c.V n k y m r h->P h
theorem kc(p:bK c.B c.Z c.w O)(j:n[i]?=D x)(X:y[i]?=D (.obj (.bY q G))):sq c n k y λh=>∃R,eu c.Z c.w O q G (.ref G.self) h R:=by
 intro T g m r h S;obtain⟨Q,_,v,_,d⟩:=S.vars i x _ j X;have d:=p.ob▸d;have e:=d.v;subst e;exact⟨_,d⟩
theorem Pb(h:∀h,bF c.B.h₀ h->P h):sq c n k y P:=λT g m r B S=>h B S.base
theorem jG(h:bK c.B c.Z c.w O)(F:Fm c.V n k a)(i:J)(j:n[i]?=D x)(X:y[i]?=D (.obj (.bY q G))):EE c n k y (.Name x p) y (.bV (.ref G.self)):=by
 constructor;rintro T g s b H⟨w,m,r,S⟩R;refine cps λE v=>?_;obtain⟨Q,u,l,rfl,d⟩:=S.vars i x _ j X;apply v;have d:=h.ob▸d;have e:=d.v;subst e;exact eO (eK w S.ns u (R s g _ (bP.refl s) (Le.refl _) ⟨w,m,r,S⟩ (.bV _))) (F.eY j)
theorem kj(h:bK c.B c.Z c.w O)(H:sq c n k P λi=>∃R,eu c.Z c.w O aF G (.ref G.self) i R)(i:EE c n k y o P (.bV (.ref G.self)))(f:GT G x S)
  (j:eval (.Attribute o x p) c.V=do let Q<-eval o c.V;standAt p.atName;let r<-holding [Q] (getAttr Q x Y);letTemporaryGo o Q r;pure r):EE c n k y (.Attribute o x p) P S:=by
 constructor;intro T g ah aM aT aj ak;refine Rr (i.1 T g ah _ _ aj λe a b q d E z=>?_) j;obtain rfl:=z.inv;refine cps λw v=>?_;obtain⟨A,m,s,l⟩:=E;obtain⟨R,_,_,_,u⟩:=H T a m s _ l;refine ai (u.dY (G.self,λo=>o=instObj O.bq G.d) (m_ (by simp [fX]))) λaP F t=>ai (u.dY (G.d,iK G) (m_ (by simp [fX]))) λaN X B=>v ?_;dsimp only at t F X B;subst t;refine cps λw v=>mX (f.get B) λaH aK b au ao aC aE=>?_;subst au;apply v;have L:cg c.B a e a {e with toks:=e.toks+1}:=cg.tok l.ready _;exact get_value (h.iI l.base) ⟨F,C,C,X⟩ (vL (h.ok.pg x)).1 (findObj_own h.ok.hd (h.ok.at_ x f.mem) C (by exact ao)) aC (ak _ a b (q.trans L.same) d ⟨A,m,s,l⟩ (aE _ _))
end
section
set_option tactic.hygienic true
variable{c:Cx Ob}{nd:Nd}
theorem i0(p:bK c.B c.Z c.w O)(S:aW c.B c.ρ hB g c.V n k y m r h)(j:n[i]?=D x)(X:y[i]?=D (.obj (.bY q G))):eE c.V m h x (D (.ref G.self))/\eu c.Z c.w O q G (.ref G.self) h (r i):=by
 refine cps λ_ kk=>?_;obtain⟨Q,u,v,rfl,d⟩:=S.vars i x _ j X;apply kk;rw [p.ob]at d;exact(d.v)▸(⟨u,d⟩)
theorem CS(p:bK c.B c.Z c.w s)(S:aW c.B c.ρ hB g c.V n k y m r t)(j:n[i]?=D w)(X:y[i]?=D (.obj (.bY q G)))(h:a∈r i)(B:gW a t O)
  (l:G'.self=G.self)(z:eu c.Z c.w s q G' (.ref G'.self) O (r i)):aW c.B c.ρ hB g c.V n k (y.set i (.obj (.bY q G'))) m (bU r i (r i)) O:=by
 refine bT (i0 p S j X) λd E=>?_;have A:=(cG.mp j).1;have F:=S.fp i A;have x:∀{b},b∉r i->b≠a:=λ{b}u q=>u (by simp only [q];exact h);refine S.qB j (λb u _ o e=>ae (B.2 b (x u)) e) (bD.iy S.inv λP v o e=>ae (B.2 P (x ((S.tab P v).2.2.2.2 i A))) e) (Le.refl _) (λb o e=>ae (B.2 b λq=>?_) (S.bJ b o e)) (λb o e=>.inl e) d ⟨.ref G.self,C,?_⟩ (λb f=>⟨.inl f,(F b f).2.1⟩)
 .exact aV (ae (aA _ q) ((F a h).2.1)) e
 .exact(p.ob)▸(l)▸(z)
theorem LA(p:bK c.B c.Z c.w O)(S:aW c.B c.ρ hB g c.V n k y m E s.heap)(e:eu c.Z c.w O q G (.ref G.self) s.heap fp)(f:GT G x z)
  (R:∀v A,Den c.ρ g v z->Q v {s with toks:=A}):aQ (aI c.Z c.w) c.A (getAttr (.ref G.self) x l) Q H s:=by
 refine cps λ_ h=>ai (e.ob.dY (G.self,λo=>o=instObj O.bq G.d) (m_ (.head _))) λb F t=>ai (e.ob.dY (G.d,iK G) (m_ (cN (i:=1) C))) λr X B=>h ?_;dsimp only at t F X B;subst t;refine cps λ_ h=>mX (f.get B) λj d v u w i a=>?_;subst u;exact h (get_value (p.iI S.base) (⟨F,C,C,X⟩) (vL (p.ok.pg x)).1 (findObj_own p.ok.hd (p.ok.at_ x f.mem) C (by assumption)) i (R v _ (a _ _)))
structure GS(G:SG)(x:af)(τ:T)(G':SG):Prop where
 eq:∃p f,G'={G with po:=p,fi:=f}
 mem:x∈(["_node2info","_ready_nodes","_npassedout","_nfinished"]:I af)
 put:∀{ρ:Mk}{fz:Fz}{es:I DictEntry}{n n':J}{v:aB}{o4:aS}{tk:fT},iK G (dictOf es n)->Den ρ fz v τ->iK G' (dictOf (putL x o4 (.str x tk) v es) n')
theorem aas:("_node2info":af)≠"_ready_nodes":=by decide
theorem aat:("_node2info":af)≠"_npassedout":=by decide
theorem aau:("_node2info":af)≠"_nfinished":=by decide
theorem Nu:("_ready_nodes":af)≠"_npassedout":=by decide
theorem Nv:("_ready_nodes":af)≠"_nfinished":=by decide
theorem Nx:("_npassedout":af)≠"_nfinished":=by decide
theorem GS.po(t:aS):GS G "_npassedout" (.int t) {G with po:=t}:=⟨⟨t,G.fi,C⟩,d9 2 C,λ{_ _ Q _ k _ _ _}p d=>by
 obtain⟨m,S,i,q,e,X,w,v,R,g,H⟩:=p;obtain rfl:=Bd e;obtain⟨A,rfl⟩:=d.inv
 exact⟨_,k,A,q,C,(G0 Q ⟨_,R⟩).symm▸X,ae (mY aat Q) w,ae (mY Nu Q) v,Bw Q,ae (mY (iF Nx) Q) g,λx a b c d=>ae (mY c Q) (H x a b c d)⟩⟩
theorem GS.fi(t:aS):GS G "_nfinished" (.int t) {G with fi:=t}:=⟨⟨G.po,t,C⟩,d9 3 C,λ{_ _ Q _ k _ _ _}p d=>by
 obtain⟨m,S,i,q,e,X,w,v,R,g,H⟩:=p;obtain rfl:=Bd e;obtain⟨A,rfl⟩:=d.inv
 exact⟨_,k,i,A,C,(G0 Q ⟨_,g⟩).symm▸X,ae (mY aau Q) w,ae (mY Nv Q) v,ae (mY Nx Q) R,Bw Q,λx a b c d=>ae (mY d Q) (H x a b c d)⟩⟩
theorem iK.has{o:bL}(p:iK G o)(j:x∈(["_node2info","_ready_nodes","_npassedout","_nfinished"]:I af)):∃Q u,o=dictOf Q u/\U Q<=8/\(getL x Q).isSome=Y:=by
 obtain⟨m,S,i,q,e,X,w,v,R,g,H⟩:=p;refine(gx m S e X ?_);simp only [cD,dQ,or_false]at j;rcases j with rfl|rfl|rfl|rfl
 .exact cV w
 .exact cV v
 .exact cV R
 .exact cV g
theorem Oz(m:cy)(w:bX)(O:Cl)(q:J)(G:SG)(p L:aS):∃l,objs m w O q G=(G.self,λo=>o=instObj O.bq G.d)::(G.d,iK G)::l/\objs m w O q {G with po:=p,fi:=L}=(G.self,λo=>o=instObj O.bq G.d)::(G.d,iK {G with po:=p,fi:=L})::l:=
 match q with
 |0=>⟨_,C,C⟩
 |1=>⟨_,C,C⟩
 |_+2=>⟨_,C,C⟩
theorem acR(d6:bK c.B c.Z c.w a)(S:aW c.B c.ρ hB i c.V n f lv m aE s.heap)(j:n[k]?=D aT)(X:lv[k]?=D (.obj (.bY q G)))(g:GS G x ah v)(d:Den c.ρ i u ah)
  (R:∀O A aj ao,aW c.B c.ρ hB i c.V n f (lv.set k (.obj (.bY q v))) aj ao O->Q () {s with heap:=O,toks:=A}):aQ (aI c.Z c.w) c.A (setAttr (.ref G.self) x u) Q aM s:=by
 refine cps λEG ue=>?_;obtain⟨⟨p,L,rfl⟩,w,r⟩:=g;refine bT (i0 d6 S j X) λE h=>ai (h.ob.dY (G.self,λz=>z=instObj a.bq G.d) (m_ (.head _))) λaC F t=>ai (h.ob.dY (G.d,iK G) (m_ (cN (i:=1) C))) λau b B=>?_;apply ue;dsimp only at t F b B;refine cps λEG ue=>?_;subst t;refine e5 (B.has w) λaN aP y H P=>?_;subst y;apply ue;refine CM (d6.iI S.base) (⟨F,C,C,b⟩) C d6.ok.sa d6.ok.po (by delta takerIn;rw [d6.ok.at_ x w,Af]) d6.ok.hd P (aD H (az C)) λO aF aH aK l T=>R O _ m _ (CS d6 S j X ?_ l C ?_)
 .refine ai (Oz c.Z c.w a q G p L) λak t E=>?_;exact(h.ob.ad)▸(t)▸(.tail _ (.head _))
 .refine⟨C,h.sm,h.nd,(ai (Oz c.Z c.w a q G p L) λak t o=>?_)⟩;have hn:=h.ob.nd;rw [h.ob.ad,t,iN,iN,gM,gM]at hn;refine h.ob.set l (by simp only [t,o];rfl) λaY e=>?_;rw [o]at e;rw [t];rcases cD.mp e with rfl|e
  .refine .inl ⟨.head _,λq=>hn.1 ?_⟩;simp only [cD];exact .inl q
  .rcases cD.mp e with rfl|e
   .exact .inr ⟨C,_,T,r B d⟩
   .exact .inl ⟨.tail _ (.tail _ e),λq=>hn.2.1 (by have A:=fM (f:=(·.1)) e;simp only [q]at A;exact A)⟩
theorem gp.upd{l H:I _}{a:aq}{p:bL->Prop}(s:gp l h R)(e:l=P++(a,p)::i)(x:H=P++(a,Q)::i)(B:gW a h O)(T:O.get? a=D X)(t:Q X):gp H O R:=by
 subst e x;have z:=s.nd;simp only [s.ad,eW]at z;refine gv (gk.mp z) λE F m=>s.set B (by simp) λb g=>?_;rcases fE.mp g with g|g
 .exact .inl ⟨gj _ g,λq=>m a (q▸(fM g)) a (.head _) C⟩
 .rcases cD.mp g with rfl|g
  .exact .inr ⟨C,X,T,t⟩
  .refine .inl ⟨i6 _ (.tail _ g),λq=>(gM.mp F).1 ?_⟩;have A:=fM (f:=(·.1)) g;simp only [q]at A;exact A
noncomputable def SG.np(G:SG)(t:J)(nd:Nd)(u:aS):SG:={G with bS:=G.bS.set t {nd with np:=u}}
noncomputable def SG.ap(G:SG)(t:J)(nd:Nd)(l:I J):SG:={G with bS:=G.bS.set t {nd with succ:=nd.succ++[l]}}
theorem qA{R:Type}{l:I R}{a:R}(h:l[t]?=D a):∃L X,l=L++a::X/\∀T,l.set t T=L++T::X:=by
 have O:=(cG.mp h).1;refine(gg _ _ ?_ (λT=>List.set_eq_take_append_cons_drop ..|>.trans ((aL O))));simp only [<-((cG.mp h).2),<-xS O,agn]
theorem MP(h:G.bS[t]?=D nd):c_ (G.np t nd u)=c_ G:=by
 refine d5 (qA h) λL X e R=>?_
 delta c_ SG.np
 dsimp only;rw [R,e];simp
theorem MM(h:G.bS[t]?=D nd):c_ (G.ap t nd l)=c_ G:=by
 refine d5 (qA h) λL X e R=>?_
 delta c_ SG.ap
 dsimp only;rw [R,e];simp
theorem Ox(m:cy)(w:bX)(O:Cl)(h:G.bS[t]?=D nd)(k:q<=1):∃P i,objs m w O q G=P++(nd.i,qx O.N nd)::i/\objs m w O q (G.np t nd n)=P++(nd.i,qx O.N {nd with np:=n})::i:=by
 refine d5 (qA h) λL X e R=>?_;have x:gP O.N G=L.flatMap (j5 O.N)++(nd.i,qx O.N nd)::(nd.id,λ_=>True)::X.flatMap (j5 O.N):=by
  delta gP;rw [e];simp [j5]
 have u:gP O.N (G.np t nd n)=L.flatMap (j5 O.N)++(nd.i,qx O.N {nd with np:=n})::(nd.id,λ_=>True)::X.flatMap (j5 O.N):=by
  delta gP SG.np;simp only [R];simp [j5]
 have b:fX O.bq (G.np t nd n)=fX O.bq G:=C;have a:g9 m w (G.np t nd n)=g9 m w G:=by
  delta g9 j_
  rw [MP h]
  delta SG.np
  dsimp only;rw [R,e];simp
 match q,k with
 |0,_=>exact(gg (fX O.bq G++L.flatMap (j5 O.N)) ((nd.id,λ_=>True)::X.flatMap (j5 O.N)++g9 m w G) (by simp [n5,x]) (by simp [n5,u,b,a]))
 |1,_=>exact(gg (fX O.bq G++L.flatMap (j5 O.N)) ((nd.id,λ_=>True)::X.flatMap (j5 O.N)) (by simp [n5,Cs,x]) (by simp [n5,Cs,u,b]))
theorem aa3(m:cy)(w:bX)(O:Cl)(h:G.bS[t]?=D nd):∃P i,objs m w O 0 G=P++(nd.su,fQ nd.succ)::i/\objs m w O 0 (G.ap t nd l)=P++(nd.su,fQ (nd.succ++[l]))::i:=by
 refine cps λ_ v=>d5 (qA h) λL X e R=>v ?_;have x:gP O.N (G.ap t nd l)=gP O.N G:=by
  delta gP SG.ap;dsimp only;rw [R,e];simp [j5];rfl
 have b:fX O.bq (G.ap t nd l)=fX O.bq G:=C;have a:g9 m w (G.ap t nd l)=(G.aZ,j_ m w G)::(L.map λnd=>(nd.su,fQ nd.succ))++(nd.su,fQ (nd.succ++[l]))::X.map λnd=>(nd.su,fQ nd.succ):=by
  delta g9 j_
  rw [MM h]
  delta SG.ap
  dsimp only;rw [R];simp
 have s:g9 m w G=(G.aZ,j_ m w G)::(L.map λnd=>(nd.su,fQ nd.succ))++(nd.su,fQ nd.succ)::X.map λnd=>(nd.su,fQ nd.succ):=by
  delta g9
  rw [e];simp
 exact(gg (fX O.bq G++gP O.N G++((G.aZ,j_ m w G)::(L.map λnd=>(nd.su,fQ nd.succ)))) (X.map λnd=>(nd.su,fQ nd.succ)) (by simp [n5,s]) (by simp [n5,x,b,a]))
def vV(O:Cl)(nd:Nd)(h:cf):Prop:=(∃o,h.get? nd.i=D o/\qx O.N nd o)/\∃G,h.get? nd.id=D G
theorem eu.info{v:aB}(h:eu m w O q G v e R)(k:q<=1)(z:nd∈G.bS):vV O nd e:=ai (h.ob.dY (nd.i,qx O.N nd) (OD k (vB.mpr (aR nd z (.head _))))) λi F t=>ai (h.ob.dY (nd.id,λ_=>True) (OD k (vB.mpr (aR nd z (.tail _ (.head _)))))) λr X E=>⟨(aR i F t),r,X⟩
theorem Mf(c:vV O nd h):∃o G,h.get? nd.i=D o/\qx O.N nd o/\InstAt h nd.i o O.N (D G):=by
 refine cps λ_ v=>bT c λn j=>ai n λo T p=>bH j λG P=>jO (p) λA y d=>?_;subst d;exact v ((gx _ G T p ⟨T,C,C,P⟩))
theorem Lw(p:bK c.B c.Z c.w O)(S:aW c.B c.ρ k g c.V n j y m r s.heap)(h:vV O nd s.heap){u t:J}(f:NT O nd x u t z)
  (R:∀v A,Den c.ρ g v z->Q v {s with toks:=A}):aQ (aI c.Z c.w) c.A (getAttr (.ref nd.i) x q) Q H s:=by
 refine cps λ_ e=>e5 (Mf h) λo l T i a=>dF (f.get i) λv d B b=>e ?_;have L:=f.slot p.ok;have G:=p.iI S.base;exact get_bind G a (vL (p.ok.GL x)).1 (findObj_data p.ok.Ng L.fi L.sp L.ta) (vL (p.ok.GL x)).2 (i8 (slot_get G a L.sl d (handed_on B (R v _ (b _ _)))))
theorem Pj(d6:bK c.B c.Z c.w e)(S:aW c.B c.ρ hB g c.V xs k lv m F s.heap)(hx:xs[i]?=D y)(X:lv[i]?=D (.obj (.bY q G)))(hq:q<=1)(z:G.bS[u]?=D nd)(d:Den c.ρ g v (.int n)){Q:Unit->aU->Prop}
  (R:∀O A a x,aW c.B c.ρ hB g c.V xs k (lv.set i (.obj (.bY q (G.np u nd n)))) a x O->Q () {s with heap:=O,toks:=A}):aQ (aI c.Z c.w) c.A (setAttr (.ref nd.i) "npredecessors" v) Q H s:=by
 refine bT (i0 d6 S hx X) λE h=>e5 (Mf (h.info hq (cN z))) λw r T p l=>?_;have L:=d6.ok.s1;refine jO p λA ah j=>?_;subst j;refine Hg (d6.iI S.base) l d6.ok.Cn d6.ok.Ci L.Hy L.ty L.sl (dK _ _) C λO B o=>R O _ m _ (CS d6 S hx X ?_ B C ?_)
 .refine d5 (Ox c.Z c.w e (n:=n) z hq) λP f t E=>?_;simp only [h.ob.ad,t];simp
 .refine d5 (Ox c.Z c.w e (n:=n) z hq) λP f t b=>?_;cases d;refine⟨C,h.sm,by exact(MP z)▸(h.nd),h.ob.upd t b B o (cH A _ C)⟩
end
section
variable{c:Cx Ob}{i:J}{G':SG}{j:J}
theorem vn(b:bK c.B c.Z c.w O)(H:sq c n k P (vV O e))(i:EE c n k y o P (.bV (.ref e.i))){u t:J}(f:NT O e x u t X)
  (m:eval (.Attribute o x p) c.V=(do let Q<-eval o c.V;standAt p.atName;let r<-holding [Q] (getAttr Q x Y);letTemporaryGo o Q r;pure r)):EE c n k y (.Attribute o x p) P X:=by
 constructor;intro T g s G F S R;refine Rr (i.1 T g s _ _ S λh a v q j E d=>?_) m;obtain rfl:=d.inv;obtain⟨A,w,B,l⟩:=E;refine Lw b l (H _ _ _ _ _ l) f λv L d=>?_;have z:cg c.B a h a {h with toks:=L}:=cg.tok l.ready _;exact R _ a v (q.trans z.same) j ⟨A,w,B,l⟩ d
theorem Rh(p:bK c.B c.Z c.w bI)(i:J)(j:n[i]?=D bC)(aj:EE c n k y o y (.bV (.ref G.self)))(Q:y[i]?=D (.obj (.bY q G)))(v:GT G x f)(ao:EE c n k y aC P m)(d:P[i]?=D (.obj (.bY q G)))(b:qc s f m=D τ)(t:GS G x τ G'):
  ES c n k y (.AugAssign (.Attribute o x bx) s aC aT) (P.set i (.obj (.bY q G'))) .next:=by
 constructor;intro T g u aY a_ bf S R;refine ag8 (aj.1 T g u _ _ S λe a bE E X L O=>?_);obtain rfl:=O.inv;obtain⟨w,F,r,l⟩:=L;refine LA p l (i0 p l j Q).2 v λbh A ak=>?_;have z:cg c.B a e a {e with toks:=A}:=cg.tok l.ready _;refine ao.1 T a _ _ _ ⟨w,F,r,l.step z⟩ λbQ b_ ck au B aE ah=>cP.wU ((E.trans z.same).trans au) (X.trans B) aE (A2 (ak.mono B) ah b) λbl aH bz aK aF h aN=>?_;obtain⟨_,bR,bW,h⟩:=h;exact acR p h j d t aN λbZ A aM aP H=>R _ aH .next (aK.trans (cH _ _ C)) aF ⟨w,aM,aP,H⟩ dj
theorem Q9(p:bK c.B c.Z c.w bf)(i:J)(v:n[i]?=D aC)(x:EE c n k y e P (.int u))(h:EE c n k P o X (.bV (.ref Q.i)))(b:X[i]?=D (.obj (.bY q G)))(s:q<=1)(z:G.bS[j]?=D Q)
  (l:gY e (D (.Attribute o "npredecessors" t)) f.line c.V=pure ay):ES c n k y (.Assign [.Attribute o "npredecessors" t] e f) (X.set i (.obj (.bY q (G.np j Q u)))) .next:=by
 constructor;intro T g m aE aF aH S R;refine yd (x.1 T g m _ _ S λa r aP w H E L=>h.1 T r a _ _ E λaK O a_ d B ah aj=>?_) l;obtain rfl:=aj.inv;obtain⟨F,aM,aN,ao⟩:=ah;exact Pj p ao v b s z (L.mono B) λaT aY ak au A=>R _ O .next ((w.trans d).trans (cH _ _ C)) (H.trans B) ⟨F,ak,au,A⟩ dj
theorem Q6(p:bK c.B c.Z c.w bl)(i:J)(x:h[i]?=D bf)(o:EE c h k y aH y (.bV (.ref Q.i)))(X:y[i]?=D (.obj (.bY q G)))(s:q<=1)(z:G.bS[j]?=D Q)(u:EE c h k y F P ao)(aC:P[i]?=D (.obj (.bY q G)))(f:qc v (.int Q.np) ao=D (.int n)):
  ES c h k y (.AugAssign (.Attribute aH "npredecessors" bE) v F aY) (P.set i (.obj (.bY q (G.np j Q n)))) .next:=by
 constructor;intro T g m bh bI bQ S R;refine ag8 (o.1 T g m _ _ S λb a a_ H E L O=>?_);obtain rfl:=O.inv;obtain⟨w,ah,r,l⟩:=L;refine Lw p l ((i0 p l x X).2.info s (cN z)) .np λbz A ak=>?_;have t:cg c.B a b a {b with toks:=A}:=cg.tok l.ready _;refine u.1 T a _ _ _ ⟨w,ah,r,l.step t⟩ λbR ck cu au B aE aF=>cP.wU ((H.trans t.same).trans au) (E.trans B) aE (A2 (ak.mono B) aF f) λbx aj bC aK aM e aP=>?_;obtain⟨_,bW,bZ,e⟩:=e;exact Pj p e x aC s z aP λb_ A aN aT d=>R _ aj .next (aK.trans (cH _ _ C)) aM ⟨w,aN,aT,d⟩ dj
def tY(c:Cx Ob)(n:I af)(k:J)(y:I (AV Ob))(G:SG):Prop:=sq c n k y λh=>(G.aZ==sysModules)=ay/\((c_ G).map (·.1)).Nodup/\h.DictOf (strKind c.Z c.w) G.aZ (c_ G)
theorem eu.map{v:aB}(e:eu m w O 0 G v h R):h.DictOf (strKind m w) G.aZ (c_ G):=ai (e.ob.dY (G.aZ,j_ m w G) (by simp [n5,g9])) λo T p=>p h G.aZ T
theorem Pc(p:bK c.B c.Z c.w O)(j:n[i]?=D x)(X:y[i]?=D (.obj (.bY 0 G))):tY c n k y G:=λT g m r h S=>(dI ((i0 p S j X).2.sm) ((i0 p S j X).2.nd) ((i0 p S j X).2.map))
theorem CK(p:bK c.B c.Z c.w O)(j:n[i]?=D x)(X:y[i]?=D (.obj (.bY q G)))(k:q<=1)(z:Q∈G.bS):sq c n h y (vV O Q):=λT g m r e S=>(i0 p S j X).2.info k z
theorem HL(P:((c_ G).map (·.1)).Nodup)(z:G.bS[j]?=D Q):valueAt (c_ G) (cj Q.key)=D (.ref Q.i):=
 valueAt_of_get P (by delta c_;rw [jv,z];rfl)
theorem sY(h:cj a=cj b):a=b:=by injection h with h;simpa using h
theorem ad7(h:∀Q∈G.bS,Q.key≠l):valueAt (c_ G) (cj l)=aa:=by
 delta valueAt
 rw [Option.map_eq_none_iff,Du];intro E g;refine ai (dZ.mp g) λQ z d=>?_;subst d;rw [oK];exactλq=>h Q z (sY q)
set_option tactic.hygienic true in
theorem HX(e:tY c n k X G)(u:EE c n k y qj P (.bV (.ref G.aZ)))(a:EE c n k P x X (.str Q.key))(A:G.bS[j]?=D Q)(au:uT x=Y):EE c n k y (.Subscript qj x p) X (.bV (.ref Q.i)):=by
 constructor;intro T g s aC ak S i;refine ya (u.1 T g s _ _ S λt o q f v E O=>a.1 T o t _ _ E λh r b zo B w L=>?_);obtain rfl:=O.inv;obtain⟨aF,rfl⟩:=L.inv;obtain⟨H,m,d,l⟩:=w;refine gv (e _ _ _ _ _ l) λao ah R=>vI R.typeIs F.slot_dict_getitem.lookup (S0 (tQ ..) R.mapOf (HL ah A) ?_) (xd λq b aE p aj=>by subst aj;contradiction);have z:cg c.B r h r {h with toks:=h.toks+1}:=cg.tok l.ready _;exact i _ r _ ((f.trans zo).trans z.same) (v.trans B) ⟨H,m,d,l.step z⟩ (.bV _)
set_option tactic.hygienic true in
theorem HW{i:T}(bx:tY c n k X G)(aN:EE c n k aP o P (.bV (.ref G.aZ)))(b:tY c n k P G)(aM:EE c n k P e X (.str s))(d:((c_ G).map (·.1)).Nodup->(valueAt (c_ G) (cj s)).getD .none=m)(t:∀aH g,Den aH g m i)
  (O:attributeBase o "get" c.V (eval o c.V)=eval o c.V)(L:dO e=Y)(E:(A.endLine==u.line)=Y):EE c n k aP (.Call (.Attribute o "get" A) [e] [] u) X i:=by
 constructor;intro a g j bI bC f v;have Q:∀R∈[e],∀p y,R≠.Starred p y:=λR H=>by exact(cO.mp H)▸(g_ L)
 have B:backTo u (starEach [e] c.V)=[(ay,eval e c.V)]:=mV (Q e (.head _));refine wpAny_Call_method1_late O E B (aN.1 a g j _ _ f λah aj bE ak ao au aC=>?_);obtain rfl:=aC.inv;obtain⟨w,aF,q,x⟩:=au;refine gv (b _ _ _ _ _ x) λaK bQ S=>(L5 _ _ F.plainAttrs_dict F.slot_dict_get F.type_dict_get S.typeIs S.mapOf.noDict (wpAny_dict_get1 (knd:=strKind c.Z c.w) aK (aM.1 a aj ah _ _ ⟨w,aF,q,x⟩ λh r bW aT aE a_ bf=>?_)));obtain⟨bZ,rfl⟩:=bf.inv;obtain⟨_,bh,aY,l⟩:=a_;refine gv (bx _ _ _ _ _ l) λbR bl bz=>(gx _ _ (tQ ..) bz.mapOf ((d bl)▸?_));have z:cg c.B r h r {h with toks:=h.toks+1}:=cg.tok l.ready _;exact v _ r _ ((ak.trans aT).trans z.same) (ao.trans aE) ⟨w,bh,aY,l.step z⟩ (t _ _)
theorem QS{h:CmpOp}(F:Fm c.V n k bI)(i:J)(j:n[i]?=D t)(l:i<k)(E:EE c n k ak ao aK y)(s:EE c n k (aK.set i (.t y)) x X m)(o:gb h y m=D b)(R:behindInMarks h x=ay)
  (f:EX c n k X (if b then q else z) O A):ES c n k ak (.If (.Compare (.NamedExpr (.Name t cC) ao bE) [h] [x] bR) q z cF) O A:=by
 constructor;intro T r p Q H e S B;refine An (Ao (wpAny_NamedExpr (E.1 T r p _ _ S λcB L G P ah aj d=>?_)) R);obtain⟨w,ck,cu,au⟩:=aj;refine vM (gh (av:=.t y) w e au j l (F.loc j l) ⟨C,G,C,d⟩ .nil λg aC v aF=>(s.1 T L g _ _ ⟨w,aC,_,aF⟩ λbW bZ b_ aH u aM aN=>(cP.to (A_ c.R (d.mono u) aN o) aM λaP aT bQ aE a_ bf bh=>?_)));obtain rfl:=bh.inv;apply yh;have:=f.1 T aT aP Q H e bf λaY bx bl bz bC a d=>B aY bx bl (P.trans (v.trans (aH.trans (aE.trans bz)))) (ah.trans (u.trans (a_.trans bC))) a d;cases b
 .exact this
 .exact this
theorem Q0(p:bK c.B c.Z c.w O)(i:J)(j:n[i]?=D m){a:aq}{ls:I _}{P r:I _}(T:EE c n k lv o ao (.bV (.ref a)))(cB:ao[i]?=D (.obj (.bY q G)))(b:EE c n k ao e X (.str y))(H:X[i]?=D (.obj (.bY q G)))
  (e1:objs c.Z c.w O q G=P++(a,fQ ls)::r)(b_:objs c.Z c.w O q G'=P++(a,fQ (ls++[y]))::r)(hG:G'.self=G.self/\G'.aZ=G.aZ/\c_ G'=c_ G)(cJ:U ls<=1000)
  (cX:attributeBase o "append" c.V (eval o c.V)=eval o c.V)(L:dO e=Y)(aE:(bh.endLine==u.line)=Y):
  ES c n k lv (.Expr (.Call (.Attribute o "append" bh) [e] [] u) eR) (X.set i (.obj (.bY q G'))) .next:=by
 constructor;intro hB g bx fy eM er S aY;have Q:∀R∈[e],∀s bE,R≠.Starred s bE:=λR ck=>by exact(cO.mp ck)▸(g_ L)
 have w:=kL (pos:=u) (V:=c.V) [e] Q;refine tT (lP cX (yW w (az C)) aE RC RD IC (T.1 hB g bx _ _ S λeN e6 dG aH aK aM aN=>?_)) (by delta interactive;exact S.1.kind.symm▸C) C;cases aN.inv;have E:∀{b g aP aT lv},lv[i]?=D _->aW c.B c.ρ hB g c.V n k lv aP aT b->∃z B,b.get? a=D _/\iU z ls:=λa_ S=>by
  refine ai ((i0 p S j a_).2.ob.dY (a,fQ ls) (by rw [e1];simp)) λo T bf=>?_;refine d5 (bf) λz B e d=>?_;exact(gg z B (by refine ae (T) ?_;exact aA _ (e)) d)
 refine cps λ_ bl=>?_;obtain⟨ah,bz,bC,aj⟩:=aM;refine d5 (E cB aj) λz dU A ew=>bl ((dI (aR _ A C) (λeB bI=>by obtain rfl:=ku bI;exact(aR _ A C)) (kA w (jM Q (qT b.1 lX (g_ L)) ⟨ah,bz,bC,aj⟩ λfj aF dN bR bW bZ l=>?_))));obtain⟨v,z,rfl,d,l⟩:=l.jA (P:=λcu=>∃v h,cu=v::h/\Den _ _ v _/\bu _ _ h _) λv h s m=>⟨v,h,C,s,m⟩;obtain rfl:=l.ja C;obtain⟨bQ,rfl⟩:=d.inv;obtain⟨_,cF,ee,f⟩:=bZ;refine d5 (E H f) λh cM cC ak=>?_;refine Jb (hsz:=(by simp only [qH,((ak.qh (ρ:=c.ρ) (fz:=g)).length)];simp;exact aD cJ (az C))) ⟨cM,cC⟩ λau t aC=>bH t λcU t=>?_;have c9:au.get? a=D (lo (h++[.str (cj y) bQ]) cU):=by apply ae (t);simp [lo]
 refine bT (i0 p f j H) λfB x=>aY _ aF .next (aH.trans (bR.trans (cH au _ C))) (aK.trans bW) ⟨ah,cF,_,CS p f j H ?_ aC hG.1 ⟨C,by exact(hG.2.1)▸(x.sm),by exact(hG.2.2)▸(x.nd),x.ob.upd e1 b_ aC c9 (gg _ _ C (ak.append (.cons .nil)))⟩⟩ dj
 simp only [x.ob.ad,e1];simp
end
structure XP{O:Type}(c:Cx O)(xs:I af)(k:J)(lv:I (AV O))(st:I cz)(Φ:I (AV O)->fP->Prop):Prop where
 ev:j1 c.B c.Z c.w c.A c.ρ c.V xs k lv st Φ
structure SP{O:Type}(c:Cx O)(xs:I af)(k:J)(lv:I (AV O))(st:cz)(Φ:I (AV O)->fP->Prop):Prop where
 ev:AE c.B c.Z c.w c.A c.ρ c.V xs k lv st Φ
section
variable{c:Cx Ob}{i:J}
theorem iK.none{o:bL}(p:iK G o)(h:x∉(["_node2info","_ready_nodes","_npassedout","_nfinished"]:I af)):∃Q u,o=dictOf Q u/\getL x Q=D aa:=by
 obtain⟨m,S,i,q,e,X,w,v,R,g,H⟩:=p;simp only [cD,dQ,or_false,not_or]at h;exact(gg m S e (H x h.1 h.2.1 h.2.2.1 h.2.2.2))
theorem B3(p:bK c.B c.Z c.w O)(F:Fm c.V n k ak)(j:n[i]?=D x)(w:gm c.V)(l:aW c.B c.ρ aT aY c.V n k au m aC s.heap)(z:eE c.V m s.heap x (D (.ref G.self)))(h:eu c.Z c.w O aH G (.ref G.self) s.heap aN)(g:(L,a)∈O.fs)(q:L∉(["_node2info","_ready_nodes","_npassedout","_nfinished"]:I af))
  (f:(backTo u (starEach Q c.V)).any (·.1)=ay)(d:U Q<30)(E:(A.endLine==u.line)=Y)
  (r:aQ (aI c.Z c.w) c.A (evalArgs (.ref a) Y (backTo u (starEach Q c.V)) []) (λx e=>(e.heap.get? a=D b/\b.data=.func aF)/\aQ (aI c.Z c.w) c.A (call (.ref a) ([.ref G.self]++x.pos) x.kw) t H e) H s):
  aQ (aI c.Z c.w) c.A (eval (.Call (.Attribute (.Name x aP) L A) Q [] u) c.V) t H s:=by
 refine aG (eO (eK w l.ns z (aG (oH ?_))) (F.eY j))
 delta methodCall
 refine(yW f d)▸(cps λ_ y=>(ai (h.ob.dY (G.self,λo=>o=instObj O.bq G.d) (m_ (.head _))) λao X S=>ai (h.ob.dY (G.d,iK G) (m_ (cN (i:=1) C))) λaE T B=>(d5 (B.none q) λaK aM R P=>?_)));subst R;have ah:InstAt s.heap G.self _ O.bq (D _):=⟨ae X (aA D S),C,C,T⟩;exact bT (p.ok.fs _ g) λaj v=>y (aG (gH (method_fn (p.iI l.base) ah (vL (p.ok.pg L)).1 (vL (p.ok.pg L)).2 aj (beq_iff_eq.mp v) (by show(lookIn L _).map _=D ay;simp only [lookIn_dict,P];rfl) (aG (iQ (Nb E) (yc r))))))
theorem Z_(p:bK c.B c.Z c.w O)(F:Fm c.V n k ck)(i:J)(hx:n[i]?=D z)(hl:y[i]?=D (.obj (.bY q G)))(g:(L,a)∈O.fs)(aE:L∉(["_node2info","_ready_nodes","_npassedout","_nfinished"]:I af))
  (bx:∀{h},bF c.B.h₀ h->h.get? a=D B)(Q:B.data=.func bZ)(h:ER c n k y u es P e)(d:P[i]?=D (.obj (.bY q G)))(x:e8 c.B c.Z c.w c.n (.ref a) (.bY q G) e b)(uD:es.all dO=Y)(o:U es<30)(f:(A.endLine==u.line)=Y)
  (S:SR c.B c.ρ hB m c.V n k y s.heap)
  (R:∀t j v X r,b X r->bP s t->Le m j->SR c.B c.ρ hB j c.V n k (P.set i (.obj X)) t.heap->Den c.ρ j v r->ah v t):
  aQ (aI c.Z c.w) c.A (eval (.Call (.Attribute (.Name z cu) L A) es [] u) c.V) ah bR s:=by
 refine cps λ_ ao=>?_;obtain⟨w,au,aC,l⟩:=S;refine bT (i0 p l hx hl) λaF aH=>ao (B3 p F hx w l aF aH g aE (kL es (l9 uD)) o f (jM (l9 uD) h.1 ⟨w,au,aC,l⟩ λaK aM aN aP aT E ak=>⟨⟨bx E.ready.base,Q⟩,?_⟩));obtain⟨_,aj,b_,E⟩:=E
 exact bT (i0 p E hx d) λa_ bf=>i8 (x c.A c.ρ aM _ aN _ aK _ c.R E.ready (p.ob.symm▸bf) (E.uu (j7 hx)) ak λt j v bW X r bh bl H aY bC bE bz bI bQ T=>
  R t j v X r bh (aP.trans bl) (aT.trans H) ⟨w,aj,_,E.qB hx aY bC H bE bz a_ ⟨.ref G.self,C,bI⟩ bQ⟩ T)
theorem Q3(B:bK c.B c.Z c.w O)(F:Fm c.V n k bx)(i t:J)(aC:n[i]?=D x)(l:y[i]?=D (.obj (.bY q G)))(g:(L,a)∈O.fs)(S:L∉(["_node2info","_ready_nodes","_npassedout","_nfinished"]:I af))
  (T:∀{h},bF c.B.h₀ h->h.get? a=D aE)(aN:aE.data=.func bI)(h:ER c n k y u Q P p)(d:P[i]?=D (.obj (.bY q G)))(j:e8 c.B c.Z c.w c.n (.ref a) (.bY q G) p o)(m:Q.all dO=Y)(z:U Q<30)(E:(b.endLine==u.line)=Y)
  (e:n[t]?=D H)(v:t<k)(R:gY (.Call (.Attribute (.Name x ah) L b) Q [] u) (D (.Name H aj)) ak.line c.V=pure ay):
  SP c n k y (.Assign [.Name H aj] (.Call (.Attribute (.Name x ah) L b) Q [] u) ak) λs au=>∃X r,o X r/\s=(P.set i (.obj X)).set t (.t r)/\au=.next:=by
 constructor;intro bZ b_ bz bE bW aF aH aK;refine kC (Z_ B F i aC l g S T aN h d j m z E aH λbC aM ao X r aP aT aY A bf=>?_) R;obtain⟨w,bQ,bR,A⟩:=A;exact gh (av:=.t r) w aF A e v (F.loc e v) ⟨C,ao,C,bf⟩ .nil λa_ bh bl f=>aK a_ aM .next _ .next (gx X r aP C C) (aT.trans bl) aY ⟨w,bh,_,f⟩ dj
end
structure iG{O:Type}(B:bD O)(a i j:J)(ob:bL)(fd:rY)(xs:I af):Prop where
 d:j2 B a ob fd (dD (fL i j)) xs
 ar:fd.params=gw (fL i j)
 sc:fd.scope=eg (fL i j)
 df:fd.defaults=.none
 kd:fd.kwdefaults=.none
section
variable{c:Cx Ob}{st:J}
theorem bS{R:Type}{l:I R}{c:R}(h:l.Nodup)(a:c∉l):(l++[c]).Nodup:=gk.mpr ⟨h,gM.mpr ⟨dQ,xX⟩,λi u b f e=>a (cO.mp f▸e▸u)⟩
theorem Cg(p:bK c.B c.Z c.w O)(S:aW c.B c.ρ hB g c.V n k y m r h)(j:n[i]?=D x)(X:y[i]?=D (.obj (.jT st Q))):eE c.V m h x (D (.ref Q.i))/\AI O st Q (.ref Q.i) h (r i):=by
 refine cps λE kk=>?_;obtain⟨e,u,v,rfl,d⟩:=S.vars i x _ j X;apply kk;rw [p.ob]at d;exact(d.v)▸(⟨u,d⟩)
theorem Q8(p:bK c.B c.Z c.w O)(F:Fm c.V n k G)(i:J)(j:n[i]?=D x)(X:y[i]?=D (.obj (.jT st Q))):EE c n k y (.Name x h) y (.bV (.ref Q.i)):=by
 constructor;rintro T g s e H⟨w,m,r,S⟩R;exact bT (Cg p S j X) λu d=>eO (eK w S.ns u (R s g _ (bP.refl s) (Le.refl _) ⟨w,m,r,S⟩ (.bV _))) (F.eY j)
theorem Q7(p:bK c.B c.Z c.w O)(i:J)(j:n[i]?=D cX)(bf:EE c n k cF e aT bE)(aK:EE c n k aT o X (.bV (.ref Q.i)))(bC:X[i]?=D (.obj (.jT st Q)))(L:t5 O x c9 st)(cJ:st<1000)
  (w:∀{g:Fz}{v:aB}(su:aq)(A y:fT),Den c.ρ g v bE->sV O.N (st+1) {Q with su:=su} ⟨.ref O.N,D Q.id,.plain,(slotsOf {Q with su:=su} A y st++Iu (st+1-(slotsOf {Q with su:=su} A y st).size) aa).setIfInBounds st (D v)⟩)
  (bh:∀su,wJ O.N st {Q with su:=su}=[(Q.i,sV O.N st {Q with su:=su}),(Q.id,λ_=>True)])(H:∀su,wJ O.N (st+1) {Q with su:=su}=[(Q.i,sV O.N (st+1) {Q with su:=su}),(Q.id,λ_=>True)])
  (bW:gY e (D (.Attribute o x cB)) bz.line c.V=pure ay):ES c n k cF (.Assign [.Attribute o x cB] e bz) (X.set i (.obj (.jT (st+1) Q))) .next:=by
 constructor;intro T g cC dU dN cU S G;refine yd (bf.1 T g cC _ _ S λah aj v ak ao au aC=>aK.1 T aj ah _ _ au λaE aF y aH B aM aN=>(aN.OH (P:=λy=>aQ _ _ (setAttr y x v) _ _ _) ?_)) bW;refine cps λaP f=>?_;obtain⟨aY,a_,r,l⟩:=aM;refine bT (Cg p l j bC) λbl bx=>bH bx.ob λsu t=>?_;have a:=t;apply f;refine cps λaP f=>?_;refine ai (a.dY (Q.i,sV O.N st {Q with su:=su}) (.head _)) λdG bI bQ=>jO bQ λA y bR=>ai (a.dY (Q.id,λE=>True) (.tail _ (.head _))) λbZ b_ E=>?_;have ck:InstAt aE.heap Q.i _ O.N (D bZ):=⟨bR▸bI,C,C,b_⟩;have m:=(cG.mp j).1;have R:Q.i∈r i:=a.ad.symm▸.head _;have F:=l.fp i m;apply f;refine Hg (p.iI l.base) ck p.ok.Cn p.ok.Ci L.Hy L.ty L.sl cJ C λz h cu=>?_;have d:∀{b},b∉r i->b≠Q.i:=λ{b}u q=>u (q▸R)
 refine G _ aF .next ((ak.trans aH).trans (cH z _ C)) (ao.trans B) ⟨aY,a_,_,l.qB j (λb u E o e=>(h.2 b (d u)).trans e) (bD.iy l.inv λP cM o e=>(h.2 P (d ((l.tab P cM).2.2.2.2 i m))).trans e) (Le.refl _) (λb o e=>(h.2 b λq=>aV ((aA _ q).trans ((F Q.i R).2.1)) e).trans (l.bJ b o e)) (λb o e=>.inl e) bl
  ⟨.ref Q.i,C,p.ob.symm▸(⟨C,su,t.upd (P:=[]) (bh su) (H su) h cu (w su A y (aC.mono B))⟩:AI O _ Q _ z _)⟩ (λb s=>⟨.inl s,(F b s).2.1⟩)⟩ dj
theorem ae9(p:bK c.B c.Z c.w O)(i:J)(j:n[i]?=D cF)(aP:EF c n g aC e P [])(aT:p8 c.B c.Z c.w c.A c.ρ c.V n g P o (.bV (.ref Q.i)))(aK:P[i]?=D (.obj (.jT 2 Q)))(aY:Q.succ=[])
  (ak:gY e (D (.Attribute o "successors" bf)) bh.line c.V=pure ay):ES c n g aC (.Assign [.Attribute o "successors" bf] e bh) (P.set i (.obj (.jT 3 Q))) .next:=by
 constructor;intro T a_ bE bZ b_ ck bC ah;refine yd (aP.1 T a_ bE _ _ bC λa f k cB bW m r bl bx w l Fr bR aj=>(aT T f a _ _ ⟨w,m,r,l⟩ λcu y au=>?_)) ak;obtain rfl:=au.inv;obtain rfl:=aj.ja C;refine cps λE aE=>bT (Cg p l j aK) λaF aH=>bH aH.ob λsu u=>ai (u.dY (Q.i,sV O.N 2 {Q with su:=su}) (.head _)) λcC t aM=>?_;refine jO (aM) λaN y d=>?_;refine ai (u.dY (Q.id,λE=>True) (cN (i:=1) C)) λG X E=>aE ?_;dsimp only at t X d;subst d;have L:=p.ok.s2;have ao:InstAt a.heap Q.i _ O.N (D G):=⟨t,C,C,X⟩;have A:=(cG.mp j).1;have ad:r i=[Q.i,Q.id]:=by apply ae (u.ad);exact C
 have R:Q.i∈r i:=by rw [ad];exact .head _
 have F:=l.fp i A;have H:Q.id∈r i:=ad.symm▸.tail _ (.head _);have z:=Fr.fp i A;refine Hg (p.iI l.base) ao p.ok.Cn p.ok.Ci L.Hy L.ty L.sl (dK _ _) C λh v bI=>?_;have v:gW Q.i a.heap h:=v;have x:∀{b},b∉r i->b≠Q.i:=λ{b}s q=>s (by rw [q];exact R);have B:=ad▸u.nd;have bQ:AI O 3 Q (.ref Q.i) h [Q.i,Q.id,k]:=⟨C,k,⟨bO (aR _ bI ⟨aN,y,C⟩) (bO (aR G ((v.2 Q.id (qs B 1 0 C C C)).trans X) dj) (bO (aR _ ((v.2 k (x z)).trans bR) ⟨_,_,C,aY.symm▸.nil⟩) eJ)),C,bS B (ad▸z)⟩⟩;exact ah _ f .next (bl.trans (cH h _ C)) bx ⟨w,m,_,l.xh j (λb s E o e=>(v.2 b (x s)).trans e) (bD.iy l.inv λS bz o e=>(v.2 S (x ((l.tab S bz).2.2.2.2 i A))).trans e) (Le.refl _) (λb o e=>(v.2 b λq=>(aV ((aA _ q).trans ((F Q.i R).2.1)) e)).trans (l.bJ b o e)) (λb o e=>.inl e) aF ⟨.ref Q.i,C,p.ob.symm▸bQ⟩ (bO ⟨.inl R,(F _ R).2.1⟩ (bO ⟨.inl H,(F _ H).2.1⟩ (bO ⟨.inr Fr,Fr.fz⟩ eJ)))⟩ dj
end
abbrev Ly.up(H:Ly q)(f:cf)(B:bF H.B.h₀ f):Ly q:=⟨H.B.up f B,H.Z,H.w,H.mg,H.mb,H.G.up B,H.bi⟩
theorem dW.call(r:dW L (n+1)):dW (L.under (.builtin "type.__call__" ⟨.ref bq::E,l⟩)) n:=
 ⟨by have:=r.depth;exact cS 0 (.a (.a (.a (.a (.v 0) (.n 1)) (.m 4 (.v 1))) (.n 16)) (.n 1)) (.v 2) (.a (.a (.a (.v 0) (.m 4 (.a (.v 1) (.n 1)))) (.n 16)) (.n 1)) (.v 2) C [_,_,_] this,by have:=r.units;exact cS 0 (.a (.a (.a (.a (.v 0) (.n 1)) (.m 8 (.v 1))) (.n 64)) (.n 1)) (.v 2) (.a (.a (.a (.v 0) (.m 8 (.a (.v 1) (.n 1)))) (.n 64)) (.n 1)) (.v 2) C [_,_,_] this,r.handled⟩
section
variable{y:Ly Ob}
theorem V5{c:Cx Ob}{st:J}(d6:bK c.B c.Z c.w O)(F:Fm c.V n k G)(i:J)(j:n[i]?=D x)(X:lv[i]?=D (.obj (.jT st Q))):p8 c.B c.Z c.w c.A c.ρ c.V n k lv (.Name x p) (.bV (.ref Q.i)):=by
 rintro T g s h H⟨w,m,r,S⟩R;exact bT (Cg d6 S j X) λu d=>eO (eK w S.ns u (R s.toks _ (.bV _))) (F.eY j)
theorem sA{X:bD O}{m:cy}{w:bX}{mg v:af->bg aB}{xs:I af}(G:fe X mg v)(k:j2 X a ob S t xs)(j:p.length+1<=U xs)(d:Binds X m w S xs args p)
  (s:∀{y e R g h c i r},AK i r->X.ob.at_ o y e R->X.ob.at_ i g h c->g=y)
  (b:∀{x}(B:bF X.h₀ x)H A F,dW A u->j1 (X.up x B) m w A F (di S H a) xs (U xs) (l8 o xs p) t λl n=>∃i r,l[0]?=D (.obj i)/\v5 n r/\AK i r):
  e8 X m w (u+1) (.ref a) o args AK:=
 J_ G k j d (λe=>(aR _ e (λq f=>f))) s (λB E E E E H A F z=>b B H A F z) λP E E h E E=>(gx _ _ P h (λq f=>.inl f))
noncomputable def nni:I (af×fc):=[("self",.local),("node",.local)]
noncomputable def vh:I af:=["self","node"]
theorem aei(p:bK y.B y.Z y.w O)(k:iG y.B O.ni 17 1 l S vh)(Q:Nd)(x:Q.np=0)(b:Q.succ=[]):e8 y.B y.Z y.w (u+1) (.ref O.ni) (.jT 0 Q) [.str Q.key] λs r=>s=.jT 3 Q/\r=.none:=by
 refine sA y.G k.d (dm _) (.plain λz X=>?_) (λP w h=>?_) λ{f}B H L a i=>?_
 .exact yt (λo j=>ae (qQ k.ar k.df _) C) z X
 .obtain⟨rfl,_⟩:=P;rw [p.ob]at w h;simp only [w.v,h.v]
 .have F:Fm (di S H O.ni) vh (U vh) nni:=jP (C) (by show S.scope.names=_;exact aA _ k.sc)
  let c:=(y.up f B).c L a (di S H O.ni) u i
  have q:=p.up B;exact eX.p (aX:=[.obj (.jT 3 Q),.t _]) (EX.ev (c:=c) (zx (Q7 q 0 C (zv F 1 C C) (Q8 q F 0 C C) C q.ok.s0 (az C) (λ{_ v}su t e d=>d.i4 (P:=λv=>sV O.N 1 {Q with su:=su} ⟨.ref O.N,D Q.id,.plain,#[D v]⟩) λn=>⟨n,e,C⟩) (λE=>C) (λE=>C) C) (zx (Q7 q 0 C (by rw [show agT 0=agT Q.np by rw [x]];exact zi _) (Q8 q F 0 C C) C q.ok.s1 (az C) (λ{_ v}su t e d=>d.gR (P:=λv=>sV O.N 2 {Q with su:=su} ⟨.ref O.N,D Q.id,.plain,#[D (.str (cj Q.key) t),D v]⟩) λn=>⟨t,n,C⟩) (λE=>C) (λE=>C) C) (zx (ae9 q 0 C (rG cT C) (V5 q F 0 C C) C b C) ⟨i_⟩)))) (l6 _ _ C (.inr ⟨C,C⟩) C C)
end
section
variable{c:Cx Ob}{h:cf}
theorem Po(p:bK c.B c.Z c.w O)(S:aW c.B c.ρ e g c.V n k y m r h):(h.objs.size==sysModules)=ay:=by
 refine KR ((makes_of (M:=aI c.Z c.w) (p.iI S.base) p.ok.Gv).obj) λE E E E T E=>?_;exact beq_eq_false_iff_ne.mpr (vH (qJ (fG _) (kW p.ok.lt (fk T))))
noncomputable def jD(l:I J)(i id R:aq):Nd:=⟨l,i,id,R,0,[]⟩
theorem ZW(p:bK c.B c.Z c.w O)(aY:dW c.A (bl+2))(aT:∀i id R,e8 c.B c.Z c.w (bl+1) (.ref O.ni) (.jT 0 (jD l i id R)) [.str l] λX r=>X=.jT 3 (jD l i id R)/\r=.none)(S:aW c.B c.ρ hB fz c.V xs k y m cK s.heap)(aj:Den c.ρ fz z (.str l))
  (ah:∀t j i id R,bP s t->Le fz j->aW c.B c.ρ hB j c.V xs k y m cK t.heap->gp (wJ O.N 3 (jD l i id R)) t.heap [i,id,R]->(∀b∈[i,id,R],e9 c.B hB j c.V xs cK b)->ao (.ref i) t):aQ (aI c.Z c.w) c.A (call (.ref O.N) [z]) ao bE s:=by
 obtain⟨B,bh,a_,A,os⟩:=s;have G:=p.iI S.base;have a:aW c.B c.ρ hB fz c.V xs k y m cK B:=S;have r:=S.ready;refine i8 (make_core (makes_of G p.ok.Ny) (looks_findIn G p.ok.Nr) (λaN=>bind_fn G aN (beq_iff_eq.mp p.ok.Nq)) (.inl C) ?_);have P:=cg.iH r emptyDict A;have au:=S.step P;have aH:=au.step (cg.iH (P.ready r) (instObj O.N B.objs.size) A);have bf:((B.push emptyDict).push (instObj O.N B.objs.size)).get? (B.objs.size+1)=D (instObj O.N B.objs.size):=by heap_get
 have n1:B.get? B.objs.size=aa:=gS ⟨B,bh,a_,A,os⟩;have F:B.get? (B.objs.size+1)=aa:=by
  cases q:B.get? _ with
  |none=>rfl
  |some o=>exact bA (fk q) (ie.mpr (rS _))
 have bx:gp (wJ O.N 0 (jD l (B.objs.size+1) B.objs.size 0)) _ [B.objs.size+1,B.objs.size]:=⟨λE g=>by
  simp only [jD]at g;rcases cD.mp g with rfl|g
  .exact(aR _ bf ⟨0,0,C⟩)
  .rcases cD.mp g with rfl|g
   .exact(aR _ (by heap_get) dj)
   .simp at g,C,by simp⟩
 have ak:c.B.ob.at_ (.jT 0 (jD l (B.objs.size+1) B.objs.size 0)) (.ref (B.objs.size+1)) ((B.push emptyDict).push (instObj O.N B.objs.size)) [B.objs.size+1,B.objs.size]:=by
  rw [p.ob];exact(⟨C,0,bx⟩)
 have h:=S.free n1;have f2:=S.free F;refine aT _ B.objs.size 0 _ c.ρ fz _ [z] _ _ [B.objs.size+1,B.objs.size] aY.call aH.ready ak (bO (dI f2.fz f2.h0 f2.tab) (bO (dI h.fz h.h0 h.tab) eJ)) (.one aj) ?_
 .rintro t j bI aC X bC⟨rfl,rfl⟩aF H aK aM n aP v u aE;obtain rfl:=aE.inv;refine⟨C,?_⟩;rw [p.ob]at v;refine bH v.ob λR d=>?_;have ad:aC=[B.objs.size+1,B.objs.size,R]:=by apply ae (d.ad);exact C
  subst ad;have x:=λ{b o}e f=>bO (P:=λb=>B.get? b=D o->False) (aV F) (bO (aV n1) eJ) b f e;have Q:∀{b o},B.get? b=D o->((B.push emptyDict).push (instObj O.N B.objs.size)).get? b=D o:=λe=>eG _ (eG _ e);have w:∀{b},((B.push emptyDict).push (instObj O.N B.objs.size)).get? b=aa->B.get? b=aa:=λ{b}e=>by
   cases q:B.get? b with
   |none=>rfl
   |some o=>rw [Q q]at e;assumption
  have T:∀{b},b∈[B.objs.size+1,B.objs.size]->B.get? b=aa:=λ{b}f=>by
   cases q:B.get? b with
   |none=>rfl
   |some o=>exact bA f (x q)
  have bz:=a.grow (λb f o e=>aK b (x e) f o (Q e)) aM H λb o e=>by
   rcases aP b o e with q|q|q
   .exact .inl q
   .exact .inr ⟨w q,n b o e⟩
   .exact .inr ⟨T q,n b o e⟩
  refine ah t j _ _ R (bP.trans (cH _ _ C) aF) H bz d λb f=>?_;have E:B.get? b=aa:=by
   rcases(u b f).1 with q|q
   .exact T q
   .exact w q
  have L:=a.free E;exact⟨L.hb,(u b f).2,L.loc,L.cell,L.fp,L.tab,L.h0⟩
noncomputable def SG.add(G:SG)(Q:Nd):SG:={G with bS:=G.bS++[Q]}
theorem abt(P:h.DictOf (strKind m w) k (c_ G)):∃o,h.get? k=D o/\j_ m w G o:=jC P λo Q L T r=>(aR o T (λh a e=>(l7 o Q L e r)))
theorem ML(G:SG)(Q:Nd):c_ (G.add Q)=c_ G++[(cj Q.key,.ref Q.i)]:=by simp [c_,SG.add]
theorem stored_new(h:∀Q∈G.bS,Q.key≠l)(v:aB):stored (c_ G) (cj l) v=c_ G++[(cj l,v)]:=by
 delta stored
 rw [aJ];intro q;refine ai (mH.mp q) λE g e=>ai (dZ.mp g) λQ z d=>?_;subst d;simp only [oK]at e;exact h Q z (sY e)
theorem aa2(m:cy)(w:bX)(O:Cl)(G:SG)(Q:Nd):((objs m w O 0 (G.add Q)).map (·.1)).Perm ((objs m w O 0 G).map (·.1)++[Q.i,Q.id,Q.su]):=by
 have t:(objs m w O 0 (G.add Q)).map (·.1)=(fX O.bq G).map (·.1)++(gP O.N G).map (·.1)++[Q.i,Q.id]++(G.aZ::G.bS.map (·.su))++[Q.su]:=by
  simp [n5,gP,SG.add,j5,g9,fX,agd]
 have b:(objs m w O 0 G).map (·.1)=(fX O.bq G).map (·.1)++(gP O.N G).map (·.1)++(G.aZ::G.bS.map (·.su)):=by
  simp [n5,g9]
 simp only [t,b];have:=(List.perm_append_comm (l₁:=[Q.i,Q.id]) (l₂:=G.aZ::G.bS.map (·.su))).append_left ((fX O.bq G).map (·.1)++(gP O.N G).map (·.1));have:=this.append_right [Q.su];simpa [gX]using this
theorem aa1(g:E∈objs m w O 0 (G.add Q)):
  E∈fX O.bq G++gP O.N G\/E∈(G.bS.map λQ=>(Q.su,fQ Q.succ))\/E=(G.aZ,j_ m w (G.add Q))\/E∈j5 O.N Q\/E=(Q.su,fQ Q.succ):=by
 have t:objs m w O 0 (G.add Q)=fX O.bq G++gP O.N G++j5 O.N Q++((G.aZ,j_ m w (G.add Q))::(G.bS.map λQ=>(Q.su,fQ Q.succ))++[(Q.su,fQ Q.succ)]):=by
  simp [n5,gP,SG.add,g9]
  rfl
 rw [t]at g;rcases fE.mp g with g|g
 .rcases fE.mp g with g|g
  .exact .inl g
  .exact .inr (.inr (.inr (.inl g)))
 .rcases fE.mp g with g|g
  .rcases cD.mp g with g|g
   .exact .inr (.inr (.inl g))
   .exact .inr (.inl g)
  .exact .inr (.inr (.inr (.inr (cO.mp g))))
theorem Cr(m:cy)(w:bX)(O:Cl)(G:SG):objs m w O 0 G=(fX O.bq G++gP O.N G)++(G.aZ,j_ m w G)::(G.bS.map λQ=>(Q.su,fQ Q.succ)):=C
theorem ac5(e:eu m w O 0 G v h R)(i:gp (wJ O.N 3 Q) h [Q.i,Q.id,Q.su])(k:∀b∈[Q.i,Q.id,Q.su],b∉R)(B:gW G.aZ h x)(P:x.DictOf (strKind m w) G.aZ (c_ (G.add Q)))(z:∀a∈G.bS,a.key≠Q.key):
  eu m w O 0 (G.add Q) v x ((objs m w O 0 (G.add Q)).map (·.1))/\∀b∈(objs m w O 0 (G.add Q)).map (·.1),b∈R\/b∈[Q.i,Q.id,Q.su]:=by
 have y:=aa2 m w O G Q;have H:=e.ob.nd;rw [e.ob.ad]at H k;refine⟨⟨e.v,e.sm,?_,⟨λE g=>?_,C,?_⟩⟩,λb f=>?_⟩
 .rw [ML,eW,gk];refine(dI e.nd (by simp) (λn u b f=>?_));rw [iN,R6,cO]at f;subst f;refine ai (dZ.mp u) λE g d=>?_;subst d;refine ai (dZ.mp g) λa X d=>?_;subst d;exactλq=>z a X (sY q)
 .have l:=H;rw [Cr,eW,iN]at l;refine gv (gk.mp l) λr F j=>?_;have s:=λ{E}g t=>ai (e.ob.dY E g) λo T p=>(aR o (ae (B.2 _ t) T) p);have S:=λ{E}g=>by
   refine ai (i.dY E g) λo T p=>(aR o (ae (B.2 _ λq=>k E.1 ?_ (by exact(q)▸((by simp only [Cr];simp)))) T) p);have:=fM (f:=(·.1)) g
   assumption
  rcases aa1 g with g|g|rfl|g|rfl
  .exact s (gj _ ‹_›) λq=>j G.aZ (q▸(fM g)) G.aZ (.head _) C
  .refine s (by simp only [Cr];exact i6 _ (.tail _ g)) λq=>(gM.mp F).1 ?_;have A:=fM (f:=(·.1)) g;simp only [q]at A;exact A
  .exact abt P
  .simp only [j5,cD,dQ,or_false]at g;rcases g with rfl|rfl
   .refine ai (S (.head _)) λo T d=>?_;refine jO (d) λA L c=>?_;exact(aR o T ⟨A,L,c⟩)
   .exact ai (S (cN (i:=1) C)) λo T r=>(aR o T dj)
  .exact S (cN (i:=2) C)
 .rw [y.nodup_iff,gk];refine(dI H i.nd (λn u b f q=>k b f (q▸u)))
 .rw [y.mem_iff,<-e.ob.ad]at f;exact fE.mp f
end
section
set_option tactic.hygienic true
abbrev vR(c:Cx Ob)(n:I af)(k:J)(y:I (AV Ob))(e:cE)(z:T):Prop:=p8 c.B c.Z c.w c.A c.ρ c.V n k y e z
theorem V6(p:bK c.B c.Z c.w O)(F:Fm c.V n k h)(i:J)(j:n[i]?=D x)(X:y[i]?=D (.obj (.bY q G))):vR c n k y (.Name x e) (.bV (.ref G.self)):=by
 rintro T g s Q H⟨w,m,r,S⟩R;refine bT (i0 p S j X) λu d=>?_;exact eO (eK w S.ns u (R s.toks _ (.bV _))) (F.eY j)
theorem V7(p:bK c.B c.Z c.w O)(i:J)(j:n[i]?=D u)(X:y[i]?=D (.obj (.bY q G)))(a:vR c n k y o (.bV (.ref G.self)))(f:GT G x z)
  (m:eval (.Attribute o x h) c.V=(do let Q<-eval o c.V;standAt h.atName;let r<-holding [Q] (getAttr Q x Y);letTemporaryGo o Q r;pure r)):vR c n k y (.Attribute o x h) z:=by
 rintro T g s l H⟨w,e,b,S⟩R;refine Rr (a T g s _ _ ⟨w,e,b,S⟩ λt v d=>?_) m;obtain rfl:=d.inv;exact LA p S (i0 p S j X).2 f λv A d=>R A v d
theorem aeK(p:bK c.B c.Z c.w O)(F:Fm c.V n k aP)(cB:dW c.A (u+2))(bz:∀i id R,e8 c.B c.Z c.w (u+1) (.ref O.ni) (.jT 0 (jD l i id R)) [.str l] λbf bl=>bf=.jT 3 (jD l i id R)/\bl=.none)
  (S:J)(z:aP[S]?=D (L,.globalImplicit))(b_:c.mg L=D (.ref O.N))(i g:J)(d:n[i]?=D fy)(bx:y[i]?=D (.obj (.bY 0 G)))(bh:vR c n k y e (.str l))(bQ:dO e=Y)(bR:vR c n k y o (.bV (.ref G.aZ)))(cJ:vR c n k y ak (.str l))
  (X:∀c9∈G.bS,c9.key≠l)(aF:n[g]?=D H)(Q:g<k)(aK:U G.bS<=1000)
  (cU:swappedStores [.Subscript o ak aM,.Name H cC] (.Call (.Name L cM) [e] [] P) c.V=pure aa):
  SP c n k y (.Assign [.Subscript o ak aM,.Name H cC] (.Call (.Name L cM) [e] [] P) gc) λcX dG=>∃a id R,cX=(y.set i (.obj (.bY 0 (G.add (jD l a id R))))).set g (.t (.bV (.ref a)))/\dG=.next:=by
 constructor;intro T dN ah fZ e6 aT aY a_;refine wpAny_Assign_two ?_ C cU;obtain⟨w,m,r,x⟩:=aY;refine kD (nZ c.G w x.base (F.kn S z nofun) b_ (F.kg S z) ?_);have f:starEach [e] c.V=(ay,eval e c.V)::starEach [] c.V:=PM (g_ bQ);refine callWith_K (p.iI x.base) p.ok.MJ ?_ f C;have bC:backTo P (starEach [e] c.V)=[(ay,eval e c.V)]:=by rw [f];rfl
 rw [bC];refine pW (bh T dN ah _ _ ⟨w,m,r,x⟩ λbE fj bI=>lO ⟨p.iI x.base,(ZW (s:={ah with toks:=bE}) p cB bz x bI λh s a id R bW bZ E ck Fr=>?_)⟩);refine aG (gH (bR T s h _ _ ⟨w,m,r,E⟩ λcu aN t=>?_));obtain rfl:=t.inv;refine aG (gH (cJ T s {h with toks:=cu} _ _ ⟨w,m,r,E⟩ λaj aN t=>?_));obtain⟨fB,rfl⟩:=t.inv;refine aG (oH (aG (gH ?_)));refine bT (i0 p E d bx) λcF v=>?_;have A:=(cG.mp d).1;have ao:=E.fp i A;refine wpAny_setItem_pairs (s:={h with toks:=aj}) (tQ ..) v.map ?_ (by simp only [rU];simp [c_];exact aD aK (az C));intro j aC B;have B:gW G.aZ h.heap j:=B;rw [stored_new X]at aC;have aE:G.aZ∈r i:=by simp only [v.ob.ad,Cr];simp
 have au:∀{b},b∉r i->b≠G.aZ:=λ{b}u q=>u (by rw [q];exact aE);obtain⟨ee,er⟩:=ac5 v ck (λb f=>(Fr b f).fp i A) B (by rw [ML];exact aC) X;have ew:=E.xh (av:=.obj (.bY 0 (G.add (jD l a id R)))) (fp:=(objs c.Z c.w O 0 (G.add (jD l a id R))).map (·.1)) d (λb u _ o e=>ae (B.2 b (au u)) e) (bD.iy E.inv λaH eM o e=>ae (B.2 aH (au ((E.tab aH eM).2.2.2.2 i A))) e) (Le.refl _)
  (λb o e=>ae (B.2 b λq=>aV ((aA _ q).trans ((ao G.aZ aE).2.1)) e) (E.bJ b o e)) (λb o e=>.inl e) cF ⟨.ref G.self,C,p.ob.symm▸ee⟩ (λb f=>by
   rcases er b f with q|q
   .exact⟨.inl q,(ao b q).2.1⟩
   .exact⟨.inr (Fr b q),(Fr b q).fz⟩)
 exact wpAny_release (vM (gh (s:={h with heap:=j,toks:=aj+1}) (av:=.t (.bV (.ref a))) w aT ew aF Q (F.loc aF Q) ⟨C,_,C,.bV _⟩ .nil λeB eN eR dU=>a_ eB s .next _ .next (l7 a id R C C) ((bP.trans (cH _ _ C) bW).trans (bP.trans (cH j _ C) eR)) bZ ⟨w,eN,_,dU⟩ dj))
end
section
variable{st:cz}{rest:I cz}
theorem EX.xp{st:I cz}(h:EX c n k y st aX fl)(p:Φ aX fl):XP c n k y st Φ:=⟨eX.p h.1 p⟩
theorem qF(w:ES c n k y u P .next)(v:XP c n k P rest b):XP c n k y (u::rest) b:=⟨C9 w.1 v.1⟩
theorem Dh(w:SP c n k y u i)(v:∀P A,i P A->(A=.next/\XP c n k P rest b)\/(A≠.next/\b P A)):XP c n k y (u::rest) b:=⟨zL w.1 λl L p=>(v l L p).imp (λq=>⟨q.1,q.2.1⟩) id⟩
theorem Rl(p:b y .next):XP c n k y [] b:=⟨aeA p⟩
theorem XP.ex{st:I cz}(h:XP c n k y st Φ)(p:∀x R,Φ x R->qa c.B x P/\R=A):EX c n k y st P A:=⟨j1.x h.1 p⟩
theorem XP.wk{st:I cz}(h:XP c n k y st b)(p:∀x R,b x R->∃P,qa c.B x P/\i P R):XP c n k y st i:=⟨j1.wk h.1 p⟩
theorem XP.mono{st:I cz}(h:XP c n k y st Φ)(p:∀x R,Φ x R->i x R):XP c n k y st i:=⟨λT g s Q H a b d=>h.1 T g s Q H a b λt j L x R q=>d t j L x R (p x R q)⟩
theorem aeT(F:Fm c.V n k b_)(i:J)(j:n[i]?=D t)(l:i<k)(p:EE c n k B ak ao y)(s:EE c n k (ao.set i (.t y)) x X m){b:bw}(o:gb h y m=D b)(R:behindInMarks h x=ay)
  (f:XP c n k X (if b then q else z) Φ):SP c n k B (.If (.Compare (.NamedExpr (.Name t cB) ak cC) [h] [x] bI) q z cu) Φ:=by
 constructor;intro T H E Q A e S L;refine An (Ao (wpAny_NamedExpr (p.1 T H E _ _ S λck O G P ah aj d=>?_)) R);obtain⟨w,cJ,bZ,au⟩:=aj;refine vM (gh (av:=.t y) w e au j l (F.loc j l) ⟨C,G,C,d⟩ .nil λaC v r g=>(s.1 T O aC _ _ ⟨w,v,_,g⟩ λbQ bR bW aF u aH aK=>(cP.to (A_ c.R (d.mono u) aK o) aH λaM aN cF aP aT aY aE=>?_)));obtain rfl:=aE.inv;apply yh;have:=f.1 T aN aM Q A e aY λbf bh bl a_ bz bx bC bE a d=>L bf bh bl a_ bz bx (P.trans (r.trans (aF.trans (aP.trans bC)))) (ah.trans (u.trans (aT.trans bE))) a d;cases b
 .exact this
 .exact this
end
section
variable{y:Ly Ob}{f:aq}
structure p9(G:SG)(l:I J)(G':SG)(j:J)(nd:Nd):Prop where
 at_:G'.bS[j]?=D nd
 key:nd.key=l
 how:(G'=G/\∃nd∈G.bS,nd.key=l)\/((∀nd∈G.bS,nd.key≠l)/\∃i id su,G'=G.add (jD l i id su)/\nd=jD l i id su)
noncomputable def ngn:I (af×fc):=[("self",.local),("node",.local),("result",.local),("_NodeInfo",.globalImplicit)]
noncomputable def rC:I af:=["self","node","result"]
theorem aee(p:bK y.B y.Z y.w O)(k:iG y.B f 19 1 aN S rC)(T:iG y.B O.ni 17 1 s ak vh)(u:y.mg "_NodeInfo"=D (.ref O.N))(au:U G.bS<=1000):
  e8 y.B y.Z y.w (aP+3) (.ref f) (.bY 0 G) [.str l] λr ah=>∃o t Q,p9 G l o t Q/\o.self=G.self/\r=.bY 0 o/\ah=.bV (.ref Q.i):=by
 refine sA y.G k.d (ez C) (.plain λaH X=>?_) (λP w v=>?_) λ{x}B H aj ao i=>?_
 .exact yt (λa aT=>ae (qQ k.ar k.df _) C) aH X
 .refine mX P λo t Q E n j E=>?_;subst j;rw [p.ob]at w v;simp only [w.v,v.v,n]
 .have F:Fm (di S H f) rC (U rC) ngn:=jP (C) (by exact aA _ k.sc)
  let c:=(y.up x B).c aj ao (di S H f) _ i
  have q:=p.up B;have L:iG (y.up x B).B O.ni 17 1 s ak vh:=⟨T.d.up B,T.ar,T.sc,T.df,T.kd⟩;apply XP.ev (c:=c);have h:tY c rC (U rC) (l8 (.bY 0 G) rC [.str l]) G:=Pc q (i:=0) C C
  by_cases g:∃Q∈G.bS,Q.key=l
  .refine ai g λQ e d=>?_;subst d;exact bH (pS e) λt b=>EX.xp (zx (QS F 2 C (by exact fG _) (HW h (kj q (kc q (i:=0) C C) (jG q F 0 C C) .uP C) h (zv F 1 C C) (λz=>by rw [HL z b,agL]) (λE E=>.bV _) C C C) zn (b:=ay) C C ⟨i_⟩) (⟨ur (je (zv F 2 C C)).1 (by exact nofun)⟩)) (gx _ _ C (.inl C) ⟨G,t,Q,⟨b,C,.inl ⟨C,Q,e,C⟩⟩,C,C,C⟩)
  .have g:∀Q∈G.bS,Q.key≠l:=λQ e aC=>g (aR Q e aC);refine Dh (aeT (Φ:=λaE A=>∃a id R,aE=[.obj (.bY 0 (G.add (jD l a id R))),.t (.str l),.t (.bV (.ref a))]/\A=.next) F 2 C (fG _) (HW h (kj q (kc q (i:=0) C C) (jG q F 0 C C) .uP C) h (zv F 1 C C) (λz=>(ad7 g).symm▸C) (λE E=>.none) C C C) zn (b:=Y) C C ?_) ?_
   .refine Dh (aeK q F i (λaF id R=>aei q L (jD l aF id R) C C) 3 C u 0 2 C C (EY (i:=1) C C C) C (V7 q 0 C C (V6 q F 0 C C) .uP C) (EY (i:=1) C C C) g C (fG _) au C) λaK A P=>jC P λa id R aM m=>?_;subst aM m;exact .inl ⟨C,Rl (l7 a id R C C)⟩
   .rintro aK A⟨a,id,R,rfl,rfl⟩;refine .inl ⟨C,EX.xp (fl:=.ret (.bV (.ref a))) ⟨ur (je (zv F 2 C C)).1 (nofun)⟩ (gx _ _ C (.inl C) ⟨G.add (jD l a id R),U G.bS,jD l a id R,⟨?_,C,.inr ⟨g,a,id,R,C,C⟩⟩,C,C,C⟩)⟩;simp [SG.add]
end
abbrev AN:=I J×aS×I (I J)
noncomputable def e_(H:I AN)(l:I J):I AN:=if H.any (λa=>aO (a.1=l))then H else H++[(l,0,[])]
noncomputable def lA(H:I AN)(l:I J)(d:aS):I AN:=H.map λa=>if a.1=l then(a.1,a.2.1+d,a.2.2)else a
noncomputable def i5(H:I AN)(l s:I J):I AN:=H.map λa=>if a.1=l then(a.1,a.2.1,a.2.2++[s])else a
def jL(H:I AN)(y:I J)(a:I (I J)):I AN:=a.foldl (λH p=>i5 (e_ H p) p y) (lA (e_ H y) y a.length)
noncomputable def SG.al(G:SG):I AN:=G.bS.map λQ=>(Q.key,Q.np,Q.succ)
def SG.kn(G:SG):Prop:=(G.bS.map (·.key)).Nodup
theorem SG.abs_eq(G:SG):G.abs=.bN G.self G.al (G.cW.map λE=>G.rl) G.po G.fi:=C
theorem F_(h:((c_ G).map (·.1)).Nodup):G.kn:=by
 have e:(c_ G).map (·.1)=(G.bS.map (·.key)).map cj:=by simp [c_]
 simp only [e]at h;exact List.Pairwise.of_map cj (λa b R q=>R (aA _ q)) h
section
variable{G:SG}
theorem M8{L g:Nd->AN}{bS:I Nd}(B:(bS.map (·.key)).Nodup)(O:bS[t]?=D Q)(a:Nd)(w:L a=y (L Q))(v:∀u∈bS,u.key≠Q.key->y (L u)=L u):(bS.set t a).map L=(bS.map L).map y:=by
 refine d5 (qA O) λh X e R=>?_;rw [R];rw [e]at B;simp only [eW,iN]at B;refine gv (gk.mp B) λE F m=>?_;have p:∀u∈h,u.key≠Q.key:=λu z q=>m u.key (fM z) Q.key (.head _) q;have T:∀u∈X,u.key≠Q.key:=λu z q=>(gM.mp F).1 (q▸(fM z));have x:(h.map L).map y=h.map L:=by
  apply ae (dH);exact kr λu z=>v u (by rw [e];exact gj _ ‹_›) (p u z)
 have i:(X.map L).map y=X.map L:=by
  apply ae (dH);exact kr λu z=>v u (by rw [e];simp [z]) (T u z)
 rw [e];simp only [eW,iN];simp only [x,i,w]
theorem TN(B:G.kn)(O:G.bS[t]?=D Q):(G.np t Q (Q.np+d)).al=lA G.al Q.key d:=
 M8 (g:=λu=>(u.key,u.np,u.succ)) B O _ (by simp) λu E q=>aJ ‹_›
theorem TM(B:G.kn)(O:G.bS[t]?=D Q):(G.ap t Q s).al=i5 G.al Q.key s:=
 M8 (g:=λu=>(u.key,u.np,u.succ)) B O _ (by simp) λu E q=>aJ ‹_›
theorem p9.al(h:p9 G l o t Q):o.al=e_ G.al l:=by
 delta e_
 rcases h.how with⟨rfl,u,z,e⟩|⟨z,x,id,R,rfl,_⟩
 .rw [aL];exact mH.mpr (aR _ (fM z) (cL e))
 .rw [aJ]
  .simp [SG.al,SG.add,jD]
  .intro q;refine ai (mH.mp q) λi a e=>ai (dZ.mp a) λu X d=>?_;subst d;exact z u X (by simpa using e)
theorem p9.kn(h:p9 G l o t Q)(B:G.kn):o.kn:=by
 rcases h.how with⟨rfl,_⟩|⟨z,i,id,R,rfl,_⟩
 .exact B
 .delta SG.kn SG.add at*
  rw [eW,gk];refine(dI B (by simp) (λa u b f q=>(ai (dZ.mp u) λe X d=>?_)));subst d;rw [iN,R6,cO,jD]at f;exact z e X (ae q f)
theorem p9.same(h:p9 G l o t Q):o.self=G.self/\o.cW=G.cW/\o.rl=G.rl/\o.po=G.po/\o.fi=G.fi:=by
 rcases h.how with⟨rfl,_⟩|⟨z,i,id,R,rfl,_⟩<;>exact(lj C C C C C)
theorem MZ(H:I AN)(l:I J):U (e_ H l)<=U H+1:=by delta e_;split<;>simp
theorem ZG(H:I AN)(l:I J)(d:aS):U (lA H l d)=U H:=dg _
theorem ZH(H:I AN)(l s:I J):U (i5 H l s)=U H:=dg _
end
section
variable{c:Cx Ob}{al:I AN}
theorem h8(a:AV q):Wk X a a:=λE E E E E h=>h
theorem pN(t:T):Wk X (.t t) (.un):=λF g h Q R B=>B.1
theorem C7(p:bK c.B c.Z c.w O)(G:SG):Wk c.B (.obj (.bY 0 G)) (.obj G.abs):=by
 rintro F g h Q R⟨v,e,d⟩;rw [p.ob]at d;exact⟨v,e,(p.ob.symm▸(((aR G C (d)):∃o,o.abs=.bN G.self G.al (G.cW.map λE=>G.rl) G.po G.fi/\eu c.Z c.w O 0 o v h R)))⟩
theorem PE(p:bK c.B c.Z c.w b)(S:SR c.B c.ρ hB g c.V n o y h)(j:n[i]?=D s)(X:y[i]?=D (.obj (.bN E al O e B))):
  ∃G,G.abs=.bN E al O e B/\G.kn/\SR c.B c.ρ hB g c.V n o (y.set i (.obj (.bY 0 G))) h:=by
 obtain⟨w,m,r,S⟩:=S;obtain⟨Q,u,v,rfl,x⟩:=S.vars i s _ j X;rw [p.ob]at x;obtain⟨G,l,a⟩:∃G:SG,G.abs=.bN E al O e B/\eu c.Z c.w b 0 G v h _:=x;refine⟨G,l,F_ a.nd,w,m,r,{S with len:=by simp [S.len],vars:=λt H k L d=>?_}⟩
 by_cases q:t=i
 .subst q;rw [j]at L;obtain rfl:=bj L;rw [jw (by exact(S.len)▸((cG.mp j).1))]at d;obtain rfl:=bj d;exact⟨_,u,v,C,p.ob.symm▸a⟩
 .rw [lN (iF q)]at d;exact S.vars t H k L d
theorem QE(p:bK c.B c.Z c.w b)(i:J){st:I cz}(j:n[i]?=D x)(X:y[i]?=D (.obj (.bN E al O q B)))(h:∀G:SG,G.abs=.bN E al O q B->G.kn->EX c n k (y.set i (.obj (.bY 0 G))) st P A):EX c n k y st P A:=
 ⟨λT g s Q H a S d=>dF (PE p S j X) λG e m S=>(h G e m).1 T g s Q H a S d⟩
theorem eV(h:Wk X a a')(r:qa X l H):qa X (a::l) (a'::H):=by
 refine⟨by simp [r.1],λt x e j L=>?_⟩;cases t with
 |zero=>obtain rfl:=bj j;exact bj L▸h
 |succ t=>exact r.2 t x e j L
theorem rB(l:I _):qa X l l:=⟨C,λt x H j L=>by rw [j]at L;exact bj L▸(h8 _)⟩
theorem EX.wk{st:I cz}(h:EX c n k y st P e)(q:qa c.B P X):EX c n k y st X e:=⟨λT g s Q H a S d=>h.1 T g s Q H a S λt j v i x A=>d t j v i x (A.wk q)⟩
end
section
set_option tactic.hygienic true
theorem aby{X:bD q}(d:Den F g E (.tup l))(B:ej (U l)=Y):PO X (aI m w) L F (call (.builtin "len") [E]) g (.int (U l)):=by
 refine cps λx f=>?_;obtain⟨a,z,u,S,b,rfl⟩:=d.inv;apply f;refine PO.give λs Q H r R=>PyProof.Rows.len_tuple (yN r.bJ S) ?_ ?_
 .have:=zB B;simpa [b.length]using this
 .have e:z.toArray.size=U l:=by simp [b.length]
  exact e.symm▸(R _ _ (.int _ _))
theorem QX(F:Fm c.V n k G)(t:J)(O:G[t]?=D (("len":af),.globalImplicit))(h:EE c n k y e P (.tup l))(B:ej (U l)=Y)(L:dO e=Y):EE c n k y (.Call (.Name "len" p) [e] [] u) P (.int (U l)):=
 rF F t 0 O C (zr h cT L) (by simp [L]) λg z d=>by refine ai d.jc λv j q=>?_;subst j;exact aby q B
theorem Uj{i:bD Ob}{m:cy}{w:bX}(X:ej p.length=Y)(h:∀y v rest,bindArgs S ⟨y::v::rest,[]⟩=newTuple rest>>=λA=>pure (e0 n [y,v,A])):Binds i m w S n (a::p) [a,.tup p]:=by
 intro L F y z g s Q l B O b R;obtain⟨v,z,rfl,d,b⟩:=b.jA (P:=λj=>∃v G,j=v::G/\Den _ _ v _/\bu _ _ G _) λv G x H=>⟨v,G,C,x,H⟩;rw [h];refine aG (S2 ?_ (by exact(b.length)▸(kN X)));have f:=cg.push O (s_ z 0) s.toks C;exact bM (R _ _ [v,.ref s.heap.objs.size] f (.cons (d.mono f.le) (.one (.tup (aL C) (b.mono f.le)))) λk o e=>eG _ e)
variable{y:Ly Ob}{f eT:aq}{al:I AN}
theorem CH{l H:I AN}(e:wQ m w O (.bN E l r a b) u h R)(v:wQ m w O (.bN E H s a' z) g i c):g=u:=by
 obtain⟨G,x,k⟩:∃G:SG,G.abs=.bN E l r a b/\eu m w O 0 G u h R:=e;obtain⟨n,j,o⟩:∃G:SG,G.abs=.bN E H s a' z/\eu m w O 0 G g i c:=v;simp only [k.v,o.v,(by injection x:G.self=E),(by injection j:n.self=E)]
noncomputable def Gz:I (af×fc):=[("self",.local),("node",.local),("predecessors",.local),("nodeinfo",.local),("pred",.local),("pred_info",.local),("ValueError",.globalImplicit),("len",.globalImplicit)]
noncomputable def om:I af:=["self","node","predecessors","nodeinfo","pred","pred_info"]
def qd(i:J)(b:I cz):bg cz:=fV i b
theorem Gw(h:a∈e_ H l):a∈H\/a=(l,0,[]):=by
 delta e_ at h
 split at h
 .exact .inl h
 .rcases fE.mp h with h|h
  .exact .inl h
  .exact .inr (cO.mp h)
theorem Z9(h:a∈i5 H l s):∃b∈H,U a.2.2<=U b.2.2+1:=by
 refine ai (dZ.mp h) λb f d=>?_;subst d;refine⟨b,f,?_⟩
 split<;>simp
theorem Z6(h:a∈lA H l e):∃b∈H,U a.2.2=U b.2.2:=by
 refine ai (dZ.mp h) λb f d=>?_;subst d;refine⟨b,f,?_⟩
 split<;>rfl
theorem TJ(h:bK c.B c.Z c.w O)(F:Fm c.V om (U om) Gz)(aH:(("_get_nodeinfo":af),eT)∈O.fs)(aF:∀{l},bF c.B.h₀ l->l.get? eT=D aK)(aN:aK.data=.func bE)
  (au:∀(G:SG)(n:I J),U G.bS<=1000->e8 c.B c.Z c.w c.n (.ref eT) (.bY 0 G) [.str n] λX r=>∃o t Q,p9 G n o t Q/\o.self=G.self/\X=.bY 0 o/\r=.bV (.ref Q.i))
  (y p:I J)(H:I AN)(w:U H<=950)(ak:∀a∈H,U a.2.2<=950):
  EX c om (U om) [.obj (.bN E H aa i B),.t (.str y),.t b,s,.t (.str p),.un] (iw (qd 3 (dD (fL 19 2)))) [.obj (.bN E (i5 (e_ H p) p y) aa i B),.t (.str y),.t b,s,.un,.un] .next:=by
 refine QE h 0 C C λG aY aP=>?_;refine cps λbC bf=>?_;obtain⟨m,k,g,S,T⟩:G.self=E/\G.al=H/\G.cW=aa/\G.po=i/\G.fi=B:=by
  injection aY with a ah aj e f
  exact⟨a,ah,by simpa using aj,e,f⟩
 apply bf;refine XP.ex (Φ:=λx A=>∃o,o.abs=.bN E (i5 (e_ H p) p y) aa i B/\(∃a,x=[.obj (.bY 0 o),.t (.str y),.t b,s,.t (.str p),.t (.bV a)])/\A=.next) ?_ λx bl P=>?_
 .refine Dh (Q3 h F 0 5 C C aH (nofun) aF aN (zr (zv F 4 C C) cT C) C (au G p (d_ 0 (.v 1) (.n 1000) (.v 0) (.n 950) (.v 1) (.v 0) C [_,_] w ((iX (by rw [<-k];simp [SG.al]:U G.bS=U H))))) C (ez C) C C (ez C) C) λbh A P=>e5 P λX r d u aM=>mX d λo t Q z bz ao aC=>?_;subst ao aC u aM;refine .inl ⟨C,(d5 (aa3 c.Z c.w O (l:=y) z.at_) λP bx aE aT=>?_)⟩;have j:=z.al;have L:=z.same;have a_:U Q.succ<=1000:=by
   have R:(Q.key,Q.np,Q.succ)∈o.al:=dZ.mpr ⟨Q,cN z.at_,C⟩;simp only [j,k]at R;rcases Gw R with q|q
   .have:=ak _ q;exact aD this (az C)
   .injection q with _ q;injection q with _ q;exact(q)▸(gF _)
  refine qF (Q0 h 0 C (vn h (CK h (i:=0) C C (gF _) (cN z.at_)) (zv F 5 C C) .su C) C (zv F 1 C C) C aE aT ⟨C,C,MM z.at_⟩ a_ C C C) (Rl ⟨o.ap t Q y,?_,⟨_,C⟩,C⟩);simp only [SG.abs_eq,TM (z.kn aP) z.at_,j,k,z.key];show Ob.bN o.self _ (o.cW.map λ_=>o.rl) o.po o.fi=_;simp only [L.1,L.2.1,L.2.2.2.1,L.2.2.2.2,m,g,S,T];rfl
 .refine dF P λo e d u=>bH d λa v=>?_;subst v u;refine⟨?_,C⟩;have:=C7 h o;rw [e]at this;exact eV this (eV (h8 _) (eV (h8 _) (eV (h8 _) (eV (pN _) (eV (pN _) (rB _))))))
theorem EX.pre{y lv' P:I (AV Ob)}{st:I cz}(h:EX c n k lv' st P A)(q:qa c.B y lv'):EX c n k y st P A:=⟨λT g s Q H a S d=>h.1 T g s Q H a (S.wk q) d⟩
theorem ZI(H:I AN)(p s:I J):U (i5 (e_ H p) p s)<=U H+1:=by rw [ZH];exact MZ H p
theorem adu{m:J}(h:∀a∈H,U a.2.2<=m):∀a∈i5 (e_ H p) p s,U a.2.2<=m+1:=λa u=>by
 refine ai (Z9 u) λb f q=>?_;rcases Gw f with f|rfl
 .have:=h b f;exact d_ 0 (.v 0) (.a (.v 2) (.n 1)) (.v 0) (.a (.v 1) (.n 1)) (.v 1) (.v 2) C [_,_,_] q this
 .exact cS 0 (.v 0) (.a (.v 1) (.n 1)) (.v 0) (.n 1) C [_,_] q
theorem TF(e:bK c.B c.Z c.w O)(F:Fm c.V om (U om) Gz)(g:(("_get_nodeinfo":af),eT)∈O.fs)(j:∀{h},bF c.B.h₀ h->h.get? eT=D i)(b:i.data=.func z)
  (x:∀(G:SG)(l:I J),U G.bS<=1000->e8 c.B c.Z c.w c.n (.ref eT) (.bY 0 G) [.str l] λX r=>∃o t Q,p9 G l o t Q/\o.self=G.self/\X=.bY 0 o/\r=.bV (.ref Q.i))
  (y:I J):∀(S:I _)(H:I AN)(m:J),U H+U S<=950->(∀a∈H,U a.2.2<=m)->m+U S<=950->
   jH c om (U om) (oZ (qd 3 (dD (fL 19 2)))) (iw (qd 3 (dD (fL 19 2)))) (S.map .str) [.obj (.bN s H aa q B),.t (.str y),.t k,A,.un,.un] [.obj (.bN s (S.foldl (λH p=>i5 (e_ H p) p y) H) aa q B),.t (.str y),.t k,A,.un,.un] .next:=λT=>T.rec
 (λH m E E E=>my)
 (λp S n H m w v R=>by
  simp only [gB]at w R
  exact ki (iD F 4 C (fO _ _)) (TJ e F g j b x y p H (cS 0 (.v 0) (.n 950) (.a (.v 0) (.a (.v 1) (.n 1))) (.n 950) C [_,_] w) λa u=>by have:=v a u;exact d_ 0 (.v 2) (.n 950) (.a (.v 1) (.a (.v 0) (.n 1))) (.n 950) (.v 2) (.v 1) C [_,_,_] R this) (n _ _ (d_ 0 (.a (.v 2) (.v 1)) (.n 950) (.a (.v 0) (.a (.v 1) (.n 1))) (.n 950) (.v 2) (.a (.v 0) (.n 1)) C [_,_,_] w (ZI H p y)) (adu v) (cS 0 (.a (.a (.v 0) (.n 1)) (.v 1)) (.n 950) (.a (.v 0) (.a (.v 1) (.n 1))) (.n 950) C [_,_] R)))
theorem w_add(ah:bK y.B y.Z y.w O)(k:iG y.B f 19 2 cM S om)(p:iG y.B eT 19 1 bh a_ rC)(T:iG y.B O.ni 17 1 cB b_ vh)(aP:y.mg "_NodeInfo"=D (.ref O.N))(aj:(("_get_nodeinfo":af),eT)∈O.fs)
  (e:I J)(h:I _)(m:U al+U h<=900)(aF:∀a∈al,U a.2.2+U h<=900):
  e8 y.B y.Z y.w (n+4) (.ref f) (.bN E al aa x B) (.str e::h.map .str) λX r=>X=.bN E (jL al e h) aa x B/\r=.none:=by
 refine sA y.G k.d (ez C) (Uj (eU (by simp;exact cS 0 (.v 1) (.n 1000000) (.a (.v 0) (.v 1)) (.n 900) C [_,_] m)) λck v rest=>?_) (λP R ao=>?_) λ{aC}i aE bI bQ bZ=>?_
 .apply ae (qQ k.ar k.df _);cases rest<;>rfl
 .refine bT P λs cF=>?_;subst s;rw [ah.ob]at R ao;exact CH R ao
 .have F:Fm (di S aE f) om (U om) Gz:=jP (C) (by show S.scope.names=_;exact aA _ k.sc)
  let c:=(y.up aC i).c bI bQ (di S aE f) (n+3) bZ
  have q:bK c.B c.Z c.w O:=ah.up i;have b:iG (y.up aC i).B eT 19 1 bh a_ rC:=⟨p.d.up i,p.ar,p.sc,p.df,p.kd⟩;refine XP.ev (c:=c) (XP.mono (Φ:=λg A=>g=[.obj (.bN E (jL al e h) aa x B),.t (.str e),.t (.tup (h.map .str)),.un,.un,.un]/\A=.next) ?_ λg A P=>by refine bT P λs bl=>?_;subst s bl;exact⟨_,_,C,.inr ⟨C,C⟩,C,C⟩);refine EX.xp (QE q 0 C C λG aH aK=>?_) ⟨C,C⟩;obtain⟨aN,ak,H,aT,aY⟩:G.self=E/\G.al=al/\G.cW=aa/\G.po=x/\G.fi=B:=by
   injection aH with a u bf l f
   exact⟨a,u,by simpa using bf,l,f⟩
  refine XP.ex (qF (dP (b:=ay) (zC (kj q (kc q (i:=0) C C) (jG q F 0 C C) (.O0 H) C) zn C C) ⟨i_⟩) ?_) λg cJ P=>P;have au:∀(G:SG)(j:I J),U G.bS<=1000->e8 c.B c.Z c.w c.n (.ref eT) (.bY 0 G) [.str j] λX r=>∃o t Q,p9 G j o t Q/\o.self=G.self/\X=.bY 0 o/\r=.bV (.ref Q.i):=
   λG j bx=>aee q b (⟨T.d.up i,T.ar,T.sc,T.df,T.kd⟩) aP bx
  refine Dh (Q3 q F 0 3 C C aj (nofun) b.d.ho b.d.hd (zr (zv F 1 C C) cT C) C (au G e (d_ 0 (.v 2) (.n 1000) (.a (.v 0) (.v 1)) (.n 900) (.v 2) (.v 0) C [_,_,_] m ((iX (by rw [<-ak];simp [SG.al]:U G.bS=U al))))) C (ez C) C C (ez C) C) λcC A P=>e5 P λX r aM bC bE=>mX aM λo t Q z cu bz bR=>?_;subst bz bR bC bE;refine .inl ⟨C,?_⟩;have L:=z.same;refine qF (Q6 (n:=Q.np+U h) q 0 C (zv F 3 C C) C (gF _) z.at_ (QX F 7 C (zv F 2 C C) (eU (by simp;exact cS 0 (.v 1) (.n 1000000) (.a (.v 0) (.v 1)) (.n 900) C [_,_] m)) C) C (by rw [dg];rfl)) (EX.xp (fl:=.next) (EX.pre (lv':=[.obj (.bN E (lA (e_ al e) e (U h)) aa x B),.t (.str e),.t (.tup (h.map .str)),.t (.bV (.ref Q.i)),.un,.un]) (zx (kP (H7 (zv F 2 C C)) (TF q F aj b.d.ho b.d.hd au e h (lA (e_ al e) e (U h)) (900-U h) ?_ ?_ (aD ((lz (cS 0 (.v 1) (.n 900) (.a (.v 0) (.v 1)) (.n 900) C [_,_] m))) (az C))) C C) ⟨i_⟩) ?_) ⟨?_,C⟩)
  .rw [ZG];have:=MZ al e;exact d_ 0 (.a (.v 2) (.v 1)) (.n 950) (.a (.v 0) (.v 1)) (.n 900) (.v 2) (.a (.v 0) (.n 1)) C [_,_,_] m this
  .intro a bW;refine ai (Z6 bW) λu d w=>?_;rcases Gw d with d|rfl
   .have:=aF u d;exact jS 0 (.v 0) (.v 3) (.v 0) (.v 1) (.a (.v 1) (.v 2)) (.n 900) (.n 900) (.a (.v 3) (.v 2)) C [_,_,_,_] ((iX w)) this m9
   .exact cS 0 (.v 0) (.v 1) (.v 0) (.n 0) C [_,_] ((iX (w)))
  .have l:(o.np t Q (Q.np+U h)).abs=.bN E (lA (e_ al e) e (U h)) aa x B:=by
    simp only [SG.abs_eq,TN (z.kn aK) z.at_,z.al,ak,z.key];show Ob.bN o.self _ (o.cW.map λ_=>o.rl) o.po o.fi=_;simp only [L.1,L.2.1,L.2.2.2.1,L.2.2.2.2,aN,H,aT,aY];rfl
   have:=C7 q (o.np t Q (Q.np+U h));simp only [l]at this;exact eV this (rB _)
  .exact eV (h8 _) (eV (h8 _) (eV (h8 _) (eV (pN _) (rB _))))
end
noncomputable def SG.iZ(G:SG)(p:I J)(v:aS):SG:={G with bS:=G.bS.map λQ=>if Q.key=p then{Q with np:=v}else Q}
noncomputable def pC(H:I AN)(l:I J)(v:aS):I AN:=H.map λa=>if a.1=l then(a.1,v,a.2.2)else a
section
variable{i:J}{G:SG}
theorem ND(B:G.kn)(O:G.bS[t]?=D Q):G.np t Q v=G.iZ Q.key v:=by
 delta SG.np SG.iZ
 refine d5 (qA O) λL X e R=>?_;rw [R]
 delta SG.kn at B
 rw [e]at B⊢;simp only [eW,iN]at B⊢;refine gv (gk.mp B) λE F m=>?_;have p:L.map (λh=>if h.key=Q.key then{h with np:=v}else h)=L:=by
  conv=>rhs;rw [<-z7 L]
  exact kr λu z=>by apply ae (aJ (m u.key (fM z) Q.key (.head _)));rfl
 have T:X.map (λh=>if h.key=Q.key then{h with np:=v}else h)=X:=by
  conv=>rhs;rw [<-z7 X]
  exact kr λu z=>by apply ae (aJ λq=>(gM.mp F).1 (by rw [<-q];exact fM z));rfl
 simp only [p,T,aL dj]
theorem Ga{p:I J}(B:G.kn):(G.iZ p v).kn:=by
 delta SG.kn SG.iZ at*
 simp only [dH];have:((λx=>x.key)∘λQ:Nd=>if Q.key=p then{Q with np:=v}else Q)=λQ=>Q.key:=by funext Q;simp only [zY];split<;>rfl
 exact this.symm▸B
theorem MB{p:I J}(h:∃Q∈G.bS,Q.key=r):∃Q∈(G.iZ p v).bS,Q.key=r:=by
 refine ai h λQ z e=>(aR _ (dZ.mpr (aR Q z C)) ?_)
 split<;>exact e
theorem JL{p:I J}:(G.iZ p v).al=pC G.al p v:=by
 delta SG.al SG.iZ pC
 apply ae (dH);simp only [dH];refine kr λQ E=>?_;simp only [zY]
 split<;>rfl
theorem Dd{c:Cx q}{k:J}{y:I _}(F:Fm c.V n k ns)(t:J)(O:ns[t]?=D (x,.globalImplicit))(d:c.mg x=D v)(P:∀h g,Den h g v z):EE c n k y (.Name x p) y z:=
 ⟨λT g s Q H S R=>nZ c.G S.1 S.ready.base (F.kn t O nofun) d (F.kg t O) (R s g v (bP.refl s) (Le.refl _) S (P _ _))⟩
def tZ(c:Cx Ob)(n:I af)(k:J)(y:I (AV Ob))(a:aq)(s:I (I J)):Prop:=sq c n k y λh=>∃o,h.get? a=D o/\fQ s o
theorem Pd(p:bK c.B c.Z c.w O)(j:n[i]?=D x)(X:y[i]?=D (.obj (.bY q G)))(s:G.cW=D a):tZ c n k y a G.rl:=λT g m r h S=>
 (i0 p S j X).2.ob.dY (a,fQ G.rl) (m_ (by simp [fX,s]))
theorem ae8(F:Fm c.V n k w)(t:J)(O:w[t]?=D (("tuple":af),.globalImplicit))(T:EE c n k y e P (.bV (.ref aP)))(o:tZ c n k P aP s)(m:U s<=1000)(L:dO e=Y):
  EE c n k y (.Call (.Name "tuple" p) [e] [] aT) P (.tup (s.map .str)):=by
 constructor;intro bx bC aY bh bl S j;have Q:∀R∈[e],∀x p,R≠.Starred x p:=λR q=>by exact(cO.mp q)▸(g_ L)
 refine bT (c.bi 13 "tuple" _ C) λg u=>kD (nY c.G S.1 S.ready.base (F.kn t O nofun) g u (F.kg t O) (I6 (kL [e] Q) (jM Q (qT T.1 lX (g_ L)) S λd r z H E A b=>?_)));obtain⟨v,z,rfl,ah,b⟩:=b.jA (P:=λaj=>∃v G,aj=v::G/\Den _ _ v _/\bu _ _ G _) λv G x ak=>⟨v,G,C,x,ak⟩;obtain rfl:=b.ja C;obtain rfl:=ah.inv;refine cps λbz ao=>?_;obtain⟨au,aC,X,l⟩:=A;refine ai (o _ _ _ _ _ l) λbf aF aH=>?_;obtain⟨z,aK,rfl,h⟩:=aH;refine ao (call_tuple_list (i12 _ aF C ⟨aK,C⟩) (λa_ aE=>?_) (by simp only [qH,((h.qh (ρ:=c.ρ) (fz:=r)).length)];simp;exact aD m (az C)));have f:=cg.keeps (t:=d.toks) l.ready aE;have a:=l.step f;exact(a.ready).tup (h.qh) λaN aM v i B=>j aN aM v (H.trans (f.same.trans i.same)) (E.trans i.le) ⟨au,aC,X,a.step i⟩ B
theorem ae6(p:bK c.B c.Z c.w O)(i:J)(j:n[i]?=D bh)(H:EE c n ak au o P (.bV (.ref a)))(d:P[i]?=D (.obj (.bY q G)))
  (t:objs c.Z c.w O q G=m++(a,fQ ls)::z)(A:objs c.Z c.w O q G'=m++(a,fQ [])::z)(l:G'.self=G.self/\G'.aZ=G.aZ/\c_ G'=c_ G)(aC:U ls<=1000)
  (aN:attributeBase o "clear" c.V (eval o c.V)=eval o c.V)(aK:(aP.endLine==u.line)=Y):
  ES c n ak au (.Expr (.Call (.Attribute o "clear" aP) [] [] u) bI) (P.set i (.obj (.bY q G'))) .next:=by
 constructor;intro T g r aY a_ bz S R;refine tT (lP aN (oA _) aK RC F.slot_list_clear F.type_list_clear (H.1 T g r _ _ S λx b bE X L Q ah=>?_)) (by delta interactive;exact S.1.kind.symm▸C) C;refine cps λaj f=>?_;obtain rfl:=ah.inv;obtain⟨w,y,bf,v⟩:=Q;refine bT (i0 p v j d) λbx h=>ai (h.ob.dY (a,fQ ls) (by rw [t];simp)) λbC e aE=>?_;obtain⟨aF,aH,rfl,ao⟩:=aE;apply f;have dl:=(ao.qh (ρ:=c.ρ) (fz:=b)).length;refine(dI (aR _ e C) (λbl aM=>by obtain rfl:=ku aM;exact(aR _ e C)) (PySem.P.clear_list e ?_ (by simp only [qH,dl];simp;exact aD aC (az C))));have s:∃k,(x.heap.update a (nJ λE=>#[])).get? a=D (lo [] k):=by
  obtain⟨k,aT⟩:∃k,nJ (λE=>#[]) (lo aF aH)=lo [] k:=⟨_,C⟩;exact⟨k,by refine ae (pR _ e (C)) ?_;rw [aT]⟩
 refine cps λaj f=>?_;refine bH s λk s=>?_;have B:gW a x.heap (x.heap.update a (nJ λE=>#[])):=oG ..;apply f;refine R _ b .next (X.trans (cH _ _ C)) L ⟨w,y,_,CS p v j d ?_ B l.1 ⟨C,by exact(l.2.1)▸(h.sm),by exact(l.2.2)▸(h.nd),h.ob.upd t A B s (gg _ _ C (.nil))⟩⟩ dj
 simp only [h.ob.ad,t];simp
end
section
variable{y:Ly Ob}{f:aq}{al:I AN}
theorem OA(m:cy)(w:bX)(O:Cl)(q:J)(s:G.cW=D a)(h:I _):∃P i,objs m w O q G=P++(a,fQ G.rl)::i/\objs m w O q {G with rl:=h}=P++(a,fQ h)::i:=by
 obtain⟨t,d,k,b,rl,e,B,bS⟩:=G;subst s
 match q with
 |0=>exact(gg ([(t,λo=>o=instObj O.bq d),(d,iK _)]) _ (C) C)
 |1=>exact(gg ([(t,λo=>o=instObj O.bq d),(d,iK _)]) _ C C)
 |x+2=>exact(gg ([(t,λo=>o=instObj O.bq d),(d,iK ⟨t,d,k,D a,rl,e,B,bS⟩)]) ([]) C C)
theorem OT(p:bK c.B c.Z c.w x)(i:J){st:I cz}(j:n[i]?=D l)(X:lv[i]?=D (.obj (.bN E al O q B)))(h:∀G:SG,G.abs=.bN E al O q B->G.kn->XP c n k (lv.set i (.obj (.bY 0 G))) st b):XP c n k lv st b:=
 ⟨λT g s Q H a S d=>dF (PE p S j X) λG e m S=>(h G e m).1 T g s Q H a S d⟩
noncomputable def Np:I (af×fc):=[("self",.local),("result",.local),("n2i",.local),("node",.local),("ValueError",.globalImplicit),("tuple",.globalImplicit),("_NODE_OUT",.globalImplicit),("len",.globalImplicit)]
noncomputable def tu:I af:=["self","result","n2i","node"]
def jU(G:SG)(S:I (I J)):SG:=S.foldl (λG p=>G.iZ p (-1)) G
def iz(H:I AN)(S:I (I J)):I AN:=S.foldl (λH p=>pC H p (-1)) H
theorem TR:∀(S:I _)(G:SG),(jU G S).al=iz G.al S:=λT=>T.rec
 (λE=>C)
 (λp S n G=>by show(jU (G.iZ p (-1)) S).al=iz (pC G.al p (-1)) S;rw [n,JL])
theorem acE:∀(S:I _)(G:SG),(jU G S).self=G.self/\(jU G S).aZ=G.aZ/\(jU G S).cW=G.cW/\(jU G S).rl=G.rl/\(jU G S).po=G.po/\(jU G S).fi=G.fi:=λT=>T.rec
 (λE=>(yL C C C C C C))
 (λp S n G=>n (G.iZ p (-1)))
theorem abk(h:bK c.B c.Z c.w e)(F:Fm c.V tu (U tu) Np)(g:c.mg "_NODE_OUT"=D (.int (-1) v)):∀(S:I _)(G:SG),G.kn->(∀p∈S,∃Q∈G.bS,Q.key=p)->
  jH c tu (U tu) (oZ (qd 3 (dD (fL 19 4)))) (iw (qd 3 (dD (fL 19 4)))) (S.map .str) [.obj (.bY 0 G),.t i,.t (.bV (.ref G.aZ)),.un] [.obj (.bY 0 (jU G S)),.t i,.t (.bV (.ref G.aZ)),.un] .next:=λT=>T.rec
 (λG E E=>my)
 (λp S n G m t=>by
  refine ai (t _ gC) λQ z d=>?_;subst d;refine bH (pS z) λa O=>ki (dc:=[.obj (.bY 0 (G.iZ Q.key (-1))),.t i,.t (.bV (.ref G.aZ)),.un]) (iD F 3 C (fG _)) ?_ ?_
  .exact EX.wk (zx (Q9 h 0 C (Dd F 6 C g λE E=>.int _ _) (HX (Pc h (i:=0) C C) (zv F 2 C C) (zv F 3 C C) O C) C (gF _) O C) ⟨i_⟩) ((ND m O).symm▸(eV (h8 _) (eV (h8 _) (eV (h8 _) (eV (pN _) (rB _))))))
  .exact n _ (Ga m) λp x=>MB (t p (fF _ x)))
theorem aef(i:bK y.B y.Z y.w O)(k:iG y.B f 19 4 bE S tu)(a_:y.mg "_NODE_OUT"=D (.int (-1) bx))(m:U rl<=900)(z:∀p∈rl,∃a∈al,a.1=p):
  e8 y.B y.Z y.w (bh+1) (.ref f) (.bN E al (D rl) po B) [] λX ah=>X=.bN E (iz al rl) (D []) (po+U rl) B/\ah=.tup (rl.map .str):=by
 refine sA y.G k.d (ez C) (.plain λaC aK=>?_) (λP w u=>?_) λ{au}g H L aM aE=>?_
 .exact bind1 (λa=>ae (qQ k.ar k.df _) C) aC aK
 .refine bT P λn aT=>?_;subst n;rw [i.ob]at w u;exact CH w u
 .have F:Fm (di S H f) tu (U tu) Np:=jP (C) (by show S.scope.names=_;exact aA _ k.sc)
  let c:=(y.up au g).c L aM (di S H f) bh aE
  have q:bK c.B c.Z c.w O:=i.up g;refine XP.ev (c:=c) (XP.mono (Φ:=λx A=>(∃b,x=[.obj (.bN E (iz al rl) (D []) (po+U rl) B),.t (.tup (rl.map .str)),.t (.bV b),.un])/\A=.ret (.tup (rl.map .str))) ?_ λx A P=>by refine bT P λn R=>?_;obtain⟨b,rfl⟩:=n;subst R;exact(l6 _ _ C (.inl C) C C));refine OT q 0 C C λG aj ak=>?_;obtain⟨a,ao,s,h,l,aF,r⟩:∃a,G.self=E/\G.al=al/\G.cW=D a/\G.rl=rl/\G.po=po/\G.fi=B:=by
   injection aj with a b d e f
   cases j:G.cW with
   |none=>rw [j]at d;exact aV C d
   |some aN=>rw [j]at d;exact(FE aN a b C (bj d) e f)
  have aP:∀p∈G.rl,∃Q∈G.bS,Q.key=p:=λp v=>by
   rw [l]at v;refine ai (z p v) λbz t e=>?_;rw [<-s]at t;refine ai (dZ.mp t) λQ bf aY=>?_;subst aY;exact(aR Q bf e)
  subst l;have o:=acE G.rl G;refine d5 (OA c.Z c.w O 0 (by apply ae (o.2.2.1);rw [h]) []) λP bC bl aH=>qF (dP (zC (kj q (kc q (i:=0) C C) (jG q F 0 C C) (.u0 h) C) zn C C) ⟨i_⟩) (qF (eL F 1 C (ez C) (ae8 F 5 C (kj q (kc q (i:=0) C C) (jG q F 0 C C) (.u0 h) C) (Pd q (i:=0) C C h) (aD m (az C)) C) C) (qF (eL F 2 C (fO _ _) (kj q (kc q (i:=0) (q:=0) C C) (jG q F 0 C C) .uP C) C) (qF (kP (H7 (zv F 1 C C)) (abk q F a_ G.rl G ak aP) C C) (qF (ae6 (G:=jU G G.rl) (G':={jU G G.rl with rl:=[]}) (ls:=(jU G G.rl).rl) q 0 C (kj q (kc q (i:=0) (q:=0) C C) (jG q F 0 C C) (.u0 (a:=a) (by apply ae (o.2.2.1);rw [h])) C) C bl aH (dI C C C) (by exact o.2.2.2.1.symm▸(aD m (az C))) C C) (qF (Rh (τ:=.int (G.po+U G.rl)) q 0 C (jG q F 0 C C) C .po (QX F 7 C (zv F 1 C C) (eU (by simp;exact aD m (az C))) C) C (by rw [dg];show D (T.int ((jU G G.rl).po+_))=_;exact o.2.2.2.2.1.symm▸C) (.po _)) (XP.wk (EX.xp (Φ:=λx A=>x=[.obj (.bY 0 {jU G G.rl with rl:=[],po:=G.po+U G.rl}),.t (.tup (G.rl.map .str)),.t (.bV (.ref G.aZ)),.un]/\A=.ret (.tup (G.rl.map .str))) ⟨ur (je (zv F 1 C C)).1 (by exact nofun)⟩ ⟨C,C⟩) ?_))))));rintro x A⟨rfl,rfl⟩;refine(i12 _ (eV (C7 q _) (rB _)) ⟨.ref G.aZ,?_⟩ C);simp only [SG.abs_eq];show [AV.obj (Ob.bN (jU G G.rl).self (jU G G.rl).al ((jU G G.rl).cW.map λaT=>[]) _ (jU G G.rl).fi),_,_,_]=_;simp only [o.1,o.2.2.1,o.2.2.2.2.2,TR,ao,s,h,aF,r]
  rfl
end
theorem Z2(l:aq)(t:iR aB)(e:(t.size:aS)<2^63):
  Meets (Builtin.«bool.__new__» ⟨[.type "bool",.ref l],[]⟩) (λE i s=>s.heap.IsList l t/\i (.ok (.ret (.bool (!t.isEmpty)))) {s with toks:=s.toks+1+1}):=
 Meets.of_wp λm w L i s B=>by
  refine bT B λX B=>?_;have c:=F.conv_sub_bool
  repeat(any_goals(first|assumption|(with_reducible apply wpAny_truthy_list X e)|wp_step))
  all_goals first|exact(aR _ C B)|exact B|skip
theorem Ux(X:s.heap.IsList l t)(e:(t.size:aS)<2^63)(h:Q (.bool (!t.isEmpty)) {s with toks:=s.toks+1+1}):
  aQ (aI m w) L (call (.type "bool") [.ref l]) Q H s:=
 call_bool_1 (Z2 l t e) ((dI X C h))
theorem ae4(F:Fm c.V n k H)(t:J)(O:H[t]?=D (("bool":af),.globalImplicit))(j:EE c n k y e P (.bV (.ref X)))(B:tZ c n k P X s)(aK:U s<=1000)(L:dO e=Y):
  EE c n k y (.Call (.Name "bool" p) [e] [] aH) P (.bool (!s.isEmpty)):=by
 constructor;intro aP aT aE aF aY S q;have Q:∀R∈[e],∀x p,R≠.Starred x p:=λR g=>by exact(cO.mp g)▸(g_ L)
 refine bT (c.bi 14 "bool" _ C) λu r=>kD (nY c.G S.1 S.ready.base (F.kn t O nofun) u r (F.kg t O) (I6 (kL [e] Q) (jM Q (qT j.1 lX (g_ L)) S λh a z E o A b=>?_)));obtain⟨v,z,rfl,d,b⟩:=b.jA (P:=λf=>∃v G,f=v::G/\Den _ _ v _/\bu _ _ G _) λv G x T=>⟨v,G,C,x,T⟩;obtain rfl:=b.ja C;obtain rfl:=d.inv;refine cps λaN w=>?_;obtain⟨aj,ak,ah,l⟩:=A;refine ai (B _ _ _ _ _ l) λaM au ao=>?_;obtain⟨z,aC,rfl,i⟩:=ao;apply w;have dl:=(i.qh (ρ:=c.ρ) (fz:=a)).length;simp only [dg]at dl;apply Ux (i12 _ au C ⟨aC,C⟩) (by rw [qH,dl];omega);have e:(!z.toArray.isEmpty)=!s.isEmpty:=by
  cases z<;>cases s<;>first|rfl|exact nomatch i
 rw [e];have m:cg c.B a h a {h with toks:=h.toks+1+1}:=cg.tok l.ready _;exact q _ a _ (E.trans m.same) o ⟨aj,ak,ah,l⟩ (.bool _)
section
variable{y:Ly Ob}{f:aq}{al:I AN}
noncomputable def nia:I (af×fc):=[("self",.local),("ValueError",.globalImplicit),("bool",.globalImplicit)]
noncomputable def xr:I af:=["self"]
theorem aeg(p:bK y.B y.Z y.w O)(k:iG y.B f 19 5 aj S xr)(m:s.length<=900):
  e8 y.B y.Z y.w (u+1) (.ref f) (.bN E al (D s) po fi) [] λj ah=>j=.bN E al (D s) po fi/\ah=.bool (aO (fi<po)||!s.isEmpty):=by
 refine sA y.G k.d (ez C) (.plain λz X=>?_) (λP w v=>?_) λ{i}g H L r Q=>?_
 .exact bind1 (λa=>ae (qQ k.ar k.df _) C) z X
 .obtain⟨rfl,_⟩:=P;rw [p.ob]at w v;exact CH w v
 .have F:Fm (di S H f) xr (U xr) nia:=jP (C) (by exact aA _ k.sc)
  let c:=(y.up i g).c L r (di S H f) u Q
  have q:bK c.B c.Z c.w O:=p.up g;refine XP.ev (XP.mono (Φ:=λx A=>x=[.obj (.bN E al (D s) po fi)]/\A=.ret (.bool (aO (fi<po)||!s.isEmpty))) (OT q 0 C C λG l ao=>?_) λx A P=>by obtain⟨rfl,rfl⟩:=P;exact(l6 _ _ C (.inl C) C C));refine cps λak b=>?_;obtain⟨a,au,aC,e,o,R,n⟩:∃a,G.self=E/\G.al=al/\G.cW=D a/\G.rl=s/\G.po=po/\G.fi=fi:=by
   injection l with a t d B f
   cases h:G.cW with
   |none=>rw [h]at d;exact aV C d
   |some T=>rw [h]at d;exact(FE T a t C (bj d) B f)
  subst o;apply b;refine qF (dP (zC (kj q (kc q (i:=0) C C) (jG q F 0 C C) (.u0 e) C) zn C C) ⟨i_⟩) (XP.wk (EX.xp (Φ:=λx A=>x=[.obj (.bY 0 G)]/\A=.ret (.bool (aO (fi<po)||!G.rl.isEmpty))) ⟨ur (ES.ev (je ?_)) (nofun)⟩ ⟨C,C⟩) ?_)
  .have w:EE c xr (U xr) [.obj (.bY 0 G)] _ [.obj (.bY 0 G)] (.bool (aO (G.fi<G.po))):=xu (op:=.Lt) (p:=⟨181,15,181,49⟩) (kj (p:=⟨181,15,181,30⟩) q (kc q (i:=0) C C) (jG (p:=⟨181,15,181,19⟩) q F 0 C C) .fi C) (kj (p:=⟨181,33,181,49⟩) q (kc q (i:=0) (q:=0) C C) (jG (p:=⟨181,33,181,37⟩) q F 0 C C) .po C) C C
   by_cases h:fi<po
   .rw [cL h,Bool.true_or];rw [n,R,cL h]at w;exact afi w
   .rw [ef h,Rv];rw [n,R,ef h]at w;exact afh w (ae4 F 2 C (kj q (kc q (i:=0) (q:=0) C C) (jG q F 0 C C) (.u0 e) C) (Pd q (i:=0) C C e) (aD m (az C)) C)
  .rintro x A⟨rfl,rfl⟩;refine(i12 _ (eV (C7 q _) (rB _)) ?_ C);rw [l]
end
section
variable{c:Cx Ob}{j:J}{G:SG}
theorem aeU(l:EE c aK ao y e P (.bV (.ref a)))(u:c.B.h₀.get? a=D (lo z au))(F:iU z s):EI Y c aK ao y e P (s.map .str):=by
 constructor;intro L O x g r S p;refine l.1 L O x _ _ S λh n v ah aj E aH=>?_;obtain rfl:=aH.inv;have G:=E.ready.base _ _ u;have Q:h.heap.IsList a z.toArray:=(i12 _ G C ⟨au,C⟩);have j:bu c.ρ n z (s.map .str):=F.qh;have q:=j.length;apply Jf Q;have i:=cg.iH (E.ready) {cls:=.type "list_iterator",data:=.fields #[.ref a,.int 0 0]} h.toks;obtain⟨w,X,B,o⟩:=E;have m:=fk G;have H:=SU (prog:=c.Z) (w:=c.w) c.R.handled h.heap.objs.size a (fH m) z.toArray;simp only [show z.toArray.size=U (s.map T.str)from q]at H;refine p _ n _ _ _ _ _ X B (ah.trans i.same) aj w (o.step i) H (λt v d=>?_) ⟨(i12 _ (eS _ C) C C),Q.at λak e=>eG _ e⟩ (λb f=>?_) (λb f=>?_) (λb f=>?_) (λt l st b f=>by rw [cO.mp f];refine bT st λaC aE=>?_;refine ai (aC) λak aF aE=>?_;exact cV aF) ?_
 .have d:=by simpa using d
  have A:=q▸(cG.mp d).1;refine ai (j.get (dB A)) λaN R aM=>?_;simp only [d]at R;exact bj R▸((aR _ (dB A) aM))
 .exact(cO.mp f)▸(⟨o.free (gS h),aA _ (eS _ C)⟩)
 .rcases cD.mp f with rfl|f
  .exact .inl (.head _)
  .rw [cO.mp f];right;right;exact cV u
 .simp only [lM];rcases cD.mp f with rfl|f
  .exact fG _
  .exact(cO.mp f)▸(jZ m)
 .intro _ t x aP aT aY v g r st k;cases v with
  |ref T=>exact aha st.1 k
  |_=>exact bM k
noncomputable def SG.iV(G:SG)(p:I J):SG:={G with bS:=G.bS.map λQ=>if Q.key=p then{Q with np:=Q.np-1}else Q}
noncomputable def decA(H:I AN)(l:I J):I AN:=H.map λa=>if a.1=l then(a.1,a.2.1-1,a.2.2)else a
noncomputable def ek(H:I AN)(l:I J):aS:=match H.find? (λa=>aO (a.1=l))with|D a=>a.2.1|aa=>0
theorem aaD(B:G.kn)(O:G.bS[j]?=D Q):G.np j Q (Q.np-1)=G.iV Q.key:=by
 delta SG.np SG.iV
 refine d5 (qA O) λL X e R=>?_;rw [R]
 delta SG.kn at B
 rw [e]at B⊢;simp only [eW,iN]at B⊢;refine gv (gk.mp B) λE F m=>?_;have p:L.map (λh=>if h.key=Q.key then{h with np:=h.np-1}else h)=L:=by
  conv=>rhs;rw [<-z7 L]
  exact kr λu z=>by apply ae (aJ λq=>m u.key (fM z) Q.key (.head _) q);rfl
 have T:X.map (λh=>if h.key=Q.key then{h with np:=h.np-1}else h)=X:=by
  conv=>rhs;rw [<-z7 X]
  exact kr λu z=>by apply ae (aJ λq=>(gM.mp F).1 (by exact(q)▸(fM z)));rfl
 simp only [p,T,aL dj]
theorem MH{p:I J}(B:G.kn):(G.iV p).kn:=by
 delta SG.kn SG.iV at*
 simp only [dH];have:((λx=>x.key)∘λQ:Nd=>if Q.key=p then{Q with np:=Q.np-1}else Q)=λQ=>Q.key:=by funext Q;simp only [zY];split<;>rfl
 exact this.symm▸B
theorem Y3{p r:I J}(h:∃Q∈G.bS,Q.key=r):∃Q∈(G.iV p).bS,Q.key=r:=by
 refine ai h λQ z e=>(aR _ (dZ.mpr (aR Q z C)) ?_)
 split<;>exact e
theorem Eo{p:I J}:(G.iV p).al=decA G.al p:=by
 delta SG.al SG.iV decA
 apply ae (dH);simp only [dH];refine kr λQ E=>?_;simp only [zY]
 split<;>rfl
theorem NF(B:G.kn)(O:G.bS[j]?=D Q):ek G.al Q.key=Q.np:=by
 refine d5 (qA O) λL X e E=>?_
 delta SG.kn at B
 simp only [e,eW]at B;refine gv (gk.mp B) λE F m=>?_
 delta ek SG.al
 rw [e,eW,iN,IP];have:(L.map λQ=>((Q.key,Q.np,Q.succ))).find? (λa=>aO (a.1=Q.key))=aa:=by
  rw [Du];intro a u;refine ai (dZ.mp u) λh z d=>?_;subst d;rw [oK];exact(m h.key (fM z) Q.key (.head _))
 rw [this,agM];simp
end
theorem Uk{X:bD Ob}(a:ej p.length=Y)(h:∀y rest,bindArgs S ⟨y::rest,[]⟩=newTuple rest>>=λA=>pure (e0 n [y,A])):Binds X m w S n p [.tup p]:=by
 intro L F y z g s Q H B O b R;rw [h];refine aG (S2 ?_ (by rw [b.length];exact kN a));have f:=cg.push O (s_ z 0) s.toks C;exact bM (R _ _ [.ref s.heap.objs.size] f (.one (.tup (aL C) (b.mono f.le))) λi o e=>eG _ e)
def SG.gu(G:SG)(s:I J):SG:=if ek (G.iV s).al s=0 then{G.iV s with rl:=G.rl++[s]}else G.iV s
theorem MN:c_ (G.iV s)=c_ G:=by
 refine ae (dH) ?_;refine kr λQ E=>?_;simp only [zY]
 split<;>rfl
section
variable{i:J}{G:SG}
theorem Hf(p:bK c.B c.Z c.w O)(j:n[i]?=D x)(X:y[i]?=D (.obj (.bY q G)))(f:c.B.h₀.DictOf (strKind c.Z c.w) G.aZ (c_ G)):tY c n k y G:=
 λT g m r h S=>(dI ((i0 p S j X).2.sm) ((i0 p S j X).2.nd) (Jj f λo e=>S.base _ o e))
noncomputable def yZ:I (af×fc):=[("self",.local),("nodes",.local),("n2i",.local),("node",.local),("nodeinfo",.local),("stat",.local),("successor",.local),("successor_info",.local),("ValueError",.globalImplicit),("_NODE_OUT",.globalImplicit),("_NODE_DONE",.globalImplicit)]
noncomputable def h9:I af:=["self","nodes","n2i","node","nodeinfo","stat","successor","successor_info"]
abbrev Be:bg cz:=qd 2 (dD (fL 19 7))
abbrev EL:bg cz:=qd 4 (iw Be)
theorem Vj(p:bK c.B c.Z c.w cl)(F:Fm c.V h9 (U h9) yZ)(f:c.B.h₀.DictOf (strKind c.Z c.w) G.aZ (c_ G))(a:G.cW=D n)(o:U G.rl<=900)(m:G.kn){s:I J}(B:∃Q∈G.bS,Q.key=s):
  EX c h9 (U h9) [.obj (.bY 1 G),.t t1,.t (.bV (.ref G.aZ)),.t l,.t t4,.t k,.t (.str s),.un] (iw EL) [.obj (.bY 1 (G.gu s)),.t t1,.t (.bV (.ref G.aZ)),.t l,.t t4,.t k,.un,.un] .next:=by
 refine ai B λQ z d=>?_;subst d;refine bH (pS z) λt O=>?_;have j:(G.iV Q.key).bS[t]?=D {Q with np:=Q.np-1}:=by
  delta SG.iV;apply ae (jv);rw [O];simp
 have x:ek (G.iV Q.key).al Q.key=Q.np-1:=NF (MH m) j;refine zx (eL F 7 C (fG _) (HX (Hf p (i:=0) C C f) (zv F 2 C C) (zv F 6 C C) O C) C) (zx (Q6 p 0 C (zv F 7 C C) C (dm _) O (zi 1) C C) ?_);rw [aaD m O];have cond:EC c h9 (U h9) [.obj _,.t t1,.t _,.t l,.t t4,.t k,.t _,.t (.bV (.ref Q.i))] (.Compare (.Attribute (.Name "successor_info" ⟨205,19,205,33⟩) "npredecessors" ⟨205,19,205,47⟩) [.Eq] [.Constant _ 0 ⟨205,51,205,52⟩] ⟨205,19,205,52⟩)
   [.obj _,.t t1,.t (.bV (.ref G.aZ)),.t l,.t t4,.t k,.t (.str Q.key),.t _] (aO (Q.np-1=0)):=
  zC (vn p (CK p (i:=0) C C (dm _) (cN j)) (zv F 7 C C) .np C) (zi 0) C C
 by_cases h:Q.np-1=0
 .simp only [cL h]at cond;refine d5 (OA c.Z c.w cl 1 (G:=G.iV Q.key) a (G.rl++[Q.key])) λP q i b=>EX.wk (zx (dP cond (zx (Q0 (G':={G.iV Q.key with rl:=G.rl++[Q.key]}) p 0 C (kj p (kc p (i:=0) C C) (jG p F 0 C C) (.u0 a) C) C (zv F 6 C C) C i b (dI C C C) (aD o (az C)) C C C) ⟨i_⟩)) ⟨i_⟩) ?_;have e:G.gu Q.key={G.iV Q.key with rl:=G.rl++[Q.key]}:=by delta SG.gu;rw [x,aL h]
  exact e.symm▸(eV (h8 _) (eV (h8 _) (eV (h8 _) (eV (h8 _) (eV (h8 _) (eV (h8 _) (eV (pN _) (eV (pN _) (rB _)))))))))
 .simp only [ef h]at cond;apply EX.wk (zx (dP cond ⟨i_⟩) ⟨i_⟩);have e:G.gu Q.key=G.iV Q.key:=by delta SG.gu;rw [x,aJ h]
  exact e.symm▸(eV (h8 _) (eV (h8 _) (eV (h8 _) (eV (h8 _) (eV (h8 _) (eV (h8 _) (eV (pN _) (eV (pN _) (rB _)))))))))
theorem yv:(G.gu s).self=G.self/\(G.gu s).aZ=G.aZ/\(G.gu s).cW=G.cW/\(G.gu s).po=G.po/\(G.gu s).fi=G.fi/\c_ (G.gu s)=c_ G/\(G.gu s).rl.length<=U G.rl+1/\(G.gu s).bS=(G.iV s).bS:=by
 delta SG.gu
 split
 .exact(L3 C C C C C MN (by simp) C)
 .exact(L3 C C C C C MN (fO _ _) C)
theorem MG(B:G.kn):(G.gu s).kn:=by
 have:=MH (p:=s) B
 delta SG.kn at*
 exact yv.2.2.2.2.2.2.2.symm▸this
theorem Y0{s r:I J}(h:∃Q∈G.bS,Q.key=r):∃Q∈(G.gu s).bS,Q.key=r:=yv.2.2.2.2.2.2.2.symm▸(Y3 h)
def k9(G:SG)(a:I (I J)):SG:=a.foldl (λG s=>G.gu s) G
theorem Vi(p:bK c.B c.Z c.w cl)(F:Fm c.V h9 (U h9) yZ):∀(h:I _)(G:SG),c.B.h₀.DictOf (strKind c.Z c.w) G.aZ (c_ G)->G.cW=D a->U G.rl+U h<=900->G.kn->(∀s∈h,∃Q∈G.bS,Q.key=s)->
  jH c h9 (U h9) (oZ EL) (iw EL) (h.map .str) [.obj (.bY 1 G),.t t1,.t (.bV (.ref G.aZ)),.t l,.t t4,.t k,.un,.un] [.obj (.bY 1 (k9 G h)),.t t1,.t (.bV (.ref G.aZ)),.t l,.t t4,.t k,.un,.un] .next:=λT=>T.rec
 (λG E E E E E=>my)
 (λs h n G f e X m B=>by
  have L:=yv (G:=G) (s:=s);refine ki (iD F 6 C (fO _ _)) (Vj p F f e (cS 0 (.v 0) (.n 900) (.a (.v 0) (.a (.v 1) (.n 1))) (.n 900) C [_,_] X) m (B s gC)) ?_;have:=n _ (L.2.1.symm▸L.2.2.2.2.2.1.symm▸f) (ae L.2.2.1 e) (by exact d_ 0 (.a (.v 2) (.v 1)) (.n 900) (.a (.v 0) (.a (.v 1) (.n 1))) (.n 900) (.v 2) (.a (.v 0) (.n 1)) C [_,_,_] X L.2.2.2.2.2.2.1) (MG m) λt O=>Y0 (B t (fF _ O))
  exact L.2.1▸this)
end
structure RO(c:Cx Ob)(G:SG):Prop where
 d:c.B.h₀.DictOf (strKind c.Z c.w) G.aZ (c_ G)
 s:∀nd∈G.bS,∃vs nn,c.B.h₀.get? nd.su=D (lo vs nn)/\iU vs nd.succ
theorem Y_:c_ (G.iZ s v)=c_ G:=by
 delta c_ SG.iZ
 apply ae (dH);refine kr λQ E=>?_;simp only [zY]
 split<;>rfl
theorem RO.iZ{s:I J}(r:RO c G):RO c (G.iZ s v):=⟨by simp only [Y_];exact r.d,λQ z=>by
 refine ai (dZ.mp z) λh X d=>?_;subst d;have:=r.s h X
 split<;>exact this⟩
theorem RO.gu{s:I J}(r:RO c G):RO c (G.gu s):=by
 have L:=yv (G:=G) (s:=s);refine⟨L.2.1.symm▸L.2.2.2.2.2.1.symm▸r.d,λQ z=>?_⟩;rw [L.2.2.2.2.2.2.2]at z;refine ai (dZ.mp z) λh X d=>?_;subst d;have:=r.s h X
 split<;>exact this
theorem RO.KG:∀(a:I _)(G:SG),RO c G->RO c (k9 G a):=λT=>T.rec
 (λE r=>r)
 (λs a n G r=>n _ r.gu)
theorem Vd:∀(a:I _)(G:SG),(k9 G a).self=G.self/\(k9 G a).aZ=G.aZ/\(k9 G a).cW=G.cW/\(k9 G a).po=G.po/\(k9 G a).fi=G.fi/\(k9 G a).rl.length<=U G.rl+U a:=λT=>T.rec
 (λG=>(yL C C C C C (dm _)))
 (λs a n G=>by
  have h:=yv (G:=G) (s:=s);have r:=n (G.gu s);refine(yL (ae r.1 h.1) (ae r.2.1 h.2.1) (ae r.2.2.1 h.2.2.1) (ae r.2.2.2.1 h.2.2.2.1) (ae r.2.2.2.2.1 h.2.2.2.2.1) ?_)
  exact d_ 0 (.v 2) (.a (.v 1) (.a (.v 3) (.n 1))) (.v 0) (.a (.v 1) (.n 1)) (.v 2) (.a (.v 0) (.v 3)) C [_,_,_,_] h.2.2.2.2.2.2.1 r.2.2.2.2.2)
theorem Y7:∀(a:I _)(G:SG),G.kn->(k9 G a).kn:=λT=>T.rec
 (λE k=>k)
 (λs a n G k=>n _ (MG k))
def SG.qi(G:SG)(Q:Nd):SG:={k9 (G.iZ Q.key (-2)) Q.succ with fi:=G.fi+1}
theorem Vk(p:bK c.B c.Z c.w a)(F:Fm c.V h9 (U h9) yZ)(g:c.mg "_NODE_OUT"=D (.int (-1) H))(v:c.mg "_NODE_DONE"=D (.int (-2) A))(j:RO c G)(b:G.cW=D f)(m:G.kn)(z:Q∈G.bS)(x:Q.np=-1)(o:U G.rl+U Q.succ<=900)(i:∀s∈Q.succ,∃u∈G.bS,u.key=s):
  EX c h9 (U h9) [.obj (.bY 1 G),.t e,.t (.bV (.ref G.aZ)),.t (.str Q.key),.un,.un,.un,.un] (iw Be) [.obj (.bY 1 (G.qi Q)),.t e,.t (.bV (.ref G.aZ)),.un,.un,.un,.un,.un] .next:=by
 refine bH (pS z) λq O=>?_;have h:∀t,tY c h9 (U h9) [.obj (.bY 1 G),.t e,.t (.bV (.ref G.aZ)),.t (.str Q.key),t,.un,.un,.un] G:=λt=>Hf p (i:=0) C C j.d;have l:NT a Q "npredecessors" a.p1 1 (.int (-1)):=by exact(x)▸(.np)
 refine zx (QS F 4 C (ez C) (HW (h _) (zv F 2 C C) (h _) (zv F 3 C C) (λd=>by rw [HL d O,agL]) (λE E=>.bV _) C C C) zn C C ⟨i_⟩) (zx (eL F 5 C (ez C) (vn p (CK p (i:=0) C C (dm _) z) (zv F 4 C C) l C) C) (zx (dP (b:=ay) (zC (zv F 5 C C) (Dd F 9 C g λE E=>.int _ _) C C) ⟨i_⟩) (zx (Q9 p 0 C (Dd F 10 C v λE E=>.int _ _) (zv F 4 C C) C (dm _) O C) ?_)));rw [ND m O];have X:({Q with np:=-2})∈(G.iZ Q.key (-2)).bS:=dZ.mpr (aR Q z (aL C));exact d5 (j.s Q z) λr y k n=>zx (kP (aeU (vn p (CK p (i:=0) C C (dm _) X) (zv F 4 C C) .su C) k n) (Vi p F Q.succ _ j.iZ.d b o (Ga m) λs B=>MB (i s B)) C C) (EX.wk (zx (Rh p 0 C (jG p F 0 C C) C .fi (zi 1) C (by exact(Vd Q.succ _).2.2.2.2.1.symm▸C) (.fi _)) ⟨i_⟩) (eV (h8 _) (eV (h8 _) (eV (h8 _) (eV (pN _) (eV (pN _) (eV (pN _) (rB _))))))))
noncomputable def u6(u:Nd):I J×aq×aq×aq×I (I J):=(u.key,u.i,u.id,u.su,u.succ)
def SG.sk(G:SG):I (I J×aq×aq×aq×I (I J)):=G.bS.map u6
structure jJ(G G':SG):Prop where
 self:G'.self=G.self
 d:G'.d=G.d
 aZ:G'.aZ=G.aZ
 cW:G'.cW=G.cW
 po:G'.po=G.po
 sk:G'.sk=G.sk
theorem jJ.refl(G:SG):jJ G G:=⟨C,C,C,C,C,C⟩
theorem jJ.trans(a:jJ G o)(b:jJ o h):jJ G h:=⟨ae b.self a.self,ae b.d a.d,ae b.aZ a.aZ,ae b.cW a.cW,ae b.po a.po,ae b.sk a.sk⟩
theorem Pp(bS:I Nd)(y:Nd->Nd)(h:∀u,u6 (y u)=u6 u):(bS.map y).map u6=bS.map u6:=ae dH (kr λu E=>h u)
theorem acV(G:SG)(s:I J)(v:aS):jJ G (G.iZ s v):=⟨C,C,C,C,C,Pp _ _ λu=>by split<;>rfl⟩
theorem acT(G:SG)(s:I J):jJ G (G.gu s):=by
 have h:(G.iV s).bS.map u6=G.bS.map u6:=Pp _ _ λu=>by split<;>rfl
 delta SG.gu
 split
 .exact⟨C,C,C,C,C,h⟩
 .exact⟨C,C,C,C,C,h⟩
theorem acU:∀(a:I _)(G:SG),jJ G (k9 G a):=λT=>T.rec
 ((.refl))
 (λs a n G=>(acT G s).trans (n _))
theorem Hj(G:SG)(Q:Nd):jJ G (G.qi Q):=by
 have h:=(acV G Q.key (-2)).trans (acU Q.succ _);exact⟨h.self,h.d,h.aZ,h.cW,h.po,h.sk⟩
theorem jJ.c_(h:jJ G o):Internal.c_ o=Internal.c_ G:=by
 have e:∀G:SG,Internal.c_ G=G.sk.map λx=>(cj x.1,.ref x.2.1):=λG=>by delta Internal.c_ SG.sk;simp only [dH];rfl
 simp only [e,h.sk]
theorem jJ.map(h:jJ G o)(m:cy)(w:bX):g9 m w o=g9 m w G:=by
 have e:∀G:SG,(G.bS.map λQ=>(Q.su,fQ Q.succ))=G.sk.map λx=>(x.2.2.2.1,fQ x.2.2.2.2):=λG=>by delta SG.sk;simp only [dH];rfl
 delta g9 j_
 simp only [e,h.sk,h.aZ,h.c_]
theorem jJ.ad(h:jJ G o)(m:cy)(w:bX)(O:Cl):(objs m w O 1 o).map (·.1)=(objs m w O 1 G).map (·.1):=by
 have e:∀G:SG,(gP O.N G).map (·.1)=G.sk.flatMap λx=>[x.2.1,x.2.2.1]:=λG=>by
  delta gP SG.sk;apply ae (agd);rw [List.flatMap_map];rfl
 have s:∀G,(fX O.bq G).map (·.1)=G.self::G.d::(match G.cW with|D a=>[a]|aa=>[]):=λG=>by
  delta fX;cases G.cW<;>rfl
 show((fX O.bq o++gP O.N o).map _)=((fX O.bq G++gP O.N G).map _);apply ae (eW);rw [eW,e,e,s,s,h.sk,h.self,h.d,h.cW]
theorem ac6{R L:I aq}(k:jJ G o)(n:eu m w O 0 G y a R)(h:eu m w O 1 o y e P)(v:eu m w O 1 G y a L)
  (Q:∀b∈R,b∉L->∀x,a.get? b=D x->e.get? b=D x):eu m w O 0 o y e R/\P=L:=by
 have d:objs m w O 0 G=objs m w O 1 G++g9 m w G:=by simp [n5,Cs]
 have s:objs m w O 0 o=objs m w O 1 o++g9 m w G:=by exact(k.map m w)▸(C)
 refine⟨⟨h.v,h.sm,h.nd,⟨λE g=>?_,?_,n.ob.nd⟩⟩,(by apply ae (h.ob.ad);rw [v.ob.ad,k.ad])⟩
 .rw [s]at g;rcases fE.mp g with g|g
  .exact h.ob.dY E g
  .refine ai (n.ob.dY E (i6 _ ‹_›)) λi T p=>?_;have z:=n.ob.nd;simp only [n.ob.ad,d,eW]at z;refine(aR i (Q E.1 (by rw [n.ob.ad];exact fM (i6 _ ‹_›)) (λq=>?_) i T) p);rw [v.ob.ad]at q;exact(gk.mp z).2.2 E.1 q E.1 (fM g) C
 .apply ae (n.ob.ad);simp only [d,s,eW,eW,k.ad]
theorem Ur{Q:I AN}(p:bK X m w i)
  (b:∀G:SG,G.abs=.bN E Q O q fi->G.kn->e8 X m w u L (.bY 0 G) args n):e8 X m w u L (.bN E Q O q fi) args n:=by
 intro h F g y z x s fp l f a k j t;rw [p.ob]at a;obtain⟨G,e,hS⟩:∃G:SG,G.abs=.bN E Q O q fi/\eu m w i 0 G y s.heap fp:=a;exact b G e (F_ hS.nd) h F g y z x s fp l f (p.ob.symm▸hS) k j t
class inductive r8:SG->I (I J)->SG->Prop
 |nil{G:SG}:r8 G [] G
 |cons{G G':SG}{nd:Nd}{ps:I (I J)}:nd∈G.bS->nd.np=-1->G.rl.length+nd.succ.length<=900->(∀s∈nd.succ,∃n∈G.bS,n.key=s)->r8 (G.qi nd) ps G'->r8 G (nd.key::ps) G'
theorem r8.sk(d:r8 G S o):jJ G o:=by
 induction d with
 |nil=>exact .refl _
 |cons _ _ _ _ _ n=>exact(Hj _ _).trans n
theorem RO.qi(r:RO c G):RO c (G.qi Q):=⟨(RO.KG Q.succ _ r.iZ).d,(RO.KG Q.succ _ r.iZ).s⟩
theorem MI{G:SG}(k:G.kn):(G.qi Q).kn:=Y7 Q.succ _ (Ga k)
theorem Vl(p:bK c.B c.Z c.w O)(F:Fm c.V h9 (U h9) yZ)(g:c.mg "_NODE_OUT"=D (.int (-1) H))(v:c.mg "_NODE_DONE"=D (.int (-2) A)){G o:SG}{S:I _}(d:r8 G S o):RO c G->G.cW=D a->G.kn->
  jH c h9 (U h9) (oZ Be) (iw Be) (S.map .str) [.obj (.bY 1 G),.t h,.t (.bV (.ref G.aZ)),.un,.un,.un,.un,.un] [.obj (.bY 1 o),.t h,.t (.bV (.ref G.aZ)),.un,.un,.un,.un,.un] .next:=by
 induction d with
 |nil=>intro _ _ _;exact my
 |cons z x f B d n=>
  intro j s m;refine ki (iD F 3 C (az C)) (Vk p F g v j s m z x f B) ?_;have:=n j.qi (by apply ae ((Hj _ _).cW);exact s) (MI m);rw [(Hj _ _).aZ]at this;exact this
section
variable{y:Ly Ob}{f:aq}
theorem aeb(p:bK y.B y.Z y.w O)(k:iG y.B f 19 7 u S h9)(au:y.mg "_NODE_OUT"=D (.int (-1) b_))(aF:y.mg "_NODE_DONE"=D (.int (-2) bZ))(j:r8 G x o)(t:G.cW=D bW)(aK:G.kn)(aM:U x<=900):
  e8 y.B y.Z y.w (aN+1) (.ref f) (.bY 0 G) (x.map .str) λbf r=>bf=o.abs/\r=.none:=by
 have L:=j.sk;have d:∀(m:cy)(e:bX),objs m e O 0 G=objs m e O 1 G++g9 m e G:=λm e=>C;refine J_ y.G (o₁:=.bY 1 G) (oQ:=λA r=>A=.bY 1 o/\r=.none) k.d (ez C) (Uk (eU (by rw [dg];exact aD aM (az C))) λa rest=>?_) (λ{a ah R}n=>?_) (λP w v=>?_) (λ{a ah R aH i}B n w aP aT H bh bx bC=>?_) (λ{a ah R aH bQ aC A r}P n v w aE _=>?_)
 .apply ae (qQ k.ar k.df _);cases rest<;>rfl
 .rw [p.ob]at n;have n:=n;have u:=n.ob;rw [d]at u;refine(aR _ (by rw [p.ob];exact(⟨n.v,n.sm,n.nd,u.sub (l:=[])⟩)) (λaj b=>?_));simp only [u.ad,eW];exact gj _ b
 .obtain⟨rfl,_⟩:=P;rw [p.ob]at w v;have w:=w;have v:=v;simp only [w.v,v.v,L.self]
 .have F:Fm (di S H f) h9 (U h9) yZ:=jP (C) (by show S.scope.names=_;exact aA _ k.sc)
  let c:=(y.up i B).c bh bx (di S H f) aN bC
  have q:bK c.B c.Z c.w O:=p.up B;simp only [p.ob]at n w;have n:=n;have w:=w;have X:sx (g9 y.Z y.w G) i:=λE aY=>by
   refine ai (n.ob.dY E (i6 _ ‹_›)) λl T s=>?_;have z:=n.ob.nd;simp only [n.ob.ad,d,eW]at z;refine(aR l (aP _ _ T (aT _ (by rw [n.ob.ad];exact fM (i6 _ ‹_›))) λh=>?_) s);rw [w.ob.ad]at h;exact(gk.mp z).2.2 E.1 h E.1 (fM aY) C
  have bz:RO c G:=⟨by
   refine ai (X (G.aZ,j_ y.Z y.w G) (.head _)) λl T s=>?_;exact s i G.aZ T,λQ z=>by
   obtain⟨l,T,a_,bl,bI,bE⟩:=X (Q.su,fQ Q.succ) (.tail _ (dZ.mpr (aR Q z C)))
   exact(gg a_ bl (bI▸T) bE)⟩
  exact XP.ev (c:=c) (XP.mono (Φ:=λak ao=>ak=[.obj (.bY 1 o),.t (.tup (x.map .str)),.t (.bV (.ref G.aZ)),.un,.un,.un,.un,.un]/\ao=.next) (EX.xp (zx (dP (b:=ay) (zC (kj q (kc q (i:=0) (q:=1) C C) (jG q F 0 C C) (.u0 t) C) zn C C) ⟨i_⟩) (zx (eL F 2 C (ez C) (kj q (kc q (i:=0) (q:=1) C C) (jG q F 0 C C) .uP C) C) (zx (kP (H7 (zv F 1 C C)) (Vl q F au aF j bz t aK) C C) ⟨i_⟩))) ⟨C,C⟩) λak ao P=>by obtain⟨rfl,rfl⟩:=P;exact(l6 _ _ C (.inr ⟨C,C⟩) C C))
 .obtain⟨rfl,rfl⟩:=P;rw [p.ob]at n w v;obtain⟨bR,rfl⟩:=ac6 L (n) (w) (v) aE;refine(gx o.abs R ⟨C,C⟩ (p.ob.symm▸(((aR o C bR):∃g,g.abs=.bN o.self o.al (o.cW.map λ_=>o.rl) o.po o.fi/\eu y.Z y.w O 0 g a bQ R))) (λaj b=>?_))
  by_cases h:aj∈aC
  .exact .inl h
  .exact .inr ⟨b,h⟩
end
noncomputable def dR(H:I AN)(l:I J):I (I J):=match H.find? (λa=>aO (a.1=l))with|D a=>a.2.2|aa=>[]
def qe(s:I AN×I (I J))(p:I J):I AN×I (I J):=(decA s.1 p,if ek (decA s.1 p) p=0 then s.2++[p]else s.2)
def qS(s:I AN×I (I J))(p:I J):I AN×I (I J):=(dR s.1 p).foldl qe (pC s.1 p (-2),s.2)
def jB(s:I AN×I (I J))(S:I (I J)):I AN×I (I J):=S.foldl qS s
noncomputable def sU:I AN×I (I J)->I (I J)->bw
 |_,[]=>Y
 |s,p::S=>s.1.any (λa=>aO (a.1=p))&&aO (ek s.1 p=-1)&&(dR s.1 p).all (λx=>s.1.any λa=>aO (a.1=x))&&aO (s.2.length+(dR s.1 p).length<=900)&&sU (qS s p) S
section
variable{G:SG}{j:J}
theorem CX(B:G.kn)(O:G.bS[j]?=D Q):dR G.al Q.key=Q.succ:=by
 refine d5 (qA O) λL X e E=>?_
 delta SG.kn at B
 simp only [e,eW]at B;refine gv (gk.mp B) λE F m=>?_
 delta dR SG.al
 rw [e,eW,iN,IP];have:(L.map λQ=>((Q.key,Q.np,Q.succ))).find? (λa=>aO (a.1=Q.key))=aa:=by
  rw [Du];intro a u;refine ai (dZ.mp u) λh z d=>?_;subst d;rw [oK];exact(m h.key (fM z) Q.key (.head _))
 rw [this,agM,RW];simp
theorem ac8(s:I J):((G.gu s).al,(G.gu s).rl)=qe (G.al,G.rl) s:=by
 delta SG.gu qe
 rw [Eo]
 split
 .simp only [show({G.iV s with rl:=G.rl++[s]}).al=(G.iV s).al from C,Eo]
 .exact Eo.symm▸C
theorem ac9:∀(a:I _)(G:SG),((k9 G a).al,(k9 G a).rl)=a.foldl qe (G.al,G.rl):=λT=>T.rec
 (λE=>C)
 (λs a n G=>by
  show((k9 (G.gu s) a).al,(k9 (G.gu s) a).rl)=a.foldl qe _
  rw [n,ac8])
theorem PL(B:G.kn)(O:G.bS[j]?=D Q):((G.qi Q).al,(G.qi Q).rl)=qS (G.al,G.rl) Q.key:=by
 delta qS
 simp only [CX B O];have:=ac9 Q.succ (G.iZ Q.key (-2));rw [JL]at this;exact this
theorem Gx(h:(G.al.any λa=>aO (a.1=p))=Y):∃Q∈G.bS,Q.key=p:=by
 refine ai (mH.mp h) λa u e=>ai (dZ.mp u) λQ z d=>?_;subst d;exact(aR Q z (dh e))
theorem Vm:∀(S:I _)(G:SG),G.kn->sU (G.al,G.rl) S=Y->∃o,r8 G S o/\(o.al,o.rl)=jB (G.al,G.rl) S/\o.fi=G.fi+U S:=λT=>T.rec
 (λG E E=>(i12 G (.nil) C (by simp)))
 (λp S n G m h=>by
  have h:(_&&_&&_&&_&&_)=Y:=h;simp only [oz,oK]at h;refine cps λE e=>?_;obtain⟨⟨⟨⟨w,v⟩,R⟩,g⟩,H⟩:=h;obtain⟨Q,z,rfl⟩:=Gx w;refine bH (pS z) λj O=>?_;apply e;rw [NF m O]at v;rw [CX m O]at R g;rw [<-PL m O]at H;refine dF (n (G.qi Q) (MI m) H) λo d a L=>?_;refine(i12 o (.cons z v g (λs B=>Gx (gK.mp R s B)) d) ?_ ?_)
  .apply ae (a);rw [PL m O];rfl
  .apply ae (L);exact ae (Int.add_assoc _ _ _) (aA _ (Dr 1 (Int.ofNat _))))
end
section
variable{y:Ly Ob}{f:aq}
theorem aea(p:bK y.B y.Z y.w F)(k:iG y.B f 19 7 H ah h9)(u:y.mg "_NODE_OUT"=D (.int (-1) aj))(v:y.mg "_NODE_DONE"=D (.int (-2) w))(S:I _)(t:U S<=900)(A:sU (Q,s) S=Y):
  e8 y.B y.Z y.w (L+1) (.ref f) (.bN E Q (D s) q B) (S.map .str) λX r=>X=.bN E (jB (Q,s) S).1 (D (jB (Q,s) S).2) q (B+U S)/\r=.none:=by
 refine Ur p λG l m=>?_;obtain⟨a,x,n,h,o,R,g⟩:∃a,G.self=E/\G.al=Q/\G.cW=D a/\G.rl=s/\G.po=q/\G.fi=B:=by
  injection l with a b d e f
  cases i:G.cW with
  |none=>rw [i]at d;exact aV C d
  |some T=>rw [i]at d;exact(FE T a b C (bj d) e f)
 subst n o;refine dF (Vm S G m A) λO d e c=>(aeb p k u v d h m t).mono λX r P=>bT P λz j=>?_;subst z j;refine⟨?_,C⟩;simp only [SG.abs_eq,<-e,d.sk.self,d.sk.cW,d.sk.po,h,x,R,c,g]
 rfl
end
theorem Mc(u:J):j6 u∈(["_node2info","_ready_nodes","_npassedout","_nfinished"]:I af):=by
 match u with
 |0=>simp [j6]
 |1=>simp [j6]
 |2=>simp [j6]
 |u+3=>simp [j6]
theorem YL(u:J)(x:af)(h:u<=2):o8 k G c u x=o8 k a o u x:=M5 (P:=λu=>o8 k G c u x=o8 k a o u x) C C C u (Sg h)
theorem OL{st:J}{h:fT}{v:aB}(B:st<4)(p:rj k st (dictOf Q n))(d:v=.ref k/\st=0\/v=.none/\st=1\/(∃A,v=.int 0 A)/\2<=st):rj k (st+1) (dictOf (putL (j6 st) o4 (.str (j6 st) h) v Q) b):=by
 refine yx p λm S G c e X L=>?_;obtain rfl:=Bd e;have f:∀a o,v=FY k a o st->(∀x,o8 k a o st x=o8 k G c st x)->rj k (st+1) _:=λa o d R=>by
  refine(FG _ b a o C (d_ 0 (.v 2) (.a (.v 1) (.n 1)) (.v 0) (.v 1) (.v 2) (.a (.v 0) (.n 1)) C [_,_,_] X (OV (j6 st) o4 (.str (j6 st) h) v Q)) (λx=>?_))
  by_cases j:x=j6 st
  .subst j;rw [Bw];simp [FW,d]
  .rw [mY j,L,FW,aJ j,R]
 rcases d with⟨rfl,rfl⟩|⟨rfl,rfl⟩|⟨⟨A,rfl⟩,i⟩
 .exact f G c C λE=>C
 .exact f G c C λE=>C
 .rcases(Nat.lt_succ_iff_lt_or_eq.mp B).imp (λq=>fS (rR q) i) id with rfl|rfl
  .exact f A c C λx=>YL 2 x (dm _)
  .exact f G A C λx=>C
theorem abr{o:bL}(p:rj k 4 o):iK ⟨t,d,k,aa,[],0,0,[]⟩ o:=by
 refine yx p λQ u G c e X L=>⟨Q,u,G,c,e,aD X (az C),?_,?_,?_,?_,λx a b i h=>?_⟩
 .rw [L];rfl
 .rw [L];rfl
 .rw [L];rfl
 .rw [L];rfl
 .rw [L];simp [YK,FW,j6,a,b,i,h]
section
variable{c:Cx Ob}{st:J}
theorem FZ(p:bK c.B c.Z c.w O)(S:aW c.B c.ρ hB g c.V n k y m r h)(j:n[i]?=D x)(X:y[i]?=D (.obj (.gQ E e st))):eE c.V m h x (D (.ref E))/\yn c.Z c.w O E e st (.ref E) h (r i):=by
 refine cps λa kk=>?_;obtain⟨Q,u,v,rfl,d⟩:=S.vars i x _ j X;apply kk;rw [p.ob]at d;exact(d.v)▸(⟨u,d⟩)
theorem K1(p:bK c.B c.Z c.w O)(F:Fm c.V n k G)(i:J)(j:n[i]?=D x)(X:y[i]?=D (.obj (.gQ E h st))):p8 c.B c.Z c.w c.A c.ρ c.V n k y (.Name x e) (.bV (.ref E)):=by
 rintro T g s Q H⟨w,m,r,S⟩R;exact bT (FZ p S j X) λu d=>eO (eK w S.ns u (R s.toks _ (.bV _))) (F.eY j)
theorem H6(p:bK c.B c.Z c.w O)(a_:Fm c.V x Q er)(i:J)(j:x[i]?=D H)(dG:z[i]?=D (.obj (.gQ E d st)))(bl:EE c x Q z e P aj)(G:P[i]?=D (.obj (.gQ E d st)))(s:st≠0)(g:st<4)(au:aj=.none/\st=1\/aj=.int 0/\2<=st)
  (bZ:gY e (D (.Attribute (.Name H aY) (j6 st) bh)) bW.line c.V=pure ay):ES c x Q z (.Assign [.Attribute (.Name H aY) (j6 st) bh] e bW) (P.set i (.obj (.gQ E d (st+1)))) .next:=by
 constructor;intro T aH aP cB dN c9 bC bE;refine yd (bl.1 T aH aP _ _ bC λt m v bI bR y F=>(K1 p a_ i j G T m t _ _ y λdU ew aC=>?_)) bZ;obtain rfl:=aC.inv;obtain⟨aE,aF,r,l⟩:=y;refine bT (FZ p l j G) λaM aN=>ai aN.ob λk aT u=>ai (u.dY (E,λo=>o=instObj O.bq d) (cN (i:=0) C)) λeB w A=>ai (u.dY (d,rj k st) (cN (i:=1) C)) λcX X B=>?_;dsimp only at w X A B;subst A;refine yx (B) λee n cM cU bx bz aK=>?_;subst bx;have S:=(cG.mp j).1;have R:d∈r i:=by rw [u.ad];exact cN (i:=1) C
 have L:=l.fp i S;refine CM (p.iI l.base) (⟨w,C,C,X⟩) C p.ok.sa p.ok.po (by delta takerIn;rw [p.ok.at_ _ (Mc st),Af]) p.ok.hd (by rw [aK];rfl) (d_ 0 (.v 1) (.n 900) (.a (.v 0) (.n 1)) (.n 4) (.v 1) (.v 0) C [_,_] g bz) λa cC cF cJ h bf=>?_;have h:gW d t.heap a:=h;have ah:∀{b},b∉r i->b≠d:=λ{b}n q=>n (by exact(q)▸(R));have bQ:v=.ref k/\st=0\/v=.none/\st=1\/(∃ak,v=.int 0 ak)/\2<=st:=by
  rcases au with⟨rfl,e⟩|⟨rfl,e⟩
  .obtain rfl:=F.inv;exact .inr (.inl ⟨C,e⟩)
  .obtain⟨ak,rfl⟩:=F.inv;exact .inr (.inr ⟨⟨_,C⟩,e⟩)
 have ck:yn c.Z c.w O E d (st+1) (.ref E) a (r i):=by
  refine⟨C,k,λb_=>aT s,u.upd (P:=[(E,λo=>o=instObj O.bq d)]) C ?_ h bf (OL g B bQ)⟩;show _=(E,λo=>o=instObj O.bq d)::(d,rj k _)::_
  delta Me
  rw [aJ s,aJ (DE st)]
 refine bE _ m .next (bI.trans (cH a _ C)) bR ⟨aE,aF,_,l.qB j (λb n b_ o e=>(h.2 b (ah n)).trans e) (bD.iy l.inv λao cu o e=>(h.2 ao (ah ((l.tab ao cu).2.2.2.2 i S))).trans e) (Le.refl _) (λb o e=>(h.2 b λq=>?_).trans (l.bJ b o e)) (λb o e=>.inl e) aM ⟨.ref E,C,?_⟩ (λb f=>⟨.inl f,(L b f).2.1⟩)⟩ dj
 .exact aV (ae (aA _ q) ((L d R).2.1)) e
 .exact p.ob.symm▸ck
end
theorem aeW(p:bK c.B c.Z c.w k)(bC:Fm c.V n z cB)(i:J)(j:n[i]?=D H)(X:y[i]?=D (.obj (.gQ E d 0)))
  (bh:gY (.Dict [] [] aF) (D (.Attribute (.Name H aK) (j6 0) aE)) bx.line c.V=pure ay):ES c n z y (.Assign [.Attribute (.Name H aK) (j6 0) aE] (.Dict [] [] aF) bx) (y.set i (.obj (.gQ E d 1))) .next:=by
 constructor;intro ao g s cU c9 bZ S aH;refine yd (wpAny_Dict_empty ?_) bh;have m:=cg.iH S.ready emptyDict s.toks;refine K1 p bC i j X ao g {s with heap:=s.heap.push emptyDict} _ _ (S.step m) λaN cC a_=>?_;refine cps λbf f=>?_;obtain rfl:=a_.inv;obtain⟨bl,w,r,a⟩:=S;have Fr:=a.free (gS s);have l:=a.step m;have l:aW c.B c.ρ ao g c.V n z y w r (s.heap.push emptyDict):=l;refine bT (FZ p l j X) λbI bE=>ai bE.ob λbR cF h=>ai (h.dY (E,λo=>o=instObj k.bq d) (cN (i:=0) C)) λdG F T=>ai (h.dY (d,rj bR 0) (cN (i:=1) C)) λcX G B=>?_;apply f;dsimp only at F G T B;refine cps λbf f=>?_;subst T;refine yx (B) λaM u aP aT aY t L=>?_;subst aY;have A:=(cG.mp j).1;have ad:r i=[E,d]:=by apply ae (h.ad);exact C
 have R:d∈r i:=by rw [ad];exact .tail _ (.head _)
 have x:=l.fp i A;apply f;refine CM (s:={s with heap:=s.heap.push emptyDict,toks:=aN}) (p.iI l.base) (⟨F,C,C,G⟩) C p.ok.sa p.ok.po (by delta takerIn;rw [p.ok.at_ _ (Mc 0),Af]) p.ok.hd (by rw [L];rfl) (aD t (az C)) λO b_ ck cu v bz=>?_;have v:gW d (s.heap.push emptyDict) O:=v;have Q:∀{b},b∉r i->b≠d:=λ{b}u q=>u (by rw [q];exact R);have bQ:yn c.Z c.w k E d 1 (.ref E) O [E,d,s.heap.objs.size]:=by
  have ah:=ad▸h.nd;have aj:=ad▸(Fr.fp i A);exact⟨C,s.heap.objs.size,λP=>(Po p a),⟨bO (aR _ ((v.2 E (qs ah 0 1 C C C)).trans F) C) (bO (aR _ bz (OL (gE _) ((FG aM u aP aT C t L)) (.inl ⟨C,C⟩))) (bO (aR _ ((v.2 _ (λq=>aj (q▸d9 1 C))).trans (eS s.heap C)) (λcJ cM e=>(BE _ (#[]) 0 e (dI C C C) C (λP bW=>by simp at bW) (.nil) xX))) eJ)),C,(bS ah aj)⟩⟩
 have ak:=Fr;refine aH _ g .next (cH O _ C) (Le.refl _) ⟨bl,w,_,l.xh j (λb u P o e=>(v.2 b (Q u)).trans e) (bD.iy l.inv λau aC o e=>(v.2 au (Q ((l.tab au aC).2.2.2.2 i A))).trans e) (Le.refl _) (λb o e=>(v.2 b λq=>?_).trans (l.bJ b o e)) (λb o e=>.inl e) bI ⟨.ref E,C,?_⟩ (bO ⟨.inl (by rw [ad];exact .head _),(x _ (by rw [ad];exact .head _)).2.1⟩ (bO ⟨.inl R,(x _ R).2.1⟩ (bO ⟨.inr ak,ak.fz⟩ eJ)))⟩ dj
 .exact aV (ae (aA _ q) ((x d R).2.1)) e
 .exact p.ob.symm▸bQ
theorem YM(x:yn m w O E d 4 v e R):∃G,G.abs=.bN E [] aa 0 0/\eu m w O 0 G v e R:=by
 refine ai x.ob λk X u=>(aR ⟨E,d,k,aa,[],0,0,[]⟩ C (⟨x.v,X (nofun),xX,⟨λh g=>?_,u.ad,u.nd⟩⟩));have g:h∈[(E,λo=>o=instObj O.bq d),(d,iK ⟨E,d,k,aa,[],0,0,[]⟩),(k,j_ m w _)]:=g;simp only [cD,dQ,or_false]at g;rcases g with rfl|rfl|rfl
 .exact u.dY (E,λo=>o=instObj O.bq d) (cN (i:=0) C)
 .exact ai (u.dY (d,rj k 4) (cN (i:=1) C)) λo T p=>(aR o T (abr p))
 .exact u.dY (k,j_ m w _) (cN (i:=2) C)
section
variable{y:Ly Ob}
noncomputable def nsi:I (af×fc):=[("self",.local),("graph",.local),("node",.local),("predecessors",.local)]
noncomputable def tB:I af:=["self","graph","node","predecessors"]
theorem aen(p:bK y.B y.Z y.w O)(k:j2 y.B L aN S (dD (fL 19 0)) tB)(Q:S.scope=eg (fL 19 0))(f:Binds y.B y.Z y.w S tB [] [.none]):
  e8 y.B y.Z y.w (u+1) (.ref L) (.gQ E d 0) [] λX r=>X=.bN E [] aa 0 0/\r=.none:=by
 have s:e8 y.B y.Z y.w (u+1) (.ref L) (.gQ E d 0) [] λX r=>X=.gQ E d 4/\r=.none:=by
  refine sA y.G k (ez C) f (λP w v=>?_) λ{l}B H h e i=>?_
  .obtain⟨rfl,_⟩:=P;rw [p.ob]at w v;simp only [w.v,v.v]
  .have F:Fm (di S H L) tB (U tB) nsi:=jP (C) (by exact aA _ Q)
   let c:=(y.up l B).c h e (di S H L) u i
   have q:bK c.B c.Z c.w O:=p.up B;exact XP.ev (XP.mono (Φ:=λx A=>x=[.obj (.gQ E d 4),.t .none,.un,.un]/\A=.next) (EX.xp (zx (aeW q F 0 C C C) (zx (H6 (st:=1) q F 0 C C zn C (nofun) (dK _ _) (.inl ⟨C,C⟩) C) (zx (H6 (st:=2) q F 0 C C (zi 0) C (nofun) (dK _ _) (.inr ⟨C,dm _⟩) C) (zx (H6 (st:=3) q F 0 C C (zi 0) C (nofun) (fG _) (.inr ⟨C,dK _ _⟩) C) (zx (dP (b:=ay) (zC (zv F 1 C C) zn C C) ⟨i_⟩) ⟨i_⟩))))) ⟨C,C⟩) λx A P=>by obtain⟨rfl,rfl⟩:=P;exact(l6 _ _ C (.inr ⟨C,C⟩) C C))
 intro h e g n z i j R t o m G b ah;refine s h e g n z i j R t o m G b λaj ak ao au aT aP T aE aF aC aK aH aM a=>?_;obtain⟨rfl,rfl⟩:=T;rw [p.ob]at a;exact ah aj ak ao au (.bN E [] aa 0 0) .none ⟨C,C⟩ aE aF aC aK aH aM (by rw [p.ob];exact YM a)
end
section
variable{c:Cx Ob}
theorem ZX(p:bK c.B c.Z c.w O)(T:dW c.A (aY+2))(aC:(("__init__":af),bx)∈O.fs)(w:∀E ah,e8 c.B c.Z c.w (aY+1) (.ref bx) (.gQ E ah 0) [] λX r=>X=.bN E [] aa 0 0/\r=.none)(S:aW c.B c.ρ hB fz c.V xs k y m a s.heap)
  (au:∀t j E R,bP s t->Le fz j->aW c.B c.ρ hB j c.V xs k y m a t.heap->c.B.ob.at_ (.bN E [] aa 0 0) (.ref E) t.heap R->(∀b∈R,e9 c.B hB j c.V xs a b)->Q (.ref E) t):aQ (aI c.Z c.w) c.A (call (.ref O.bq) []) Q bI s:=by
 obtain⟨B,aj,bl,A,os⟩:=s;have G:=p.iI S.base;have i:aW c.B c.ρ hB fz c.V xs k y m a B:=S;have r:=S.ready;refine bT (p.ok.fs _ aC) λaM aT=>i8 (make_core (makes_of G p.ok.Gv) (looks_findIn G aM) (λaE=>bind_fn G aE (beq_iff_eq.mp aT)) (.inl C) ?_);have P:=cg.iH r emptyDict A;have bh:=S.step P;have bf:=bh.step (cg.iH (P.ready r) (instObj O.bq B.objs.size) A);have d:B.get? B.objs.size=aa:=gS ⟨B,aj,bl,A,os⟩;have F:B.get? (B.objs.size+1)=aa:=by
  cases q:B.get? _ with
  |none=>rfl
  |some o=>exact bA (fk q) (ie.mpr (rS _))
 have ak:c.B.ob.at_ (.gQ (B.objs.size+1) B.objs.size 0) (.ref (B.objs.size+1)) ((B.push emptyDict).push (instObj O.bq B.objs.size)) [B.objs.size+1,B.objs.size]:=by
  rw [p.ob];refine(⟨C,0,(bA C),⟨bO (aR _ (by heap_get) C) (bO (aR _ (by heap_get) ⟨[],0,0,0,C,dm _,λbR=>C⟩) eJ),C,by simp⟩⟩)
 have h:=S.free d;have v:=S.free F;refine w _ B.objs.size _ c.ρ fz _ [] _ _ [B.objs.size+1,B.objs.size] T.call bf.ready ak (bO (dI v.fz v.h0 v.tab) (bO (dI h.fz h.h0 h.tab) eJ)) .nil ?_
 .rintro t j bQ aF X bE⟨rfl,rfl⟩aK H aN aP l ao a_ n aH;obtain rfl:=aH.inv;refine⟨C,?_⟩;have x:=λ{b o}e f=>bO (P:=λb=>B.get? b=D o->False) (aV F) (bO (aV d) eJ) b f e;have g:∀{b o},B.get? b=D o->((B.push emptyDict).push (instObj O.bq B.objs.size)).get? b=D o:=λe=>eG _ (eG _ e);have z:∀{b},((B.push emptyDict).push _).get? b=aa->B.get? b=aa:=λ{b}e=>by
   cases q:B.get? b with
   |none=>rfl
   |some o=>rw [g q]at e;assumption
  have u:∀{b},b∈[B.objs.size+1,B.objs.size]->B.get? b=aa:=λ{b}f=>by
   cases q:B.get? b with
   |none=>rfl
   |some o=>exact bA f (x q)
  have bz:=i.grow (λb f o e=>aN b (x e) f o (g e)) aP H λb o e=>by
   rcases ao b o e with q|q|q
   .exact .inl q
   .exact .inr ⟨z q,l b o e⟩
   .exact .inr ⟨u q,l b o e⟩
  refine au t j _ aF (bP.trans (cH _ _ C) aK) H bz a_ λb f=>?_;have bC:B.get? b=aa:=by
   rcases(n b f).1 with q|q
   .exact u q
   .exact z q
  have L:=i.free bC;exact⟨L.hb,(n b f).2,L.loc,L.cell,L.fp,L.tab,L.h0⟩
end
section
set_option tactic.hygienic true
variable{c:Cx Ob}{i:J}
theorem MO{p:af×aB}(h:(c_ G)[i]?=D p):∃Q,G.bS[i]?=D Q/\p=(cj Q.key,.ref Q.i):=by
 delta c_ at h
 rw [jv]at h;cases e:G.bS[i]? with
 |none=>rw [e]at h;exact aV C h
 |some Q=>rw [e]at h;exact(aR Q C ((bj h).symm))
theorem QT(l:EE c y aj B e P (.bV (.ref G.aZ)))(ah:(G.aZ==sysModules)=ay)(q:c.B.h₀.DictOf (strKind c.Z c.w) G.aZ (c_ G)):EI ay c y aj B e P (G.bS.map λQ=>.str Q.key):=by
 constructor;intro ao g ak aT aM S R;refine l.1 ao g ak _ _ S λh O v F aC E m=>?_;obtain rfl:=m.inv;have r:=E.ready;refine bH q.dictAt λL p=>?_;have a:=p.at' λo e=>r.base _ o e;apply wpAny_pyIter_dict ah a;obtain⟨w,z,X,k⟩:=E;have s:=a.lt_size;have H:=Walks.dictKeys (knd:=strKind c.Z c.w) c.R.handled h.heap.objs.size G.aZ (fH s) (c_ G) L;rw [(by simp [c_]:U (c_ G)=U (G.bS.map λQ=>T.str Q.key))]at H⊢;refine R _ O _ _ _ _ _ z X (F.trans (cH _ h.toks C)) aC w (k.step (((by simp [c_]:U (G.bS.map λQ=>T.str Q.key)=U (c_ G))).symm▸(cg.iH r {cls:=.type "dict_keyiterator",data:=.fields #[.ref G.aZ,.int 0 0,.int (U (c_ G)) 0,.int L 0]} h.toks))) H (λi v d=>?_) ⟨(i12 _ (eS _ C) C C),a.at' λo e=>eG _ e⟩ (λb f=>?_) (λb f=>?_) (λb f=>?_) (λi l st b f=>by rw [cO.mp f];refine bT st λn j=>?_;refine ai (n) λo x j=>?_;exact cV x) ?_
 .refine d5 d λaN aP au A=>ai (MO au) λQ aE e=>bT (mK e) λn aF=>?_;subst n aF;refine(aR _ (by apply ae (jv);rw [aE];rfl) ?_);obtain⟨t,rfl⟩:∃t,v=.str (cj Q.key) t:=by
   cases v<;>first|exact cY C A|skip
   rename_i aH aK;exact⟨aK,by rw [(by simpa [vJ,Value.isStrOf]using A:aH=cj Q.key)]⟩
  exact .str _ _
 .exact(cO.mp f)▸(⟨k.free (gS h),aA _ (eS _ C)⟩)
 .rcases cD.mp f with rfl|f
  .exact .inl (.head _)
  .rw [cO.mp f];right;right;exact d5 p λo aY x j=>cV x
 .simp only [lM];rcases cD.mp f with rfl|f
  .exact fG _
  .exact(cO.mp f)▸(jZ s)
 .intro u;exact cY C u
theorem aeV(s:EE c w m bl o P (.bV (.ref G.aZ)))(aE:(G.aZ==sysModules)=ay)(aF:c.B.h₀.DictOf (strKind c.Z c.w) G.aZ (c_ G))
  (aK:attributeBase o "values" c.V (eval o c.V)=eval o c.V)(bh:(S.endLine==aH.line)=Y):EI ay c w m bl (.Call (.Attribute o "values" S) [] [] aH) P (G.bS.map λQ=>.bV (.ref Q.i)):=by
 constructor;intro X bz a_ ck bR R ao;refine lP aK (oA _) bh F.plainAttrs_dict F.slot_dict_values F.type_dict_values (s.1 X bz a_ _ _ R λbQ bZ aM aP aT E aC=>?_);obtain rfl:=aC.inv;have r:=E.ready;refine bH aF.dictAt λL p=>?_;have x:=p.at' λo e=>r.base _ o e;refine(dI x.dictOf.typeIs x.dictOf.mapOf.noDict (kA (C) (jM (λe s=>bA s dQ) lX E λt q b_ aj ak v au=>?_)));obtain rfl:=au.ja C;have r:=v.ready;have x:=p.at' λo e=>r.base _ o e;refine call_meetsIn PySem.F.slot_dict_values x.dictOf.typeIs PySem.F.entry_dict_values (PySem.F.args_dict_values_1 _) (meets_dict_values (strKind c.Z c.w) G.aZ aE) ⟨⟨_,x.dictOf⟩,?_⟩;have a:=v.step (cg.iH r {cls:=.type "dict_values",data:=.fields #[.ref G.aZ]} t.toks);have b:(t.heap.push {cls:=.type "dict_values",data:=.fields #[.ref G.aZ]}).DictAt (strKind c.Z c.w) G.aZ (c_ G) L:=x.push _;have d:(t.heap.push {cls:=.type "dict_values",data:=.fields #[.ref G.aZ]}).IsValuesView t.heap.objs.size G.aZ:=(i12 _ (eS _ C) C C)
 revert a b d
 generalize t.heap.push {cls:=.type "dict_values",data:=.fields #[.ref G.aZ]}=j;intro a b d;obtain⟨h,A⟩:∃h,h={t with heap:=j}:=⟨_,C⟩;have aN:bP t h:=(bP.of A);simp only [<-A];have u:j=h.heap:=by rw [A]
 simp only [u]at a b d;clear A u;have a:SR c.B c.ρ X q c.V w m P h.heap:=a;apply wpAny_pyIter_values d b;have y:=cg.iH (a.ready (s:=h)) {cls:=.type "dict_valueiterator",data:=.fields #[.ref G.aZ,.int 0 0,.int (U (c_ G)) 0,.int L 0]} h.toks;obtain⟨aY,ah,bf,z⟩:=a;have g:G.aZ<h.heap.objs.size:=b.lt_size;have H:=Walks.dictValues (prog:=c.Z) (w:=c.w) (knd:=strKind c.Z c.w) c.R.handled h.heap.objs.size G.aZ (fH g) (c_ G) L;have bx:U (c_ G)=U (G.bS.map λQ=>T.bV (.ref Q.i)):=by simp [c_]
 rw [bx]at H y⊢;refine ao _ q _ _ _ _ _ ah bf (((aP.trans aj).trans aN).trans (cH _ h.toks C)) (aT.trans ak) aY (z.step y) H (λi aM d=>?_) ⟨(i12 _ (eS _ C) C C),b.at' λo e=>eG _ e⟩ (λl f=>?_) (λl f=>?_) (λl f=>?_) (λi s st l f=>by rw [cO.mp f];refine bT st λn B=>?_;refine ai (n) λo k B=>?_;exact cV k) ?_
 .refine bH d λbW bE=>ai (MO bE) λQ bC e=>?_;refine bT (mK e) λn bI=>?_;subst n;subst bI;exact(aR (.bV (.ref Q.i)) (by apply ae (jv);rw [bC];rfl) (.bV _))
 .exact(cO.mp f)▸(⟨z.free (gS h),by exact aA _ (eS _ C)⟩)
 .rcases cD.mp f with rfl|f
  .exact .inl (by exact .head _)
  .rw [cO.mp f];right;right;exact d5 p λo cu k B=>cV k
 .show l<(h.heap.push _).objs.size;rw [lM];rcases cD.mp f with rfl|f
  .exact fG _
  .rw [cO.mp f];exact jZ g
 .intro O;exact cY C O
end
section
variable{c:Cx Ob}{qj:cE}{l:I J}{h':cf}
theorem Cp(S:aW c.B c.ρ hB g c.V n k y m r h)(j:n[i]?=D x)(X:y[i]?=D (.obj o)):∃v,eE c.V m h x (D v)/\c.B.ob.at_ o v h (r i):=by
 refine cps λE e=>?_;obtain⟨Q,u,v,rfl,d⟩:=S.vars i x _ j X;exact e ((aR v u d))
theorem Cq(S:aW c.B c.ρ hB g c.V n k y m r h)(j:n[i]?=D x)(z:eE c.V m h x (D v))(l:a∈r i)(B:gW a h h')(t:c.B.ob.at_ X v h' (r i)):
  aW c.B c.ρ hB g c.V n k (y.set i (.obj X)) m (bU r i (r i)) h':=by
 have A:=(cG.mp j).1;have F:=S.fp i A;have s:∀{b},b∉r i->b≠a:=λ{b}u q=>u (by exact(q)▸(l));exact S.qB j (λb u E o e=>ae (B.2 b (s u)) e) (bD.iy S.inv λP d o e=>ae (B.2 P (s ((S.tab P d).2.2.2.2 i A))) e) (Le.refl _) (λb o e=>ae (B.2 b λq=>(aV ((aA _ q).trans ((F a l).2.1)) e)) (S.bJ b o e)) (λb o e=>.inl e) z ⟨v,C,t⟩ (λb f=>⟨.inl f,(F b f).2.1⟩)
theorem GV(p:bK c.B c.Z c.w O)(S:aW c.B c.ρ hB g c.V n k y m r h)(j:n[i]?=D x)(X:y[i]?=D (.obj (.set s))):
  ∃a u,eE c.V m h x (D (.ref a))/\r i=[a]/\u<=U s/\h.SetOf (vJ c.Z c.w) a (λk=>s.any (λx=>aO (cj x=k))) u:=by
 refine ai (Cp S j X) λv b d=>?_;rw [p.ob]at d;obtain⟨a,u,rfl,L,f,e⟩:=(d);exact(l6 a u b L f e)
theorem afb(a:bK c.B c.Z c.w aE)(F:Fm c.V n k G)(i t:J)(j:n[i]?=D x)(l:i<k)(O:G[t]?=D (("set":af),.globalImplicit))(B:gY (.Call (.Name "set" r) [] [] pos) (D (.Name x X)) p.line c.V=pure ay):
  ES c n k y (.Assign [.Name x X] (.Call (.Name "set" r) [] [] pos) p) (y.set i (.obj (.set []))) .next:=by
 constructor;intro Q aj ak aC aF e S R;refine bT (c.bi 15 "set" _ C) λq g=>kC (kD (nY c.G S.1 S.ready.base (F.kn t O nofun) q g (F.kg t O) (I6 (C) (jM (λb s=>bA s dQ) lX S λh o ah zm m E u=>?_)))) B;obtain rfl:=u.ja C;refine call_set_0 λv=>?_;have d:(h.heap.push {cls:=.type "set",dict:=aa,data:=.set #[] 0 (.fresh 0 0 v)}).SetOf (vJ c.Z c.w) h.heap.objs.size (λP=>ay) 0:=
  (Yy _ _ 0 _ (eS _ C) (dI C C C) C (λb z=>by simp at z) (λk=>by simp) (gE _) (C) C)
 have f:=cg.iH E.ready {cls:=.type "set",dict:=aa,data:=.set #[] 0 (.fresh 0 0 v)} h.toks;obtain⟨w,ao,au,E⟩:=E;exact gh (av:=.obj _) w e (E.step f) j l (F.loc j l) ⟨_,C,(a.ob.symm▸((⟨_,0,C,C,dm _,by simpa using d⟩)))⟩ (.sT (E.free (gS h))) λH L T A=>R H o .next ((zm.trans f.same).trans T) m ⟨w,L,_,A⟩ dj
set_option tactic.hygienic true in
theorem QV(p:bK c.B c.Z c.w ah)(F:Fm c.V n k aj)(i:J)(q:EE c n k y qj P (.str l))(j:n[i]?=D x)(X:P[i]?=D (.obj (.set s))):EC c n k y (.Compare qj [.In] [.Name x ak] ao) P (aO (l∈s)):=by
 constructor;intro T g t Q B S R;refine Ao (q.1 T g t _ _ S λh a f v o E O=>?_) C;obtain⟨L,rfl⟩:=O.inv;obtain⟨w,u,r,E⟩:=E;refine Bh (GV p E j X) λf A d m m H=>eO (eK w E.ns d (wpAny_inSet_of (tQ ..) C H ?_)) (F.eY j);have z:cg c.B a h a {h with toks:=h.toks+1}:=cg.tok E.ready _;have e:(s.any λx=>aO (cj x=cj l))=aO (l∈s):=by
  rw [oE];simp only [mH,oK];exact⟨λG=>ai G λx j e=>sY e▸j,λb=>(aR l b C)⟩
 exact e.symm▸(yh (R _ a (v.trans z.same) o ⟨w,u,r,E.step z⟩))
theorem acQ(h:h'.SetOf (vJ k w) a (λq=>(s.any λx=>aO (cj x=q))||aO (q=cj l)) u):h'.SetOf (vJ k w) a (λq=>(s++[l]).any λx=>aO (cj x=q)) u:=by
 have e:(λq=>(s.any λx=>aO _)||aO _)=λq=>(s++[l]).any λx=>aO (cj x=q):=funext λq=>by
  simp only [List.any_append,IK,List.any_nil,Dm];exact aA _ (decide_eq_decide.mpr eq_comm)
 exact e▸h
theorem afa(p:bK c.B c.Z c.w b_)(F:Fm c.V h m bR)(i:J)(j:h[i]?=D x)(ao:y[i]?=D (.obj (.set s)))(z:EE c h m y e P (.str l))(aj:P[i]?=D (.obj (.set s)))(L:dO e=Y)(T:(ah.endLine==u.line)=Y)(aC:U s<=1000):
  ES c h m y (.Expr (.Call (.Attribute (.Name x a_) "add" ah) [e] [] u) bf) (P.set i (.obj (.set (s++[l])))) .next:=by
 constructor;intro bC bE bI aT bQ aY S X;have Q:∀R∈[e],∀x O,R≠.Starred x O:=λR G=>by exact(cO.mp G)▸(g_ L)
 have t:=kL (pos:=u) (V:=c.V) [e] Q;refine tT (cps λE ak=>?_) (by delta interactive;exact S.1.kind.symm▸C) C;obtain⟨w,H,au,b⟩:=S;refine Bh (GV p b j ao) λa n g E E o=>ak (lP C (yW t (az C)) T PySem.F.plainAttrs_set PySem.F.slot_set_add PySem.F.type_set_add (eO (eK w b.ns g (dI o.typeIs o.noDict (kA t (jM Q (qT z.1 lX (g_ L)) ⟨w,H,au,b.uM j g⟩ λbh A bW aE aF f aK=>?_)))) (F.eY j)));obtain⟨_,aM,bl,f⟩:=f;refine Bh (GV p f j aj) λbx bz r d q aH=>?_;obtain rfl:=ku (bj ((f.locked j).det r));refine ai aK.jc λv k aN=>?_;subst k;refine bH aN.inv λbZ k=>?_;subst k;refine call_set_add (tQ ..) C aH (by exact d_ 0 (.a (.a (.v 1) (.n 1)) (.n 1)) (.n 4096) (.v 0) (.n 1000) (.v 1) (.v 0) C [_,_] aC q) λh' aP B=>X _ A .next (aE.trans (cH h' _ C)) aF ⟨w,aM,_,Cq (f.unlock) j r (d▸.head _) aP (p.ob.symm▸(⟨a,_,C,d,?_,acQ B⟩))⟩ dj
 simp only [cA]
 split
 .exact Ac q
 .exact jx q
noncomputable def jN(r:I (I J×aS))(l:I J):bg aS:=(r.find? λx=>aO (x.1=l)).map (·.2)
noncomputable def oX(r:I (I J×aS))(l:I J)(i:aS):I (I J×aS):=if r.any (λx=>aO (x.1=l))then r.map (λx=>if x.1=l then(x.1,i)else x)else r++[(l,i)]
noncomputable def lW(r:I (I J×aS))(l:I J):I (I J×aS):=r.filter λx=>aO (x.1≠l)
theorem acB{a b:I J}:cj a=cj b<->a=b:=⟨sY,(aA _)⟩
theorem fU.get{P:I _}{r:I _}(h:fU P r):(∃t i,valueAt P (cj l)=D (.int i t)/\jN r l=D i)\/(valueAt P (cj l)=aa/\jN r l=aa):=
 fU.rec (.inr ⟨C,C⟩) (λ{H i t P r}E n=>by
  by_cases q:H=l
  .exact .inl (gg t i (aA (qK I4) (IS (cL (aA cj q)))) (aA (qK I4) (IS (cL q))))
  .have a:valueAt ((cj H,.int i t)::P) _=valueAt P _:=aA (qK I4) (IQ (λe=>q (sY (dh e))));have b:jN ((H,i)::r) l=jN r l:=aA (qK I4) (IQ λe=>q (dh e))
   exact(a)▸(b)▸(n)) h
theorem fU.any{P:I _}{r:I _}(h:fU P r):P.any (λx=>aO (x.1=cj l))=r.any (λx=>aO (x.1=l)):=
 fU.rec C (λ{H _ _ _ _}E n=>by apply ae (IK);rw [IK,n];exact aA (·||_) (decide_eq_decide.mpr acB)) h
theorem fU.append(h':fU k s){P:I _}{r:I _}(h:fU P r):fU (P++k) (r++s):=
 fU.rec h' (λE n=>.cons n) h
theorem fU.abQ{i:aS}{A:fT}{P:I _}{r:I _}(h:fU P r):fU (P.map λx=>if x.1=cj l then(x.1,.int i A)else x) (r.map λx=>if x.1=l then(x.1,i)else x):=
 fU.rec .nil (λ{H _ _ _ _}E n=>by
  rw [iN,iN]
  by_cases q:H=l
  .rw [aL q,aL (aA cj q)];exact .cons n
  .rw [aJ q,aJ λe=>q (sY e)];exact .cons n) h
theorem fU.put{i:aS}{P:I _}(h:fU P r):fU (stored P (cj l) (.int i A)) (oX r l i):=by
 delta stored oX
 rw [h.any]
 split
 .exact h.abQ
 .exact fU.append (.cons .nil) h
theorem fU.del{P:I _}{r:I _}(h:fU P r):fU (without P (cj l)) (lW r l):=
 fU.rec .nil (λ{H i A P r}E n=>by
  by_cases q:H=l
  .have t:without ((cj H,.int i A)::P) _=without P (cj l):=z0 (by simp [q]);have b:lW ((H,i)::r) l=lW r l:=z0 (by simp [q]);simp only [t,b];exact n
  .have t:without ((cj H,.int i A)::P) _=(cj H,.int i A)::without P _:=z4 (cL λe=>q (sY e));have b:lW ((H,i)::r) l=(H,i)::lW r l:=z4 (cL q)
   simp only [t,b];exact .cons n) h
theorem fU.len{P:I _}{r:I _}(h:fU P r):U P=U r:=fU.rec C (λE n=>aA Nat.succ n) h
theorem zd(p:bK c.B c.Z c.w O)(S:aW c.B c.ρ hB g c.V n k y m r h)(j:n[i]?=D x)(X:y[i]?=D (.obj (.k8 P))):
  ∃a l,eE c.V m h x (D (.ref a))/\r i=[a]/\(a==sysModules)=ay/\h.DictOf (vJ c.Z c.w) a l/\fU l P:=by
 refine ai (Cp S j X) λv u d=>?_;rw [p.ob]at d;obtain⟨a,l,rfl,L,f,s,q⟩:=(d);exact(L4 a l u L f s q)
theorem aeM(p:bK c.B c.Z c.w O)(F:Fm c.V n k G)(i:J)(j:n[i]?=D x)(l:i<k)(B:gY (.Dict [] [] u) (D (.Name x h)) e.line c.V=pure ay):
  ES c n k y (.Assign [.Name x h] (.Dict [] [] u) e) (y.set i (.obj (.k8 []))) .next:=by
 constructor;intro T g s Q H a S R;refine kC (wpAny_Dict_empty ?_) B;have f:=cg.iH S.ready emptyDict s.toks;obtain⟨w,v,r,E⟩:=S;exact gh (av:=.obj _) w a (E.step f) j l (F.loc j l) ⟨_,C,(p.ob.symm▸((⟨_,[],C,C,Po p E,(BE emptyDict _ 0 (eS _ C) (dI C C C) C (λo m=>by simp at m) (.nil) xX),.nil⟩:AA c.Z c.w [] _ _ _)))⟩ (.sT (E.free (gS s))) λt b q A=>R t g .next (f.same.trans q) (Le.refl _) ⟨w,b,_,A⟩ dj
set_option tactic.hygienic true in
theorem QU(p:bK c.B c.Z c.w G)(F:Fm c.V n k ah)(i:J)(x:EE c n k y qj e (.str l))(j:n[i]?=D d)(Q:e[i]?=D (.obj (.k8 P))):EC c n k y (.Compare qj [.In] [.Name d ak] aj) e (jN P l).isSome:=by
 constructor;intro T g s ao au S R;refine Ao (x.1 T g s _ _ S λh a o q f E O=>?_) C;obtain⟨A,rfl⟩:=O.inv;obtain⟨w,m,r,E⟩:=E;refine um (zd p E j Q) λo v u aC X H B=>eO (eK w E.ns u (wpAny_in_of (tQ ..) X H.mapOf ?_)) (F.eY j);have z:cg c.B a h a {h with toks:=h.toks+1}:=cg.tok E.ready _;have L:(valueAt v (cj l)).isSome=(jN P l).isSome:=by
  rcases B.get with⟨A,i,t,b⟩|⟨t,b⟩<;>rw [t,b]<;>rfl
 exact L.symm▸(yh (R _ a (q.trans z.same) f ⟨w,m,r,E.step z⟩))
theorem aeN(p:bK c.B c.Z c.w Q)(q:Fm c.V n k ak)(i:J)(j:n[i]?=D e)(X:y[i]?=D (.obj (.k8 P)))(v:EP c n k y x (.str l))(L:jN P l=D E)(z:uT x=Y):EE c n k y (.Subscript (.Name e ao) x h) y (.int E):=by
 constructor;rintro T g s aF G⟨w,m,r,S⟩R;refine cps λ_ o=>um (zd p S j X) λa aE u H O f B=>o (ya (eO (eK w S.ns u (v.1 T g s _ _ ⟨w,m,r,S⟩ λah aj F=>?_)) (q.eY j)));obtain⟨A,rfl⟩:=F.inv;refine vI f.typeIs PySem.F.slot_dict_getitem.lookup ?_ (xd λa au aC h d=>by subst d;contradiction);rcases B.get with⟨A,i,t,b⟩|⟨t,b⟩
 .rw [L]at b;obtain rfl:=bj b;exact S0 (tQ ..) f.mapOf t (R _ g _ (cH s.heap _ C) (Le.refl _) ⟨w,m,r,S⟩ (.int _ _))
 .exact aV b L
set_option tactic.hygienic true in
theorem aeO(p:bK c.B c.Z c.w aF)(F:Fm c.V n k a_)(i:J)(j:n[i]?=D x)(q:EE c n k H e P (.int z))(Q:P[i]?=D (.obj (.k8 h)))(ah:EP c n k P qj (.str l))(aj:U h<=1000)
  (s:gY e (D (.Subscript (.Name x t) qj r)) o.line c.V=pure ay):ES c n k H (.Assign [.Subscript (.Name x t) qj r] e o) (P.set i (.obj (.k8 (oX h l z)))) .next:=by
 constructor;intro T f v aH aC aK S R;refine wpAny_Assign_Subscript (q.1 T f v _ _ S λd a aE A X E L=>?_) s;obtain⟨w,y,m,E⟩:=E;refine um (zd p E j Q) λG aP u g O ak B=>eO (eK w E.ns u (ah.1 T a d _ _ ⟨w,y,m,E⟩ λaM aN ao=>?_)) (F.eY j);obtain⟨aT,rfl⟩:=ao.inv;obtain⟨aY,rfl⟩:=L.inv;exact wpAny_setItem_pairs (tQ ..) ak (λh' au b=>(R _ a .next (A.trans (cH h' _ C)) X ⟨w,y,_,Cq E j u (by exact(g)▸(.head _)) b (p.ob.symm▸((⟨G,_,C,g,O,au,B.put⟩:AA c.Z c.w _ _ h' _)))⟩ dj)) (by exact(B.len)▸(rU)▸(aD aj (az C)))
end
section
set_option tactic.hygienic true
theorem Hq:Slot "wrapper_descriptor" "__get__" "wrapper_descriptor.__get__":=
 .of (owner:="wrapper_descriptor") (n:="__get__") (by kernel_rfl) (C) (C) (C)
  (by first|exact .inl (C)|exact .inr _) (by exact C)
theorem aev:typeLookup (.type "wrapper_descriptor") "__set__"=pure aa:=by kernel_rfl
theorem aeu:typeLookup (.type "wrapper_descriptor") "__delete__"=pure aa:=by kernel_rfl
theorem VW:entryFor table "wrapper_descriptor.__get__"=D Builtin.«wrapper_descriptor.__get__»:=Ak (C)
theorem T6(a b c:aB):argsOk "wrapper_descriptor.__get__" ⟨[a,b,c],[]⟩:=by kernel_rfl
theorem ado:isSubtype (.type "list_iterator") (.type (".".intercalate ("list_iterator.__next__".cutAt '.').dropLast))=pure Y:=by
 exact C
theorem Qs:typeOf (.builtin "list_iterator.__next__")=pure (.type "wrapper_descriptor"):=by
 first|exact h _|(decide+kernel)|kernel_rfl
theorem CQ:Slot "list_iterator" "__getattribute__" "object.__getattribute__":=
 .of (owner:="object") (n:="__getattribute__") (by kernel_rfl) (C) (C) (C)
  (by first|exact .inl (C)|exact .inr _) (by exact C)
variable{g:iR GenState}{d:Drawn}{t:J}{os:OsState}
theorem aap(j:h.get? a=D o)(l:o.cls=.type "list_iterator")(k:i (.ok (.ret (.ref h.objs.size))) ⟨h.push (j8 a),g,d,t,os⟩):
  codeAny (aI m w) L (.call (.builtin "wrapper_descriptor.__get__") ⟨[.builtin "list_iterator.__next__",.ref a,.type "list_iterator"],[]⟩) i ⟨h,g,d,t,os⟩:=by
 have q:(⟨h,g,d,t,os⟩:aU).TypeIs (.ref a) "list_iterator":=(aR _ j l);have n:=ado;refine qL Hq.plain VW (Hq.check _ _ _ _ _ _ _ _ (Qs) (T6 _ _ _) ?_)
 repeat(any_goals(first|assumption|wp_step))
theorem aao(j:h.get? a=D {cls:=.type "list_iterator",dict:=aa,data:=.fields z,slots:=#[]})(k:Q (.done (.ret (.ref h.objs.size))) ⟨h.push (j8 a),g,d,t,os⟩):
  aQ (aI m w) L (Builtin.«object.__getattribute__» ⟨[.ref a,.str "__next__" n],[]⟩) Q H ⟨h,g,d,t,os⟩:=by
 have q:(⟨h,g,d,t,os⟩:aU).TypeIs (.ref a) "list_iterator":=(aR _ j C);have e:(⟨h,g,d,t,os⟩:aU).TypeIs (.builtin "list_iterator.__next__") "wrapper_descriptor":=Qs;have B:typeLookup (.type "list_iterator") "__next__"=pure (D (.builtin "list_iterator.__next__")):=slot_listiter_next.lookup;have i:=Hq.lookup;have l:=aev;have x:=aeu
 repeat(any_goals(first|assumption|wp_step))
 apply aap j C
 repeat(any_goals(first|assumption|wp_step))
theorem aam(j:h.get? a=D {cls:=.type "list_iterator",dict:=aa,data:=.fields z,slots:=#[]})(k:Q (.ref h.objs.size) ⟨h.push (j8 a),g,d,t,os⟩):
  aQ (aI m w) L (getAttrBy (.ref a) (.str "__next__" n) Y Y) Q H ⟨h,g,d,t,os⟩:=by
 have q:(⟨h,g,d,t,os⟩:aU).TypeIs (.ref a) "list_iterator":=(aR _ j C);have v:=CQ.lookup;have s:=CQ.bind (.ref a)
 repeat(any_goals(first|assumption|wp_step))
 refine qL CQ.plain agW (CQ.check _ _ _ _ _ _ _ _ q (agV _ _) (aao j ?_))
 repeat(any_goals(first|assumption|wp_step))
theorem aal(j:h.get? a=D {cls:=.type "list_iterator",dict:=aa,data:=.fields z,slots:=#[]})(k:Q (.ref h.objs.size) ⟨h.push (j8 a),g,d,t+1,os⟩):
  aQ (aI m w) L (getAttr (.ref a) "__next__" Y) Q H ⟨h,g,d,t,os⟩:=by
 repeat(any_goals(first|assumption|with_reducible apply aam j|wp_step))
theorem Uy(X:s.heap.IsList l items)(R:Q (.ref s.heap.objs.size) {s with heap:=s.heap.push {cls:=.type "list_iterator",data:=.fields #[.ref l,.int 0 0]}}):
  aQ (aI m w) L (call (.builtin "iter") [.ref l]) Q H s:=by
 apply call_function_entry (C) (C) (entryFor_of_fast (C)) (by kernel_rfl);exact aG (iQ (a:=[vK l]) (by first|rfl|kernel_rfl!) (aG (Jf X (bM (aR _ C R)))))
end
inductive Tp(c:Cx Ob)(m:af->bg aB)(h:cf)(x:af)(fp:I aq)(il:I (aq×J)):Prop
 |mk(a:aq)(ws:I (aq×aq))(n:J)(ha:eE c.V m h x (D (.ref a)))(f:fp=iW a ws)(nd:(iW a ws).Nodup)(hl:ws.length=il.length)(lv:∀b∈iW a ws,(h.get? b).isSome=Y)(g:h.get? a=D (lo (ws.map λw=>.ref w.1) n))(r:DX h ws il)
theorem GQ(p:bK c.B c.Z c.w O)(S:aW c.B c.ρ hB g c.V n k y m h e)(j:n[i]?=D x)(X:y[i]?=D (.obj (.dJ Q))):Tp c m e x (h i) Q:=by
 refine ai (Cp S j X) λv a d=>?_;rw [p.ob]at d;obtain⟨b,G,u,rfl,L,s,X,y,f,r⟩:=(d);exact⟨b,G,u,a,L,L▸s,X,L▸y,f,r⟩
theorem aeX(f:bK c.B c.Z c.w O)(F:Fm c.V n k G)(i:J)(j:n[i]?=D x)(l:i<k)(B:gY (.List [] u) (D (.Name x h)) p.line c.V=pure ay):
  ES c n k y (.Assign [.Name x h] (.List [] u) p) (y.set i (.obj (.dJ []))) .next:=by
 constructor;intro T g s ak ao e S R;refine kC ((rG cT C).1 T g s _ _ S λaj a b aC X Q P q o w E t L d=>?_) B;have m:=by have:=d.length;simpa using this
 subst m;refine gh (av:=.obj (.dJ [])) w e E j l (F.loc j l) ⟨_,C,?_⟩ (.sT t) λr v z A=>R r a .next (q.trans z) o ⟨w,v,_,A⟩ dj
 exact(f.ob)▸((⟨b,[],X,C,C,gM.mpr ⟨dQ,xX⟩,C,λau H=>by simp only [cO.mp H,L];rfl,L,λi aE x ah=>nofun⟩))
theorem o9(a:aq)(G:I _)(w:aq×aq):iW a (G++[w])=iW a G++[w.1,w.2]:=by simp [iW]
theorem YR{a h:aq}{n₃:J}(l:(iW a G).Nodup)(j:U G=Q.length)(c:∀b∈iW a G,(e.get? b).isSome=Y)
  (A:DX e G Q)(v:e.get? h=aa)(F:e.get? H=aa)(X:H≠h)(B:∀b,b≠a->∀o,e.get? b=D o->O.get? b=D o)
  (P:O.get? H=D (j8 h))(s:O.get? h=D {cls:=.type "list_iterator",data:=.fields #[.ref R,.int 0 0]})(L:O.get? a=D (lo ((G++[(H,h)]).map λw=>vK w.1) n₃)):oO 0 (Q++[(R,0)]) (.ref a) O (iW a (G++[(H,h)])):=by
 have n:∀{b d},e.get? d=aa->b∈iW a G->b≠d:=λg f q=>cY (aA mJ g) (q▸c _ f);have k:∀{z:J}{w:aq×aq},G[z]?=D w->w.1≠a/\w.2≠a:=λ{z w}y=>
  have m:∀{b},b∈[w.1,w.2]->b≠a:=λf q=>(gM.mp l).1 (q▸vB.mpr (aR w (cN y) f))
  ⟨m (d9 0 C),m (d9 1 C)⟩
 refine⟨a,_,n₃,C,C,o9 a G (H,h)▸gk.mpr (dI l (.cons (bO X eJ) (.cons eJ .nil)) (λb f d u=>bO (P:=λd=>∀b∈iW a G,b≠d) (λE=>n F) (bO (λE=>n v) eJ) d u b f)),by apply ae (cA);simp only [cA,j];rfl,λb f=>?_,L,λz w r y p=>?_⟩
 .refine(fE.mp (o9 a G (H,h)▸f)).elim (λf=>?_) (bO (P:=λb=>(O.get? b).isSome=Y) (cV P) (bO (cV s) eJ) b);obtain⟨o,T⟩:=gG.mp (c b f);exact(vv (b=a)).elim (λq=>q▸cV L) λq=>cV (B b q o T)
 .by_cases i:z<U G
  .have x:=(nG i).symm.trans y;obtain⟨S,o,T,t⟩:=A z w r x ((nG (j▸i)).symm.trans p);exact⟨B _ (k x).1 _ S,o,B _ (k x).2 _ T,t⟩
  .have y:=(kU (iP i)).symm.trans y;have p:=(kU (j▸iP i)).symm.trans p;rw [<-j]at p;generalize z-U G=d at y p;cases d with
   |succ d=>exact aV C y
   |zero=>exact bj y▸bj p▸⟨P,_,s,C,C⟩
theorem aeY(d6:bK c.B c.Z c.w kT)(F:Fm c.V n y bl)(i t:J)(hx:n[i]?=D x)(cJ:ao[i]?=D (.obj (.dJ j)))(aC:bl[t]?=D (("iter":af),.globalImplicit))(ee:EE c n y ao e P (.bV (.ref R)))(bW:tZ c n y P R lK)(dG:P[i]?=D (.obj (.dJ j)))(a_:dO e=Y)
  (ck:(cB.endLine==u.line)=Y)(bz:U j<=1000):
  ES c n y ao (.Expr (.Call (.Attribute (.Name x jr) "append" cB) [.Attribute (.Call (.Name "iter" r) [e] [] p) "__next__" Et] [] u) lJ) (P.set i (.obj (.dJ (j++[(R,0)])))) .next:=by
 constructor;intro er mC gU gV gc jt au bZ;have aP:∀m∈[e],∀x p,m≠.Starred x p:=λm k=>by rw [cO.mp k];exact g_ a_
 have aK:=kL (pos:=u) (V:=c.V) [RB (.Call (.Name "iter" r) [e] [] p) "__next__" Et] (λm k=>by rw [cO.mp k];exact g_ C);refine tT (cps λaM kk=>?_) (by unfold interactive;rw [au.1.kind];assumption) C;obtain⟨w,dN,dU,l⟩:=au;obtain⟨a,aE,aF,aH,_,_,_,_,L,_⟩:=GQ d6 l hx cJ;refine kk (lP C (oA _) ck Sx PySem.F.slot_list_append PySem.F.type_list_append (eO (eK w l.ns aH (dI (aR _ L C) (λjq c9=>SS c9▸(aR _ L C)) ?_)) (F.eY hx)));have eR:backTo u (starEach [RB (.Call (.Name "iter" r) [e] [] p) "__next__" Et] c.V)=[(ay,eval (RB (.Call (.Name "iter" r) [e] [] p) "__next__" Et) c.V)]:=C;rw [eR]at aK⊢;refine kA aK (tO (pW (bT (c.bi 16 "iter" (.builtin "iter") C) λe6 eM=>?_)));refine aG (kD (nY c.G w l.base (F.kn t aC nofun) e6 eM (F.kg t aC) (kA (kL (pos:=p) (V:=c.V) [e] aP) (jM aP (qT ee.1 lX (g_ a_)) ⟨w,dN,dU,l.uM hx aH⟩ λfy eT mz bx bC E bE=>(ai bE.jc λic bI bQ=>?_)))));subst bI;obtain rfl:=bQ.inv;obtain⟨_,bR,s,E⟩:=E;obtain⟨kR,aE,aF,aT,g,b_,O,cu,L,G⟩:=GQ d6 E hx dG;obtain rfl:=ku (bj ((E.locked hx).det aT));have E:=E.unlock;refine cps λaM kk=>ai (bW _ _ _ _ _ E) λkS ah cC=>?_;obtain⟨jf,cF,rfl,ko⟩:=cC;obtain⟨B,cM,cU,cX,os⟩:=fy;apply kk;dsimp only at ah L E G;refine Uy (i12 _ ah C ⟨cF,C⟩) (aG (oH (aG (gH ?_))));have aj:(B.push {cls:=.type "list_iterator",data:=.fields #[.ref R,.int 0 0]}).get? B.objs.size=D {cls:=.type "list_iterator",data:=.fields #[.ref R,.int 0 0]}:=eS B C;refine aal aj (aG (wpAny_letTemporaryGo (bM (lO ?_))));have ak:(B.push {cls:=.type "list_iterator",data:=.fields #[.ref R,.int 0 0]}).objs.size=B.objs.size+1:=lM ..;have d:=gS ⟨B,cM,cU,cX,os⟩;have h:B.get? (B.objs.size+1)=aa:=iY λo q=>bA (fk q) (ie.mpr (rS _));have Q:∀b o,B.get? b=D o->((B.push {cls:=.type "list_iterator",data:=.fields #[.ref R,.int 0 0]}).push (j8 B.objs.size)).get? b=D o:=λb o e=>eG _ (eG _ e);have H:=eG (j8 B.objs.size) aj;have z:((B.push {cls:=.type "list_iterator",data:=.fields #[.ref R,.int 0 0]}).push (j8 B.objs.size)).get? (B.objs.size+1)=D (j8 B.objs.size):=ak▸eS _ C;simp only [ak];generalize(B.push {cls:=.type "list_iterator",data:=.fields #[.ref R,.int 0 0]}).push (j8 B.objs.size)=gi at Q z H;have X:B.objs.size+1≠B.objs.size:=agI _;generalize B.objs.size=aN at Q z H d h X;generalize aN+1=ew at z h X;refine Jb (hsz:=by simp only [qH,dg,rU,O];exact aD bz (az C)) ⟨aF,Q _ _ L⟩ λeB S A=>bH S λeN S=>?_;have aY:=j7 hx;have T:a∈s i:=g.symm▸.head _;have bf:=E.fp i aY;have v:=λb fj o e=>ae (A.2 b fj) (Q b o e)
 exact bZ _ eT .next (bx.trans (cH eB _ C)) bC ⟨w,bR,_,E.xh hx (λb fB aM o e=>v b (λq=>fB (q▸T)) o e) (bD.iy E.inv λbh fZ o e=>v bh (λq=>(E.tab bh fZ).2.2.2.2 i aY (q▸T)) o e) (Le.refl _) (λb o e=>v b (eZ (bf a T).2.1 e) o (E.bJ b o e)) (λb o e=>.inl e) aT
  ⟨.ref a,C,d6.ob.symm▸(YR b_ O cu G d h X v (ae (A.2 _ (eZ h L).symm) z) (ae (A.2 _ (eZ d L).symm) H) (n₃:=eN) (by refine ae (S) ?_;simp [lo]))⟩ λb f=>(fE.mp (o9 a aE (ew,aN)▸f)).elim (λf=>⟨.inl (g.symm▸f),(bf b (g.symm▸f)).2.1⟩) (bO (P:=λb=>(b∈s i\/e9 c.B er eT c.V n s b)/\eT b=aa) ⟨.inr (E.free h),(E.free h).fz⟩ (bO ⟨.inr (E.free d),(E.free d).fz⟩ eJ) b)⟩ dj
theorem Uv(T:s.heap.get? b=D (j8 n))
  (e:aQ (aI m w) L (call (.ref b) []) Q H s):aQ (aI m w) L (callWith u (.ref b) [] [] []) Q H s:=by
 refine aG (gH (kX (Q:=λx c=>x=⟨[],[]⟩/\c=s) (Am ⟨C,C⟩) (λx c v=>aG (oH ?_)) λE E x=>x));obtain⟨rfl,rfl⟩:=v;exact aG (aG (Jc T (bM (aG (kX e (λr F h=>aG (gH (wpAny_point (bM h)))) λE E x=>x)))))
theorem Ka(T:s.heap.get? b=D (j8 n))(k:s.TypeIs (.ref n) "list_iterator")
  (e:aQ (aI m w) (L.under (.builtin "list_iterator.__next__" ⟨[.ref n],[]⟩)) (Builtin.«list_iterator.__next__» ⟨[.ref n],[]⟩) (λy t=>∃r,y=.done (.ret r)/\Q r t) H s):aQ (aI m w) L (call (.ref b) []) Q H s:=by
 refine i8 (codeAny_of_tree (aG (Jc T ?_)));have d:(nM "method-wrapper"==nM "method"||nM "method-wrapper"==nM "builtin_function_or_method"||nM "method-wrapper"==nM "method-wrapper")=Y:=C;have l:(nM "method-wrapper"!=nM "method")=Y:=C;show aQ _ _ (if(nM "method-wrapper"!=nM "method")=Y then(do checkBoundCall "list_iterator.__next__" ⟨[.ref n],[]⟩;return<-again (.builtin "list_iterator.__next__" ⟨[.ref n],[]⟩))else _) _ _ s;apply aG;have i:∀{g:Unit->aU->Prop}{h:aB->aU->Prop},g () s->aQ (aI m w) L.in1 (checkBoundCall "list_iterator.__next__" ⟨[.ref n],[]⟩) g h s:=by
  intro g h j
  repeat(any_goals(first|assumption|wp_step))
 exact i (aG (bM (bM (⟨zW _ (by decide+kernel),Aj entry_listiter_next (kX e (λy t⟨r,a,q⟩=>a▸q) λE E x=>x)⟩))))
section
variable{Z:cy}{w:bX}{A:cZ}{s:aU}
theorem aaq(T:s.heap.get? b=D (j8 n))(k:s.heap.IsListIter n l i)(X:s.heap.IsList l t)(j:t[i]?=D x)
  (R:∀O,O.IsListIter n l (i+1)->gW n s.heap O->Q x {s with heap:=O}):aQ (aI Z w) A (call (.ref b) []) Q H s:=by
 refine dF (id k) λo h e P=>dF X λq r E u=>?_;refine bH (u) λy a=>?_;apply Ka T k.typeIs;show aQ _ _ (field (.ref n) 0>>=_) _ _ s;refine aG (DM h P (x:=.ref l) C (aG (DM h P (x:=.int i 0) C (aG (yg r a ?_)))));simp only [IJ,j];refine aG (wpAny_setField h P (fG _) (bM (aR x C (R _ (i12 _ (pR _ h (agJ (Sp P _))) (ae (Obj.cls_mapFields ..) e) ?_) (oG ..)))));rw [Sp P];exact C
def DU(h:cf)(e:aq)(B:aB):Prop:=∃c z o,h.get? e=D c/\c.cls=B/\c.data=.fields z/\z[1]?=D .none/\z[0]?=D o
theorem aan(B:A.handled=aa)(T:s.heap.get? b=D (j8 n))(k:s.heap.IsListIter n l i)(X:s.heap.IsList l t)(j:t[i]?=aa)
  (S:∀O e,jX n s.heap O->(O.get? n).isSome=Y->s.heap.get? e=aa->DU O e (.type "StopIteration")->H (.ref e) {s with heap:=O}):aQ (aI Z w) A (call (.ref b) []) Q H s:=by
 refine dF (id k) λq h o P=>dF X λx r E u=>?_;refine bH (u) λy a=>?_;apply Ka T k.typeIs;show aQ _ _ (field (.ref n) 0>>=_) _ _ s;refine aG (DM h P (x:=.ref l) C (aG (DM h P (x:=.int i 0) C (aG (yg r a ?_)))));simp only [IJ,j];refine aG (yf (aG (wpAny_setField h P (fO _ _) (aG (aG (rX (aG (m:=firstArgMember _ _) (iQ (a:=Value.none) (by first|rfl|(simp only [firstArgMember];rfl)) (rX (aG (wpAny_handled ?_)) (by size_fits)))) (by size_fits)))))))
 first|rw [show(A.under (.builtin "list_iterator.__next__" ⟨[.ref n],[]⟩)).handled=aa from B]|rw [B]|skip
 refine aG (bM (wpAny_throw ?_));refine S _ _ (((oG ..).extBut.push _).push _) ?_ ?_ (FF _ _ _ (eS _ C) C C C C)
 .exact cV (eG _ (eG _ (pR _ h (agJ (Sp P _)))))
 .exact Heap.get?_none_of_le (by simp only [lM];exact Ac (fq (oG ..).1.symm))
end
theorem aay(x:L.frames=D (G::f))(X:s.heap.FunFrames a (G::f))(g:G.frame=D j)(m:DU s.heap e B)(i:a.StaysIn s.heap)(F:a.get? e=aa)
  (h:∀O o,Heap.LeftW a (G::f) e B o s.heap O->Q () {s with heap:=O}):aQ b L (noteFrame (.ref e) G) (λE t=>aQ b L (setFlight (.ref e) aa) Q H t) H s:=by
 refine wj m λc z o T l P w n=>?_;subst l
 delta noteFrame
 rw [g];exact aG (DM T P w (wpAny_newEntryW x X g T i F P (Array.getElem?_eq_some_iff.mp w).1 n λO k=>h O o k))
structure gZ{O:Type}(c:Cx O)(fl:I aq):Prop where
 fr:∃outer,c.A.frames=D (c.V::outer)/\∀e∈outer,e.scope.kind≠.module/\∃L∈fl,e.frame=D L
 own:c.V.frame=D c.V.locals
 kd:c.V.scope.kind≠.module
 tab:∀L∈fl,L∈c.B.tabs
 dat:∀f h,c.B.inv f h->∀L∈fl,∃o,h.get? L=D o/\∀vs,o.data≠.fields vs
 sl:∀f h h',c.B.inv f h->(∀P∈c.B.tabs,∀o,h.get? P=D o->h'.get? P=D o\/(P∈fl/\∃sl,h'.get? P=D {o with slots:=sl}))->c.B.inv f h'
section
variable{fl:I aq}{h:cf}
theorem Fa(f:∀H∈fl,a.get? H=aa)(P:∀H∈fl,∃o,h.get? H=D o/\∀z,o.data≠.fields z):∀{l:I c3},(∀e∈l,e.scope.kind≠.module/\∃H∈fl,e.frame=D H)->h.FunFrames a l:=@λT=>T.rec
 (@λE=>dj)
 (@λG r n X=>by
  refine bT (X G gC) λk j=>?_;refine ai (j) λH p g=>?_
  exact ai (P H p) λo i x=>(dI k (l6 H o g (f H p) i x) (n λe m=>X e (fF _ m))))
end
section
variable{c:Cx Ob}{p1 p2 p3:ig}{il:I (aq×J)}
theorem Vg:∀z,bu F g z (z.map .bV):=λT=>T.rec
 (.nil)
 (λv r n=>.cons (.bV v) (n))
theorem Mw{h:cf}{a:aq}{G:I (aq×aq)}{x:J}(j:U G=U (il++[(su,pos)])+x)(e:x=0):∃t w,G=t++[w]/\U t=U il:=by
 subst e;have:G≠[]:=λq=>by simp only [q]at j;simp at j
 refine(gg G.dropLast _ ((List.dropLast_concat_getLast this).symm) ?_);apply ae (List.length_dropLast);rw [j];simp
theorem Mv(p:bK c.B c.Z c.w aH)(f:Fm c.V e t aN)(j:e[i]?=D x)(ak:k[i]?=D (.obj (.dJ (il++[(R,u)]))))(h:gm c.V)(S:aW c.B c.ρ o g c.V e t k m r s.heap)
  (z:∀n a G w aj,eE c.V m s.heap x (D (.ref a))->r i=iW a (G++[w])->(iW a (G++[w])).Nodup->U G=U il->(∀b∈iW a (G++[w]),(s.heap.get? b).isSome=Y)->s.heap.get? a=D (lo ((G++[w]).map λw=>.ref w.1) aj)->
   (∀(i:J)(w:aq×aq)(x:aq×J),G[i]?=D w->il[i]?=D x->s.heap.get? w.1=D (j8 w.2)/\s.heap.IsListIter w.2 x.1 x.2)->s.heap.get? w.1=D (j8 w.2)->s.heap.IsListIter w.2 R u->
   aQ (aI c.Z c.w) c.A (call (.ref w.1) []) Q H {s with toks:=n}):
  aQ (aI c.Z c.w) c.A (eval (.Call (.Subscript (.Name x aK) (.UnaryOp .USub (.Constant (.int 1) v p1) p2) p3) [] [] aF) c.V) Q H s:=by
 refine cps λa_ v=>?_;obtain⟨a,bf,X,l,B,O,P,ah,L,A⟩:=GQ p S j ak;refine d5 (Mw (h:=s.heap) (a:=a) P C) λG w d E=>?_;subst d;apply v;have q:=A (U il) w (R,u) (by rw [<-E];simp) (by simp);refine aG (ya (eO (eK h S.ns l ((Df (vq 1)).1 o g s _ _ ⟨h,m,r,S⟩ λn ao F=>?_)) (f.eY j)));obtain⟨aM,rfl⟩:=F.inv;have aC:({s with toks:=n}:aU).heap.IsList a ((G++[w]).map λw=>vK w.1).toArray:=(i12 _ L C ⟨X,C⟩);refine vI aC.typeIs PySem.F.slot_list_getitem.lookup (Lu (ρ:=c.ρ) (fz:=g) (τ:=.bV (.ref w.1)) L (Vg _) ?_ λao F=>?_) (xd λa b aP aT aY=>by contradiction)
 .show(if jQ (-1)then(seqIndex? (-1) _).bind _ else aa)=_;have au:seqIndex? (-1) (U (((G++[w]).map λw=>vK w.1).map T.bV))=D (U G):=by
   simp only [dg,dg,cA];exact Pg _
  apply ae (aL (by exact C));rw [au];simp
 .obtain rfl:=F.inv;exact Uv q.1 (z n a G w X l B O E ah L (λi aE x y j=>A i aE x (ae (nG (cG.mp y).1) y) (ae (nG (cG.mp j).1) j)) q.1 q.2)
theorem afg(j:bK c.B c.Z c.w gi)(aj:Fm c.V n k fB)(i t:J)(F:n[i]?=D X)(bR:s[i]?=D (.obj (.dJ (il++[(R,u)]))))(L:n[t]?=D P)(ah:t<k)(bW:tZ c n k s R bZ)(cu:bZ[u]?=D l)
  (c9:gY (.Call (.Subscript (.Name X ee) (.UnaryOp .USub (.Constant (.int 1) v p1) p2) p3) [] [] aF) (D (.Name P aM)) aP.line c.V=pure ay):
  ES c n k s (.Try [.Assign [.Name P aM] (.Call (.Subscript (.Name X ee) (.UnaryOp .USub (.Constant (.int 1) v p1) p2) p3) [] [] aF) aP,.Break eB] (eN::ao) [] [] gc) ((s.set i (.obj (.dJ (il++[(R,u+1)])))).set t (.t (.str l))) .brk:=by
 constructor;rintro eM aC A e6 fy aN⟨h,fj,cU,S⟩ck;refine SY (gN (kC (Mv j aj F bR h S λB a G w aH aK g H E aT aY a_ ak bf=>(cps λbh v=>(ai (bW _ _ _ _ _ S) λeR bl bx=>?_))) c9));obtain⟨fZ,bz,rfl,bC⟩:=bx;refine ai ((bC.qh (ρ:=c.ρ) (fz:=aC)).get (i:=u) (t:=.str l) (by simp [cu])) λbE bI bQ=>v (aaq ak bf (i12 _ bl C ⟨bz,C⟩) (by simpa using bI) λO m r=>?_);have x:=λ{b}f q=>by
  rw [o9,gk]at H;exact H.2.2 b f w.2 (.tail _ (.head _)) q
 have b_:w.1≠w.2:=λq=>by
  rw [o9,gk]at H;have:=H.2.1;rw [q]at this;simp at this
 have Q:∀{b},b≠w.2->∀o,A.heap.get? b=D o->O.get? b=D o:=λ{b}cB o cC=>ae (r.2 b cB) cC;have cF:oO 0 (il++[(R,u+1)]) (.ref a) O (cU i):=by
  refine⟨a,G++[w],aH,C,g,g▸H,by simp [E],λb f=>?_,Q (x gC) _ aY,λz cJ cM y p=>?_⟩
  .by_cases q:b=w.2
   .refine ai m λo T bh=>?_;rw [q,T];rfl
   .exact bH (gG.mp (aT b (g▸f))) λo T=>cV (Q q o T)
  .by_cases e:z<U G
   .rw [nG e]at y;rw [nG (E▸e)]at p;refine bT (a_ z cJ cM y p) λdG dN=>?_;refine ai (dN) λo T cX=>?_;have au:=F6 a y;exact⟨Q (x au.1) _ dG,o,Q (x au.2) _ T,cX⟩
   .rw [kU (iP e)]at y;rw [kU (E▸iP e),<-E]at p;obtain⟨d,ao⟩:∃d,z-U G=d:=⟨_,C⟩;rw [ao]at y p;cases d with
    |succ d=>simp at y
    |zero=>obtain rfl:=bj y;exact bj p▸(⟨Q b_ _ ak,m⟩)
 exact gh (s:={A with heap:=O,toks:=B}) (av:=.t (.str l)) h aN (Cq S F aK (by simp only [g,o9];simp) r (j.ob.symm▸cF)) L ah (aj.loc L ah) ⟨C,bE,C,bQ⟩ .nil λdU er ew aE=>gN (wpAny_Break (ck dU aC .brk (bP.trans (cH O B C) ew) (Le.refl _) ⟨h,er,_,aE⟩ dj))
end
theorem adf:isSubtype (.type "StopIteration") (.type "BaseException")=pure Y:=by exact C
theorem adh:isSubtype (.type ((Manifest.find? "StopIteration").elim "type" λx=>x.metatype)) (.type "tuple")=pure ay:=by
 exact C
theorem adg:isSubtype (.type "StopIteration") (.type "StopIteration")=pure Y:=by exact C
theorem Kc(T:s.heap.get? a=D (lo (z++[v]) u))(m:U z<=1000)(R:∀O k,gW a s.heap O->O.get? a=D (lo z k)->Q v {s with heap:=O}):
  aQ (aI h w) L (call (.builtin "list.pop") [.ref a]) Q H s:=by
 refine DK Sz (aR _ T C) PySem.F.entry_list_pop (PySem.F.args_list_pop_1 _) (PySem.MeetsSeq.list_pop_last a (z++[v]).toArray u v (by simp) (by simp only [rU];simp;exact aD m (az C))) ⟨T,?_⟩;obtain⟨k,e⟩:∃k,nJ (λn=>n.eraseIdxIfInBounds ((z++[v]).toArray.size-1)) (lo (z++[v]) u)=lo z k:=by
  delta nJ lo;dsimp only
  have e:(z++[v]).toArray.eraseIdxIfInBounds ((z++[v]).toArray.size-1)=z.toArray:=by
   simp [List.eraseIdx_append_of_length_le]
  exact(e)▸(⟨_,C⟩)
 exact R _ k (oG ..) (by apply ae (pR _ T (C));exact aA _ (e))
theorem bu.Qu:∀{p:I T}{z:I aB},bu F g z (p++[A])->∃o v,z=o++[v]/\bu F g o p/\Den F g v A
 |[],_,h=>h.jc.elim λv x=>(gx ([]) v x.1 (.nil) x.2)
 |y::p,_,h=>h.jA (P:=λz=>∃o v,z=o++[v]/\bu F g o (y::p)/\Den F g v A) λa G O B=>(bu.Qu B).elim λo x=>x.elim λv x=>(gx _ v (aA _ x.1) (.cons O x.2.1) x.2.2)
section
variable{c:Cx Ob}{st:I (I J)}
theorem YQ(p:bK c.B c.Z c.w cu)(ah:Fm c.V n t cC)(j:n[i]?=D aj)(ao:k[i]?=D (.obj (.wB il)))(aM:il.length<=900)(eo:gm c.V)(S:aW c.B c.ρ aT Q c.V n t k au cK s.heap)(aF:(aY.endLine==q9.line)=Y)
  (bx:∀O T,aW c.B c.ρ aT Q c.V n t (k.set i (.obj (.dJ il))) au T O->aN .next {s with heap:=O}):aQ (aI c.Z c.w) b_ (exec (.Expr (.Call (.Attribute (.Name aj cF) "pop" aY) [] [] q9) bQ) c.V) aN bW s:=by
 refine ai (Cp S j ao) λbZ u d=>?_;rw [p.ob]at d;refine cps λck aP=>?_;obtain⟨a,bR,x,rfl,g,H,R,l,L,ak⟩:=(d);refine d5 (Mw (h:=s.heap) (a:=a) (il:=il) (su:=0) (pos:=0) (by apply ae (R);simp) C) λG w aC E=>?_;subst aC;apply aP;rw [g]at H l;refine tT (lP C (oA _) aF Sx Sz ag1 (eO (eK eo S.ns u (dI (aR _ L C) (λbI aH=>by obtain rfl:=ku aH;exact(aR _ L C)) (kA (C) (Am ?_)))) (ah.eY j))) (by delta interactive;exact eo.kind.symm▸C) C;rw [eW]at L;refine Kc L (by simp only [dg,E];exact aD aM (az C)) λO aK B h=>?_;have A:=(cG.mp j).1;have v:=S.fp i A;have X:a∈cK i:=by rw [g];exact gC
 have sub:∀b∈iW a G,b∈cK i:=λb f=>by simp only [g,o9];exact gj _ f
 have r:=by rw [o9,gk]at H;exact H.1
 have m:∀{z:J}{w:aq×aq},G[z]?=D w->w.1≠a/\w.2≠a:=λ{z w}y=>by
  have:=(gM.mp r).1;exact⟨λq=>this (vB.mpr (aR w (cN y) (by simp [q]))),λq=>this (vB.mpr (aR w (cN y) (by simp [q])))⟩
 have aE:oO 0 il (.ref a) O (iW a G):=by
  refine⟨a,G,aK,C,C,r,E,λb f=>?_,h,λz bf bh y bl=>?_⟩
  .by_cases q:b=a
   .simp only [q,h];rfl
   .exact ae (aA _ (B.2 b q)) (l b (g▸sub b f))
  .refine bT (ak z bf bh (ae (nG (cG.mp y).1) y) bl) λa_ bz=>?_;refine ai (bz) λo bC bE=>?_;exact⟨ae (B.2 _ (m y).1) a_,o,ae (B.2 _ (m y).2) bC,bE⟩
 refine bx O _ (S.qB j (λb x cB o e=>ae (B.2 b λq=>x (q▸X)) e) (bD.iy S.inv λP F o e=>ae (B.2 P λq=>(S.tab P F).2.2.2.2 i A (q▸X)) e) (Le.refl _) (λb o e=>ae (B.2 b λq=>?_) (S.bJ b o e)) (λb o e=>.inl e) u ⟨.ref a,C,?_⟩ λb f=>⟨.inl (sub b f),(v b (sub b f)).2.1⟩)
 .exact aV (ae (aA _ q) ((v a X).2.1)) e
 .exact p.ob.symm▸aE
theorem Ve(p:bK c.B c.Z c.w e6)(F:Fm c.V n k fB)(z:n[X]?=D R)(aK:y[X]?=D (.own ((st++[A]).map .str)))(x:n[j]?=D q)(l:y[j]?=D (.obj (.k8 P)))(aj:X≠j)(ak:jN P A=D dN)(ao:U st<=900)(au:U P<=900)
  (w:gm c.V)(S:aW c.B c.ρ aN aP c.V n k y aT cX s.heap)(G:(bf.endLine==bh.line)=Y)
  (bx:∀O bR bQ,aW c.B c.ρ aN aP c.V n k ((y.set X (.own (st.map .str))).set j (.obj (.k8 (lW P A)))) aT bQ O->Q .next {s with heap:=O,toks:=bR}):
  aQ (aI c.Z c.w) gi (exec (.Delete [.Subscript (.Name q bZ) (.Call (.Attribute (.Name R eR) "pop" bf) [] [] bh) cM] dU) c.V) Q ee s:=by
 refine wpAny_Delete (wpAny_deleteEach_cons (wpAny_delete_Subscript (um (zd p S x l) λad ew d fZ ck cC cF=>(eO (eK w S.ns d ?_) (F.eY x)))));obtain⟨cJ,u,cU,c9,dG,rfl,L,e,t⟩:=S.vars X R _ z aK;simp only [eW]at e;refine cps λer aC=>?_;refine e5 e.Qu λeB eN aE o aF=>?_;subst aE;refine bH (jj aF) λgc ah=>?_;subst ah;apply aC;refine lP C (oA _) G Sx Sz ag1 (eO (eK w S.ns u (dI (aR _ L C) (λb_ aH=>by obtain rfl:=ku aH;exact(aR _ L C)) (kA (C) (Am (Kc L (by rw [o.length,dg];exact aD ao (az C)) λcu cB B aM=>?_))))) (F.eY z));have E:=S.CA z u t B aM o;refine um (zd p E x (by exact(lN aj)▸(l))) λr h a b a_ i g=>?_;have bl:r=ad:=by
  have:=a.det (d.keep λv bz aY eM bE=>ae (B.2 v λbI=>?_) bE)
  .injection this with this;injection this
  .subst bI;exact(S.fp X (cG.mp z).1 v (by rw [t];exact .head _)).2.2.2 j q x bz aY
 subst bl;have bC:(valueAt h (cj A)).isSome=Y:=by
  rcases g.get with⟨fj,fy,f,m⟩|⟨f,m⟩
  .exact cV f
  .exact aV m ak
 exact wpAny_delItem_slot i.typeIs (C) agX (call_meetsIn agX i.typeIs PySem.F.entry_dict_delitem (PySem.F.args_dict_delitem_2 _ _) (meets_dict_delitem_pairs (vJ c.Z c.w) r (k:=cj A) (tQ ..)) (FA h i (by exact(g.len)▸(rU)▸(aD au (az C))) bC (λH bW T=>(wpAny_deleteEach_nil (bx H _ _ (Cq E x a (a:=r) (by rw [b];exact .head _) T (p.ob.symm▸((⟨r,_,C,b,a_,bW,g.del⟩:AA c.Z c.w (lW P A) (.ref r) H _)))))))))
end
section
variable{s:aU}
structure Te(c:Cx Ob)(fz:Fz)(h h':cf)(ex:aq):Prop where
 kp:∀b,b≠ex->b∉c.B.tabs->b≠c.V.locals->∀o,h.get? b=D o->h'.get? b=D o
 live:∀b,b∉c.B.tabs->b≠c.V.locals->(h.get? b).isSome=Y->(h'.get? b).isSome=Y
 ns:∀m,h.Ns c.V.locals m->h'.Ns c.V.locals m
 inv:c.B.inv fz h'
theorem W6{v:cf}{e:aq}{aC:Flow->aU->Prop}(i:gZ c A)(aH:Fm c.V cu l bf)(d:J)(G:bf[d]?=D (("StopIteration":af),.globalImplicit))(aN:gm c.V)(S:aW c.B c.ρ fy aP c.V cu l e6 gU eB a)
  (k:n∉c.B.tabs/\n≠c.V.locals/\c.B.h₀.get? n=aa)(t:jX n a v)(bh:(v.get? n).isSome=Y)(m:a.get? e=aa)(cM:DU v e (.type "StopIteration"))
  (cX:∀B,Te c aP a B n->aQ (aI c.Z c.w) (c.A.mark (D (.ref e))) (execs (dN::dG) c.V) aC (notedBy (aI c.Z c.w) (c.A.mark (D (.ref e))) c.V (cameBackBy (aI c.Z c.w) c.A c.V y)) {s with heap:=B}):
  aQ (aI c.Z c.w) c.A (noteFrame (.ref e) c.V) (λQ a_=>aQ (aI c.Z c.w) c.A (setFlight (.ref e) aa) (λQ bx=>aQ (aI c.Z c.w) c.A (handleBy (.ref e) c.V (.ExceptHandler (D (.Name "StopIteration" gc)) aa (dN::dG) gi::au)) aC y bx) y a_) y {s with heap:=v}:=by
 refine ai i.fr λfj bR bW=>?_;have j:∀{b},(a.get? b).isSome=Y->b≠e:=λ{b}f q=>by rw [q,m]at f;exact cY C f
 have X:∀{b}{o},b≠n->a.get? b=D o->v.get? b=D o:=λu e=>t _ _ u e;have ao:=bD.iy S.inv λP x o e=>X (λq=>k.1 (q▸x)) e;have aT:∀H∈c.V.locals::A,∃o,v.get? H=D o/\∀aF,o.data≠.fields aF:=λH p=>by
  rcases cD.mp p with rfl|p
  .exact jl (S.ns.extBut t k.2.1.symm) λo fZ ee h bz Q=>(aR o h (λaF q=>by rw [bz]at q;contradiction))
  .exact i.dat _ _ ao H p
 have aK:∀{b},b∈e::c.V.locals::A->(rest v (e::c.V.locals::A)).get? b=aa:=(tP _);have bC:=
  Fa (λH p=>aK (fF _ p)) aT λbE m=>by
   rcases cD.mp m with rfl|m
   .exact⟨i.kd,_,gC,i.own⟩
   .refine bT (bW bE m) λl bI=>?_;refine ai (bI) λH p g=>?_;exact⟨l,H,fF _ p,g⟩
 refine aay bR bC i.own cM (u3 _) (aK gC) λR ic p=>sH p λah bQ aj ak=>Vv (aj) λbZ er T ew eM aY b_ Q=>wpAny_handleBy_builtin adf adh adg (bT (c.bi 17 "StopIteration" (.type "StopIteration") C) λbl ck=>?_);have L:∀{b o},b∉c.B.tabs->b≠c.V.locals->b≠e->v.get? b=D o->(rest v (e::c.V.locals::A)).get? b=D o:=λ{b o}cB cC cF h=>n8 h λq=>by
  rcases cD.mp q with q|q
  .exact cF q
  .rcases cD.mp q with q|q
   .exact cC q
   .exact cB (i.tab _ q)
 have cJ:bF c.B.h₀ R:=λb o q=>by
  have f:=S.f_ b o q;have h:=S.base b o q;exact ah b o (L (S.jb f) (λr=>aV (ae (aA _ r) S.nL.1) f) (j (cV h)) (X (λr=>aV (ae (aA _ r) k.2.2) q) h))
 refine nY (s:={s with heap:=R}) c.G aN cJ (aH.kn d G nofun) bl ck (aH.kg d G) (dI C (aR bZ aY b_.1) ?_);refine wpAny_setFlight_noneW ah bQ aj.at λB E eN eR aE=>cX B ⟨λb u O w o h=>?_,λb O w f=>?_,λfB c9=>?_,?_⟩
 .exact E b o (L O w (j (cV h)) (X u h))
 .have cU:∃o,v.get? b=D o:=by
   by_cases q:b=n
   .exact q▸(gG.mp bh)
   .exact bH (gG.mp f) λo h=>⟨o,X q h⟩
  exact bH cU λo h=>cV (E b o (L O w (j f) h))
 .exact(Heap.UpToSlots.trans ak λb o h z=>⟨o.slots,aE b o h z⟩:v.UpToSlots B).ns (c9.extBut t k.2.1.symm)
 .refine i.sl _ a B S.inv λP x o h=>?_;have F:=X (λq=>k.1 (q▸x)) h
  by_cases g:P∈A
  .right
   refine ai (i.dat _ _ ao P g) λgV aM z=>?_;rw [F]at aM;obtain rfl:=bj aM;exact bH (ak P o F z) λdU au=>⟨g,dU,aE P _ au z⟩
  .left
   refine E P o (n8 F λq=>?_);rcases cD.mp q with q|q
   .exact j (cV h) q
   .rcases cD.mp q with q|q
    .exact((S.tab P x).2.2.1) q
    .exact g q
end
section
variable{st:I (I J)}
theorem afe(p:bK c.B c.Z c.w zT)(bC:gZ c xE)(F:Fm c.V n u ck)(i X j L:J)(x:n[i]?=D d)(b_:y[i]?=D (.obj (.dJ (Q++[(dN,dU)]))))(er:n[X]?=D ew)(eB:y[X]?=D (.own ((st++[ah]).map .str)))(fB:n[j]?=D gi)(aE:y[j]?=D (.obj (.k8 P)))
  (l:i≠X/\i≠j/\X≠j)(bx:ck[L]?=D (("StopIteration":af),.globalImplicit))(bE:tZ c n u y dN bI)(bQ:bI[dU]?=aa)(bZ:jN P ah=D xF)(cC:U st<=900)(dG:U P<=900)(ee:Q.length<=900)(bf:(fy.endLine==gc.line)=Y)(gV:(eM.endLine==jr.line)=Y)
  (kT:gY (.Call (.Subscript (.Name d pP) (.UnaryOp .USub (.Constant (.int 1) k aH) aK) aM) [] [] aN) (D (.Name aP aT)) aY.line c.V=pure ay):
  ES c n u y (.Try [.Assign [.Name aP aT] (.Call (.Subscript (.Name d pP) (.UnaryOp .USub (.Constant (.int 1) k aH) aK) aM) [] [] aN) aY,.Break Dj]
   (.ExceptHandler (D (.Name "StopIteration" rM)) aa [.Delete [.Subscript (.Name gi rL) (.Call (.Attribute (.Name ew zR) "pop" fy) [] [] gc) zU] rN,.Expr (.Call (.Attribute (.Name d xG) "pop" eM) [] [] jr) xJ] xK::xM) [] [] xN)
   ((((y.set i (.obj (.wB Q))).set X (.own (st.map .str))).set j (.obj (.k8 (lW P ah)))).set i (.obj (.dJ Q))) .next:=by
 constructor;rintro bl t s xB xC xD⟨w,m,r,S⟩bR;refine SY (gN (kC (Mv p F x b_ w S λbW a G e cu cB g H ao cF cJ cM cU cX=>(cps λ_ k=>(ai (bE _ _ _ _ _ S) λzS aF c9=>?_))) kT));obtain⟨Di,a_,rfl,bh⟩:=c9;apply k;have A:=(cG.mp x).1;have h:=S.fp i A;have v:e.2∈r i:=by simp only [g,o9];simp
 have z:∀{b},b∈r i->b∉c.B.tabs:=λf q=>(S.tab _ q).2.2.2.2 i A f;refine aan c.R.handled cU cX (i12 _ aF C ⟨a_,C⟩) (by simpa [(by have:=(bh.qh (ρ:=c.ρ) (fz:=t)).length;simpa using this)]using bQ) λxH R eN eR e6 fj=>W6 bC F L bx w S (dI (z v) ((h _ v).2.2.1) ?_) eN eR e6 fj λB K=>?_
 .cases q:c.B.h₀.get? e.2 with
  |none=>rfl
  |some o=>have:=S.f_ _ o q;exact aV ((h _ v).1) this
 have fZ:∀{b},b∈iW a G->b≠e.2:=λ{b}f q=>by
  rw [o9,gk]at H;exact H.2.2 b f e.2 (.tail _ (.head _)) q
 have sub:∀{b},b∈iW a G->b∈r i:=λf=>by simp only [g,o9];exact gj _ f
 have O:∀{b o},b∈iW a G->s.heap.get? b=D o->B.get? b=D o:=λf T=>K.kp _ (fZ f) (z (sub f)) (h _ (sub f)).2.2.1 _ T;have gU:oO 1 Q (.ref a) B (r i):=by
  refine⟨a,G++[e],cu,C,g,g▸H,by simp [ao],λb f=>?_,O gC cJ,λak ic jf E aj=>?_⟩
  .exact K.live b (z f) (h b f).2.2.1 (cF b (g▸f))
  .have jt:ak<U G:=ao▸(cG.mp aj).1;rw [nG jt]at E;refine bT (cM ak ic jf E aj) λko kR=>?_;refine ai (kR) λo T kS=>?_;have au:=F6 a E;exact⟨O au.1 ko,o,O au.2 T,kS⟩
 have jq:aW c.B c.ρ bl t c.V n u (y.set i (.obj (.wB Q))) m (bU r i (r i)) B:=by
  refine S.xj x (λb lK mz mC o T=>K.kp b (λq=>lK (q▸v)) mz mC o T) (K.ns m S.ns) K.inv (Le.refl _) (λb o T=>K.kp b (λq=>?_) (S.nu T) (λq=>?_) o (S.bJ b o T)) (λb o R=>.inl R) cB ⟨.ref a,C,?_⟩ λb f=>⟨.inl f,(h b f).2.1⟩
  .exact aV (ae (aA _ q) ((h _ v).2.1)) T
  .exact aV (ae (aA _ q) S.nL.2) T
  .exact p.ob.symm▸gU
 refine gN (Ve (s:={s with heap:=B,toks:=bW}) p F er (by exact ae (lN l.1) eB) fB (by exact ae (lN l.2.1) aE) l.2.2 bZ cC dG w jq bf λlJ aC zV nF=>(gN (YQ (il:=Q) (s:={s with heap:=lJ,toks:=aC}) p F x ?_ ee w nF gV λpQ Dk bz=>?_)))
 .apply ae (lN l.2.1.symm);rw [lN l.1.symm,jw (by rw [S.len];exact A)]
 .exact rW (bR _ t .next (cH pQ aC C) (Le.refl _) ⟨w,m,_,bz⟩ dj)
end
abbrev Gr:=I J->I (I J)
abbrev Rs:=I (I J×J)
abbrev Kv:=I (I J×aS)
noncomputable def l_(f:Gr):Rs->Kv->bg (bg (I J)×Rs×Kv)
 |[],P=>D (aa,[],P)
 |(A,p)::r,P=>match(f A)[p]? with
  |D l=>D (D l,(A,p+1)::r,P)
  |aa=>if(jN P A).isSome then l_ f r (lW P A)else aa
noncomputable def n_(f:Gr):J->I J->Rs->Kv->I (I J)->bg (I (I J)⊕(I (I J)×Kv))
 |0,_,_,_,_=>aa
 |u+1,Q,r,P,seen=>
  if Q∈seen then match jN P Q with
   |D E=>D (.inl (cut (D E) aa ((r.map (·.1)).reverse)++[Q]))
   |aa=>match l_ f r P with
    |D (D l,s,k)=>n_ f u l s k seen
    |D (aa,_,k)=>D (.inr (seen,k))
    |aa=>aa
  else if r.length<=800/\P.length<=800/\seen.length<=800 then match l_ f ((Q,0)::r) (oX P Q r.length)with
    |D (D l,s,k)=>n_ f u l s k (seen++[Q])
    |D (aa,_,k)=>D (.inr (seen++[Q],k))
    |aa=>aa
   else aa
noncomputable def qV(f:Gr)(T:J):I (I J)->I (I J)->Kv->bg (bg (I (I J)))
 |[],_,_=>D aa
 |u::G,seen,P=>if u∈seen then qV f T G seen P else match n_ f T u [] P seen with
  |D (.inl c)=>D (D c)
  |D (.inr (e,k))=>qV f T G e k
  |aa=>aa
section
variable{g:Gr}{t nd:I J}{p:J}{r:Rs}{kv:Kv}{seen:I (I J)}
theorem Cv:l_ g ((t,p)::r) kv=(match(g t)[p]? with|D l=>D (D l,(t,p+1)::r,kv)|aa=>if(jN kv t).isSome then l_ g r (lW kv t)else aa):=C
theorem G6:n_ g (u+1) nd r kv seen=(if nd∈seen then match jN kv nd with
   |D E=>D (.inl (cut (D E) aa ((r.map (·.1)).reverse)++[nd]))
   |aa=>match l_ g r kv with
    |D (D l,s,k)=>n_ g u l s k seen
    |D (aa,_,k)=>D (.inr (seen,k))
    |aa=>aa
  else if U r<=800/\U kv<=800/\U seen<=800 then match l_ g ((nd,0)::r) (oX kv nd (U r))with
    |D (D l,s,k)=>n_ g u l s k (seen++[nd])
    |D (aa,_,k)=>D (.inr (seen++[nd],k))
    |aa=>aa
   else aa):=C
theorem Lm:qV g u (nd::G) seen kv=(if nd∈seen then qV g u G seen kv else match n_ g u nd [] kv seen with
  |D (.inl c)=>D (D c)
  |D (.inr (e,k))=>qV g u G e k
  |aa=>aa):=C
end
noncomputable def B_:I (af×fc):=[("self",.local),("n2i",.local),("stack",.local),("itstack",.local),("seen",.local),("node2stacki",.local),("node",.local),("set",.globalImplicit),("iter",.globalImplicit),("len",.globalImplicit),("StopIteration",.globalImplicit)]
noncomputable def fx:I af:=["self","n2i","stack","itstack","seen","node2stacki","node"]
abbrev Bq:bg cz:=qd 5 (dD (fL 19 8))
abbrev sI:bg cz:=qd 1 (iw Bq)
abbrev Br:bg cz:=qd 1 (lD sI)
def whO(s:bg cz):I cz:=(nq s).2.2.2.1
noncomputable def Hw(G:SG)(l:I J):aq:=match G.bS.find? (λQ=>aO (Q.key=l))with|D Q=>Q.su|aa=>0
def sM(G:SG)(r:Rs):I (aq×J):=(r.map λx=>(Hw G x.1,x.2)).reverse
def m6(G:SG)(r:Rs)(P:Kv)(seen:I (I J))(y:I J):I (AV Ob):=
 [.obj (.bY 2 G),.t (.bV (.ref G.aZ)),.own (((r.map (·.1)).reverse).map .str),.obj (.dJ (sM G r)),.obj (.set seen),.obj (.k8 P),.t (.str y)]
theorem PZ{Q:Nd}{t:J}(B:G.kn)(O:G.bS[t]?=D Q):Hw G Q.key=Q.su:=by
 refine d5 (qA O) λL X e E=>?_
 delta SG.kn at B
 simp only [e,eW]at B;refine gv (gk.mp B) λE F m=>?_
 delta Hw
 rw [e,IP];have:L.find? (λa=>aO (a.key=Q.key))=aa:=by
  rw [Du];intro u z;simp only [oK];exact(m u.key (fM z) Q.key (.head _))
 rw [this];simp
structure Fast(B:bD Ob)(Z:cy)(w:bX)(cl:Cl)(G:SG):Prop where
 sm:(G.aZ==sysModules)=ay
 kn:G.kn
 st:sx (rq Z w cl 2 G) B.h₀
section
variable{c:Cx Ob}
theorem Fast.map(K:Fast c.B c.Z c.w O G):c.B.h₀.DictOf (vJ c.Z c.w) G.aZ (c_ G):=ai (K.st (G.aZ,j_ c.Z c.w G) (by simp [rq,g9])) λo T p=>p _ _ T
theorem Fast.list(K:Fast c.B c.Z c.w O G)(z:Q∈G.bS):tZ c n k y Q.su Q.succ:=Pb λh B=>ai (K.st (Q.su,fQ Q.succ) (by simp only [rq,g9,fE,cD,dZ];exact .inr (.inr (aR Q z C)))) λo T p=>(aR o (B _ _ T) p)
theorem Fast.info(K:Fast c.B c.Z c.w O G)(z:Q∈G.bS):sq c n k y (vV O Q):=Pb λe B=>by
 have R:∀E∈j5 O.N Q,E∈rq c.Z c.w O 2 G:=λE g=>gj _ (vB.mpr (aR Q z g));exact ai (K.st (Q.i,qx O.N Q) (R _ (.head _))) λi F t=>ai (K.st (Q.id,λh=>True) (R _ (.tail _ (.head _)))) λr X h=>⟨(aR i (B _ _ F) t),r,B _ _ X⟩
theorem afk{st:cz}{rest:I cz}(w:ES c n k y st P .brk)(q:P=X):EX c n k y (st::rest) X .brk:=q▸vt w
theorem OR(e:bK c.B c.Z c.w a)(j:gZ c m)(F:Fm c.V fx (U fx) B_)(K:Fast c.B c.Z c.w a G){seen:I _}:∀(r:Rs)(P:Kv)(y:I J){o:bg _}{s:Rs}{k:Kv},l_ (dR G.al) r P=D (o,s,k)->(∀x∈r,∃Q∈G.bS,Q.key=x.1)->U r<=801->U P<=801->
  EW c fx (U fx) (lE Br) (lD Br) (whO Br) (U r) (m6 G r P seen y) (m6 G s k seen (o.getD y)) (match o with|D _=>.next|aa=>.brk):=λT=>T.rec
 (λP y o s k h E E E=>by
  cases h
  exact rK (C' F 2 C C (CJ (gF _) C)) (vt HU))
 (λ(A,p)r n P y o s k h R w v=>by
  refine ai (R (A,p) gC) λQ z l=>?_;subst l;refine bH (pS z) λu O=>?_;have B:=CX K.kn O;have i:=PZ K.kn O;have cond:EC c fx (U fx) _ (lE Br) (m6 G ((Q.key,p)::r) P seen y) Y:=C' F 2 C C (CJ (by simp;exact cS 0 (.v 0) (.n 999999) (.a (.v 0) (.n 1)) (.n 801) C [_] w) (by simp));have h:=ae Cv.symm h;rw [B]at h;have b:sM G ((Q.key,p)::r)=sM G r++[(Q.su,p)]:=by simp [sM,i]
  have L:(((Q.key,p)::r).map (·.1)).reverse=(r.map (·.1)).reverse++[Q.key]:=by simp
  cases t:Q.succ[p]? with
  |some H=>
   simp only [t]at h;cases h;refine Dg cond (afk (afg e F 3 6 C (by rw [<-b];rfl) C (fG _) (K.list z) t C) ?_);simp [m6,sM,i]
  |none=>
   rw [t]at h;dsimp only at h
   split at h
   .rename_i q;refine bH (gG.mp q) λd g=>ow cond (fb (afe (st:=(r.map (·.1)).reverse) e j F 3 2 5 10 C (by rw [<-b];rfl) C (L▸C) C C (by decide) C (K.list z) t g (by simp;exact cS 0 (.v 0) (.n 900) (.a (.v 0) (.n 1)) (.n 801) C [_] w) (aD v (az C)) (by simp [sM];exact cS 0 (.v 0) (.n 900) (.a (.v 0) (.n 1)) (.n 801) C [_] w) C C C) ?_)
     (n _ y h (λx f=>R x (fF _ f)) (e7 ‹_›) (aD (kq _ _) v))
    exact C
   .exact aV C h)
end
theorem QW(F:Fm c.V n k G)(i t:J)(O:G[t]?=D (("len":af),.globalImplicit))(j:n[i]?=D x)(X:y[i]?=D (.own l))(B:ej l.length=Y):EE c n k y (.Call (.Name "len" p) [.Name x E] [] ah) y (.int (U l)):=by
 constructor;rintro au v s Q P⟨w,m,L,S⟩R;refine bT (c.bi 0 "len" (.builtin "len") C) λq g=>um (S.lend j X) λak ao u e H dl z=>kD (nY c.G w S.base (F.kn t O nofun) q g (F.kg t O) (kA (C) (tO (pW (eO (eK w S.ns u (lO (OP dl B s _ _ e λa A T f d=>bH (qf d) λaj b=>?_))) (F.eY j))))));subst b;exact ai (z _ _ f) λr o h=>R a r _ f.same o ⟨w,m,L,h⟩ (.int _ _)
theorem afj(h:EC c n k y e P Y)(v:EX c n k P t X (.ret r)):EW c n k e t z u y X (.ret r):=.ret h.1 v.1
theorem QM(w:EA c n k y h A P)(v:EX c n k P t X (.ret r)):jH c n k h t (A::p) y X (.ret r):=.ret w.1 v.1
theorem aeP(w:EA c n k y h e P)(v:EX c n k P t X .cont)(R:jH c n k h t p X O A):jH c n k h t (e::p) y O A:=.go w.1 v.1 (.inr C) R
def GO(u:J)(l:I cz):cz:=(fV u l).getD (.Pass default)
theorem U6(L:R->z)(lo A:bg aS)(l:I R):cut lo A (l.map L)=(cut lo A l).map L:=by
 delta cut
 simp [List.map_drop]
def o7(G:SG)(l:I J):Prop:=∃Q∈G.bS,Q.key=l
def vQ(G:SG):Prop:=∀Q∈G.bS,∀s∈Q.succ,o7 G s
theorem wV(m:G.kn)(a:vQ G):∀(r:Rs)(P:Kv){o:bg _}{s:Rs}{k:Kv},l_ (dR G.al) r P=D (o,s,k)->(∀x∈r,o7 G x.1)->(∀l,o=D l->o7 G l)/\(o=aa->s=[])/\(∀x∈s,o7 G x.1)/\U s<=U r/\U k<=U P:=λT=>T.rec
 (λP o s k h R=>by cases h;exact(lj nofun (λE=>C) nofun (dm _) (dm _)))
 (λ(A,p)r n P o s k h R=>by
  refine ai (R (A,p) gC) λQ z e=>?_;subst e;refine bH (pS z) λq O=>?_;have h:=ae Cv.symm h;rw [CX m O]at h;cases t:Q.succ[p]? with
  |some l=>
   simp only [t]at h;cases h;refine(lj (λH e=>bj e▸(a Q z _ (cN t))) nofun (λx j=>?_) (dm _) (dm _));rcases cD.mp j with rfl|j
   .exact(aR Q z C)
   .exact R x (fF _ j)
  |none=>
   rw [t]at h;dsimp only at h
   split at h
   .exact ug (n _ h λx j=>R x (fF _ j)) λi b d e L=>(lj i b d (Ac e) (aD L (kq _ _)))
   .exact aV C (h))
theorem EM(P:Kv)(l:I J)(E:aS):U (oX P l E)<=U P+1:=by delta oX;split<;>simp
def endsF(G:SG):I (I J)⊕(I (I J)×Kv)->I (AV Ob)->fP->Prop
 |.inl b,y,A=>A=.ret (.list (b.map .str))/\y[0]?=D (.obj (.bY 2 G))
 |.inr (s,P),y,A=>A=.next/\∃Q,y=m6 G [] P s Q
set_option tactic.hygienic true in
theorem O8(p:bK c.B c.Z c.w aC)(v:gZ c aM)(F:Fm c.V fx (U fx) B_)(K:Fast c.B c.Z c.w aC G)(m:vQ G):∀(n:J)(y:I J)(r:Rs)(P:Kv)(seen:I _){o:I _⊕(I _×Kv)},n_ (dR G.al) n y r P seen=D o->o7 G y->(∀b∈r,o7 G b.1)->U r<=801->U P<=801->
  ∃x u,EW c fx (U fx) (lE sI) (lD sI) [] n (m6 G r P seen y) x u/\endsF G o x u:=λah=>ah.rec
 (λE E E E E h E E E E=>aV C (h))
 (λn aj y r P seen o h aE R w z=>by
  have cond:EC c fx (U fx) (m6 G r P seen y) (lE sI) _ Y:=lG (zb Y) C λE=>C;have i:EC c fx (U fx) _ (uE (fV 0 (lD sI))) (m6 G r P seen y) _:=QV p F 4 (zv F 6 C C) C C;have T:∀(e:Rs)(q:Kv)(f:I (I J)),ES c fx (U fx) (m6 G r P seen y) (GO 0 (lD sI)) (m6 G e q f y) .next->(∀b∈e,o7 G b.1)->U e<=801->U q<=801->
    (match l_ (dR G.al) e q with|D (D l,s,k)=>n_ (dR G.al) n l s k f|D (aa,_,k)=>D (.inr (f,k))|aa=>aa)=D o->
    ∃x u,EW c fx (U fx) (lE sI) (lD sI) [] (n+1) (m6 G r P seen y) x u/\endsF G o x u:=by
   intro e q f d S A L h
   split at h
   .rename_i l s k t;exact ug (wV K.kn m e q t S) λa E aF aT aN=>d5 (aj l s k f h (a l C) aF (aD ‹_› ‹_›) (aD ‹_› ‹_›)) λx u ak ao=>(gg x u (ow cond (zx d (zx (lI (OR p v F K e q y t S A L)) fY)) ak) ao)
   .rename_i k t;cases h;refine gv (wV K.kn m e q t S) λE au E=>?_;cases au C;exact(gx _ _ (Dg cond (zx d (vt (lI (OR p v F K e q y t S A L))))) C ⟨y,C⟩)
   .exact aV C (h)
  have h:=ae G6.symm h
  by_cases B:y∈seen
  .rw [aL B]at h;simp only [cL B]at i;cases g:jN P y with
   |some aK=>
    simp only [g]at h;cases h;refine(gg _ _ (afj cond (h_ (dP i (h_ (dP (jo (QU p F 5 (zv F 6 C C) C C) (cV g)) (h_ (je (fh (kQ (zQ F 2 C C) (iM (aeN p F 5 C C (H9 F 6 C C) g C)) rJ (w6 (by simp;exact aD w (az C)) C)) (oq (zr (zv F 6 C C) cT C) C) (G7 ?_))))))))) ?_)
    .simp [cut];exact cS 0 (.v 0) (.a (.n 999999) (.v 1)) (.v 0) (.n 801) C [_,_] w
    .refine⟨?_,C⟩;simp only [U6,eW];rfl
   |none=>
    rw [g]at h;exact T r P seen (dP i (zx (dP (b:=ay) (jo (QU p F 5 (zv F 6 C C) C C) (aA _ g)) fY) fY)) R w z h
  .rw [aJ B]at h;simp only [ef B]at i
   split at h
   .rename_i X;refine ai aE λQ H aH=>?_;subst aH
    refine bH (pS H) λaP O=>T ((Q.key,0)::r) (oX P Q.key (U r)) (seen++[Q.key]) (dP i (zx (afa p F 4 C C (zv F 6 C C) C C C (aD X.2.2 (az C)))
     (zx (aeY p F 3 8 C C C (vn p (K.info H) (HX (Hf p (i:=0) C C K.map) (zv F 1 C C) (zv F 6 C C) O C) .su C) (K.list H) C C C (by simp [sM];exact aD w (az C)))
      (zx (aeO (z:=U r) p F 5 C (gJ (QW F 2 9 C C C (eU (by simp;exact aD w (az C)))) (by simp)) C (H9 F 6 C C) (aD z (az C)) C)
       (fb (vm F 2 C C (zv F 6 C C) C C C (eU (by simp;exact aD w (az C)))) ?_))))) (λb j=>?_) (by simp;exact X.1) (by have:=EM P Q.key (U r);exact d_ 0 (.v 1) (.n 801) (.v 0) (.n 800) (.v 1) (.a (.v 0) (.n 1)) C [_,_] X.2.1 this) h
    .simp [m6,sM,(PZ K.kn O)]
    .rcases cD.mp j with rfl|j
     .exact(aR Q H C)
     .exact R b j
   .exact aV C (h))
section
variable{B:bD O}
structure Turn(B:bD O)(tl:I aq):Prop where
 tab:∀L∈tl,L∈B.tabs
 dat:∀f h,B.inv f h->∀L∈tl,∃o,h.get? L=D o/\∀vs,o.data≠.fields vs
 sl:∀f h h',B.inv f h->(∀P∈B.tabs,∀o,h.get? P=D o->h'.get? P=D o\/(P∈tl/\∃sl,h'.get? P=D {o with slots:=sl}))->B.inv f h'
def Slots(A:I aq)(h O:cf):Prop:=∀H∈A,∃o L,h.get? H=D o/\O.get? H=D {o with slots:=L}
noncomputable def bD.fr(B:bD O)(A:I aq)(i:cf):bD O:=
 {B with
  tabs:=B.tabs++A
  inv:=λL a=>B.inv L a/\Slots A i a
  live:=λ{L v}k P s=>by
   rcases fE.mp s with s|s
   .exact B.live k.1 P s
   .exact d5 (k.2 P s) λo h E e=>cV e
  uJ:=λ{L u v x}k l q=>⟨B.uJ k.1 l λP s=>q P (gj _ s),λH p=>d5 (k.2 H p) λo h e R=>gg o h e (q H (i6 _ p) _ R)⟩}
theorem Slots.refl(X:∀H∈A,∃o,h.get? H=D o/\∀z,o.data≠.fields z):Slots A h h:=λH p=>ai (X H p) λo T E=>(gg o o.slots T T)
theorem Turn.fr(T:Turn B G)(h:∀H∈A,H∉B.tabs)(X:∀H∈A,∃o,b.get? H=D o/\∀n,o.data≠.fields n):Turn (B.fr A b) (A++G)where
 tab:=λH p=>by
  rcases fE.mp p with p|p
  .exact i6 _ p
  .exact gj _ (T.tab H p)
 dat:=λL v k H p=>by
  rcases fE.mp p with p|p
  .refine d5 (k.2 H p) λo sl e R=>ai (X H p) λt l z=>?_;rw [e]at l;obtain rfl:=bj l;exact(aR _ R z)
  .exact T.dat L v k.1 H p
 sl:=λL v a k q=>⟨T.sl L v a k.1 λP s o j=>by
   rcases q P (gj _ s) o j with e|⟨m,e⟩
   .exact .inl e
   .rcases fE.mp m with m|m
    .exact bA s (h P m)
    .exact .inr ⟨m,e⟩,
  λH p=>by
   refine d5 (k.2 H p) λo sl e R=>?_;rcases q H (i6 _ p) _ R with x|⟨_,i,x⟩
   .exact(gg o sl e x)
   .exact(gg o i e x)⟩
theorem Turn.up(T:Turn B G)(h:bF B.h₀ f):Turn (B.up f h) G:=⟨T.tab,T.dat,T.sl⟩
theorem gZ.turn(i:gZ c G):Turn c.B G:=⟨i.tab,i.dat,i.sl⟩
structure DV(B:bD O)(fz:Fz)(h:cf)(fp:I aq)(A:cZ)(fl tl:I aq):Prop where
 fr:∃outer,A.frames=D outer/\∀e∈outer,e.scope.kind≠.module/\∃L∈fl++tl,e.frame=D L
 ok:∀L∈fl,fz L=aa/\B.h₀.get? L=aa/\L∉B.tabs/\L∉fp
 dat:∀L∈fl,∃o,h.get? L=D o/\∀vs,o.data≠.fields vs
 turn:Turn B tl
inductive Tz(g h:cf)(e:aq)(cls a0:aB):Prop
 |mk(Tb:aq)(oT:bL)(ts:iR aB)(c5:g.get? Tb=aa)(c6:Tb≠e)(c7:h.get? Tb=D oT)(c8:oT.data=.fields ts)(mv:∀g':cf,g'.get? Tb=aa->h.TracedW g' e cls a0)
theorem Qk{f h:cf}{e:aq}{B o:aB}(A:h.TracedW f e B o):Tz f h e B o:=by
 refine cps λE v=>?_;refine Vw (A) λc z S x p y g b s t R a k l=>?_;exact v (⟨S,x,p,t,R,a,k,λi q=>⟨c,z,S,x,p,y,g,b,s,q,R,a,k,l⟩⟩)
def S7(F:Mk)(g:Fz)(h O:cf)(B:aB)(c:I aq):bg T->pX->Prop
 |D A,r=>∃v,r=.ok (.ret v)/\Den F g v A
 |aa,r=>∃e o f,r=.error (.ref e)/\f.get? e=aa/\O.TracedW f e B o/\(∀b,(h.get? b).isSome=Y->(f.get? b).isSome=Y)/\(∀b∈c,(f.get? b).isSome=Y)/\Le g f.get?
def mO(B:bD O)(m:cy)(w:bX)(u:J)(h:aB)(e:O)(a:I T)(l:aB)(n:O->bg T->Prop):Prop:=
 ∀(L:cZ)(F:Mk)(g:Fz)(y:aB)(z:I aB)(i:pX->aU->Prop)(s:aU)(R A G:I aq),DV B g s.heap R L A G->dW L u->Ready B g s->B.ob.at_ e y s.heap R->(∀b∈R,g b=aa/\B.h₀.get? b=aa/\b∉B.tabs)->bu F g z a->
  (∀t j c X r o,n X r->bP s t->Le g j->(∀b,b∉R->b∉B.tabs->b∉A->∀x,s.heap.get? b=D x->t.heap.get? b=D x)->Slots A s.heap t.heap->B.inv j t.heap->Le j t.heap.get?->(∀b x,j b=D x->g b=D x\/s.heap.get? b=aa\/b∈R)->
   B.ob.at_ X y t.heap c->(∀b∈c,(b∈R\/s.heap.get? b=aa)/\j b=aa)->S7 F j s.heap t.heap l c r o->i o t)->codeAny (aI m w) L (.call h ⟨y::z,[]⟩) i s
def ym(s:I aq)(L:cZ):Prop:=∃f,L.frames=D f/\∀e∈f,e.scope.kind≠.module/\∃H∈s,e.frame=D H
theorem Ready.fr(r:Ready B g h)(K:DV B g h.heap R L A G):Ready (B.fr A h.heap) g h where
 bJ:=r.bJ
 base:=r.base
 inv:=⟨r.inv,Slots.refl K.dat⟩
 jb:=λP s=>by
  rcases fE.mp s with s|s
  .exact r.jb P s
  .exact(K.ok P s).2.1
 nu:=λP s=>by
  rcases fE.mp s with s|s
  .exact r.nu P s
  .exact(K.ok P s).1
theorem J'(h:∀A G h,Turn (B.fr A h) (A++G)->Ax (ym (A++G)) (B.fr A h) j w u L o ak λX r=>n X (D r)):mO B j w u L o ak aK n:=by
 intro e F g y z i s R A G K l O a E x k;refine h A G s.heap (K.turn.fr (λH p=>(K.ok H p).2.2.1) K.dat) e F g y z i s R K.fr l (O.fr K) a (λb f=>(dI ((E b f).1) ((E b f).2.1) (λq=>?_))) x λt v d c X r P T ah Q S ao au aj aE aC=>?_
 .rcases fE.mp q with q|q
  .exact(E b f).2.2 q
  .exact(K.ok b q).2.2.2 f
 .exact k t v c X _ _ P T ah (λb aF aH m=>Q b aF λq=>(fE.mp q).elim aH m) S.2 S.1 ao au aj aE (aR d C aC)
theorem fe.fr(G:fe B mg A):fe (B.fr e h) mg A:=⟨G.g,G.b,G.nolimit⟩
theorem j2.fr(k:j2 B a u S t n):j2 (B.fr A h) a u S t n:=⟨k.ho,k.hd,k.yJ,k.BA,k.BB,k.l5,k.hg,k.hb⟩
end
theorem bK.fr(p:bK X m w c):bK (X.fr A h) m w c:=⟨p.ob,p.iI,p.ok⟩
noncomputable def M6(G:SG)(P:Kv)(seen:I (I J))(v:AV Ob):I (AV Ob):=[.obj (.bY 2 G),.t (.bV (.ref G.aZ)),.own [],.obj (.dJ []),.obj (.set seen),.obj (.k8 P),v]
def VS(G:SG):bg (I (I J))->fP->Prop
 |D b,A=>A=.ret (.list (b.map .str))
 |aa,A=>A=.next
set_option tactic.hygienic true in
theorem Y9(m:G.kn)(e:vQ G):∀(n:J)(y:I J)(r:Rs)(P:Kv)(seen:I _){f:I _}{k:Kv},n_ (dR G.al) n y r P seen=D (.inr (f,k))->o7 G y->(∀x∈r,o7 G x.1)->U P<=801->U k<=801:=λT=>T.rec
 (λE E E E E E h E E E=>aV C h)
 (λn o y r P seen f k h z R p=>by
  have h:=ae G6.symm h
  split at h
  .split at h
   .exact nc Sum.ctorIdx (bj h) C
   .split at h
    .rename_i l s q t;exact ug (wV m e r P t R) λa E d u L=>o l s q seen h (a l C) d (aD ‹_› ‹_›)
    .rename_i q t;refine ug (wV m e r P t R) λE E E E L=>bT (mK (Sum.inr.inj (bj h))) λi j=>?_;subst i j;exact aD ‹_› ‹_›
    .exact aV C h
  .split at h
   .rename_i X;have g:∀x∈(y,0)::r,o7 G x.1:=λx b=>by
     rcases cD.mp b with rfl|b
     .exact z
     .exact R x b
    have v:=EM P y (U r)
    split at h
    .rename_i l s q t;exact ug (wV m e _ _ t g) λa E d u L=>o l s q _ h (a l C) d (jS 0 (.v 2) (.n 801) (.v 0) (.n 800) (.v 1) (.a (.v 0) (.n 1)) (.v 2) (.v 1) C [_,_,_] X.2.1 v L)
    .rename_i q t;refine ug (wV m e _ _ t g) λE E E E L=>bT (mK (Sum.inr.inj (bj h))) λi j=>?_;subst i j;exact jS 0 (.v 2) (.n 801) (.v 0) (.n 800) (.v 1) (.a (.v 0) (.n 1)) (.v 2) (.v 1) C [_,_,_] X.2.1 v L
    .exact aV C h
   .exact aV C h)
set_option tactic.hygienic true in
theorem Xb(p:bK c.B c.Z c.w O)(d:gZ c S)(F:Fm c.V fx (U fx) B_)(K:Fast c.B c.Z c.w O G)(l:vQ G)(T:J):∀(i:I _)(seen:I _)(P:Kv)(v:AV Ob){o:bg _},qV (dR G.al) T i seen P=D o->(∀e∈i,o7 G e)->U P<=801->
  ∃x u,jH c fx (U fx) (oZ Bq) (iw Bq) (i.map .str) (M6 G P seen v) x u/\VS G o u/\x[0]?=D (.obj (.bY 2 G)):=λz=>z.rec
 (λseen P v o h E E=>bj h▸((gx _ _ my C C)))
 (λe i f seen P v o h R B=>by
  have a:EC c fx (U fx) (m6 G [] P seen e) (uE (fV 0 (iw Bq))) _ _:=QV p F 4 (zv F 6 C C) C C;have h:=ae Lm.symm h
  split at h
  .rename_i b;simp only [cL b]at a;exact e5 (f seen P _ h (λH L=>R H (fF _ L)) B) λx u g m n=>(gx x u (aeP (iD F 6 C (fG _)) (Rk (dP a (Rk aeJ))) g) m n)
  .rename_i b;simp only [ef b]at a;have j:=R e gC
   split at h
   .rename_i X s;obtain rfl:=bj h;refine cps λE k=>d5 (O8 p d F K l T e [] P seen s j (λE q=>nomatch q) (by simp) B) λx u y m=>bT (m) λt n=>?_;subst t;exact k ((gx x _ (QM (iD F 6 C (fG _)) (zx (dP a fY) (h_ (lI y)))) C n))
   .rename_i r w s;refine cps λE k=>d5 (O8 p d F K l T e [] P seen s j (λE q=>nomatch q) (by simp) B) λx u y m=>bT m λt A=>?_;subst t;obtain⟨Q,rfl⟩:=A;exact e5 (f r w (.t _) h (λH L=>R H (fF _ L)) (Y9 K.kn l _ _ _ _ _ s j (λE q=>nomatch q) B)) λx u g m n=>k ((gx x u (ki (iD F 6 C (fG _)) (zx (dP a fY) (zx (lI y) fY)) g) m n))
   .exact aV C h)
noncomputable def Bc:bg (I (I J))->T
 |D b=>.list (b.map .str)
 |aa=>.none
def l0(H:I AN)(T:J):bg (bg (I (I J))):=qV (dR H) T (H.map (·.1)) [] []
section
variable{y:Ly Ob}{f:aq}
def Ly.fr(y:Ly q)(A:I aq)(h:cf):Ly q:=⟨y.B.fr A h,y.Z,y.w,y.mg,y.mb,y.G.fr,y.bi⟩
theorem eu.rest{v:aB}(h:eu m w O 0 G v e R):∃c,eu m w O q G v e c/\∀b∈c,b∈R:=by
 have ob:=h.ob;rw [uV m w O q G]at ob;exact(aR _ ⟨h.v,h.sm,h.nd,ob.sub (l:=[])⟩ (λb f=>by simp only [h.ob.ad,uV m w O q G,eW];exact gj _ f))
theorem eu.apart{v j:aB}{R c:I aq}(h:eu m w O 0 G v a R)(o:eu m w O q G j i c):∀b∈(rq m w O q G).map (·.1),b∈R/\b∉c:=λb f=>by
 have nd:=h.ob.nd;rw [h.ob.ad,uV m w O q G,eW,gk]at nd;refine⟨by simp only [h.ob.ad,uV m w O q G,eW];exact i6 _ f,λe=>?_⟩;simp only [o.ob.ad]at e;exact nd.2.2 b e b f C
theorem Fast.up(K:Fast X m w O G)(B:bF X.h₀ g):Fast (X.up g B) m w O G:=⟨K.sm,K.kn,K.st.keep λb E o e=>B b o e⟩
theorem E9(h:ym s L)(p:c.A=L.deeper c.V)(T:Turn c.B s)(own:c.V.frame=D c.V.locals)(kd:c.V.scope.kind=.function):gZ c s where
 fr:=ai h λf e h=>(aR f (ae (aA _ p) (Ro e)) h)
 own:=own
 kd:=by rw [kd];decide
 tab:=T.tab
 dat:=T.dat
 sl:=T.sl
theorem aed(p:bK y.B y.Z y.w ak)(T:Turn y.B l)(k:iG y.B f 19 8 bz S fx)(ah:vQ G)(e:J){o:bg _}(s:l0 G.al e=D o)(K:Fast y.B y.Z y.w ak G):
  Ax (ym l) y.B y.Z y.w (n+1) (.ref f) (.bY 2 G) [] λaC aM=>aC=.bY 2 G/\aM=Bc o:=by
 refine Ew y.G k.d (ez C) (.plain λz X=>?_) (λa=>(aR _ a (λaj h=>h))) (λP w v=>?_) (λ{aY a bf bh aN}B E E E E H L j d r=>?_) λP E E Q E E=>(gx _ _ P Q (λaj h=>.inl h))
 .exact bind1 (λaT=>ae (qQ k.ar k.df _) C) z X
 .refine bT P λR E=>?_;subst R;rw [p.ob]at w v;simp only [w.v,v.v]
 .have F:Fm (di S H f) fx (U fx) B_:=jP (C) (by show S.scope.names=_;exact aA _ k.sc)
  let c:=(y.up aN B).c (L.deeper (di S H f)) j (di S H f) n r.deeper
  have q:=p.up B;have u:=K.up B;have ao:G.al.map (·.1)=G.bS.map (·.key):=by simp [SG.al]
  unfold l0 at s;simp only [ao]at s
  obtain⟨au,bl,g,m,i⟩:=Xb q (E9 (c:=c) d C (T.up B) C (by show S.scope.kind=_;exact aA _ k.sc)) F u ah e (G.bS.map (·.key)) [] [] .un s (λa_ O=>by
   refine ai (dZ.mp O) λaF aH aK=>?_
   subst aK;exact(aR aF aH C)) (by simp)
  rw [dH]at g;refine XP.ev (c:=c) (XP.mono (Φ:=λaE A=>aE[0]?=D (.obj (.bY 2 G))/\v5 A (Bc o)) ?_ λau A P=>(l6 _ _ P.1 P.2 C C));have t:∀{x b},EX c fx (U fx) (M6 G [] [] .un) [GO 5 (dD (fL 19 8)),GO 6 (dD (fL 19 8))] x b->EX c fx (U fx) (l8 (.bY 2 G) fx []) (dD (fL 19 8)) x b:=λaP=>
   zx (eL F 1 C (ez C) (kj q (kc q (i:=0) C C) (jG q F 0 C C) .uP C) C)
    (zx (vp F 2 C (ez C) (rG cT C) C) (zx (aeX q F 3 C (ez C) C) (zx (afb q F 4 7 C (ez C) C C) (zx (aeM q F 5 C (fO _ _) C) aP))))
  cases o with
  |some bx=>
   subst(m);exact EX.xp (t (h_ (kP (QT (zv F 1 C C) u.sm u.map) g C C))) ⟨i,.inl C⟩
  |none=>
   have m:=m;subst m;exact EX.xp (t (zx (kP (QT (zv F 1 C C) u.sm u.map) g C C) (h_ (je zn)))) ⟨i,.inl C⟩
end
section
variable{c:Cx Ob}
theorem abq{Q:I DictEntry}(p:iK G (dictOf Q u)):iK {G with cW:=D a,rl:=l} (dictOf (putL "_ready_nodes" o4 (.str "_ready_nodes" n) (.ref a) Q) k):=by
 obtain⟨m,S,i,q,e,X,w,v,R,g,H⟩:=p;obtain rfl:=Bd e;exact⟨_,k,i,q,C,by exact(G0 Q ⟨_,v⟩)▸(X),by rw [mY aas];exact w,Bw Q,by rw [mY (iF Nu)];exact R,by rw [mY (iF Nv)];exact g,λx a b c d=>by rw [mY b];exact H x a b c d⟩
theorem ae'(p:bK c.B c.Z c.w ak)(ao:Fm c.V n k cX)(i:J)(j:n[i]?=D H)(aH:EF c n k O e P (aE.map .str))(aF:P[i]?=D (.obj (.bY 2 G)))(aK:G.cW=aa)
  (aN:gY e (D (.Attribute (.Name H aP) "_ready_nodes" aY)) a_.line c.V=pure ay):
  SP c n k O (.Assign [.Attribute (.Name H aP) "_ready_nodes" aY] e a_) λbx bh=>∃a,bx=P.set i (.obj (.bY 2 {G with cW:=D a,rl:=aE}))/\bh=.next:=by
 constructor;intro aM aT bQ cC cJ cM bR bW;refine yd (aH.1 aM aT bQ _ _ bR λdG y a S L T r ah aj w l Fr au aC=>(bT (i0 p l j aF) λz h=>(eO (eK w l.ns z ?_) (ao.eY j)))) aN;have m:("_ready_nodes":af)∈(["_node2info","_ready_nodes","_npassedout","_nfinished"]:I af):=by simp
 refine ai (h.ob.dY (G.self,λo=>o=instObj ak.bq G.d) (m_ (by simp [fX]))) λcF F t=>ai (h.ob.dY (G.d,iK G) (m_ (cN (i:=1) C))) λcU X B=>?_;dsimp only at t F X B;refine cps λb_ bl=>?_;subst t;refine e5 (B.has m) λbZ u bz bC bE=>?_;subst bz;have ad:r i=[G.self,G.d]:=by apply ae (h.ob.ad);simp [Ow,fX,aK]
 have A:=(cG.mp j).1;have R:G.d∈r i:=by exact(ad)▸(.tail _ (.head _))
 have E:G.self∈r i:=ad.symm▸.head _;have x:=l.fp i A;have f:=Fr.fp i A;apply bl;refine CM (p.iI l.base) (⟨F,C,C,X⟩) C p.ok.sa p.ok.po (by delta takerIn;rw [p.ok.at_ _ m,Af]) p.ok.hd bE (aD bC (az C)) λbf ck cu cB v bI=>?_;have s:∀{b},b∉r i->b≠G.d:=λ{b}u q=>u (by exact(q)▸(R));have Q:=h.ob.nd;rw [ad]at Q f;exact bW _ y .next _ .next (aR a C C) (ah.trans (cH bf _ C)) aj ⟨w,T,_,l.xh j (λb u c9 o e=>(v.2 b (s u)).trans e) (bD.iy l.inv λg d o e=>(v.2 g (s ((l.tab g d).2.2.2.2 i A))).trans e) (Le.refl _) (λb o e=>(v.2 b λq=>(aV (ae (aA _ q) ((x G.d R).2.1)) e)).trans (l.bJ b o e)) (λb o e=>.inl e) z ⟨.ref G.self,C,p.ob.symm▸(⟨C,h.sm,h.nd,⟨bO (aR _ ((v.2 G.self (qs Q 0 1 C C C)).trans F) C) (bO (aR _ bI (abq B)) (bO (aR _ ((v.2 a λq=>f (q▸d9 1 C)).trans au) ⟨S,L,C,iU.of aC⟩) eJ)),C,bS Q f⟩⟩)⟩ (bO ⟨.inl E,(x _ E).2.1⟩ (bO ⟨.inl R,(x _ R).2.1⟩ (bO ⟨.inr Fr,Fr.fz⟩ eJ)))⟩ dj
theorem Hr(t:Slots A h O)(p:H∈A)(u:h.Ns H m):O.Ns H m:=by
 refine jl u λo Q L T P r=>d5 (t _ p) λc a e R=>?_;cases bj (ae T.symm e);exact(BD _ Q L R P r)
theorem aW.E4(i:gZ c G)(S:aW c.B c.ρ s g c.V n k y b r h)(A:e<U n):DV c.B g h (r e) c.A [c.V.locals] G where
 fr:=ai i.fr λf a h=>(aR _ a (λR m=>(cD.mp m).elim (λq=>q.symm▸⟨i.kd,_,.head _,i.own⟩) λm=>match h R m with|⟨k,H,p,x⟩=>⟨k,H,fF _ p,x⟩))
 ok:=λH p=>(cO.mp p).symm▸(lg S.nL.2 (S.b0 S.nL.1) (λq=>(S.tab _ q).2.2.1 C) (λq=>(S.fp e A _ q).2.2.1 C))
 dat:=λH p=>(cO.mp p).symm▸jl S.ns λo E E T P E=>(aR o T (λE q=>nc agU (ae P.symm q) C))
 turn:=i.turn
theorem Z'(p:bK c.B c.Z c.w bf)(bx:gZ c ak)(au:Fm c.V n k c9)(i:J)(e:n[i]?=D aC)(aE:y[i]?=D (.obj (.bY f G))){a:Ob->bg T->Prop}(bI:(L,d)∈bf.fs)(aK:L∉(["_node2info","_ready_nodes","_npassedout","_nfinished"]:I af))
  (x:∀{h},bF c.B.h₀ h->h.get? d=D ah)(aM:ah.data=.func cX){m:Ob}(bz:∀{u h R},c.B.ob.at_ (.bY f G) u h R->c.B.ob.at_ m u h R)(aT:mO c.B c.Z c.w c.n (.ref d) m [] dU a)(bl:(bC.endLine==bE.line)=Y)
  (bh:SR c.B c.ρ o g c.V n k y s.heap)
  (aj:∀t j v X r,a X (D r)->bP s t->Le g j->SR c.B c.ρ o j c.V n k (y.set i (.obj X)) t.heap->Den c.ρ j v r->aF v t)
  (aH:∀t j X q(w:aB),a X aa->bP s t->Le g j->SR c.B c.ρ o j c.V n k (y.set i (.obj X)) t.heap->aN (.ref q) t):
  aQ (aI c.Z c.w) c.A (eval (.Call (.Attribute (.Name aC dG) L bC) [] [] bE) c.V) aF aN s:=by
 obtain⟨E,aY,dN,l⟩:=bh;refine bT (i0 p l e aE) λz B=>B3 p au e E l z B bI aK C (az C) bl (Am ⟨⟨x l.base,aM⟩,i8 (aT c.A c.ρ g _ [] _ s _ [c.V.locals] ak (l.E4 bx (j7 e)) c.R l.ready (bz (p.ob.symm▸B)) (l.uu (j7 e)) .nil λt j ee X r cU P S H bQ bR bW aP bZ a_ A Q=>?_)⟩);have O:SR c.B c.ρ o j c.V n k (y.set i (.obj X)) t.heap:=
  ⟨E,aY,_,l.xj e (λb ck cu cB b_ x=>bQ b ck cu (λf=>cB (cO.mp f)) b_ x) (Hr bR (.head _) l.ns) bW H aP bZ z ⟨.ref G.self,C,a_⟩ λb F=>⟨(A b F).1.imp id l.free,(A b F).2⟩⟩
 cases r with
 |some cF=>
  refine ai Q λv cC cJ=>?_;subst cC;exact aj t j v X cF P S H O cJ
 |none=>
  refine jC Q λq w cM ao cM=>?_;subst ao;exact aH t j X q w P S H O
end
section
variable{B:bD O}{Z:cy}{w:bX}{A:cZ}{ρ:Mk}{V:c3}{xs:I af}{k:J}{lv:I (AV O)}{cls:aB}{st:cz}
def vU(B:bD O)(Z:cy)(w:bX)(A:cZ)(ρ:Mk)(V:c3)(xs:I af)(k:J)(lv:I (AV O))(st:I cz)(cls:aB)(b:I (AV O)->fP->Prop)(l:I (AV O)->Prop):Prop:=
 ∀(T:HB)(g:Fz)(s:aU)(Q:Flow->aU->Prop)(H:aB->aU->Prop),T.lk=[]->SR B ρ T g V xs k lv s.heap->
  (∀t j L x h,b x h->bP s t->Le g j->SR B ρ T j V xs k x t.heap->FD ρ j L h->Q L t)->
  (∀t j x e a z,l x->bP s t->Le g j->SR B ρ T j V xs k x t.heap->Heap.MadeExcOf t.heap e a cls z->H (.ref a) {t with heap:=e})->aQ (aI Z w) A (execs st V) Q H s
theorem HS(t:AE B Z w A ρ V xs k lv u Ψ)(v:∀P h,Ψ P h->h=.next/\vU B Z w A ρ V xs k P b cls s l):vU B Z w A ρ V xs k lv (u::b) cls s l:=by
 intro T g j Q H a y R S;refine gN (t T g j _ _ a y λc x L P h p q o E d=>(bT (v P h p) λn v=>?_));subst n;obtain rfl:=d.nx;exact v T x c Q H a E (λF r L X h p i e f d=>R F r L X h p (q.trans i) (o.trans e) f d) λF r X O z G p i e f m=>S F r X O z G p (q.trans i) (o.trans e) f m
theorem QF{b:bw}(s:gn B Z w A ρ V xs k lv e aX b)(j:b=Y->vU B Z w A ρ V xs k aX t cls h n)(v:b=ay->h aX .next)(G:∀lv L,h lv L->True):vU B Z w A ρ V xs k lv [.If e t [] p] cls h n:=by
 intro T g l P ah m S R u;cases b with
 |false=>
  refine gN (An (s T g l _ _ S λc a q o E=>rW (rW (R c a .next _ .next (v C) q o E dj))))
 |true=>
  refine gN (An (s T g l _ _ S λc a q o E=>(j C T a c _ _ m E (λF r L X d p x i f z=>?_) λF r X O e H p x i f Q=>u F r X O e H p (q.trans x) (o.trans i) f Q)));have y:=R F r L X d p (q.trans x) (o.trans i) f z;cases L<;>first|exact rW y|exact y
theorem Ut(Ik:fe B afD afv){bQ oQ:O->bg T->Prop}(jr:j2 B ao pQ S eM xs)(eR:e6.length+1<=U xs)(zR:∀h e,Binds (B.fr h e) Z w S xs Di e6)
  (xB:∀{y e R},B.ob.at_ o y e R->∃L,B.ob.at_ o₁ y e L/\∀b∈L,b∈R)(rM:∀{y e R cX aH c i r},oQ i r->B.ob.at_ o₁ y e R->B.ob.at_ i cX aH c->cX=y/\∀b∈R,b∈c)
  (xK:∀{y e R L cu h G aE}(aT:bF (B.fr h aE).h₀ cu),Turn (B.fr h aE) (h++G)->B.ob.at_ o y e R->B.ob.at_ o₁ y e L->(∀b x,e.get? b=D x->b∉(B.fr h aE).tabs->b∉L->cu.get? b=D x)->(∀b∈R,b∉(B.fr h aE).tabs)->∀H A ρ,ym (h++G) A->dW A (xM+1)->
   vU ((B.fr h aE).up cu aT) Z w (A.deeper (di S H ao)) ρ (di S H ao) xs (U xs) (l8 o₁ xs e6) eM cls (λm h=>∃i r,m[0]?=D (.obj i)/\v5 h r/\oQ i (D r)) λm=>∃i,m[0]?=D (.obj i)/\oQ i aa)
  (xN:∀{y e R L aH cB i r},oQ i r->B.ob.at_ o y e R->B.ob.at_ o₁ y e L->B.ob.at_ i y aH cB->(∀b∈R,b∉L->∀x,e.get? b=D x->aH.get? b=D x)->(∀b∈cB,b∈L\/e.get? b=aa)->∃X c,bQ X r/\B.ob.at_ X y aH c/\∀b∈c,b∈cB\/(b∈R/\b∉L)):
  mO B Z w (xM+1) (.ref ao) o Di cls bQ:=by
 intro A ρ zV y ck afq s R h G K kR aP aY bz Ii eB;refine ai (xB aY) λL aF sub=>?_;have eN:=K.turn.fr (λH aj=>(K.ok H aj).2.2.1) K.dat;have z:j2 (B.fr h s.heap) ao pQ S eM xs:=jr.fr
 have bf:=λb f=>(dI ((bz b f).1) ((bz b f).2.1) (λq=>by
  rcases fE.mp q with q|q
  .exact(bz b f).2.2 q
  .exact(K.ok b q).2.2.2 f))
 refine J8 Ik.fr z.ho z.hd z.yJ z.BA z.BB z.l5 z.hg z.hb eR (zR h s.heap) kR (aP.fr K) aF (λb f=>bf b (sub b f)) Ii λaT H xJ fy fB fZ lK rN aj=>?_;have ew:∀{t:aU}{u:Fz}{m:I (AV O)}{i:O}{r:bg T},m[0]?=D (.obj i)->oQ i r->SR ((B.fr h s.heap).up _ aT) ρ ⟨(rest s.heap ((B.fr h s.heap).tabs++L)).get?,[],fy,[]⟩ u (di S H ao) xs (U xs) m t.heap->
   Jp (B.fr h s.heap) zV u s.heap t.heap R L H y (λX=>bQ X r)/\(B.fr h s.heap).inv u t.heap/\Le u t.heap.get?/\∀b,(s.heap.get? b).isSome=Y->(t.heap.get? b).isSome=Y:=by
  intro t u m i r au P a;refine cps λQ dN=>?_;obtain⟨_,Ic,afz,a⟩:=a;have ko:=eH (gE _) eR;obtain⟨afC,_,cX,rfl,bh⟩:=a.vars 0 _ _ (dB ko) au;refine bT (rM P aF bh) λIl lJ=>dN ?_;subst Il;exact(lg (OM (B:=B.fr h s.heap) aY aF sub (λb f=>⟨(bf b f).1,(bf b f).2.2⟩) lK aj a ko bh (xN P aY aF bh)) a.inv a.bJ (λb f=>(bH (gG.mp f) λx j=>((vv (b∈L)).elim (λbR=>B.ob.live bh b (lJ b bR)) λbR=>(vv (b∈(B.fr h s.heap).tabs)).elim ((B.fr h s.heap).live a.inv b) λbl=>cV (a.kept b x (zw j bl bR))))))
 refine xK aT eN aY aF (λb x l d F=>zw l d F) (λb f=>(bf b f).2.2) H A ρ K.fr kR _ fy xJ _ _ C rN (λt u afr m afA P q bZ a ak=>?_) λt u m cU l afB P q bZ a n=>?_
 .refine e5 P λi r au rL P=>sH (ew au P a) λcF fj aN Q=>?_;obtain⟨X,c,bE,bI,bC,a_,bW,_⟩:=cF;have gc:=λgi ak=>eB t u c X (D r) _ bE (fB.trans q) (fZ.trans bZ) (λb d F g x l=>bI b (λq=>d (sub b q)) (λq=>(fE.mp q).elim F g) x l) fj.2 fj.1 aN bC a_ bW (aR gi C ak);rcases rL with rfl|⟨rfl,rfl⟩
  .obtain⟨gi,rfl,ak⟩:=ak.rt;exact gc _ ak
  .obtain rfl:=ak.nx;exact gc _ .none
 .refine ai P λi au P=>cps λQ dN=>sH (ew au P a) λcF mz aN mC=>?_;obtain⟨X,c,bE,bI,bC,a_,bW,nF,pP,er,Ic,gV⟩:=cF;have ic:∀b,b∉R->b∉B.tabs->b∉h->∀x,s.heap.get? b=D x->t.heap.get? b=D x:=λb d F g x l=>bI b (λq=>d (sub b q)) (λq=>(fE.mp q).elim F g) x l;refine bT mz λb_ jf=>ai K.fr λxC xD xE=>dF n.there λxF xG afw afn=>dN ?_;have afo:H≠l:=λq=>jC gV λo Q Q ah Q=>aV (ae (aA _ q) n.new) ah;have jq:∀v∈H::(h++G),∃o,cU.get? v=D o/\∀ck,o.data≠.fields ck:=λv p=>by
   rcases cD.mp p with rfl|p
   .exact jl gV λo afs afx ah zS Q=>(aR o (n.keeps _ _ ah) (λck q=>by rw [zS]at q;contradiction))
   .exact eN.dat _ _ (bD.iy (B:=B.fr h s.heap) ⟨b_,jf⟩ λP Q o l=>n.keeps _ _ l) v p
  have zT:cU.FunFrames (rest cU (l::H::(h++G))) (di S H ao::xC):=Fa (λv p=>tP _ (fF _ p)) jq λV cC=>by
   rcases cD.mp cC with rfl|cC
   .exact⟨by show S.scope.kind≠_;rw [jr.l5.kind];decide,_,gC,C⟩
   .refine bT (xE V cC) λk zU=>?_;refine ai (zU) λv p E=>?_;exact⟨k,v,fF _ p,E⟩
  refine wpAny_leaving_firstW (Ro xD) zT C xG (u3 _) (tP _ gC) C C C λcJ Dj=>sH Dj λDk afy Ib cM=>?_;have aC:∀b,b≠H->b∉h->b∉G->∀x,t.heap.get? b=D x->cJ.get? b=D x:=λb d F g x j=>by
   refine Dk b x (n8 (n.keeps _ _ j) ?_);simp only [cD,fE,not_or];exact(lg (λq=>(by rw [q,n.new]at j;exact aV C j)) d F g)
  have bx:=K.turn.tab;refine eB {t with heap:=cJ} u c X aa _ bE ((fB.trans q).trans (cH _ t.toks C)) (fZ.trans bZ) (λb d F g x j=>aC b (λq=>aV (ae (aA _ q) aj) j) g (λq=>F (bx b q)) x (ic b d F g x j)) (λv p=>?_) ?_ (λb x j=>aC b (λq=>?_) (λq=>?_) (λq=>?_) x (aN b x j)) bC (B.frame a_ (λb x j=>?_) λb f x j=>?_) bW (BE l (.ref xF) t.heap C n.new ?_ mC (λb f=>B.ob.live a_ b f) aN)
  .refine d5 (jf v p) λo xH gU Ig=>ai (K.dat v p) λIh aK dG=>?_;rw [aK]at gU;obtain rfl:=bj gU;exact bH (cM v _ (n.keeps _ _ Ig) dG) λc9 aM=>(gg _ c9 aK aM)
  .refine K.turn.sl _ t.heap cJ b_ λP jt o ah=>?_
   by_cases E:P∈G
   .refine ai (K.turn.dat _ _ b_ P E) λIh aK dG=>?_;rw [ah]at aK;obtain rfl:=bj aK;exact bH (cM P _ (n.keeps _ _ ah) dG) λc9 aM=>.inr ⟨E,c9,aM⟩
   .exact .inl (aC P (λq=>(bH (gG.mp (B.live aP.inv P jt)) λafp Ij=>(aV (ae (aA _ q) aj) Ij))) (λq=>(K.ok P q).2.2.1 jt) E o ah)
  .exact aV (ae (aA _ q) pP) j
  .exact aV (er b (i6 _ q)) j
  .exact aV (er b (gj _ (bx b q))) j
  .have bl:b∉B.tabs:=λq=>aV (aP.jb b q) j;have kS:=aP.base b x j;have E:b∉h:=λq=>aV ((K.ok b q).2.1) j;exact aC b (λq=>aV (ae (aA _ q) aj) kS) E (λq=>bl (bx b q)) x (ic b (λq=>(aV ((bz b q).2.1) j)) bl E x kS)
  .have:=nF b f;exact aC b this.1 (λq=>this.2 (i6 _ q)) (λq=>this.2 (gj _ (bx b q))) x j
  .obtain⟨dU,aft,afu,Ie,Io,Ip,Iq,Im⟩:=Qk Ib;refine Im _ (iY λo Rm=>?_)
   by_cases kT:dU∈H::(h++G)
   .refine ai (jq dU kT) λIr Rn ee=>bH (cM dU Ir Rn ee) λxH aM=>?_;cases bj (ae Ip.symm aM);exact ee _ Iq
   .exact aV Ie (n8 (n.keeps _ _ Rm) λq=>(cD.mp q).elim Io kT)
end
theorem aeS(h:EE c n k y e P (.str l)):EE c n k y (.JoinedStr [e] p) P (.str l):=⟨λT g s Q H S R=>PySem.wpAny_JoinedStr_one (h.1 T g s Q H S R)⟩
theorem aeB(F:Fm c.V xs k au)(t:J)(O:au[t]?=D (x,.globalImplicit))(a:OwnCls x d H A c.mg c.B.h₀)(n:ExcBaseFacts bl A bz H)(h:ER c xs k y cpos Q P p)(L:Q.all dO=Y)(X:U p<=1000):
  vU c.B c.Z c.w c.A c.ρ c.V xs k y [.Raise (D (.Call (.Name x np) Q [] cpos)) aa pos] (.ref d) Φ λe=>e=P:=by
 intro bC aP bh bE aT a_ S bx b;refine cps λ_ v=>?_;obtain⟨aY,s,B,q,T,j,w,sub,o,f,r,g,G,l,z,ah,bf,aj,ak,ao,R⟩:=a.obj
 refine v (gN (wpAny_Raise_call_subT (nm:=B) (q:=q) (N:=s) (bs:=T) (hdct:=j) (sn:=w) (sub:=sub) (ab:=o) (col:=f) (dd:=r) (k0:=g) (k1:=G) (k2:=l) (k3:=z) (k5:=ah)
  n (R.hasType n.hasBase) c.R.handled (kL Q (l9 L)) ao (nZ c.G S.1 S.ready.base (F.kn t O nofun) a.bound (F.kg t O) ⟨C,(jM (l9 L) h.1 S λu aE aF aH aC E aM=>?_)⟩)))
 have i:=E.ready.base;exact(yL C (aM.length.symm▸rU.symm▸(aD X (az C))) (i _ _ aj) (ak.keeps i) (R.keeps i) (λaK aN m=>b u aE _ aK aN aF C aH aC E m))
theorem ae5(p:bK c.B c.Z c.w O)(S:gZ c b_)(F:Fm c.V n k cu)(i t:J)(T:n[i]?=D b)(g:y[i]?=D (.obj (.bY q G)))(B:(L,a)∈O.fs)(Q:L∉(["_node2info","_ready_nodes","_npassedout","_nfinished"]:I af))
  (aF:∀{h},bF c.B.h₀ h->h.get? a=D ao)(aN:ao.data=.func bl)(o:mO c.B c.Z c.w c.n (.ref a) (.bY q G) [] bx m)(s:∀X r,m X r->X=.bY q d/\r=D z)(E:(e.endLine==u.line)=Y)
  (x:n[t]?=D H)(v:t<k)(R:gY (.Call (.Attribute (.Name b ah) L e) [] [] u) (D (.Name H aj)) ak.line c.V=pure ay):
  ES c n k y (.Assign [.Name H aj] (.Call (.Attribute (.Name b ah) L e) [] [] u) ak) ((y.set i (.obj (.bY q d))).set t (.t z)) .next:=by
 constructor;intro bz bI bQ bR ck l au aC;refine kC (Z' p S F i T g B Q aF aN (λh=>h) o E au (λaE j aH X r P aK aM A aP=>?_) λaE j X bC bE P=>?_) R
 .refine bT (s _ _ P) λaT aY=>?_;subst aT;cases aY;obtain⟨w,bW,bZ,A⟩:=A;exact gh (av:=.t z) w l A x v (F.loc x v) ⟨C,aH,C,aP⟩ .nil λbf a_ bh f=>aC bf j .next (aK.trans bh) aM ⟨w,a_,_,f⟩ dj
 .exact aV C ((s _ _ P).2)
theorem acC(n:eu m w O 0 G y h R)(j:eu m w O 2 G y h L)(v:eu m w O 2 {G with cW:=D a,rl:=l} y e P)(H:G.cW=aa)
  (Q:∀b∈R,b∉L->∀x,h.get? b=D x->e.get? b=D x)(T:∀b∈P,b∈L\/h.get? b=aa):
  ∃c,eu m w O 0 {G with cW:=D a,rl:=l} y e c/\∀b∈c,b∈P\/(b∈R/\b∉L):=by
 have d:=uV m w O 2 G;have S:rq m w O 2 {G with cW:=D a,rl:=l}=rq m w O 2 G:=by
  rfl
 have t:=uV m w O 2 {G with cW:=D a,rl:=l};simp only [S]at t;have k:=n.apart j;have i:=n.ob.nd;simp only [n.ob.ad,d,eW]at i;refine(aR _ (⟨v.v,v.sm,v.nd,⟨λE g=>?_,C,?_⟩⟩) (λb f=>?_))
 .rw [t]at g;rcases fE.mp g with g|g
  .exact v.ob.dY E g
  .refine ai (n.ob.dY E (by rw [d];exact i6 _ g)) λo u p=>?_;have:=k E.1 (fM g);exact(aR o (Q E.1 this.1 this.2 o u) p)
 .rw [t,eW,gk];refine(dI (by have:=v.ob.nd;rw [v.ob.ad]at this;exact this) ((gk.mp i).2.1) (λb f z r q=>?_));subst q;have:=k b r;rw [<-v.ob.ad]at f;rcases T b f with q|q
  .exact this.2 q
  .have s:=n.ob.live b this.1;rw [q]at s;exact cY C s
 .rw [t,eW]at f;rcases fE.mp f with f|f
  .left;rw [v.ob.ad];exact f
  .exact .inr (k b f)
noncomputable def npr:I (af×fc):=[("self",.local),("cycle",.local),("ValueError",.globalImplicit),("CycleError",.globalImplicit)]
noncomputable def pO:I af:=["self","cycle"]
noncomputable def eA(H:I AN):I (I J):=(H.filter λa=>aO (a.2.1=0)).map (·.1)
noncomputable def FP(H:I AN)(l:I J):bw:=H.any λa=>aO (a.1=l)
def nU(H:I AN):bw:=H.all λa=>a.2.2.all λs=>FP H s
theorem UP(h:nU G.al=Y):vQ G:=λQ z s B=>Gx (gK.mp (gK.mp h (Q.key,Q.np,Q.succ) (dZ.mpr (aR Q z C))) s B)
noncomputable def Cy:bg (I (I J))->bg T
 |D _=>aa
 |aa=>D .none
noncomputable def ng:bg (I (I J))->bw
 |D b=>!b.isEmpty&&aO (b.length<=1000)
 |aa=>Y
section
variable{y:Ly Ob}{f eT:aq}{al:I AN}
theorem iG.fr{X:bD Ob}(k:iG X a i t u S n):iG (X.fr A h) a i t u S n:=⟨k.d.fr,k.ar,k.sc,k.df,k.kd⟩
theorem iG.up{X:bD Ob}(k:iG X a i t u S n)(B:bF X.h₀ g):iG (X.up g B) a i t u S n:=⟨k.d.up B,k.ar,k.sc,k.df,k.kd⟩
theorem Fast.fr{X:bD Ob}(K:Fast X m w O G):Fast (X.fr A h) m w O G:=⟨K.sm,K.kn,K.st⟩
theorem Us{X:bD Ob}{m:cy}{w:bX}{O:Cl}{f:aB}(p:bK X m w O)
  (i:∀G:SG,G.abs=.bN E al h q B->G.kn->mO X m w u f (.bY 0 G) args j n):mO X m w u f (.bN E al h q B) args j n:=by
 intro L F g y z x s fp A b K l k a t o v;rw [p.ob]at a;obtain⟨G,e,hS⟩:∃G:SG,G.abs=.bN E al h q B/\eu m w O 0 G y s.heap fp:=a;exact i G e (F_ hS.nd) L F g y z x s fp A b K l k (p.ob.symm▸hS) t o v
theorem aek(h:bK y.B y.Z y.w b)(k:iG y.B f 19 3 mz S pO)(j:iG y.B eT 19 8 rN nF fx)(er:(("_find_cycle":af),eT)∈b.fs)(e6:OwnCls "CycleError" d dG fy y.mg y.B.h₀)(cB:ExcBaseFacts pQ fy mC dG)
  (ic:nU al=Y)(bZ:J)(ko:l0 al bZ=D o)(g:ng o=Y)(cu:U al<=800):
  mO y.B y.Z y.w (a_+2) (.ref f) (.bN bh al aa bl bx) [] (.ref d) λX r=>X=.bN bh al (D (eA al)) bl bx/\r=Cy o:=by
 refine Us h λG cC bz=>?_;obtain⟨cM,cX,n,eB,eR⟩:G.self=bh/\G.al=al/\G.cW=aa/\G.po=bl/\G.fi=bx:=by
  injection cC with a bI gc m f
  exact(lj a bI (by simpa using gc) m f)
 subst cX;refine Ut y.G (o₁:=.bY 2 G) (oQ:=λx r=>(∃a,x=.bY 2 {G with cW:=D a,rl:=eA G.al})/\r=Cy o) k.d (ez C) (λfl s=>.plain λz jq=>?_)
  (λ{i s fp}h0=>?_) (λ{i s fp rL O e x r}P w v=>?_) (λ{i s fp cF bf fl dU ee}B cU h0 w c9 dN H L ah fB aK=>?_) (λ{i s fp cF O pP x r}P h0 v w kR aM=>?_)
 .exact bind1 (λa=>ae (qQ k.ar k.df _) C) z jq
 .rw [h.ob]at h0;have h0:=h0;obtain⟨e,s,l⟩:=h0.rest;exact(aR e (h.ob.symm▸s) l)
 .obtain⟨⟨a,rfl⟩,_⟩:=P;rw [h.ob]at w v;have w:=w;have v:=v;refine⟨by simp only [w.v,v.v],λbI t=>?_⟩;rw [w.ob.ad]at t;rw [v.ob.ad];simp only [n5,Cs,Ow,fX,n,iN,R6,cD,dQ,or_false]at t⊢;exact t.elim .inl λcJ=>.inr (.inl cJ)
 .have F:Fm (di S H f) pO (U pO) npr:=jP (C) (by show S.scope.names=_;exact aA _ k.sc)
  let bC:=(y.fr fl ee).up bf B
  let c:=bC.c (L.deeper (di S H f)) ah (di S H f) (a_+1) aK.deeper
  have bE:=h.fr.up B;have q:bK c.B c.Z c.w b:=bE;simp only [h.ob]at h0 w;have h0:=h0;have aY:sx (rq y.Z y.w b 2 G) bf:=λbQ bR=>by
   have bW:=h0.apart (w) bQ.1 (fM bR);refine ai (h0.ob.dY bQ (by rw [uV y.Z y.w b 2 G];exact i6 _ bR)) λew aM p=>?_;exact(aR ew (c9 _ _ aM (dN _ bW.1) bW.2) p)
  have u:Fast c.B c.Z c.w b G:=(⟨h0.sm,bz,aY⟩);have eM:gZ c (fl++dU):=E9 (c:=c) fB C (cU.up B) C (by show S.scope.kind=_;exact aA _ k.sc);have eN:∀a,mO c.B c.Z c.w c.n (.ref eT) (.bY 2 {G with cW:=D a,rl:=eA G.al}) [] .none λX r=>X=.bY 2 {G with cW:=D a,rl:=eA G.al}/\r=D (Bc o):=λa=>
   J' λR rM O fj=>by
    have:=aed (y:=bC.fr R O) (n:=a_) (bE.fr) fj ((j.fr.up B).fr) (G:={G with cW:=D a,rl:=eA G.al}) (UP ic) bZ ko (⟨h0.sm,bz,aY⟩);intro L ah aj i z aK l fp ak ao au aC gi gU gV;exact this L ah aj i z aK l fp ak ao au aC gi gU λA aF jf e X r P=>gV A aF jf e X r ⟨P.1,aA D P.2⟩
  refine HS (Ψ:=λaH f=>aH=l8 (.bY 2 G) pO []/\f=.next) (ES.ev (c:=c) (dP (b:=ay) (zC (kj q (kc q (i:=0) (q:=2) C C) (jG q F 0 C C) (.O0 n) C) zn C C) ⟨i_⟩)|>.p ⟨C,C⟩) λb_ R P=>?_;obtain⟨rfl,rfl⟩:=P;refine⟨C,?_⟩;have jr:(eA G.al).map T.str=(G.bS.filter λQ=>aO (Q.np=0)).map λQ=>T.str Q.key:=by
   simp only [eA,SG.al,IM,dH];rfl
  have fZ:EF c pO (U pO) (l8 (.bY 2 G) pO []) (v_ (fV 1 (dD (fL 19 3)))) (l8 (.bY 2 G) pO []) ((eA G.al).map .str):=by
   simp only [jr];exact nC (us:=G.bS) (g:=λQ=>.bV (.ref Q.i)) "i" [] [] (λQ=>.str Q.key) (λQ=>aO (Q.np=0)) F (C) (C) (C)
    (aeV (kj q (kc q (i:=0) (q:=2) C C) (jG q F 0 C C) .uP C) u.sm u.map C C) C
    (λd aE Q aN=>zC (vn (c:=c.ff _ d) q (Fast.info (c:=c.ff _ d) u aN) (zv aE 0 C C) .np C) (zi 0) C C)
    (λd aE Q aN E=>vn (c:=c.ff _ d) q (Fast.info (c:=c.ff _ d) u aN) (zv aE 0 C C) .node C) C (by exact aD (by simpa [SG.al]using cu) (az C))
  refine HS (SP.ev (c:=c) (ae' q F 0 C fZ C n C)) λb_ R P=>?_;obtain⟨a,rfl,rfl⟩:=P;refine⟨C,(HS (Ψ:=λaH f=>aH=[.obj (.bY 2 {G with cW:=D a,rl:=eA G.al}),.t (Bc o)]/\f=.next) (ES.ev (c:=c) (ae5 q eM F 0 1 C C er (by exact nofun) (j.fr.up B).d.ho (j.fr.up B).d.hd (eN a) (λX r P=>P) C C (by exact fG _) C)|>.p ⟨C,C⟩) λb_ R P=>?_)⟩;obtain⟨rfl,rfl⟩:=P;refine⟨C,?_⟩;cases o with
  |none=>
   refine QF (b:=ay) (aX:=[.obj (.bY 2 {G with cW:=D a,rl:=eA G.al}),.t .none]) (EC.ev (c:=c) (lG (zv F 1 C C) C λE=>C)) nofun (λE=>(l6 _ _ C (.inr ⟨C,C⟩) ⟨a,C⟩ C)) λE E E=>dj
  |some ck=>
   simp only [ng,oz,oK]at g;refine QF (b:=Y) (aX:=[.obj (.bY 2 {G with cW:=D a,rl:=eA G.al}),.t (.list (ck.map .str))]) (EC.ev (c:=c) (lG (zv F 1 C C) (CJ (by simp;exact aD g.2 (az C)) (by simpa using g.1)) λE=>C)) (λE=>?_) nofun λE E E=>dj;have:=aeB (c:=c) (k:=U pO) (xs:=pO) (x:="CycleError") (np:=⟨165,18,165,28⟩) (cpos:=⟨165,18,165,60⟩) (pos:=⟨165,12,165,60⟩) (Φ:=λaP fl=>∃x r,aP[0]?=D (AV.obj x)/\v5 fl r/\(∃a,x=.bY 2 {G with cW:=D a,rl:=eA G.al})/\D r=aa) F 3 C (e6.keeps B) cB
    (zr (aeS (p:=⟨165,29,165,52⟩) (zs (kk:=0) (p:=⟨165,31,165,51⟩) _ (cR ['n','o','d','e','s',' ','a','r','e',' ','i','n',' ','a',' ','c','y','c','l','e']))) (zr (zv (p:=⟨165,54,165,59⟩) (lv:=[.obj (.bY 2 {G with cW:=D a,rl:=eA G.al}),.t (.list (ck.map .str))]) F 1 C C) cT C) C) C (by exact dK _ _)
   exactλkS aj l jt lJ ak ao au aC=>this kS aj l jt lJ ak ao au λA aF aP O m z P=>aC A aF aP O m z (by exact(P)▸((i12 _ C ⟨a,C⟩ C)))
 .obtain⟨⟨a,rfl⟩,rfl⟩:=P;rw [h.ob]at h0 w v;refine ai (acC (h0) (v) (w) n kR aM) λe kT lK=>?_;refine(gx _ e ⟨C,C⟩ ?_ lK);exact(h.ob)▸(cM)▸(eB)▸(eR)▸(((aR _ C kT):∃aT:SG,aT.abs=.bN G.self G.al (D (eA G.al)) G.po G.fi/\eu y.Z y.w b 0 aT i O e))
end
section
variable{Z:cy}{w:bX}{A:cZ}{a:J}
theorem M3(R:s.heap.MapOf (intKind Z w) d L)(h:L a=D (.str x y))(e:∀i,Q (.text x) {s with toks:=i}):
  aQ (aI Z w) A (afL (.ref d) a) Q H s:=by
 exact aG (wpAny_attempt (aG (wpAny_mkInt (S0 (intKind_is ..) R h (aG (iQ (C) (aG (iQ (C) (bM (e _))))))))))
theorem ZM(B:A.handled=aa)(P:(d==sysModules)=ay)(R:s.heap.MapOf (intKind Z w) d L)(e:L a=aa)(i:∀O h,bF s.heap O->Q .keep {s with heap:=O,toks:=h}):
  aQ (aI Z w) A (afL (.ref d) a) Q H s:=by
 exact aG (wpAny_attempt (aG (wpAny_mkInt (wpAny_getItem_missing_of (intKind_is ..) P B R e λO b p=>(e5 p.there λu G x v E=>aG (S1 (b:=Y) (aR _ x v) (C) ((aL C).symm▸(aG (yf (bM (i _ _ p.keeps)))))))))))
theorem Xa(b:z)(f:J->z->Sem _):(forIn #[a] b f)=f a b>>=λr=>match r with|.done b=>pure b|.yield b=>pure b:=C
theorem adV(u:a<128)(R:s.heap.MapOf (intKind Z w) d L)(B:A.handled=aa)(e:(d==sysModules)=ay)(i:(L a=aa/\r=[a])\/(∃y,L a=D (.str (cj r) y)/\U r=2))
  (h:∀O G c,bF s.heap O->Q (.done (.ret (.str (cj r) G))) {s with heap:=O,toks:=c}):aQ (aI Z w) A (Builtin.«str.translate» ⟨[.str ⟨#[a]⟩ l,.ref d],[]⟩) Q b s:=by
 refine aG (iQ (C) ?_);refine vN C (aG (mw (Xa _ _) (aG (vN C (wpAny_ite_true (by simp [u]) ?_)))));rcases i with⟨n,rfl⟩|⟨y,n,v⟩
 .refine aG (ZM B e R n λO P k=>(aG (bM (bM (bM ?_)))));exact aG (tU (bM (h O _ _ k)) (show 1<=sizeLine by decide))
 .refine jO (show∃x H,r=[x,H]from BR (P:=λr=>∃x H,r=[x,H]) (λx H=>⟨x,H,C⟩) r v) λx H S=>?_;subst S;refine aG (M3 R n λP=>?_);refine aG (bM (aG (yf (aG (M3 (s:={s with toks:=P}) R n λP=>(bM (bM ?_)))))));exact aG (tU (bM (h s.heap _ _ (bF.refl _))) (show 2<=sizeLine by decide))
end
theorem aeH(F:Fm c.V n k G)(t i:J)(O:G[t]?=D (x,.globalImplicit))(f:wc[i]?=D (x,v)):EE c n k y (.Name x p) y (.bV v):=
 ⟨λT g s Q H S R=>nY c.G S.1 S.ready.base (F.kn t O nofun) (c.bi i _ _ f).1 (c.bi i _ _ f).2 (F.kg t O) (R s g v (bP.refl s) (Le.refl _) S (.bV _))⟩
structure D6(y:Ly O):Prop where
 ex:∃d f,y.mg "_special_chars_map"=D (.ref d)/\(d==sysModules)=ay/\(∀{h},bF y.B.h₀ h->h.MapOf (intKind y.Z y.w) d f)/\∀a:J,a<256->(a∉u7/\f a=aa)\/(a∈u7/\∃u,f a=D (.str (cj [92,a]) u))
theorem abF{X:bD q}{e:bX}{a d:J}{L:aS->bg aB}(i:dW s n)(u:a<128)(P:(d==sysModules)=ay)(R:∀{h},bF X.h₀ h->h.MapOf (intKind m e) d L)
  (g:(a∉u7/\L a=aa)\/(a∈u7/\∃y,L a=D (.str (cj [92,a]) y)))(O:Den F x E (.str [a])):PO X (aI m e) s F (call (.builtin "str.translate") [E,.ref d]) x (.str (lZ a)):=by
 refine bH (jj O) λA j=>?_;subst j;intro l Q H r b;have k:(L a=aa/\lZ a=[a])\/(∃y,L a=D (.str (cj (lZ a)) y)/\U (lZ a)=2):=by
  unfold lZ;rcases g with⟨w,v⟩|⟨w,y,v⟩
  .exact(aJ w).symm▸(.inl ⟨v,C⟩)
  .exact(aL w).symm▸(.inr (aR y v C))
 exact i8 (qL SE.plain PySem.F.entry_str_translate (SE.check _ _ _ _ _ _ _ _ (tR _ _ _) (PySem.F.args_str_translate_2 _ _) (adV u (R r.base) i.handled P k λt G c B=>(b _ _ _ (cg.keeps (t:=c) r B) (.str _ _)))))
noncomputable def n7:I (af×fc):=[("pattern",.local),("isinstance",.globalImplicit),("str",.globalImplicit),("_special_chars_map",.globalImplicit)]
noncomputable def x7:I af:=["pattern"]
theorem aec(k:H.aZ "escape" 10)(S:D6 H)(a:J)(u:a<128):H.F (e+1) "escape" [.str [a]] (.str (lZ a)):=by
 refine H.fn 10 x7 n7 k C (C) (C) (dm _) (λy code r=>bind1 λa=>C) λl f G i F=>Bh S.ex λx L p P R g=>⟨rf x7 [.str [a]],h_ (dP (lG (ta:=.bool Y) (rF F 1 9 C C (zr (zv F 0 C C) (zr (aeH F 2 10 C C) cT C) C) C λh z b=>?_) C λE=>C) (h_ (je ?_)))⟩
 .refine e5 b.HJ λv t d n s=>?_;subst d;obtain rfl:=s.inv;exact abw n
 .refine xy SE PySem.F.type_str_translate (zv F 0 C C) (zr (Dd F 3 C p λE E=>.bV _) cT C) C C (dK _ _) C λh v z n b=>ai b.jc λo j q=>?_;subst j;obtain rfl:=q.inv;exact abF i u P R (g a (aD u (az C))) n
noncomputable abbrev adB(S:iR aB):bL:={cls:=.none,data:=.fields S}
inductive lQ(h:cf)(c P:aq):Prop
 |mk(o:bL)(vs:iR aB)(file:af)(tf:fT)(flags:aS)(tg:fT)(YE:bw)(text:aS)(tt:fT)(e1:h.get? c=D o)(e2:o.cls=.type "code")(e3:o.data=.fields vs)(e4:vs[11]?=D (.ref P))(f3:vs.getD 11 .none=.ref P)(f4:vs.getD 18 .none=.str file tf)
  (f5:vs.getD 7 .none=.int flags tg)(f6:vs.getD 9 .none=.bool YE)(f7:vs.getD 10 .none=.int text tt)(f8:c≠P)
def TabAt(h:cf)(P:aq)(S:iR aB):Prop:=h.get? P=D (adB S)/\TriplesOk S.toList
theorem lQ.keeps(x:lQ h c P)(k:∀b o,h.get? b=D o->O.get? b=D o):lQ O c P:=by
 cases x with|mk o z f q a v X e d t i w j s B u l m n=>exact .mk o z f q a v X e d (k _ _ t) i w j s B u l m n
theorem lQ.tab(x:lQ h c P)(A:TabAt h P S):h.TableAt c P S:=by
 cases x with|mk o z _ _ _ _ _ _ _ t b w j=>exact⟨(l6 o z t b w j),A.1⟩
theorem lQ.code(x:lQ h c P)(A:TabAt h P S):h.IsCode c P S:=by
 cases x with|mk o z f q a v X e d t b w j s B u i l n=>exact⟨o,z,f,q,a,v,X,e,d,_,t,w,s,B,u,i,l,A.1,C,A.2,n⟩
noncomputable abbrev Bt(name E:af)(params:As)(body:FuncBody)(scope:jg)(H:I (af×aq))(doc y i d:aB):bL:=
 {cls:=.type "function",data:=.func {name,qualname:=E,params,body,scope,globals:=j0,closure:=H,closureTuple:=d,code:=i,builtins:=builtinsNs,defaults:=.none,kwdefaults:=.none,annotations:=aa,pyModule:=y,doc}}
section
variable{s:aU}
inductive tX(h h':cf)(pos:ig)(q:af)(ps OU:iR aB)(cv:aB):Prop
 |wq(e:codeAmong pos ps.toList=D cv)(p:OU=ps)
 |new(c':aq)(e:codeAmong pos ps.toList=aa)(v:cv=.ref c')(n:h.objs.size<=c')(r:h'.CodeRec cv q)(p:OU.toList=ps.toList++[c4 pos.line,c4 pos.col,.ref c'])
theorem tX.up(x:tX a O u q S A i)(h:j.objs.size<=a.objs.size):tX j O u q S A i:=by
 cases x with
 |wq e p=>exact .wq e p
 |new k e v m r p=>exact .new k e v (aD h m) r p
theorem Kn(h:G.code=.ref c)(d:lQ s.heap c P)(l:TabAt s.heap P S)
  (R:∀i O n A,jX P s.heap O->s.heap.objs.size<=O.objs.size->TabAt O P A->tX s.heap O u q S A i->Q i {s with heap:=O,toks:=n}):
  aQ M L (functionCode G u f o q p v t) Q H s:=by
 cases g:codeAmong u S.toList with
 |some i=>exact wpAny_functionCode_hit h (d.code l) g (R i s.heap s.toks S (λE E E e=>e) (dm _) l (.wq g C))
 |none=>
  refine wpAny_functionCodeX h (d.code l) (d.tab l) g λk O n j F x E a b E=>R _ O n _ j (e7 (kW F x)) ⟨b.2,?_⟩ (.new k g C F a (by simp));have X:(S++#[c4 u.line,c4 u.col,vK k]).toList=S.toList++[c4 u.line,c4 u.col,.ref k]:=by simp
  simp only [X];exact TriplesOk_snoc _ _ _ _ l.2
theorem aab(S:closureFor g G=pure H)(aC:G.globals=j0)(L:s.heap.Ns j0 ak)(c:G.code=.ref aK)(d:lQ s.heap aK P)(k:TabAt s.heap P aj)(y:j0≠P)(ao:s.heap.BuiltinsAt ak P)
  (h:∀i aN aT ah O n A,jX P s.heap O->s.heap.objs.size<=O.objs.size->TabAt O P A->tX s.heap O au E aj A i->
   aE (.ref O.objs.size) {s with heap:=O.push (Bt R E aH t g H aT ah i aN),toks:=n}):
  aQ bz bC (makeFunction R E aH t g G [] [] [] au bf) aE bh s:=by
 rw [makeFunction_eq];simp only [List.zip_nil_right,List.filterMap_nil,List.isEmpty_nil,if_true,pure_bind];refine KO ao λbl bx w q aY F u B T v=>?_
 delta makeTail
 rw [S,aC];refine aG (bM ?_);cases H with
 |nil=>
  refine aG (bM (aG (Kn c d k λi O n A j m a z=>?_)));have e:=L.extBut j y;refine aG (SZ e w q (j _ _ F u) B T v (aG (S3 e ?_)));cases t with
  |expr x=>exact aG (bM (rX (h i _ .none _ O n A j m a z) (by size_fits)))
  |stmts b=>
   dsimp only;cases aM:docOf b with
   |none=>exact aG (bM (rX (h i _ .none _ O n A j m a z) (by size_fits)))
   |some aF=>exact aG (Aq (rX (h i _ _ _ O _ A j m a z) (by size_fits)))
 |cons bE a_=>
  refine aG (wpAny_newTextTuple ?_);have Q:∀l b o,s.heap.get? b=D o->(s.heap.push l).get? b=D o:=λl b o x=>eG _ x;refine aG (Kn c (d.keeps (Q _)) ⟨Q _ _ _ k.1,k.2⟩ λi O n A j m a z=>?_);have p:jX P s.heap O:=λb o aP x=>j b o aP (Q _ b o x);have r:∀l:bL,s.heap.objs.size<=(s.heap.push l).objs.size:=λl=>by simp only [lM];exact fO _ _
  have X:=z.up (r _);have e:=L.extBut p y;refine aG (SZ e w q (p _ _ F u) B T v (aG (S3 e ?_)));have f:=aD (r _) m;cases t with
  |expr x=>exact aG (bM (rX (h i _ .none _ O n A p f a X) (by size_fits)))
  |stmts b=>
   dsimp only;cases aM:docOf b with
   |none=>exact aG (bM (rX (h i _ .none _ O n A p f a X) (by size_fits)))
   |some aF=>exact aG (Aq (rX (h i _ _ _ O _ A p f a X) (by size_fits)))
end
def DT(L:Fz)(q:af)(i:aB):Prop:=∃b o z A,i=.ref b/\L b=D o/\o.data=.fields z/\z[1]?=D (.str q A)
def r6(L:Fz)(f:I (ig×af))(S:iR aB):Prop:=∀x∈f,∀i,codeAmong x.1 S.toList=D i->DT L x.2 i
theorem r6.le(x:r6 h f S)(l:AH h u):r6 u f S:=λH L i e=>Bj (x H L i e) λb o z A t a w j=>(q7 b o z A t (l b o z w a) w j)
theorem JR{p:ig}(h:TriplesOk l)(e:codeAmong p (l++[c4 a,c4 b,c])=D i):codeAmong p l=D i\/i=c/\(a)=p.line/\b=p.col:=by
 fun_induction TriplesOk l with
 |case1=>
  have e:(if a==(p.line:aS)&&b==(p.col)then D c else aa)=D i:=e
  split at e
  .rename_i q;exact .inr ⟨(bj e).symm,iS (cQ.mp q).1,iS (cQ.mp q).2⟩
  .exact aV C (e)
 |case2 T A z y x rest n=>
  have e:(if T==(p.line)&&z==(p.col)then D x else codeAmong p (rest++[c4 a,c4 b,c]))=D i:=e
  split at e
  .exact .inl (ae (aL ‹_›) e)
  .exact(n h e).imp (λq=>(aJ ‹_›).trans q) id
 |case3 l w v=>exact h.elim
structure jK(B:bD O)(mg:af->bg aB)(c P:aq)(ks:I (ig×af)):Prop where
 tab:P∈B.tabs
 hd:∀{h},bF B.h₀ h->lQ h c P
 at_:∀{f h},B.inv f h->∃ps,TabAt h P ps/\r6 f ks ps
 put:∀{f f' h h'},B.inv f h->AH f f'->(∀Q∈B.tabs,Q≠P->∀o,h.get? Q=D o->h'.get? Q=D o)->(∃ps,TabAt h' P ps/\r6 f' ks ps)->B.inv f' h'
 ne:j0≠P
 bm:∀{h},bF B.h₀ h->h.BuiltinsAt mg P
theorem A7(h:∀x∈v.names,x.2≠.free):closureFor v G=pure []:=by
 rw [closureFor]
 rw [forIn_yield_id [] (λx j c=>by
  obtain⟨u,e⟩:=x;have:(e==Dw)=ay:=by simpa using h _ j
  simp only [this,Bool.false_eq_true,if_false])]
 rfl
structure Jh(h:cf)(f:Fz)(a P:aq)(pos:ig)(q:af)(ks:I (ig×af))(cv:aB):Prop where
 kn:(∃x∈ks,x.1=pos)->DT f q cv
 nw:(∀ps,TabAt h P ps->codeAmong pos ps.toList=aa)->∃c' o vs t,cv=.ref c'/\h.get? c'=aa/\c'≠a/\f c'=D o/\o.data=.fields vs/\vs[1]?=D (.str q t)
theorem Na{v:jg}{H:I _}
  (bf:fe X bQ eB)(K:jK X bQ ck aM ao)(au:∀x∈ao,(z.line:aS)=x.1.line->(z.col:aS)=x.1.col->x.2=E)(bW:G.code=.ref ck)(cC:closureFor v G=pure H)(cF:gm G)(S:aW X cM cJ g G bl bx bC bE bI s.heap)
  (aE:∀i d r y O n a f,bP s {s with heap:=O,toks:=n}->Le g f->aW X cM cJ f G bl bx bC bE bI O->O.get? a=D (Bt aj E aC ak v H r y i d)->s.heap.get? a=aa->kZ X s.heap O->Jh s.heap f a aM z E ao i->(∀b o,f b=D o->g b=D o\/s.heap.get? b=aa/\b≠a)->
   Q (.ref a) {s with heap:=O,toks:=n}):
  aQ (aI ew c9) dG (makeFunction aj E aC ak v G [] [] [] z dU) Q ee s:=by
 refine ai (K.at_ S.inv) λer ah T=>aab cC cF.globals (bf.g S.base) bW (K.hd S.base) ah K.ne (K.bm S.base) λi d r y O n A j aN l a_=>?_;have w:∀b,b≠aM->∀o,s.heap.get? b=D o->(O.push (Bt aj E aC ak v H r y i d)).get? b=D o:=λb bh o e=>eG _ (j b o bh e);have k:kZ X s.heap _:=λb bz o e=>w b (λq=>bz (q▸K.tab)) o e;have R:∀{b},s.heap.objs.size<=b->s.heap.get? b=aa:=λ{b}F=>by
  cases q:s.heap.get? b with
  |none=>rfl
  |some o=>exact bA (fk q) (ie.mpr F)
 cases a_ with
 |wq e p=>
  subst p;exact aE i d r y _ n _ g (cH _ _ C) (Le.refl _) (S.grow k (K.put S.inv (λ_ _ _ _ e=>e) (λQ bR u o e=>w Q u o e) (aR A ⟨eG _ l.1,l.2⟩ T)) (Le.refl _) λb o e=>.inl e) (eS _ C) (R aN) k
   ⟨λbZ=>ai bZ λx j t=>((au x j (aA (λp:ig=>(p.line:aS)) t.symm) (aA (λp:ig=>(p.col:aS)) t.symm))▸T x j i (t▸e)),λcu=>aV (cu A ah) e⟩ λb o e=>.inl e
 |new m e h F cB p=>
  refine yx cB λdN c aF aH b_ aK L=>?_;obtain rfl:=ku (ae h.symm b_);have P:=R F;have B:Le g (k_ g m c):=yE (iY λo q=>aV P (S.bJ _ _ q));have aP:DT (k_ g m c) E i:=q7 m c aF aH h qW L.1 L.2;have aT:=fk aK;refine aE i d r y _ n _ _ (cH _ _ C) B (S.grow k (K.put S.inv (λb o _ _ e=>B b o e) (λQ bR u o e=>w Q u o e) (aR A ⟨eG _ l.1,l.2⟩ λx j cU q=>?_)) B λb o q=>qX q (λq cX=>.inr (q▸cX▸⟨P,eG _ aK⟩)) .inl) (eS _ C) (R aN) k
   ⟨λ_=>aP,λ_=>(Yw m c aF aH h P (fH aT) qW L.1 L.2)⟩ λb o q=>qX q (λq _=>.inr (q▸⟨P,fH aT⟩)) .inl
  rw [p]at q;rcases JR ah.2 q with q|⟨q,t,aY⟩
  .exact(T.le λb o _ _ e=>B b o e) x j cU q
  .exact(au x j t aY)▸(q)▸(h)▸(aP)
theorem Gg{g:Fz}{V:c3}{k:J}{y:I _}{l mb:af->bg aB}{c P:aq}{q:As}{v:jg}{H:I _}{s:aU}{E:aB->aU->Prop}{Q:aB->aU->Prop}{m:af->bg aB}{r:J->I aq}
  (G:fe X l mb)(K:jK X l c P f)(z:∀x∈f,(u.line:aS)=x.1.line->(u.col:aS)=x.1.col->x.2=V.qual++"<lambda>")(t:V.code=.ref c)(L:closureFor v V=pure H)(hd:defaultsOf q V=([],[]))(eo:gm V)(S:aW X F hB g V xs k y m r s.heap)
  (h:∀i d p w O n a j,bP s {s with heap:=O,toks:=n}->Le g j->aW X F hB j V xs k y m r O->O.get? a=D (Bt "<lambda>" (V.qual++"<lambda>") q (.expr e) v H p w i d)->s.heap.get? a=aa->kZ X s.heap O->Jh s.heap j a P u (V.qual++"<lambda>") f i->(∀b o,j b=D o->g b=D o\/s.heap.get? b=aa/\b≠a)->Q (.ref a) {s with heap:=O,toks:=n}):
  aQ (aI Z B) A (eval (.Lambda q e v u) V) Q E s:=by
 rw [arm_eval_Lambda,hd];exact aG (bM (aG (gH (bM (Na G K z t L eo S h)))))
section
open Builtin.Re
noncomputable def yw:J->DI->bg DI
 |0,_=>aa
 |u+1,m=>let b:=m.runFor reTurnSteps;if b.outcome.isSome then D b else yw u b
noncomputable def E1:bg SN->bw
 |D .failed=>Y
 |_=>ay
def uQ(code:iR J)(e:iR J)(a:J):bw:=(yw 1000 (Ah code e a 0 e.size ay)).any λm=>E1 m.outcome
theorem Lf{o:bg SN}(h:E1 o=Y):o=D .failed:=by
 cases o with
 |none=>exact cY C h
 |some x=>cases x with
  |failed=>rfl
  |_=>exact cY C h
theorem Pq:Slot "function" "__call__" "function.__call__":=
 .of (owner:="function") (n:="__call__") (by kernel_rfl) (C) (C) (C)
  (by first|exact .inl (C)|exact .inr _) (by exact C)
theorem w9:Slot "re.Pattern" "sub" "re.Pattern.sub":=
 .of (owner:="re.Pattern") (n:="sub") (by kernel_rfl) (C) (C) (C)
  (by first|exact .inl _|exact .inr (C)) (by kernel_rfl)
theorem Qt:typeOf (.builtin "re.Pattern.sub")=pure (.type "method_descriptor"):=by kernel_rfl
theorem K0:entryFor table "re.Pattern.sub"=D Builtin.«re.Pattern.sub»:=Ak (C)
theorem EV:entryFor table "re.Pattern.sub.loop"=D Builtin.«re.Pattern.sub.loop»:=Ak (C)
theorem JV(a b d:aB):argsOk "re.Pattern.sub" ⟨[a,b,d],[]⟩:=by kernel_rfl
section
variable{Z:cy}{w:bX}{A:cZ}{E:aB->aU->Prop}
theorem Bg:∀(u p:J)(m:DI),u<=p->yw u m=D b->Q b s->aQ (aI Z w) A (reDrive p m) Q E s
 |0,_,_,_,h,_=>aV C h
 |u+1,0,_,z,_,_=>by omega
 |u+1,p+1,m,z,h,k=>by
  have h:@ite _ _ _ _ _=D _:=h;show aQ _ _ (@ite _ _ _ _ _) _ _ _
  split
  .rename_i q;rw [aL q]at h;exact bj h▸(bM k)
  .rename_i q;rw [aJ q]at h;exact aG (yf (Bg u p _ (agx ‹_›) h k))
theorem G5{L:J->bw}{f:J->String}:∀l:I J,Q ⟨⟩ s->aQ (aI Z w) A (forIn l Ss λi h=>if L i=Y then do rule (f i);pure (vy Ss)else pure (vy Ss)) Q E s:=λT=>T.rec
 (λk=>by exact bM k)
 (λi l n k=>by
  rw [RZ];apply aG
  split
  .exact aG (yf (bM (n k)))
  .exact bM (n k))
set_option tactic.hygienic true in
theorem acy{code:iR J}(h:uQ code e a=Y)(k:Q aa s):aQ (aI Z w) A (reRunToEnd (Ah code e a 0 e.size ay)) Q E s:=by
 refine ai ((I3 _ _).mp h) λm R T=>?_;exact aG (Bg 1000 _ _ (dK _ _) R (aG (G5 _ ((Lf T).symm▸(bM k)))))
inductive qO(h:cf)(p:aq)(code:I J)(groups:J):Prop
 |mk(o:bL)(a b:aB)(d:fT)(e:aB)(ct:aq)(oc:bL)(n:J)(h1:h.get? p=D o)(h2:o.cls=.type "re.Pattern")(h3:o.dict=aa)(h4:o.data=.fields #[a,b,.int groups d,e,.none,.ref ct,.int 0 0])(h5:h.get? ct=D oc)(h6:oc.data=.seq (code.map λ(x:J)=>c4 (x:aS)).toArray n)
theorem qO.keeps{p:aq}{code:I J}{f:J}(x:qO h p code f)(k:∀b o,h.get? b=D o->O.get? b=D o):qO O p code f:=by
 obtain⟨o,a,b,d,e,F,n,u,w,v,R,g,H,m⟩:=x;exact⟨o,a,b,d,e,F,n,u,k _ _ w,v,R,g,k _ _ H,m⟩
theorem zK{code:I J}{l:I J}(P:qO s.heap p code f)(h:Q ⟨.ref p,.str (cj l) e,code.toArray,l.toArray,0,f,0,U l⟩ s):
  aQ (aI Z w) A (reWholeTarget (.ref p) (.str (cj l) e)) Q E s:=by
 obtain⟨o,b,k,d,n,F,j,u,a,v,R,g,H,m⟩:=P;refine aG (wpAny_fieldsOf a g (aG (iQ (a:=(l.toArray,0)) (C) ?_)));refine aG (iQ (C) (aG (aG (yg H m (bM (bM ?_))))));have t:(((D (List.map (λ(x:J)=>c4 (x)) code).toArray).getD #[]).map reRawOf).map (λx=>x.toNat)=code.toArray:=by
  show((code.map λ(x:J)=>c4 x).toArray.map reRawOf).map _=_;simp only [age];exact aA xZ (code.rec C λx r i=>aA (x::·) i)
 exact t.symm▸h
theorem CP(e:x.extract i t=l.toArray)(B:l.length<=sizeLine)(h:Q (.str (cj l) s.toks) {s with toks:=s.toks+1}):aQ (aI Z w) A (reSlice x 0 i t) Q E s:=by
 refine mw (aL (C)) ?_;rw [e];exact tU h B
theorem HK(X:s.heap.get? H=D (lo z b))(g:U z<=sizeLine)(a:∀i k,jX H s.heap i->i.get? H=D (lo (z++[x]) k)->Q () {s with heap:=i}):aQ (aI Z w) A (updateSeq H λh=>h.push x) Q E s:=by
 have e:∃k,nJ (λh=>h.push x) (lo z b)=lo (z++[x]) k:=⟨_,by simp [nJ,lo];rfl⟩;exact bH e λk e=>wpAny_updateSeq X C (a _ k (λl o u q=>(oG ..).2 l u|>.trans q) (ae (pR _ X C) (aA D e))) g (aD (fq (Rp _)) (jx g))
theorem ZP{code:I J}{l:I J}{h:fT}{Q:aB->aU->Prop}(P:qO s.heap p code f)(z:uQ code.toArray l.toArray f=Y)(n:l≠[])(m:U l<=100000)(X:s.heap.get? H=D (lo [] q))
  (e:∀O G c,jX H s.heap O->Q (.str (cj l) G) {s with heap:=O,toks:=c}):
  aQ (aI Z w) A (Builtin.«re.Pattern.sub.loop» ⟨[.ref p,.str (cj l) h,.ref o,c4 1,c4 0,c4 0,c4 0,c4 0,.bool ay,.ref H,.bool ay],[]⟩) (λy t=>∃r,y=.done (.ret r)/\Q r t) E s:=by
 refine aG (zK P (aG (acy (z) ?_)));apply mw (aL ((agb.mpr n)));refine aG (CP (l:=l) (by simp) (aD m (az C)) (aG (HK X (gF _) λi k j L=>?_)));refine aG (CP (l:=[]) (by simp) (gF _) (aG (yg L C (aG (Sw (ys:=[cj l]) (items:=[DJ (cj l) s.toks].toArray) (i12 _ L C ⟨k,C⟩) (.cons _ _ .nil) ?_ λb x=>?_)))))
 .simp only [str_len];simp [str_len];exact aD m (az C)
 .apply mw (aJ (Ru));have a:Ai (cj []) [cj l]=cj l:=by
   have:=join_nil [l];simpa using this
  exact a.symm▸(bM (aR _ C (e i b x j)))
theorem ads{code:I J}{f:J}(P:qO s.heap p code f)(T:s.heap.get? L=D o)(k:o.cls=.type "function")(z:uQ code.toArray l.toArray f=Y)(n:l≠[])(m:U l<=100000)
  (a:∀O G c,bF s.heap O->Q (.str (cj l) G) {s with heap:=O,toks:=c}):aQ (aI Z w) A (call (.builtin "re.Pattern.sub") [.ref p,.ref L,.str (cj l) g]) Q E s:=by
 refine i8 (qL w9.plain K0 (w9.check _ _ _ _ _ _ _ _ (by obtain⟨o,d,b,H,e,F,u,X,i,v,_⟩:=P;exact(aR o i v)) (JV _ _ _) ?_));refine aG (iQ (a:=[D (.ref L),D (.str (cj l) g),aa]) (C) ?_);refine aG (bM (aG (Ar (aR o T k) Pq.lookup (aG (bM (aG (bM ?_)))))));refine aG (gH (zK P (aG (aG (S1 (T:="str") (b:=ay) (tR _ _ _) (by rw [isSubtype_type];exact C) (bM (aG (DN (bM ?_)))))))));have B:bF s.heap (s.heap.push (lo [] 0)):=bF.push _ _;refine⟨zW _ (by decide+kernel),Aj EV (kX (Q:=λy t=>∃r,y=.done (.ret r)/\Q r t) (ZP (s:={s with heap:=s.heap.push (lo [] 0)}) (P.keeps B) z n m (eS _ C) λO G c j=>?_) (λy t x=>by refine ai x λr e q=>?_;subst e;exact q) λh h x=>x)⟩;refine a O G c λb o e=>j b o (λq=>?_) (B b o e);subst q;exact bA (fk e) (i7 _)
end
example:[42,63,91].all (λa=>uQ #[14,14,4,1,1,9,0,64,0,1342177280,0,0,0,0,0,17,0,13,11,9,0,64,0,1342177280,0,0,0,0,0,17,1,1] #[a] 1)=Y:=by decide+kernel
end
section
open Builtin.Re
theorem ON:PlainAttrs "re.Pattern":=
 ⟨(aR ("object.__getattribute__") (by kernel_rfl) (C)),by kernel_rfl⟩
theorem oi(i:dO e=Y)(h:aQ (aI m w) L (eval e G) (λv c=>aQ (aI m w) L (spliced (backTo u (starEach Q G))) (λz F=>a (v::z) F) H c) H s):
  aQ (aI m w) L (spliced (backTo u (starEach (e::Q) G))) a H s:=(mV (g_ i)).symm▸(pW h)
theorem t9(m:dO e=Y)(h:aQ (aI a w) L (spliced (backTo u (starEach (e::Q) G))) (λz t=>i ⟨z,[]⟩ t) H s):aQ (aI a w) L (evalArgs x Y (backTo u (starEach (e::Q) G)) []) i H s:=by
 rw [mV (g_ m)]at h⊢;exact tO h
structure vX(y:Ly O):Prop where
 ex:∃p,y.mg "_twin_re_1"=D (.ref p)/\∀{h},bF y.B.h₀ h->qO h p [14,14,4,1,1,9,0,64,0,1342177280,0,0,0,0,0,17,0,13,11,9,0,64,0,1342177280,0,0,0,0,0,17,1,1] 1
noncomputable abbrev wd:I J:=[14,14,4,1,1,9,0,64,0,1342177280,0,0,0,0,0,17,0,13,11,9,0,64,0,1342177280,0,0,0,0,0,17,1,1]
noncomputable def uq:cE->cE×jg×As×ig
 |.Lambda p e s q=>(e,s,p,q)
 |.GeneratorExp e _ s q=>(e,s,default,q)
 |_=>(default,default,default,default)
def BN:cE:=(xV t7).1
def Gd:ig:=(uq BN).2.2.2
def m3:I (ig×af):=[(Gd,"_translate.<locals>.<lambda>")]
theorem MR{G:c3}(k:G.qual="_translate.<locals>."):∀x∈m3,(Gd.line:aS)=x.1.line->(Gd.col:aS)=x.1.col->x.2=G.qual++"<lambda>":=λx j _ _=>by
 rw [cO.mp j,k];decide+kernel
theorem adq{H:Ly aj}{G:c3}{L:cZ}(e:vX H)(K:jK H.B H.mg a aF m3)(x:dW L u)(F:Fm G x9 13 n9)(q:G.code=.ref a)(k:G.qual="_translate.<locals>."){l:I J}(z:uQ wd.toArray l.toArray 1=Y)(n:l≠[])(m:U l<=100000){y:I _}(X:y[9]?=D (.t (.str l))):
  EE (H.c L bh G u x) x9 13 y t7 y (.str l):=by
 refine ai e.ex λbC p s=>?_;constructor;intro aH aK aM aN a_ S R;obtain⟨w,i,r,S⟩:=S;obtain⟨o,_,_,_,_,_,_,_,h,v,b,_⟩:=s S.base;refine lP C (oA _) C ON w9 Qt (nZ H.G w S.base (F.kn 15 C nofun) p (F.kg 15 C) (dI (aR o h v) (λbz j=>by obtain rfl:=ku j;exact(aR o h b)) (kA (C) (t9 C (oi C (Gg H.G K (MR k) q (A7 ?_) ?_ w S λbQ bR ak ao au aC aE g d c E B aP aT _ _=>?_))))))
 .decide
 .rfl
 .refine oi C (cps λaY T=>?_);obtain⟨bf,O,bl,bx,rfl,A⟩:=E.vars 9 "stuff" _ C X;refine T (eO (eK w E.ns O (lO (bH (jj A) λt P=>?_))) (F.eY (i:=9) C));subst P;refine ads (s E.base) B C z n m λbE bI Q ah=>?_;have f:=cg.keeps (t:=Q) (E.ready) ah;exact R _ g _ (d.trans f.same) c ⟨w,i,r,E.step f⟩ (.str _ _)
end
section
set_option tactic.hygienic true
theorem E5:typeLookup (.type "function") "read"=pure aa:=by kernel_rfl
theorem W9:typeLookup (.type "function") "__getattr__"=pure aa:=by kernel_rfl
theorem zE:Slot "function" "__getattribute__" "object.__getattribute__":=
 .of (owner:="object") (n:="__getattribute__") (by kernel_rfl) (C) (C) (C)
  (by first|exact .inl (C)|exact .inr _) (by exact C)
variable{os:OsState}
theorem ab4(j:h.get? a=D ⟨.type "function",D r,.func S,L⟩)(R:h.Ns r m)(e:m "read"=D v)(k:Q (.done (.ret v)) ⟨h,f,d,A,os⟩):
  aQ (aI i w) x (Builtin.«object.__getattribute__» ⟨[.ref a,.str "read" n],[]⟩) Q H ⟨h,f,d,A,os⟩:=by
 have q:(⟨h,f,d,A,os⟩:aU).TypeIs (.ref a) "function":=(aR _ j C);have B:=E5
 repeat(any_goals(first|assumption|(with_reducible apply S3 R;rw [e])|wp_step))
 trace_state
theorem ab2(j:h.get? a=D ⟨.type "function",D r,.func S,x⟩)(R:h.Ns r m)(e:m "read"=D v)(B:handedIn v=Y)(k:Q v ⟨h,f,d,A,os⟩):
  aQ (aI i w) L (getAttrBy (.ref a) (.str "read" n) Y ay) Q H ⟨h,f,d,A,os⟩:=by
 have q:(⟨h,f,d,A,os⟩:aU).TypeIs (.ref a) "function":=(aR _ j C);have b:=zE.lookup;have s:=zE.bind (.ref a)
 repeat(any_goals(first|assumption|wp_step))
 exact qL zE.plain agW (zE.check _ _ _ _ _ _ _ _ q (agV _ _) (ab4 j R e (handed_on B k)))
theorem ab0(j:h.get? a=D ⟨.type "function",D r,.func S,L⟩)(R:h.Ns r m)(d:m "read"=D v)(B:handedIn v=Y)(k:Q v ⟨h,f,e,A+1,os⟩):
  aQ (aI i w) x (getAttr (.ref a) "read") Q H ⟨h,f,e,A,os⟩:=aG (Aq (ab2 j R d B k))
theorem ab5(j:h.get? a=D ⟨.type "function",D r,.func S,b⟩)(R:h.Ns r i)(e:i "read"=D v)(B:handedIn v=Y)(k:Q (v,[]) ⟨h,f,d,A+1,os⟩):
  aQ (aI m w) L (getMethod (.ref a) "read" x) Q H ⟨h,f,d,A,os⟩:=by
 have q:(⟨h,f,d,A,os⟩:aU).TypeIs (.ref a) "function":=(aR _ j C);refine aG (Ar q zE.lookup ?_);show aQ (aI m w) L (if(Manifest.canonical "object.__getattribute__"!="object.__getattribute__")=Y then _ else _) Q H _;exact aG (Ar q W9 (aG (Ar q E5 (aG (ab0 j R e B (bM k))))))
end
section
open Builtin Builtin.ObjectAttr
set_option tactic.hygienic true
theorem Hl:Slot "function" "__setattr__" "object.__setattr__":=
 .of (owner:="object") (n:="__setattr__") (by kernel_rfl) (C) (C) (C)
  (by first|exact .inl (C)|exact .inr _) (by exact C)
theorem aac:mroOf (.type "function")=pure [.type "function",.type "object"]:=by exact C
theorem ac_(j:s.heap.get? a=D ⟨.type "function",aa,.func S,L⟩)
  (r:∀O n,jX a s.heap O->O.get? a=D ⟨.type "function",D s.heap.objs.size,.func S,L⟩->(O.Ns s.heap.objs.size λx=>if x="read"then D v else aa)->Q (.done (.ret .none)) {s with heap:=O,toks:=n}):
  aQ (aI y w) c (Builtin.«object.__setattr__» ⟨[.ref a,.str "read" n,v],[]⟩) Q H s:=by
 rw [osa_eq,refuse_eq];refine aG (aG (S5 (aR _ j C) (aG (iQ aac (bM (aG (S5 (aR _ j C) (aG (iQ E5 (aG (iQ (by rfl) (aG (iQ (a:=()) (C) (aG (m:=ownDictForStores (.ref a)) ?_))))))))))))));refine aG (Je j ?_);dsimp only;refine aG (wpAny_alloc ?_);have t:(s.heap.push emptyDict).get? a=D ⟨.type "function",aa,.func S,L⟩:=eG _ j;have h:=vH (fk j);refine aG (wpAny_update t ?_);have z:=pR (λo=>{cls:=o.cls,dict:=D s.heap.objs.size,data:=o.data,slots:=o.slots}) t C;have f:gW a (s.heap.push emptyDict) ((s.heap.push emptyDict).update a λo=>{cls:=o.cls,dict:=D s.heap.objs.size,data:=o.data,slots:=o.slots}):=oG ..;have l:=ae (f.2 _ h) (eS _ C);have g:∀b o,b≠a->s.heap.get? b=D o->((s.heap.push emptyDict).update a λo=>{cls:=o.cls,dict:=D s.heap.objs.size,data:=o.data,slots:=o.slots}).get? b=D o:=λb o u e=>ae (f.2 b u) (eG _ e);generalize((s.heap.push emptyDict).update a λo=>{cls:=o.cls,dict:=D s.heap.objs.size,data:=o.data,slots:=o.slots})=i at z l g;apply iQ (C);dsimp only;refine aG (iQ (a:=()) (C) (aG (aG (aG (wpAny_askSetting (bM (aG (Aq (aG (Je l ?_))))))))));dsimp only;have e:=putName_dict "read" (rT w.params "read") (.str "read" s.toks) v [] 0;have k:(i.update s.heap.objs.size (Sq "read" (rT w.params "read") (.str "read" s.toks) v)).get? s.heap.objs.size=D (dictOf [⟨rT w.params "read",.str "read" s.toks,v⟩] (putN "read" [] 0)):=by
  apply ae (pR _ l (C));exact aA D e
 have d:gW s.heap.objs.size i (i.update s.heap.objs.size (Sq "read" (rT w.params "read") (.str "read" s.toks) v)):=oG ..;refine S6 l (aG (wpAny_lookBehind k (pastItsLine_dict (by exact gE _)) (bM (r _ _ (λb o u e=>(d.2 b λq=>?_).trans (g b o u e)) (ae (d.2 a h.symm) z) (o5 _ _ _ k C (λe m=>?_) (λx=>?_))))))
 .subst q;exact bA (fk e) (i7 _)
 .simp only [agh,cO]at m;subst m;exact(cH _ _ C)
 .delta nsFind findBy
  by_cases q:x="read"
  .subst q;exact C
  .have:((Str.ofString "read")==x)=ay:=by rw [beq_eq_false_iff_ne];exact iF q
   apply ae (aA (qK afP) (Array.find?_singleton (p:=λe:DictEntry=>e.key.isStr x)));exact ae (aA (qK afP) (aJ (show¬(Value.isStr (.str "read" s.toks) x)=Y fromλp=>Ru (this.symm.trans p)))) (aJ q).symm
theorem ac7(j:s.heap.get? a=D ⟨.type "function",aa,.func S,L⟩)
  (k:∀O n,jX a s.heap O->O.get? a=D ⟨.type "function",D s.heap.objs.size,.func S,L⟩->(O.Ns s.heap.objs.size λx=>if x="read"then D v else aa)->Q () {s with heap:=O,toks:=n}):
  aQ (aI m w) h (setAttr (.ref a) "read" v) Q H s:=by
 have q:s.TypeIs (.ref a) "function":=(aR _ j C);exact aG (Aq (aG (ag_ q Hl (i8 (qL Hl.plain ag0.entry (Hl.check _ _ _ _ _ _ _ _ q (ag0.args _ _ _) (ac_ j λO n G l u=>(bM (k O n G l u)))))))))
end
noncomputable def nsR:I (af×fc):=[("size",.local),("at",.free),("octets",.free),("bytes",.globalImplicit)]
noncomputable def xR:I af:=["size","octets","at"]
noncomputable def nT(l:I J):I T:=l.map λi:J=>.int (i:aS)
theorem Mh:∀{l:I J}{z:I aB},bu F g z (nT l)->IntsAre z (l.map λi:J=>(i))
 |[],_,d=>d.ja (P:=λz=>IntsAre z []) .nil
 |_::_,_,d=>d.jA (P:=λz=>IntsAre z _) λE G a b=>a.gR (P:=λv=>IntsAre (v::G) _) λA=>.cons _ A (Mh b)
theorem kF.qh{z:I aB}{l:I J}(h:kF z l):bu ρ fz z (nT l):=kF.rec .nil (λE i=>.cons (.int _ _) i) h
theorem kF.of:∀{l:I J}{z:I aB},bu F g z (nT l)->kF z l
 |[],_,d=>d.ja (P:=λz=>kF z []) .nil
 |_::_,_,d=>d.jA (P:=λz=>kF z _) λE G a b=>a.gR (P:=λv=>kF (v::G) _) λE=>.cons (kF.of b)
noncomputable def lU(l:I J):iR UInt8:=byteArr (l.map λi:J=>(i:aS))
theorem ae_(F:Fm c.V h k b)(t:J)(O:b[t]?=D (("bytes":af),.globalImplicit))(j:EE c h k aj e P (.list (nT l)))(aC:∀i∈l,i<256)(m:U l<=1000)(L:dO e=Y):
  SP c h k aj (.Return (D (.Call (.Name "bytes" p) [e] [] u)) u) λy X=>∃A,y=P/\X=.ret (.bV (.bytes (lU l) A)):=by
 constructor;intro aT bC bh bl bz aY S o;have Q:∀R∈[e],∀x p,R≠.Starred x p:=λR q=>by exact(cO.mp q)▸(g_ L)
 refine bT (c.bi 8 "bytes" (.type "bytes") C) λf g=>I_ (kD (nY c.G S.1 S.ready.base (F.kn t O nofun) f g (F.kg t O) (I6 (kL [e] Q) (jM Q (qT j.1 lX (g_ L)) S λbE d z w H E s=>?_))));obtain⟨v,z,rfl,B,r⟩:=s.jA (P:=λah=>∃v G,ah=v::G/\Den _ _ v _/\bu _ _ G _) λv G x ak=>⟨v,G,C,x,ak⟩;obtain rfl:=r.ja C;refine jl (qg B) λbx z n ao au a=>?_;subst ao;refine call_bytes_ints (gy E.ready.bJ au) (Mh a) (λn T=>?_) ?_ c.R.handled λa_ A k aF=>?_
 .refine ai (dZ.mp T) λi aH aK=>?_;subst aK;have:=aC i aH;exact⟨mE.mpr (eF (.n 0) (.v 0) C [_]),jY.mpr (this)⟩
 .simp only [a.length,rU];simp [nT];exact aD m (az C)
 .obtain⟨aE,aN,aM,aP⟩:=E;exact o _ d _ P _ (aR A C C) (w.trans (cH _ _ C)) H ⟨aE,aN,aM,aP.ux aF (Le.refl _) λbI bf e=>.inl e⟩ (.bV _)
section
variable{n:J}
theorem T8(k n:J):qc .Add (.int k) (.int n)=D (.int (k+n:J)):=C
theorem subNat(k n:J):kH .Sub (.int (k+n:J)) (.int n)=D (.int k):=by
 have:((k+n):aS)-(n)=(k):=by omega
 exact this.symm▸C
theorem ab1(F:Fm c.V xR 1 nsR)(f:∀i∈bs,i<256)(B:k+n<=U bs)(X:U bs<=1000):
  XP c xR 1 [.t (.int n),.t (.list (nT bs)),.own [.int k]] (dD u_) λx A=>∃t,A=.ret (.bV (.bytes (lU ((bs.drop k).take n)) t))/\x=[.t (.int n),.t (.list (nT bs)),.own [.int (k+n:J)]]:=by
 have s:cut (D ((k):aS)) (D ((k+n:J))) (nT bs)=nT ((bs.drop k).take n):=by
  simp only [Ku,RS,show k+n-k=n by exact fS (cS 0 (.v 2) (.v 1) (.a (.v 2) (.v 0)) (.a (.v 0) (.v 1)) C [_,_,_] ((lz (eF (.v 0) (.a (.v 0) (.v 1)) C [_,_])))) (cS 0 (.v 1) (.v 2) (.a (.v 0) (.v 1)) (.a (.v 2) (.v 0)) C [_,_,_] m9)];unfold nT;simp only [List.map_take,List.map_drop]
 refine⟨C9 (QK F 2 C C (zi 0) C C (zv F 0 C C) C (τ:=.int (k+n:J)) (T8 k n) C C (λE E E=>C)).1 (zL (ae_ F 3 C (l:=(bs.drop k).take n) (gJ (kQ (zv F 1 C C) (iM (fh (zP F 2 C C (vq 0) C C) (zv F 0 C C) (subNat k n))) (iM (zP F 2 C C (vq 0) C C)) (w6 (by simp [nT];exact aD X (az C)) s)) C) (λi h=>f i (agg (Dv h))) (by simp;exact jS 0 (.v 3) (.n 1000) (.a (.v 0) (.v 1)) (.v 2) (.v 2) (.n 1000) (.v 3) (.v 1) C [_,_,_,_] B X aar) C).1 λP A q=>?_)⟩;obtain⟨t,rfl,rfl⟩:=q;exact .inr ⟨nofun,t,C,C⟩
end
theorem gp.put(u:gp l s R)(i:J){P Q:bL->Prop}{X:bL}(A:l[i]?=D (a,P))(k:∀b∈R,b≠a->∀o,s.get? b=D o->h.get? b=D o)(z:h.get? a=D X)(x:Q X):gp (l.set i (a,Q)) h R:=by
 have e:∀{t:J}{E:aq×(bL->Prop)},l[t]?=D E->R[t]?=D E.1:=λg=>u.ad▸(ae jv (aA _ g));refine⟨λE g=>?_,ae u.ad ?_,u.nd⟩
 .refine bH (pS g) λt O=>?_
  by_cases q:i=t
  .subst q;exact bj ((jw (cG.mp A).1).symm.trans O)▸(aR X z x)
  .have O:=(lN q).symm.trans O;exact ai (u.dY E (cN O)) λo T p=>(aR o (k E.1 (cN (e O)) (λr=>q (qt u.nd (e A) (ae (e O) (aA D r)))) o T) p)
 .refine RU λt=>?_;apply ae (jv);rw [jv]
  by_cases q:i=t
  .subst q;rw [A,jw (cG.mp A).1];rfl
  .rw [lN q]
noncomputable def zp(S:rY)(H a:aq):c3:=newEnv S.scope H S.globals S.closure (S.qualname++".<locals>.") (D a) S.code aa S.builtins
structure AO(st d rd c1 a c2 oc cc:aq)(bs:I J)(k:J)(h:cf)(fd:rY)(sl:iR (bg aB))(vs:I aB)(nn:J):Prop where
 rd:h.get? rd=D ⟨.type "function",aa,.func fd,sl⟩
 R:Jq fd c1 c2 cc
 q:fd.qualname="_law_stream.<locals>._law_read"
 c1:h.IsCell c1 (D (.ref a))
 a:∃t n,h.get? a=D (lo [.int (k:aS) t] n)
 c2:h.IsCell c2 (D (.ref oc))
 oc:h.get? oc=D (lo vs nn)
 vs:kF vs bs
 cd:h.CodeRec fd.code fd.qualname
section
variable{st:aq}
theorem ade(o:gp (w_ st x O y a g n p bs k) e v):∃S L z X,AO st x O y a g n p bs k e S L z X:=by
 refine cps λt f=>?_;refine ai (o.dY _ (d9 2 C)) λE R d=>?_;obtain⟨S,L,rfl,i,q⟩:=d;refine ai (o.dY _ (d9 4 C)) λE H d=>?_;obtain⟨A,u,rfl⟩:=d;refine ai (o.dY _ (d9 6 C)) λE j d=>?_;obtain⟨z,X,rfl,b⟩:=d;refine ai (o.dY _ (d9 7 C)) λP G d=>?_;refine d5 (d) λs l w h=>?_;apply f;exact⟨S,L,z,X,R,i,q,o.dY _ (d9 3 C),(cH A u H),o.dY _ (d9 5 C),j,b,p,P,s,l,i.code,G,w,q▸h⟩
end
structure sj(en:c3)(c1 c2:aq):Prop where
 k0:en.kindOf "size"=D .local
 k1:en.kindOf "octets"=D .free
 k2:en.kindOf "at"=D .free
 l1:en.cells.lookup ("octets":af)=D c2
 l2:en.cells.lookup ("at":af)=D c1
theorem sj.n1(H:sj S y g):S.kindOf "octets"≠D .local:=λq=>nc nK (bj (ae H.k1.symm q)) C
theorem sj.n2(H:sj S y g):S.kindOf "at"≠D .local:=λq=>nomatch ae H.k2.symm q
theorem sj.oV(H:sj S y g){P:Prop}(j:xR[i]?=D x)(z:S.kindOf x≠D .local)(l:S.cells.lookup x=D b)(w:i=1->b=g->P)(v:i=2->b=y->P):P:=
 match i,j with
 |0,j=>bA H.k0 (bj j▸z)
 |1,j=>w C (bj ((bj j▸l).symm.trans H.l1))
 |2,j=>v C (bj ((bj j▸l).symm.trans H.l2))
 |_+3,j=>aV C j
section
variable{B:bD Ob}{s:aU}{st:aq}{n:J}
theorem ac3(r:Ready B u s)(aC:gp (w_ st cu cB y a g v ck aH ak) s.heap fp)(m:∀b∈fp,u b=aa/\B.h₀.get? b=aa/\b∉B.tabs)(G:AO st cu cB y a g v ck aH ak s.heap cU dU aK au)(H:sj L y g)(p:s.heap.get? L.locals=aa)
  (bl:aM.Ns L.locals aN)(cC:aN "size"=D (.int n t))(h:bF s.heap aM):
  aW B cM ⟨uy B.tabs a s.heap,[],k_ u v (lo aK au),[]⟩ (k_ u v (lo aK au)) L xR 1 [.t (.int n),.t (.list (nT aH)),.own [.int ak]] aN (λi=>if i=2 then [a]else []) aM:=by
 have ad:=aC.ad.symm;refine cps λcX bR=>?_;subst ad;have Q:=aC.nd;have T:=m y (d9 3 C);have O:=m a (d9 4 C);have R:=m g (d9 5 C);have a_:y≠a:=qs Q 3 4 C C C;have ao:g≠a:=qs Q 5 4 C C C;have bf:g≠y:=qs Q 5 3 C C C;refine ai G.c1 λbx c bz=>ai G.c2 λbC ah bE=>jO G.a λbI bQ aE=>?_;have aF:∀b o,k_ u v _ b=D o->s.heap.get? b=D o:=λb o e=>qX e (λq w=>q▸w▸G.oc) (r.bJ b o);have F:∀{i b},b∈(if i=2 then [a]else [])->i=2/\b=a:=λ{i b}f=>by
  split at f
  .exact⟨‹_›,cO.mp f⟩
  .exact bA (f) dQ
 apply bR;exact{
     len:=C
     base:=λb o e=>h b o (r.base b o e)
     kept:=λb o e=>h b o (LU e)
     bJ:=λb o e=>h b o (aF b o e)
     ns:=bl
     nL:=⟨X_ p,(iY λx e=>aV p (aF _ x e))⟩
     f_:=λb o e=>uz (r.base b o e) (λq=>aV (r.jb b q) e) (eZ O.2.1 e)
     vars:=λi x c9 j X=>match i,j with
      |0,j=>bj j▸bj X▸⟨_,.inl ⟨H.k0,C⟩,C,_,cC,.int _ _⟩
      |1,j=>bj j▸bj X▸⟨_,.inr ⟨.inr ⟨H.k1,C⟩,g,H.l1,bC,h _ _ ah,bE⟩,C,_,C,.list qW G.vs.qh⟩
      |2,j=>bj j▸bj X▸⟨_,.inr ⟨.inr ⟨H.k2,C⟩,y,H.l2,bx,h _ _ c,bz⟩,a,[.int ak bI],bQ,C,h _ _ aE,.cons (.int _ _) .nil,C⟩
      |_+3,j=>aV C j
     own:=λi x S A j z l=>H.oV j z l (λq E=>bA (q▸A) (i7 1)) λq E=>bA (q▸A) (Sj (az C))
     jz:=λi x S A j l z=>H.oV j z l (λE q=>⟨_,q▸uz ah R.2.2 ao⟩) λE q=>⟨_,q▸uz c T.2.2 a_⟩
     cell:=λi x S j z l=>H.oV j z l (λE q=>q▸⟨eZ p ah,(qY (qs Q 5 6 C C C) R.1)⟩) λE q=>q▸⟨eZ p c,(qY (qs Q 3 6 C C C) T.1)⟩
     qR:=λi x A j=>match i,j,A with
      |1,j,_=>bj j▸H.n1
      |2,j,_=>bj j▸H.n2
      |_+3,j,_=>aV C j
     inj:=λi d x dN S j aP bW aT b_ aY=>H.oV j bW b_ (λe q=>H.oV aP aT aY (λaj E=>ae e aj.symm) λE w=>bA (ae q.symm w) bf) λe q=>H.oV aP aT aY (λE w=>bA (ae w.symm q) bf) λaj E=>ae e aj.symm
     nodup:=λi d x A bZ=>qt (by decide) A bZ
     fp:=λi E b f=>(F f).2.symm▸(lg X9 (qY (qs Q 4 6 C C C) O.1) (eZ p aE) (λd x j z l=>H.oV j z l (λE q=>ao q.symm) λE q=>a_ q.symm))
     inv:=bD.uK (yE (m v (d9 6 C)).1) r.inv λP E o e=>h P o e
     tab:=λP k=>(lj (Yb k) (qY (λq=>(m v (d9 6 C)).2.2 (q▸k)) (r.nu P k)) (λq=>aV p (agK (q▸B.live r.inv P k))) (λd x j z l=>H.oV j z l (λE q=>R.2.2 (q▸k)) λE q=>T.2.2 (q▸k)) (λi E q=>O.2.2 ((F q).2▸k)))
     dJ:=λb f=>bA (f) dQ
     new:=λb o e=>.inl e
     lock:=λdG cF=>bA (cF) dQ
     apart:=λi d E E cJ b f bh=>cJ (ae (F f).1 (F bh).1.symm)}
theorem abY(G:AO st d O y a g oc p bs k s.heap S h z X):sj (zp S L O) y g:=by
 have k:∀{x q},(eg u_).names.lookup x=q->(zp S L O).kindOf x=q:=((aA (λc:jg=>c.names.lookup _) G.R.scope).trans);have l:∀{x q},([(("octets"),g),(("at"),y)]:I (af×aq)).lookup x=q->(zp S L O).cells.lookup x=q:=((aA _ G.R.nS).trans);exact⟨k (C),k (C),k (C),l C,l C⟩
theorem ab8{y:Ly Ob}(RM:dW A (mm+1))(r:Ready y.B fz s)(ob:gp (w_ st d rd c1 a c2 oc cc bs k) s.heap fp)(q6:∀b∈fp,fz b=aa/\y.B.h₀.get? b=aa/\b∉y.B.tabs)(X:AO st d rd c1 a c2 oc cc bs k s.heap fd sl vs nn)
  (hb:∀i∈bs,i<256)(hk:k+n<=U bs)(hl:U bs<=1000)
  (h:∀s' t' eT,bP s s'->(∀b,b∉fp->b∉y.B.tabs->∀o,s.heap.get? b=D o->s'.heap.get? b=D o)->y.B.inv eT s'.heap->Le fz eT->Le eT s'.heap.get?->(∀b o,eT b=D o->fz b=D o\/s.heap.get? b=aa)->gp (w_ st d rd c1 a c2 oc cc bs (k+n)) s'.heap fp->R (.ok (.ret (.bytes (lU ((bs.drop k).take n)) t'))) s'):
  codeAny (aI y.Z y.w) A (.call (.ref rd) ⟨[.int n t],[]⟩) R s:=by
 have l5:=X.R.scope;apply ag6 RM.d X.rd C (l5▸C) (l5▸C) X.R.body X.cd;have XV:bindArgs fd ⟨[SO n t],[]⟩=pure [(("size":af),SO n t)]:=ae (qQ X.R.params X.R.Vh _) C;apply mw (XV);refine bM (ahc (λx hx=>?_) (λx hx=>?_) (λYs LZ Fy=>⟨(y.G.nolimit r.base).fresh _ Fy,codeAny_func ?_⟩) (l5▸C))
 .rw [l5]at hx
  revert x;decide+kernel
 .rw [l5,cO.mp hx];show(eg u_).names.lookup ("size":af)=_;decide+kernel
 generalize hL:s.heap.objs.size=L at LZ Fy;have LN:=hL▸gS s;have E:=abY (L:=L) X;refine(ab1 (c:=y.c (A.deeper (zp fd L rd)) ⟨0,0⟩ (zp fd L rd) mm RM.deeper) (jP (C) ((aA Scope.names l5).trans C)) hb hk hl).1 _ _ _ _ _ C ⟨⟨(aA Scope.kind l5).trans C,X.R.Xw,X.R.Un⟩,_,_,(ac3 r ob q6 X E LN LZ C λb o e=>Fy.extBut b o (eZ LN e) (eG _ e))⟩ λs' f' f lv' fl P q l S' d=>?_;refine cps λEG ue=>?_;obtain⟨t',rfl,rfl⟩:=P;obtain⟨v,rfl,Vt⟩:=d.rt;obtain rfl:=Vt.inv;apply ue;refine cps λEG ue=>?_;obtain⟨_,m',Xg,S'⟩:=S';obtain⟨ov,wm,a',vs',n',Yk,XS,dv,X7⟩:=S'.vars 2 "at" _ C C;have ad:=ob.ad.symm;subst ad;refine ai (X.c1) λo1 g1 d1=>?_;have g1:=S'.kept _ _ (uz g1 (q6 c1 (d9 3 C)).2.2 (qs ob.nd 3 4 C C C));have Yl:ov=D (.ref a):=by
  rcases wm with⟨q,_⟩|⟨_,c',Ye,o',Yj,X3⟩
  .exact bA q E.n2
  .cases bj (ae E.l2.symm Ye);cases bj (ae g1.symm Yj);exact(afO (ae d1.symm X3)).symm
 have ea:=SS (bj (ae Yl.symm Yk));subst ea;obtain⟨v,rfl,dw⟩:=dv.jc;obtain⟨t0,rfl⟩:=qf dw;have Lj:=q6 oc (d9 6 C);have nf:∀{b o},(if b=oc then aa else f' b)=D o->b≠oc/\f' b=D o:=λ{b o}e=>by
  by_cases q:b=oc
  .rw [aL q]at e;exact aV C (e)
  .rw [aJ q]at e;exact⟨q,e⟩
 refine ai (ob.dY _ (d9 6 C)) λo6 g6 p6=>?_;apply ue;refine h s' t' (λb=>if b=oc then aa else f' b) (bP.trans (cH Ys _ C) q) (λb q1 q2 o e=>S'.kept b o (uz e q2 λq=>q1 (q▸d9 4 C))) (y.B.uJ S'.inv (λb o w hw e=>ae (aJ λq=>?_) e) λP dX o e=>e) (λb o e=>(aJ (eZ Lj.1 e)).trans (l _ _ (uv (eZ Lj.1 e) e))) (λb o e=>S'.bJ _ _ (nf e).2) (λb o e=>bT (nf e) λn e=>(S'.new b o e).elim (λq=>.inl ((aJ n).symm.trans q)) λq=>.inr (iY λo' q'=>aV q (uz q' (S'.nu e) λr=>aV ((S'.fp 2 (az C) a (X7▸.head _)).2.1) (r▸e)))) (ob.put 4 C (λb hb n o e=>S'.kept b o (uz e (q6 b hb).2.2 n)) XS (cH t0 n' C));subst q;have:=bj ((l _ _ qW).symm.trans e);subst this;exact nomatch hw
end
noncomputable abbrev Cx.y(c:Cx q):Ly q:=⟨c.B,c.Z,c.w,c.mg,c.mb,c.G,c.bi⟩
section
variable{K:J}{st:aq}{n:J}
theorem ab7(p:bK c.B c.Z c.w cX)(aH:1<=c.n)(bx:Fm c.V h K ck)(i:J)(j:h[i]?=D x)(X:y[i]?=D (.obj (.bB st bs k)))(aN:EP c h K y e (.int n))(L:dO e=Y)(bR:(A.endLine==pos.line)=Y)
  (f:∀i∈bs,i<256)(B:k+n<=U bs)(O:U bs<=1000)(F:SR c.B c.ρ hB g c.V h K y s.heap)
  (aK:∀t P eT,bP s t->Le g eT->SR c.B c.ρ hB eT c.V h K (y.set i (.obj (.bB st bs (k+n)))) t.heap->Q (.bytes (lU ((bs.drop k).take n)) P) t):
  aQ (aI c.Z c.w) c.A (eval (.Call (.Attribute (.Name x dG) "read" A) [e] [] pos) c.V) Q E s:=by
 refine cps λdX v=>?_;obtain⟨w,m,r,l⟩:=F;obtain⟨bW,z,dN,rfl,a⟩:=l.vars i x _ j X;apply v;rw [p.ob]at a;refine cps λcC R=>?_;obtain⟨ah,aj,ak,ao,au,aC,aE,aF,u⟩:=(a);subst ah;refine KQ (ade u) λS aM cF c9 G=>?_;apply R;refine aG (eO (eK w l.ns z (aG (oH ?_))) (bx.eY j))
 delta methodCall
 rw [yW (kL [e] (λbZ T=>by exact(cO.mp T)▸(g_ L))) (az C)];refine aG (gH (cps λdX v=>(ai (u.dY _ gC) λcB aT aY=>?_)));obtain⟨cJ,cM,rfl⟩:=aY;refine ai (u.dY _ (fF _ gC)) λcU a_ bf=>v ?_;refine ab5 aT (bf _ _ a_) (aL C) C (aG (iQ (Nb bR) (yc (fd:=S) (o:=⟨.type "function",aa,.func S,aM⟩) ?_)));rw [(mV (g_ L))];refine tO (pW (aN.1 hB g {s with toks:=s.toks+1} _ _ ⟨w,m,r,l⟩ λbh b_ bl=>(bH (qf bl) λcu aP=>?_)));subst aP;refine lO (⟨⟨G.rd,C⟩,?_⟩);have q6:=l.uu (j7 j);show aQ _ c.A _ Q E {s with toks:=bh};exact i8 (ab8 (y:=c.y) (c.R.less aH) (aW.ready l) u q6 G f B O λt P eT bz bC bE H bQ q bI=>(aK t P eT (bP.trans (cH _ _ C) bz) H ⟨w,m,_,l.qB j bC bE H bQ (λb o e=>(q b o e).imp id .inl) z ⟨_,C,(p.ob.symm▸((⟨C,aj,ak,ao,au,aC,aE,aF,bI⟩:yp st bs (k+n) (.ref st) t.heap (r i))))⟩ λb f=>⟨.inl f,iY λo e=>(q b o e).elim (aV (q6 b f).1) λd=>cY (aA mJ d) (u.live b f)⟩⟩))
theorem Rc(d6:bK c.B c.Z c.w ak)(z:1<=c.n)(F:Fm c.V h K aC)(i j:J)(H:h[i]?=D x)(X:y[i]?=D (.obj (.bB st bs k)))(Q:EP c h K y e (.int n))(L:dO e=Y)(a:(apos.endLine==u.line)=Y)
  (hb:∀i∈bs,i<256)(B:k+n<=U bs)(m:U bs<=1000)(g:h[j]?=D E)(v:j<K)(s:gY (.Call (.Attribute (.Name x o) "read" apos) [e] [] u) (D (.Name E b)) p.line c.V=pure ay):
  SP c h K y (.Assign [.Name E b] (.Call (.Attribute (.Name x o) "read" apos) [e] [] u) p) λq d=>∃t,q=(y.set i (.obj (.bB st bs (k+n)))).set j (.t (.bV (.bytes (lU ((bs.drop k).take n)) t)))/\d=.next:=by
 constructor;intro au aE aM aN ao r S R;refine kC (ab7 d6 z F i H X Q L a hb B m S λaK P l T O A=>?_) s;obtain⟨w,aF,aH,A⟩:=A;exact gh (av:=.t _) w r A g v (F.loc g v) ⟨C,_,C,.bV _⟩ .nil λah G aj f=>R ah l .next _ .next (aR P C C) (T.trans aj) O ⟨w,G,_,f⟩ dj
end
structure Inv(tabs:I aq)where
 eI:Fz->cf->Prop
 live:∀{f h},eI f h->∀P∈tabs,(h.get? P).isSome=Y
 of:∀{f f' h h'},eI f h->AH f f'->(∀P∈tabs,∀o,h.get? P=D o->h'.get? P=D o)->eI f' h'
noncomputable def bD.re(B:bD q)(mT:Inv B.tabs):bD q:={B with inv:=mT.eI,live:=mT.live,uJ:=mT.of}
theorem aW.re(S:aW B ρ hB g G n k y m r h)(i:mT.eI g h):aW (B.re mT) ρ hB g G n k y m r h:=
 {S with vars:=λi x E j d=>match S.vars i x E j d with|⟨Q,a,e⟩=>⟨Q,a,e⟩,inv:=i}
theorem fe.re(G:fe B O A):fe (B.re mT) O A:=⟨G.g,G.b,G.nolimit⟩
theorem aai(e:q.defaults=[])(b:q.kw_defaults=[])(a:annTrees q aa G=[])
  (h:aQ M L (makeFunction R (qualnameIn G R R) q (.stmts i) s G [] [] [] u u.line) (λv t=>aQ M L (DP G R v) (λE k=>Q .next k) H t) H l):
  aQ M L (exec (.FunctionDef R q i [] aa [] s aa R u) G) Q H l:=by
 simp only [exec_def];refine aG (oH (aG (gH ?_)));rw [defaultsOf_eq,e,b,a];exact aG (bM (aG (gH (bM (gH (aG (bM (kX h (λv t O=>aG (oH (aG (Ja (kX O (λE E m=>bM m) λE E x=>x))))) λE E x=>x))))))))
noncomputable def aaE:I (af×fc):=[("octets",.cell),("_law_read",.local),("stream",.local),("at",.cell)]
noncomputable def vg:I af:=["octets","_law_read","stream","at"]
theorem adC(a:TabAt h P S)(b:TabAt h P e):S=e:=by
 have:=a.1.symm.trans b.1;injection this with this
 injection this with _ _ this _
 exact(Data.fields.inj this)
section
variable{B:bD Ob}{st:aq}
theorem adb(S:aW B b_ x L G vg 4 l ao aF h)(R:G.kindOf "octets"≠D .local)(m:G.kindOf "at"≠D .local)(T:G.cells.lookup ("octets":af)=D g)(e:G.cells.lookup ("at":af)=D y)(bl:l[0]?=D (.t (.bV (.ref bQ))))(aP:l[3]?=D (.own [.int 0]))
  (F:e9 B x L G vg cF st)(E:h.get? st=D ⟨.type "function",c9,.func cX,cu⟩)(i:L O=D cJ)(w:L p=D cB)(aY:O≠p)(f:h.get? n=aa)(bE:x.b O=aa)(bI:O∉B.tabs)(bC:x.b p=aa)(bR:p∉B.tabs):
  ∃a t u,h.get? a=D (lo [.int 0 t] u)/\h.IsCell y (D (.ref a))/\h.IsCell g (D (.ref bQ))/\(a≠st/\y≠st/\g≠st)/\[st,n,O,y,a,g,p].Nodup/\∀k∈[st,n,O,y,a,g,p],x.b k=aa/\k∉B.tabs:=by
 refine cps λbZ au=>?_;obtain⟨cM,aC,a,cC,aE,rfl,s,aH,aj⟩:=S.vars 3 "at" _ C aP;obtain⟨ck,aK,_,v,rfl,aM⟩:=S.vars 0 "octets" _ C bl;refine ai aH.jc λcU j aN=>?_;subst j;refine bH (qf aN) λt j=>?_;subst j;have X:∀{b:af}{v:aB}{c:aq},G.kindOf b≠D .local->G.cells.lookup b=D c->eE G ao h b _->h.IsCell c (D v):=λu aT a=>a.elim (λq=>bA q.1 u) λ⟨_,_,ak,bf⟩=>bj (ae aT.symm ak)▸bf;refine ai (X m e aC) λbh P bx=>ai (X R T aK) λbz d a_=>au ?_;have Q:a∈aF 3:=aj▸.head _;have z:=S.fp 3 (az C) a Q;have o:=S.cell 3 "at" y C m e;have H:=S.cell 0 "octets" g C R T;have r:a≠st:=λq=>nc agU (aA So (bj (ae s.symm (ae (aA h.get? q) E)))) C;have A:y≠st:=λq=>F.cell 3 "at" C m (q▸e);have ah:g≠st:=λq=>F.cell 0 "octets" C R (q▸T);refine(BE a t aE s (aR bh P bx) (aR bz d ((aM.inv)▸a_)) (dI r A ah) ?_ ?_)
 .exact .cons (bO (eZ f E) (bO (eZ F.fz i).symm (bO A.symm (bO r.symm (bO ah.symm (bO (eZ F.fz w).symm eJ))))))
   (.cons (bO (eZ f (S.bJ _ _ i)).symm (bO (eZ f P).symm (bO (eZ f s).symm (bO (eZ f d).symm (bO (eZ f (S.bJ _ _ w)).symm eJ)))))
   (.cons (bO (eZ o.2 i) (bO (eZ z.2.1 i) (bO (eZ H.2 i) (bO aY eJ))))
   (.cons (bO (λq=>z.2.2.2 3 "at" C m (q▸e)) (bO (λq=>bA (S.inj 0 3 _ _ y C C R m (q▸T) e) nofun) (bO (eZ o.2 w).symm eJ)))
   (.cons (bO (λq=>z.2.2.2 0 "octets" C R (q▸T)) (bO (eZ z.2.1 w).symm eJ))
   (.cons (bO (eZ H.2 w).symm eJ) (.cons eJ .nil))))))
 .exact bO ⟨F.hb,F.tab⟩ (bO ⟨iY λb bW=>aV f (S.kept _ _ bW),λq=>aV f (agK (B.live S.inv _ q))⟩ (bO ⟨bE,bI⟩ (bO ⟨S.own 3 "at" _ (az C) C m e,λq=>(S.tab _ q).2.2.2.1 3 "at" C m e⟩
   (bO ⟨z.1,λq=>(S.tab _ q).2.2.2.2 3 (az C) Q⟩ (bO ⟨S.own 0 "octets" _ (az C) C R T,λq=>(S.tab _ q).2.2.2.1 0 "octets" C R T⟩ (bO ⟨bC,bR⟩ eJ))))))
end
section
variable{y:Ly Ob}{V:c3}
theorem adi(RM:dW A mm)(fi:∀{f f' h},mT.eI f h->mT.eI f' h)(K:jK (y.B.re mT) y.mg cd P [])(hc:V.code=.ref cd)(hq:V.qual="_law_stream.<locals>.")(F:Fm V vg 4 aaE)(S:SR y.B ρ hB fz V vg 4 [.t (.bV (.ref oc)),.un,.un,.un] s.heap)(yK:hB.lk=[])
  (L0:hB.b oc=D (lo vs nn))(hi:kF vs bs)(emp:∀{f h},y.B.inv f h->TabAt h P #[]/\mT.eI f h)
  (hQ:∀s' st d rd c1 a c2 cc,bP s s'->(∀b o,hB.b b=D o->s'.heap.get? b=D o)->mT.eI fz s'.heap->sx (w_ st d rd c1 a c2 oc cc bs 0) s'.heap->[st,d,rd,c1,a,c2,cc].Nodup->(∀b∈[st,d,rd,c1,a,c2,cc],hB.b b=aa/\b∉y.B.tabs)->Q (.ret (.ref st)) s'):
  aQ (aI y.Z y.w) A (execs (dD (bB 21)) V) Q E s:=by
 refine gN ((vp (c:=y.c A ρ V mm RM) F 3 C (by decide) (rG (zr (zi 0) cT C) C) C).1 hB fz s _ _ yK S λs₁ eT f zm l₁ lS d=>?_);obtain rfl:=d.nx;refine cps λdX kk=>?_;obtain⟨eo,m₁,ahp,lS⟩:=lS;refine bT (emp lS.inv) λht hV=>?_;have lS:=lS.re hV;have k0:=F.kn 0 C nofun;have k3:=F.kn 3 C nofun;have n0:V.kindOf "octets"≠D .local:=λq=>nc nK (bj (ae k0.symm q)) C;have n3:V.kindOf "at"≠D .local:=λq=>nc nK (bj (ae k3.symm q)) C;have oV:∀{x:af}{ov:bg aB},V.kindOf x≠D .local->eE V m₁ s₁.heap x ov->∃c,V.cells.lookup x=D c:=λn a=>a.elim (λq=>bA q.1 n) λ⟨_,c,hl,_⟩=>⟨c,hl⟩;refine bH (match lS.vars 0 "octets" _ C C with|⟨_,wm,_⟩=>oV n0 wm) λc2 Fv=>bH (match lS.vars 3 "at" _ C C with|⟨_,wm,_⟩=>oV n3 wm) λc1 Ft=>kk ?_;have q5:closureFor (eg u_) V=pure [(("octets":af),c2),(("at"),c1)]:=by
  refine ae (Ez (λp hp hf=>?_)) ?_
  .have:p.1="octets"\/p.1="at":=by revert p;decide+kernel
   exact this.elim (λq=>q.symm▸Fv.symm▸C) λq=>q.symm▸Ft.symm▸C
  .show pure [(("octets":af),(V.cells.lookup ("octets":af)).getD 0),(("at":af),(V.cells.lookup ("at":af)).getD 0)]=_;rw [Ft,Fv];rfl
 have Yn:qualnameIn V "_law_read" "_law_read"="_law_stream.<locals>._law_read":=by
  unfold qualnameIn;rw [F.kn 1 C nofun,hq];decide+kernel
 refine gN (aai C C C (Yn.symm▸Na (fe.re y.G) K (λx hx=>nomatch hx) hc q5 eo lS λcv ctv doc pm ahk ahs rd qZ zo l₂ AP XG Lo Y8 X0 NG=>(Vu (X0.nw λps Ym=>by rw [adC Ym ht];rfl) λcc oC vC tC VE WX B8 E_ Yp qC=>?_)));have DW:=lS.free Lo;have Jl:=lS.free WX;have Xi:qZ rd=aa:=iY λo e=>(NG rd o e).elim (λq=>aV DW.fz q) λq=>q.2 C;have AQ:=lS.grow (g8:=k_ qZ rd _) Y8 (fi AP.inv) (l₂.trans (yE Xi)) λb o e=>qX e (λq q'=>q▸q'▸.inr ⟨Lo,XG⟩) λe=>(NG b o e).elim .inl λq=>.inr ⟨q.1,AP.bJ _ _ e⟩;refine gh (av:=.t (.bV (.ref rd))) (fp:=[]) eo yK AQ (i:=1) C (by decide) (.inl (F.kn 1 C nofun)) ⟨C,_,C,.bV _⟩ .nil λahr aho abT AQ=>gN (kC (Gg (fe.re y.G) K (λx hx=>nomatch hx) hc (A7 λx hx=>bA (hx) dQ) C eo AQ λcv' ahf ahg pm' ahl aht st Xm abU wD Jw XJ fst ahm _ aaG=>?_) C);have Jm:=AQ.free fst;have r9:e9 _ hB Xm V vg _ st:={Jm with fz:=iY λo e=>(aaG st o e).elim (λq=>aV Jm.fz q) λq=>q.2 C};refine ahd (F.kn 2 C nofun) Jw.ns (λL2 Yi L1=>?_) (eo.kind.symm▸C);have oS:=Jw.OW yK (i:=2) (x:="stream") C (F.kn 2 C nofun) Yi L1 (av:=.t (.bV (.ref st))) (fp:=[]) ⟨C,_,C,.bV _⟩ .nil;have LL:=ae (L1.2 st r9.loc) XJ;refine cps λdX kk=>?_;obtain⟨ov1,XT,_,v1,rfl,Vr⟩:=oS.vars 1 "_law_read" _ C C;obtain⟨ov2,XU,_,v2,rfl,Vs⟩:=oS.vars 2 "stream" _ C C;apply kk;have e1:=Vr.inv;have e2:=Vs.inv;subst e1 e2;refine cps λdX kk=>KP (adb oS n0 n3 Fv Ft C C r9 LL (wD _ _ qW) (wD _ _ (uv B8 E_)) B8.symm (gS {s with heap:=L2}) DW.hb DW.tab Jl.hb Jl.tab) λa t n ga w1 w2 V9 nd all=>?_;refine gv (V9) λsa s1 s2=>?_;refine kk (gN (yd (eO (eK eo oS.ns XT (eO (eK eo oS.ns XU (ac7 LL λYt ahu Ld XM aaH=>(gN (I_ (eO (Jd eo.kind (F.kn 2 C nofun) (Ck oS.ns (Ld _ · r9.loc.symm)) (aL C) ?_) (C)))))) (C))) (C)) C));have kp:∀{b o},L2.get? b=D o->b≠st->Yt.get? b=D o:=λe n=>Ld _ _ n e
 exact cps λdX kk=>jC aaH λoD V_ V0 gD rD=>ai w1 λo1 g1 d1=>ai w2 λo2 g2 d2=>kk (hQ _ st _ rd c1 a c2 cc (zm.trans (zo.trans (abT.trans (abU.trans (cH _ _ C))))) (λb o e=>kp (oS.kept b o e) (eZ r9.hb e)) (fi (mT.of oS.inv (λ_ _ _ _ e=>e) λP hP o e=>kp e λq=>r9.tab (q▸hP)))
  (bO (aR _ XM ⟨_,_,C⟩) (bO (aR oD gD (λh b e=>(l7 oD V_ V0 e rD))) (bO (aR _ (kp (oS.bJ _ _ (wD _ _ qW)) (eZ r9.fz (wD _ _ qW))) ⟨_,_,C,⟨C,C,C,C,C,C,VE,C,C⟩,C⟩) (bO (aR _ (kp g1 s1) d1) (bO (aR _ (kp ga sa) ⟨t,n,C⟩) (bO (aR _ (kp g2 s2) d2)
   (bO (aR _ (kp (oS.kept _ _ L0) (eZ r9.hb L0)) ⟨vs,nn,C,hi⟩) (bO (aR _ (kp (oS.bJ _ _ (wD _ _ (uv B8 E_))) (eZ r9.fz (wD _ _ (uv B8 E_)))) ⟨vC,tC,Yp,qC⟩) eJ)))))))) nd all)
end
section
variable{c:Cx Ob}
end
section
open PySem.Builtin
theorem JU(a b:aB):argsOk "bytes.decode" ⟨[a,b],[]⟩:=by
 kernel_rfl
noncomputable abbrev q_:af:=⟨[108,97,116,105,110,45,49].toArray⟩
theorem ach{id:String}:_codecs.decodeRoad id b q_ aa []=_codecs.runDecoder id _codecs.latin1Decoder aa Y b 0 []>>=λr=>mkStr ⟨r.1⟩:=C
theorem Z4(P:∀id,_codecs.runDecoder id _codecs.latin1Decoder aa Y b 0 []=pure (x.cps,u)):
  Meets («_codecs.decode.text» ⟨[.bytes b A,.str q_ G,.none,.str d c],[]⟩) (λE i s=>x.length<=sizeLine/\i (.ok (.ret (.str x s.toks))) {s with toks:=s.toks+1}):=by
 refine .of_wp λa w L i s h=>bT h λm e=>?_;show aQ _ _ (Bytes.bytesLike _ _>>=λr=>_) _ _ s;refine aG (iQ KBd.like_eq (aG (iQ KBd.held_eq ?_)));simp only [ach,P];exact aG (aG (bM (tU (bM (aR _ C e)) m)))
theorem U_:«bytes.decode» ⟨[.bytes (c::b).toArray A,.str q_ y],[]⟩=mkStr (ag2 "utf-8")>>=λE=>mkStr q_>>=λe=>mkStr (ag2 "bytes.decode")>>=λd=>
  call (.builtin "_codecs.decode.text") [.bytes (c::b).toArray A,e,.none,d]>>=λv=>ret v:=by kernel_rfl
theorem Z3(e:∀id,_codecs.runDecoder id _codecs.latin1Decoder aa Y (c::b).toArray 0 []=pure (x.cps,u)):
  Meets («bytes.decode» ⟨[.bytes (c::b).toArray A,.str q_ y],[]⟩) (λE i s=>x.length<=sizeLine/\∀P k,i (.ok (.ret (.str x P))) {s with toks:=k}):=by
 exact .of_wp λl w L i s a=>bT a λm h=>U_▸aG (tU (aG (tU (aG (tU (aG (call_function_meets KBd.kind_text KBd.plain_text KBd.entry_text (KBd.args_text _ _ _ _) (Z4 e) ⟨m,bM (aR _ C (h _ _))⟩)) (dK _ _))) (dK _ _))) (dK _ _))
theorem acn(a:UInt8)(id:String):_codecs.runDecoder id _codecs.latin1Decoder aa Y [a].toArray 0 []=pure (#[a.toNat],1):=by kernel_rfl
theorem aco(a b:UInt8)(id:String):_codecs.runDecoder id _codecs.latin1Decoder aa Y [a,b].toArray 0 []=pure (#[a.toNat,b.toNat],2):=by kernel_rfl
theorem acp(a b c:UInt8)(id:String):_codecs.runDecoder id _codecs.latin1Decoder aa Y [a,b,c].toArray 0 []=pure (#[a.toNat,b.toNat,c.toNat],3):=by kernel_rfl
theorem acq(a b c d:UInt8)(id:String):_codecs.runDecoder id _codecs.latin1Decoder aa Y [a,b,c,d].toArray 0 []=pure (#[a.toNat,b.toNat,c.toNat,d.toNat],4):=by kernel_rfl
theorem Vb(P:∀id,_codecs.runDecoder id _codecs.latin1Decoder aa Y (c::b).toArray 0 []=pure (x.cps,u))(m:x.length<=16777216)(e:∀h k,Q (.str x h) {s with toks:=k}):
  aQ (aI a w) L (call (.builtin "bytes.decode") [.bytes (c::b).toArray A,.str q_ y]) Q H s:=
 DK RG (I9 _ _ _) afR (JU _ _) (Z3 P) ⟨by assumption,e⟩
theorem u8{i:J}(h:i<256):(i:aS).toNat.toUInt8.toNat=i:=Nat.mod_eq_of_lt h
noncomputable def uL(l:I J):I UInt8:=l.map λi:J=>(i:aS).toNat.toUInt8
theorem Eu(l:I J):lU l=(uL l).toArray:=aA _ dH
theorem acw(l:I J)(h:∀i∈l,i<256)(w:1<=U l)(R:U l<=3)(id:String):_codecs.runDecoder id _codecs.latin1Decoder aa Y (uL l).toArray 0 []=pure (l.toArray,U l):=by
 have H:∀u,u<3->U l=u+1->_codecs.runDecoder id _codecs.latin1Decoder aa Y (uL l).toArray 0 []=pure (l.toArray,U l):=M5
  (λe=>Go (P:=λl=>(∀i∈l,i<256)->_codecs.runDecoder id _codecs.latin1Decoder aa Y (uL l).toArray 0 []=pure (l.toArray,U l)) (λa h=>by have:=acn ((a:aS).toNat.toUInt8) id;rw [u8 (h a (d9 0 C))]at this;exact this) l e h)
  (λe=>BR (P:=λl=>(∀i∈l,i<256)->_codecs.runDecoder id _codecs.latin1Decoder aa Y (uL l).toArray 0 []=pure (l.toArray,U l)) (λa b h=>by have:=aco ((a:aS).toNat.toUInt8) ((b:aS).toNat.toUInt8) id;rw [u8 (h a (d9 0 C)),u8 (h b (d9 1 C))]at this;exact this) l e h)
  (λe=>Gp (P:=λl=>(∀i∈l,i<256)->_codecs.runDecoder id _codecs.latin1Decoder aa Y (uL l).toArray 0 []=pure (l.toArray,U l)) (λa b c h=>by have:=acp ((a:aS).toNat.toUInt8) ((b:aS).toNat.toUInt8) ((c:aS).toNat.toUInt8) id;rw [u8 (h a (d9 0 C)),u8 (h b (d9 1 C)),u8 (h c (d9 2 C))]at this;exact this) l e h)
 exact H _ (kW (Nat.sub_le_sub_right R 1) (az C)) (tM w).symm
theorem acv(l:I J)(h:∀i∈l,i<256)(w:1<=U l)(g:U l<=4)(id:String):_codecs.runDecoder id _codecs.latin1Decoder aa Y (uL l).toArray 0 []=pure (l.toArray,U l):=by
 rcases Sf g with q|q
 .exact acw l h w (rR q) id
 .exact BS (P:=λl=>(∀i∈l,i<256)->_codecs.runDecoder id _codecs.latin1Decoder aa Y (uL l).toArray 0 []=pure (l.toArray,U l)) (λa b c d h=>by
   have:=acq ((a:aS).toNat.toUInt8) ((b:aS).toNat.toUInt8) ((c:aS).toNat.toUInt8) ((d:aS).toNat.toUInt8) id;simp only [u8 (h a (d9 0 C)),u8 (h b (d9 1 C)),u8 (h c (d9 2 C)),u8 (h d (d9 3 C))]at this
   exact this) l q h
theorem Va:«bytes.decode» ⟨[.bytes #[] A,.str q_ y],[]⟩=rule "bytes.decode.empty">>=λ_=>retStr Str.empty>>=λx=>pure x:=by kernel_rfl
theorem Z5:Meets («bytes.decode» ⟨[.bytes #[] A,.str q_ y],[]⟩) (λE i s=>∀P k,i (.ok (.ret (.str ⟨#[]⟩ P))) {s with toks:=k}):=.of_wp λm w L i s h=>Va▸aG (yf (aG (aG (tU (bM (bM (aR _ C (h _ _)))) (gF _)))))
theorem Vc(h:∀P k,Q (.str ⟨#[]⟩ P) {s with toks:=k}):aQ (aI m w) L (call (.builtin "bytes.decode") [.bytes #[] A,.str q_ y]) Q H s:=
 DK RG (I9 _ _ _) afR (JU _ _) Z5 h
variable{c:Cx O}
theorem aeE(T:EE c n k y o P (.bV (.bytes (lU l) S)))(X:∀j∈l,j<256)(R:U l<=4)(f:attributeBase o "decode" c.V (eval o c.V)=eval o c.V)(E:(A.endLine==u.line)=Y):
  EE c n k y (.Call (.Attribute o "decode" A) [.Constant (.str "latin-1") x p] [] u) P (.str l):=by
 have m:EE c n k P (.Constant (.str "latin-1") x p) P _:=zs _ C;refine⟨La f (l9 C) (ez C) E FB.plainAttrs_bytes RG FB.type_bytes_decode T.1 (zr m cT C).1 (λg v b r d=>?_) λg v z d t=>?_⟩
 .obtain rfl:=d.inv;exact⟨I9 _ _ _,λa e=>nc Ag e C⟩
 .obtain rfl:=d.inv;obtain⟨v,z,rfl,s,w⟩:=t.jA (P:=λq=>∃v G,q=v::G/\Den _ _ v _/\bu _ _ G _) λv G B H=>⟨v,G,C,B,H⟩;obtain rfl:=w.ja C;obtain⟨O,rfl⟩:=jj s;refine PO.give λb Q L r h=>?_;have e:=Eu l;rw [e];clear e m
  revert X R
  cases l with
  |nil=>intro _ _;exact Vc λi k=>h _ _ (.str _ _)
  |cons a l=>
   intro X R;exact Vb (x:=⟨(a::l).toArray⟩) (acv _ X (jx (gF _)) R) (by exact aD R (az C)) λi k=>h _ _ (.str _ _)
theorem aeF(w:EE c n k y o P (.bV (.bytes (lU [b]) A)))(f:b<256):EE c n k y (.Subscript o (.Constant (.int 0) u p) z) P (.int b):=by
 constructor;intro T g s Q H S R;refine ya (w.1 T g s _ _ S λa i m q h E O=>(zi 0).1 T i a _ _ E λX r v x B l F=>?_);obtain rfl:=O.inv;refine bH (qf F) λd j=>?_;subst j;refine vI (I9 _ _ _) FB.slot_bytes_getitem.lookup ?_ (xd λ_ _ _ _ t=>nc (λe=>(xV e).2.2) t C);refine getItem_bytes (gE _) (by decide) (by simp [uL]) ?_;have e:=u8 f;exact e.symm▸R _ r _ ((q.trans x).trans (cH _ _ C)) (h.trans B) l (.int _ _)
theorem aeG(F:Fm c.V n k a)(t:J)(O:a[t]?=D (("len":af),.globalImplicit))(h:EE c n k y e P (.bV (.bytes (lU l) A)))(m:U l<=1000)(L:dO e=Y):EE c n k y (.Call (.Name "len" p) [e] [] u) P (.int (U l)):=by
 refine bT (c.bi 0 "len" (.builtin "len") C) λq g=>⟨K9 c.G (F.kn t O nofun) q g (F.kg t O) (l9 (by simp [L])) (zr h cT L).1 λi z b=>?_⟩;obtain⟨v,z,rfl,d,w⟩:=b.jA (P:=λj=>∃v G,j=v::G/\Den _ _ v _/\bu _ _ G _) λv G x H=>(gx (v) (G) (C) (x) (H));obtain rfl:=w.ja C;obtain rfl:=d.inv;refine PO.give λs Q o r R=>?_;have e:(lU l).size=U l:=by rw [Eu];exact dg _
 exact len_bytes (by rw [e];exact aD m (az C)) (e.symm▸R _ _ (.int _ _))
theorem zbC(h:EE c n k y e P (.bV (.bytes (lU l) A)))(X:1<=U l)(m:U l<=1000)(a:∀x,isTrue e c.V x=do let v<-x;standAt e.pos;holding [v] (truthy v)):EC c n k y e P Y:=by
 constructor;intro T g s Q H S R;rw [a];refine aG (h.1 T g s _ _ S λj b t i o E d=>aG (oH (gH ?_)));obtain rfl:=d.inv;have e:(lU l).size=U l:=by rw [Eu];exact dg _
 apply truthy_bytes (by rw [e];exact aD m (az C));have:(((lU l).size:aS)!=0)=Y:=by rw [e];simp;intro q;rw [q]at X;contradiction
 exact this.symm▸R _ b (i.trans (cH _ _ C)) o E
end
def Ly.FO(H:Ly q)(e:J)(L:af)(o:q)(i:I T)(r:T)(X:q):Prop:=
 ∃a u S,H.mg L=D (.ref a)/\(∀{h},bF H.B.h₀ h->h.get? a=D u)/\u.data=.func S/\DQ H.B H.Z H.w e (.ref a) o i r X
section
variable{y:Ly Ob}{k:J}{st:aq}{bs:I J}
theorem A0(p:bK y.B y.Z y.w O)(a:y.B.ob.at_ (.bB st bs k) h e R)(b:y.B.ob.at_ (.bB st bs q) g i c):g=h:=by
 rw [p.ob]at a b;simp only [a.v,b.v]
theorem BY(k:y.aZ L i)(Q:zz (eg (bB i)) xs=Y):∃a o h code r,y.mg L=D (.ref a)/\j2 y.B a o (docDef L (gw (bB i)) (dD (bB i)) (eg (bB i)) h code r) (dD (bB i)) xs:=KT k λa o h code r w v R g=>Yz a o h code r w ⟨v,R,g,C,C,mj Q,C,C⟩
noncomputable def n18:I (af×fc):=[("f",.local),("data",.local),("ValueError",.globalImplicit)]
noncomputable def HP:I af:=["f","data"]
theorem aes(p:bK y.B y.Z y.w O)(e:y.aZ "read_uint1" 3)(B:∀l∈bs,l<256)(X:U bs<=1000)(f:bs[k]?=D b):y.FO (u+2) "read_uint1" (.bB st bs k) [] (.int b) (.bB st bs (k+1)):=by
 refine Bk (BY (xs:=HP) e C) λa o h code r w T=>o5 a o _ w T.ho T.hd (e8.ob (sA y.G T (ez C) (.plain λz X=>?_) (λP w v=>?_) λ{i}g H L x s=>?_))
 .exact bind1 (λa=>C) z X
 .refine bT P λn E=>?_;subst n;exact A0 p w v
 .have F:Fm (di (docDef "read_uint1" (gw (bB 3)) (dD (bB 3)) (eg (bB 3)) h code r) H a) HP (U HP) n18:=jP C C
  let c:=(y.up i g).c L x (di (docDef "read_uint1" (gw (bB 3)) (dD (bB 3)) (eg (bB 3)) h code r) H a) _ s
  have m:(bs.drop k).take 1=[b]:=by
   have:=cG.mp f;simp only [xS this.1,this.2];rfl
  refine zL (Rc (c:=c) (p.up g) (gE _) F 0 1 C C (vq (1)) C C B ((cG.mp f).1) X C (fG _) C).1 λS A q=>ai q λt j d=>?_;subst j d;rw [m];exact .inl ⟨C,eX.p (EX.ev (c:=c) (h_ (dP (zbC (zv F 1 C C) (dm _) (ez C) (λE=>C)) (h_ (je (aeF (zv F 1 C C) (B b (cN f)))))))) (l6 _ _ C (.inl C) C C)⟩
noncomputable def n19:I (af×fc):=[("f",.local),("n",.local),("data",.local),("read_uint1",.globalImplicit),("len",.globalImplicit),("ValueError",.globalImplicit)]
noncomputable def HQ:I af:=["f","n","data"]
theorem Xp(u:J):gb .GtE (.int u) (.int 0)=D Y:=C
theorem pZ.upd(k:pZ X O L i)(B:bF X.h₀ f):pZ (X.up f B) O L i:=k.up B
theorem aeo(p:bK y.B y.Z y.w ak)(j:y.aZ "read_uint1" 3)(E:y.aZ "read_string1" 4)(B:∀i∈bs,i<256)(X:U bs<=1000)(e:bs[k]?=D (U l))(s:(bs.drop (k+1)).take (U l)=l)(h:U l<=4):
  y.FO (n+3) "read_string1" (.bB st bs k) [] (.str l) (.bB st bs (k+1+U l)):=by
 refine Bk (BY (xs:=HQ) E (C)) λa o x code r w T=>?_;have b:k+1+U l<=U bs:=by
  have:=aA U s;rw [z6,xU]at this;exact jS 0 (.a (.a (.v 0) (.n 1)) (.v 2)) (.v 1) (.v 2) (.v 4) (.v 4) (.v 3) (.a (.v 3) (.a (.v 0) (.n 1))) (.v 1) C [_,_,_,_,_] (pB this) GH (lz ((cG.mp e).1))
 refine o5 a o _ w T.ho T.hd (e8.ob (sA y.G T (ez C) (.plain λz X=>?_) (λP w v=>?_) λ{f}g H L m u=>?_))
 .exact bind1 (λa=>C) z X
 .refine bT P λd aE=>?_;subst d;exact A0 p w v
 .have F:Fm (di (docDef "read_string1" (gw (bB 4)) (dD (bB 4)) (eg (bB 4)) x code r) H a) HQ (U HQ) n19:=jP (C) C
  let c:=(y.up f g).c L m (di (docDef "read_string1" (gw (bB 4)) (dD (bB 4)) (eg (bB 4)) x code r) H a) (n+2) u
  have q:=p.up g;refine mX (aes (y:=y.up f g) q (pZ.upd j g) B X e) λaF aH ao O Q S R=>C9 (eL F 1 C (by exact fO _ _) ⟨K_ c.G c.R (i:=0) (F.kn 3 C nofun) O (F.kg 3 C) Q S C (F.eY (i:=0) C) C (l9 C) lX C R λw v=>A0 (y:=y.up f g) q w v⟩ C).1 (C9 (xt (c:=c) (zC (zv F 1 C C) (zi 0) (Xp _) C)).1 (zL (Rc (c:=c) q (gE _) F 0 2 C C (H9 F 1 C C) C C B b X C (fG _) C).1 λau aC G=>(ai G λt ah aj=>?_)));subst ah aj;rw [s];exact .inl ⟨C,(eX.p (aX:=[.obj (.bB st bs (k+1+U l)),.t (.int (U l)),.t (.bV (.bytes (lU l) t))]) (fl:=.ret (.str l)) (EX.ev (c:=c) (h_ (dP (b:=Y) (zC (aeG F 4 C (zv F 2 C C) (by exact aD h (az C)) C) (zv F 1 C C) (aA D (beq_self_eq_true _)) C) (h_ (je (aeE (zv F 2 C C) (λi A=>B i (agg (Dv (by exact(s)▸(A))))) h C C)))))) (l6 _ _ C (.inl C) C C))⟩
end
section
variable{fz:Fz}
theorem ae7{i t:aS}(w:EE c n k y a P (.int i))(v:EE c n k P b X (.int t))(O:t≠0):EE c n k y (.BinOp a .Mod b p) X (.int (i.fmod t)):=by
 constructor;intro T fz s Q H S R;refine DL (w.1 T fz s _ _ S λh e g q o E l=>v.1 T e h _ _ E λF r m x B f L=>?_);obtain⟨A,rfl⟩:=qf l;obtain⟨j,rfl⟩:=qf L;exact agS O (R _ r _ ((q.trans x).trans (cH _ _ C)) (o.trans B) f (.int _ _))
theorem adW(w:EE c n k y a P h)(i:EF c n k P b x ts)(l:dO a=Y)(g:dO b=Y)(S:SR c.B c.ρ hB fz c.V n k y s.heap)
  (R:∀s' j A v aZ z X m r,bP s s'->Le fz j->gm c.V->aW c.B c.ρ hB j c.V n k x m r s'.heap->e9 c.B hB j c.V n r aZ->s'.heap.get? aZ=D (lo z X)->bu c.ρ j z ts->Den c.ρ j v h->s'.heap.IsTuple A #[v,.ref aZ]->Q (.ref A) s'):
  aQ (aI c.Z c.w) c.A (eval (.Tuple [a,b] G aj) c.V) Q ak s:=by
 apply wpAny_Tuple;rw [mV (g_ l)];refine pW (w.1 hB fz s _ _ S λo q v f u E d=>?_);exact(mV (g_ g))▸(pW (i.1 hB q o _ _ E λah t aZ z X m r H B L p F T O=>lO ⟨by rw [rU];simp,(R _ t _ v aZ z X m r ((f.trans H).trans (cH _ _ C)) (u.trans B) L (p.ux (bF.push _ _) (Le.refl _) λb ao e=>.inl e) F (eG _ T) O (d.mono B) (i12 _ (eS _ C) C ⟨0,C⟩))⟩))
theorem e9.upd(F:e9 X hB fz G n r d)(i:J):e9 X hB fz G n (bU r i []) d:=
 ⟨F.hb,F.fz,F.loc,F.cell,λt O h=>by
  delta bU at h
  split at h
  .cases h
  .exact F.fp t O h,F.tab,F.h0⟩
theorem z2s(F:Fm c.V n k G)(i h z m:J)(j:n[i]?=D x)(A:i<k)(L:n[h]?=D H)(O:h<k)(bl:G[z]?=D (x,.local))(B:G[m]?=D (H,.local))(au:EE c n k aM a bx l)(T:EF c n k bx b aK p)(o:dO a=Y)(g:dO b=Y)
  (X:v.line=r.line)(u:(H==x)=ay)(d:[a,b].all (foldedForSure 8)=ay)(y:[a,b].all (constantsAlone 8)=ay):
  ES c n k aM (.Assign [.Tuple [.Name x v,.Name H r] bQ cM] (.Tuple [a,b] cU bZ) b_) ((aK.set h (.own p)).set i (.t l)) .next:=by
 refine⟨λck fz cC cF cJ s S R=>?_⟩;have ah:c.V.blockKind=.function:=by
  have:=S.1.kind
  first|exact this|(delta Dp;simp [this])
 refine agO (adW au T o g S λaj ak t ao q aC aE bR bW aF aH w E FD aN aP aT aY=>?_) C (P5 ah (F.kn z bl nofun) (F.kn m B nofun) X u d y o g);refine ahe (items:=#[ao,.ref q]) c.R.handled aY λa_ bf=>?_;have Q:bF aj.heap a_:=λb f e=>bf b f (fH (fk e)) e;exact aG (gH (Ja (gh (av:=.own p) w s (E.ux Q (Le.refl _) λb f e=>.inl e) L O (F.loc L O) ⟨q,aC,aE,C,Q _ _ aN,aP,C⟩ (.sT FD) λcu cB bz bh=>(aG (gH (Ja (gh (av:=.t l) w s bh j A (F.loc j A) ⟨C,_,C,aT⟩ .nil λbE bC bI P=>bM (R bE ak .next (aF.trans ((bP.trans (cH _ _ C) bz).trans bI)) aH ⟨w,bC,_,P⟩ dj))))))))
end
structure vO(cl:Cl)(a:aq):Prop where
 sp:specialIn cl.K (.ref a) "__get__"=D (D (.builtin "function.__get__"))
 ta:takesIn cl.K (.ref a)=D ay
 fn:fnIn cl.K a=Y
def AD(c:Cx Ob)(n:I af)(k:J)(y:I (AV Ob))(u:ig)(e:I cE)(x:I (AV Ob))(p:I T):Prop:=
 ∀(L:aB)(h:HB)(g:Fz)(s:aU)(Q:Args->aU->Prop)(H:aB->aU->Prop),SR c.B c.ρ h g c.V n k y s.heap->
  (∀t j z,bP s t->Le g j->SR c.B c.ρ h j c.V n k x t.heap->bu c.ρ j z p->Q ⟨z,[]⟩ t)->aQ (aI c.Z c.w) c.A (evalArgs L Y (backTo u (starEach e c.V)) []) Q H s
section
variable{c:Cx Ob}
theorem PN(a:EE c n k y e P (.list p))(m:U p<=1000)(S:SR c.B c.ρ hB g c.V n k y s.heap)
  (R:∀t j z,bP s t->Le g j->SR c.B c.ρ hB j c.V n k P t.heap->bu c.ρ j z p->Q z t):aQ (aI c.Z c.w) c.A (eval e c.V) (λv h=>StarOf (aI c.Z c.w) c.A H v Q h) H s:=by
 refine a.1 hB g s _ _ S λh x v q o E d=>jl (qg d) λl z L u i b=>?_;subst u;have ho:=E.ready.bJ _ _ i;refine aG (Ar ((aR _ ho C)) PySem.F.slot_list_iter.lookup (bM ⟨C,(wpAny_collect_seq l (.inl C) ho C C (λO B=>?_) (by simp only [qH,b.length];exact aD m (az C)))⟩));obtain⟨w,f,r,A⟩:=E;exact R _ x z (q.trans (cH O _ C)) o ⟨w,f,r,A.ux B (Le.refl _) λT X e=>.inl e⟩ b
theorem T3(h:EE c n k y e P (.list p))(m:U p<=1000):AD c n k y i [.Starred e a] P p:=by
 intro L T g s Q H S R;exact ks_lone (PN h m S λt u z q l A d=>R t u z q l A d)
theorem JS(w:EE c n k y e P z)(h:EE c n k P a X (.list p))(m:U p<=1000)(L:dO e=Y):AD c n k y x [e,.Starred a f] X (z::p):=by
 intro j T g s Q O S R;rw [mV (g_ L)];refine tO (pW (w.1 T g s _ _ S λv r B q o E d=>(ks_spliced (PN h m E λt u H i l A b=>lO ?_))));rw [ju];exact R t u _ (q.trans i) (o.trans l) A (.cons (d.mono l) b)
theorem CG(p:bK c.B c.Z c.w O)(S:aW c.B c.ρ hB g c.V n o y m r h)(j:n[i]?=D x)(X:y[i]?=D (.obj (.bN E Q s q B))):
  eE c.V m h x (D (.ref E))/\c.B.ob.at_ (.bN E Q s q B) (.ref E) h (r i)/\∃G,G.self=E/\eu c.Z c.w O 0 G (.ref E) h (r i):=by
 refine cps λz e=>?_;obtain⟨f,u,v,rfl,d⟩:=S.vars i x _ j X;apply e;have a:=d;rw [p.ob]at d;obtain⟨G,k,l⟩:∃G:SG,G.abs=.bN E Q s q B/\eu c.Z c.w O 0 G v h _:=d;have t:G.self=E:=by injection k
 have b:=l.v;rw [t]at b;subst b;exact(dI u a ⟨G,t,l⟩)
theorem aaa(p:bK c.B c.Z c.w O)(bh:Fm c.V n k jf)(i:J)(hx:n[i]?=D x)(aH:y[i]?=D (.obj (.bN sf Q au ao R)))(aF:(L,a)∈O.fs)(f:vO O a)(bI:L∉(["_node2info","_ready_nodes","_npassedout","_nfinished"]:I af))(bW:copiedNames.contains L=ay)
  (gi:∀{h},bF c.B.h₀ h->h.get? a=D cC)(gU:cC.data=.func gV)(h:AD c n k y u es P aK)(aP:P[i]?=D (.obj (.bN sf Q au ao R)))(aY:e8 c.B c.Z c.w c.n (.ref a) (.bN sf Q au ao R) aK a_)(m:(backTo u (starEach es c.V)).any (·.1)=Y)
  (bz:SR c.B c.ρ hB g c.V n k y s.heap)
  (bR:∀t j b X r,a_ X r->bP s t->Le g j->SR c.B c.ρ hB j c.V n k (P.set i (.obj X)) t.heap->Den c.ρ j b r->cU b t):
  aQ (aI c.Z c.w) c.A (eval (.Call (.Attribute (.Name x ck) L cX) es [] u) c.V) cU fZ s:=by
 refine cps λe v=>?_;obtain⟨w,aM,aN,l⟩:=bz;refine gv (CG p l hx aH) λaT e d=>?_;refine ai (d) λG bf H=>?_;refine v (aG (eO (eK w l.ns aT (aG (oH ?_))) (bh.eY hx)));have bl:methodCallForm (U es+U ([]:I Keyword)) (backTo u (starEach es c.V)) (backToKw u (keywordEach [] c.V))=ay:=by
  show((backTo u (starEach es c.V)).all (λx=>!x.1)&&_&&_)=ay;have:(backTo u (starEach es c.V)).all (λx=>!x.1)=ay:=by
   simpa using m
  simp only [this];rfl
 have bx:methodCallPos ay (.Name x ck) c.V cX u=pure u:=by unfold methodCallPos;simp
 unfold methodCall;rw [bl];refine cps λe v=>ai (H.ob.dY (G.self,λA=>A=instObj O.bq G.d) (m_ (.head _))) λic F B=>ai (H.ob.dY (G.d,iK G) (m_ (cN (i:=1) C))) λfj S T=>v ?_;dsimp only at B F S T;subst B;rw [bf]at F;refine cps λe v=>d5 (T.none bI) λfB gc d e6=>?_;subst d;refine bT (p.ok.fs _ aF) λcu cB=>v ?_;have z:=p.iI l.base
 refine aG (gH (aG (get_bind z (⟨F,C,C,S⟩) (vL (p.ok.pg L)).1 (findObj_fn p.ok.hd cu f.sp f.ta bW (by assumption)) (vL (p.ok.pg L)).2
  (i8 (fn_get z (beq_iff_eq.mp cB) (handed_on C (bM (aG (iQ bx ?_)))))))))
 have ah:=gS s;have cF:=l.free ah;have aj:Le g (k_ g s.heap.objs.size (methodObj (.ref a) (.ref sf))):=yE cF.fz;refine ks_call m (keeps_M f.fn) (h _ hB _ _ _ _ ⟨w,aM,aN,(l.ux (h':=s.heap.push (methodObj (.ref a) (.ref sf))) (bF.push _ _) aj λak A cJ=>qX cJ (λcM o=>cM.symm▸o▸.inr ⟨ah,eS _ C⟩) .inl)⟩ λbC bE bQ bZ q E c9=>⟨⟨E.ready.bJ _ _ (q _ _ qW),p.iI E.ready.base⟩,(cps λe v=>?_)⟩);obtain⟨_,b_,dN,E⟩:=E;refine gv (CG p E hx aP) λdU ee e=>v (i8 (method_call (E.ready.bJ _ _ (q _ _ qW)) (aY c.A c.ρ bE (.ref sf) bQ _ bC (dN i) c.R E.ready ee (λak f=>?_) c9 λt j b fy X r er o aC dG eB eM ew eN eR aE=>?_)))
 .exact E.uu ((cG.mp hx).1) ak f
 .exact bR t j b X r er ((bP.trans (cH _ _ C) bZ).trans o) (aj.trans (q.trans aC)) ⟨w,b_,_,E.qB hx dG eB aC eM ew dU ⟨.ref sf,C,eN⟩ eR⟩ aE
end
noncomputable def m4(a b:I J):bw:=!aO (b<a)
theorem ZB(a b:I J):(m4 a b||m4 b a)=Y:=by
 by_cases h:b<a
 .exact Dl.mpr (.inr (aA (!·) (ef (R_.mpr (List.le_of_lt h)))))
 .exact Dl.mpr (.inl (aA (!·) (ef h)))
theorem BP{a b:I J}(h:m4 a b=Y):a<=b:=R_.mp (of_decide_eq_false ((tH _).mp h))
theorem MX(a b c:I J)(h:m4 a b=Y)(O:m4 b c=Y):m4 a c=Y:=aA (!·) (ef (R_.mpr (List.le_trans (BP h) (BP O))))
abbrev dM(l:I (I J)):I (I J):=l.mergeSort m4
theorem zF(l:I (I J)):(dM l).Perm l:=List.mergeSort_perm l m4
theorem PJ(l:I (I J)):(dM l).Pairwise λa b=>m4 a b=Y:=List.pairwise_mergeSort MX ZB l
theorem PI{l H:I (I J)}(p:H.Perm l)(e:H.Pairwise λa b=>m4 a b=Y):H=dM l:=List.Perm.eq_of_pairwise (λa b _ _ x h=>List.le_antisymm (BP x) (BP h)) e (PJ l) (p.trans (zF l).symm)
theorem ZQ:Spec.ltCps a b=aO (a<b):=ltCps_eq a b
theorem Ps:∀{l:I _},sortedS (l.map cj)=Y->l.Pairwise λa b=>m4 a b=Y
 |[],_=>.nil
 |[x],_=>by simp
 |x::H::r,h=>by
  refine bT (cQ.mp (h)) λw v=>?_;have v:=Ps (l:=H::r) v;have w:m4 x H=Y:=by delta m4;rw [<-ZQ];exact w
  exact agj.mpr ⟨λE g=>by
   rcases cD.mp g with rfl|g
   .exact w
   .exact MX _ _ _ w ((agj.mp v).1 E g),v⟩
theorem abm{a:I af}(p:a.Perm (l.map cj))(h:sortedS a=Y):a=(dM l).map cj:=by
 have e:a=(a.map λs=>s.cps.toList).map cj:=by
  simp only [dH]
  conv=>lhs;rw [<-z7 a]
  exact kr λs E=>C
 have Q:(a.map λs=>s.cps.toList).Perm l:=by
  have:=p.map λs:af=>s.cps.toList;simp only [dH]at this;have b:l.map ((λs:af=>s.cps.toList)∘cj)=l:=by
   conv=>rhs;rw [<-z7 l]
   exact kr λs E=>by simp [cj]
  rwa [b]at this
 rw [e]at h;have:=PI Q (Ps h);apply ae (e);rw [this]
theorem JT:∀{l:I _}{z:I aB},StrsAre z (l.map cj)->bu F g z (l.map .str)
 |[],_,h=>by cases h;exact .nil
 |x::r,_,h=>by cases h with|cons _ A h=>exact .cons (.str x A) (JT h)
theorem KH:∀{l:I _}{z:I aB},bu F g z (l.map .str)->StrsAre z (l.map cj)
 |[],_,d=>d.ja (P:=λz=>StrsAre z []) .nil
 |x::r,_,d=>d.jA (P:=λz=>StrsAre z _) λE G a b=>a.i4 (P:=λv=>StrsAre (v::G) _) λA=>.cons (cj x) A (KH b)
theorem ac1(g:f.OneLt){T:String}(b:T="list"\/T="tuple")(n:s.heap.get? l=D o)(r:o.cls=.type T)(P:o.data=.seq z.toArray X)(m:KeysOf f (pairsOf z))
  (d:∀u k rest,z=u::k::rest->keyKind' (u::k::rest).toArray=pure oneType')(i:U z<64)
  (A:∀(h:SortSt)(O:cf)(a:aq)(e:J),(arrOf h).Perm (pairsOf z)->SortedToK f (arrOf h) (pairsOf z).size->bF s.heap O->O.get? a=D (lo ((arrOf h).map (·.2)).toList e)->s.heap.get? a=aa->Q (.ref a) {s with heap:=O}):
  aQ (aI L F) G (call (.builtin "sorted") [.ref l]) Q S s:=by
 apply Calls.call_function_entry kind_sorted plain_sorted entry_sorted (args_sorted1 _);refine aG (bM (aG (wpAny_collect_seq l b n r P (λv B=>(aG (DN ?_))) (by exact cS 0 (.v 0) (.n 16777216) (.a (.v 0) (.n 1)) (.n 64) C [_] i))));have j:(v.push (seqObj "list" z.toArray 0)).get? v.objs.size=D _:=eS _ C;show aQ _ _ _ _ _ {s with heap:=v.push (seqObj "list" z.toArray 0)};have p:s.heap.get? v.objs.size=aa:=by
  cases q:s.heap.get? v.objs.size with
  |none=>rfl
  |some o=>exact bA (fk (B _ _ q)) (i7 _)
 refine aG (gH (wpAny_call_entry slot_list_sort (aR _ j C) entry_list_sort (list_sort_treeK g j m d i λh H y=>(aR _ C (bH (sortedHeap_at j) λe w=>(bM (aR _ C (A h _ _ e H y (λc E q=>?_) w p)))))) (args_list_sort _)));have x:=B c E q;have t:=fk x;exact(sortedHeap_old (fH t) (by rw [lM];exact jZ t)).trans (eG _ x)
theorem MY(r:Ready X g s)(z:s.heap.get? a=aa):Le g (λb=>if b=a then D o else g b):=λb x e=>by
  show(if b=a then _ else g b)=_;apply ae (aJ (λq=>by rw [q]at e;have:=r.bJ a x e;exact aV z this));exact e
theorem cg.one(r:Ready X g s)(k:bF s.heap O)(T:O.get? a=D o)(z:s.heap.get? a=aa):cg X g s (λb=>if b=a then D o else g b) {s with heap:=O,toks:=tk}where
 same:=cH O tk C
 keep:=k.t
 inv:=bD.uK (MY r z) r.inv λP E o e=>k P o e
 le:=MY r z
 bJ:=λb x e=>by
  have e:(if b=a then D o else g b)=D x:=e
  split at e
  .rename_i q;obtain rfl:=bj e;exact ae (aA _ q) T
  .exact k b x (r.bJ b x e)
 new:=λb x e=>by
  have e:=e
  split at e
  .rename_i q;exact q.symm▸.inr z
  .exact .inl e
theorem OQ{T:String}(q:T="list"\/T="tuple")(d:E=.ref a)(i:g a=D o)(k:o.cls=.type T)(P:o.data=.seq z.toArray X)(b:bu F g z (l.map .str))(x:l.length<64):
  PO Q (aI A S) L F (call (.builtin "sorted") [E]) g (.list ((dM l).map .str)):=by
 subst d;intro s ak H r R;have h:=KH b;have j:=by have:=b.length;simpa using this
 refine ac1 strKind_oneLt q (r.bJ _ _ i) k P h.keysOf (λah aj rest e=>keyKind_strs (by rw [<-e];exact h)) (d_ 0 (.a (.v 1) (.n 1)) (.n 64) (.a (.v 0) (.n 1)) (.n 64) (.v 1) (.v 0) C [_,_] x (iX j)) λc O y e t B v n m=>dF (sorted_out_str h t B) λG w u p=>?_;simp only [(abm u p)]at w;have f:=cg.one (tk:=s.toks) r v n m;exact R _ _ _ f (.list (aL C) ((JT w).mono f.le))
theorem abC(d:Den F g E (.tup (l.map .str)))(i:l.length<64):PO X (aI m w) L F (call (.builtin "sorted") [E]) g (.list ((dM l).map .str)):=by
 obtain⟨a,z,u,S,b,rfl⟩:=d.inv;exact OQ (.inr C) C S C C b i
theorem abB(d:Den F g E (.list (l.map .str)))(i:l.length<64):PO X (aI m w) L F (call (.builtin "sorted") [E]) g (.list ((dM l).map .str)):=by
 obtain⟨a,z,u,S,b,rfl⟩:=d.inv;exact OQ (.inl C) C S C C b i
theorem afc(F:Fm c.V n k G)(t:J)(O:G[t]?=D (("sorted":af),.globalImplicit))(h:EE c n k y e P (.tup (l.map .str)))(i:l.length<64)(L:dO e=Y):EE c n k y (.Call (.Name "sorted" p) [e] [] u) P (.list ((dM l).map .str)):=
 rF F t 6 O C (zr h cT L) (by simp [L]) λg z d=>by refine ai d.jc λv j q=>?_;subst j;exact abC q i
theorem Ri(F:Fm c.V n k G)(t:J)(O:G[t]?=D (("sorted":af),.globalImplicit))(h:EE c n k y e P (.list (l.map .str)))(i:l.length<64)(L:dO e=Y):EE c n k y (.Call (.Name "sorted" p) [e] [] u) P (.list ((dM l).map .str)):=
 rF F t 6 O C (zr h cT L) (by simp [L]) λg z d=>by refine ai d.jc λv j q=>?_;subst j;exact abB q i
section
open Builtin.Str
noncomputable def iA(l:I J):af:=⟨l.toArray⟩
def Hs(l i:I J)(S:I (I J)):bw:=
 !(aO (l.length<i.length)||aO (strKind (iA l)<strKind (iA i)))&&!(occurrences (iA l) (iA i) 0 l.length (l.length+1)).isEmpty&&partsBetween (iA l) (occurrences (iA l) (iA i) 0 l.length (l.length+1)) i.length==S.map iA&&!i.isEmpty
theorem PW:∀(S:I _)(n:J),bu F g (strsFrom n (S.map iA)) (S.map .str)
 |[],_=>.nil
 |p::S,n=>.cons (.str p _) (PW S _)
theorem abD(O:Den F g E (.str l))(L:Den F g u (.str i))(X:U l<=1000)(h:Hs l i S=Y)(z:U S<=1000):
  PO a (aI m w) e F (call (.builtin "str.split") [E,u]) g (.list (S.map .str)):=by
 refine bH (jj O) λA j=>bH (jj L) λy d=>?_;subst j d;have h:(_&&_&&_&&_)=Y:=h;simp only [oz,tH]at h;have t:=iS h.1.2;intro s Q H r R;apply DK agZ (tR _ _ _) PySem.F.entry_str_split (PySem.F.args_str_split_2 _ _) (meets_str_split_sep (iA l) (iA i) A y h.1.1.1 (by have:=h.2;cases i with|nil=>exact cY C (this).symm|cons x r=>rfl) h.1.1.2 (aD X (az C)) (by show U (partsBetween _ (occurrences _ _ 0 l.length (l.length+1)) i.length)<=_;simp only [t,dg];exact aD z (az C)));have q:=R _ _ (.ref s.heap.objs.size) (cg.one (tk:=s.toks+U (S.map iA)) (o:={cls:=.type "list",data:=.seq (strsFrom s.toks (S.map iA)).toArray}) r (bF.push s.heap _) (eS _ C) (gS s));have:=q (.list (aL C) (PW S s.toks));show wants Q H _ {s with toks:=_,heap:=s.heap.push {cls:=.type "list",data:=.seq (strsFrom s.toks _).toArray}};show wants Q H _ {s with toks:=s.toks+U (partsBetween _ _ i.length),heap:=_};exact(t)▸(this)
variable{c:Cx O}
theorem ae3{l i:I J}{S:I (I J)}(T:EE c n k y o P (.str l))(h:EE c n k P e X (.str i))(f:attributeBase o "split" c.V (eval o c.V)=eval o c.V)(L:dO e=Y)(E:(A.endLine==u.line)=Y)
  (a:U l<=1000)(B:Hs l i S=Y)(z:U S<=1000):EE c n k y (.Call (.Attribute o "split" A) [e] [] u) X (.list (S.map .str)):=
 xy agZ PySem.F.type_str_split T (zr h cT L) f (by simp [L]) (dK _ _) E λg v x d b=>by
  refine ai b.jc λw j q=>?_;subst j;exact abD d q a B z
theorem aeZ{x:I _}(T:EE c n k y o P (.str i))(h:EE c n k P e X (.list (x.map .str)))(f:attributeBase o "join" c.V (eval o c.V)=eval o c.V)(L:dO e=Y)(E:(A.endLine==u.line)=Y)
  (m:(x.map (U ·)).sum+U x*U i<=16777216){r:I J}(s:Ai ⟨i.toArray⟩ (x.map λl=>(⟨l.toArray⟩))=⟨r.toArray⟩):EE c n k y (.Call (.Attribute o "join" A) [e] [] u) X (.str r):=
 xy SA SH T (zr h cT L) f (by simp [L]) (dK _ _) E λg v z d b=>by
  refine ai b.jc λw j q=>?_;subst j;exact OO d q (strs_map x) m s
noncomputable def nmF(G:c3)(c:ig)(e:cE):bg af:=match e with|.Name id u=>if G.kindOf id==D .local&&u.line==c.line then D id else aa|_=>aa
theorem adz(B:G.blockKind=.function)(j:G.kindOf x=D .local)(L:G.kindOf H=D .local)(g:G.kindOf E=D .local)(X:px.line=i.line)(O:px.line=h.line)(k:[x,H,E].eraseDups=[x,H,E])
  (n:[a,b,d].all (foldedForSure 8)=ay)(l:[a,b,d].all (constantsAlone 8)=ay)(t:[a,b,d].all dO=Y):swappedStores [.Tuple [.Name x px,.Name H i,.Name E h] k₁ y] (.Tuple [a,b,d] k₂ ahq) G=pure (D [x,H,E]):=by
 refine(aJ (λq=>?_)).trans ((aJ λq=>?_).trans ?_)
 .rw [B]at q;exact cY C q
 .exact ai (mH.mp q) λe m q=>cY (PR q) (gK.mp t e m)
 have f:∀{o:af}{Q:ig}{r:I cE}{s:I af},G.kindOf o=D .local->px.line=Q.line->r.filterMap (nmF G px)=s->
   (zX o Q::r).filterMap _=o::s:=λ{o Q r s}w v R=>
  (IL (a:=.Name o Q) ((aL (cQ.mpr ⟨beq_iff_eq.mpr w,beq_iff_eq.mpr v.symm⟩):(if G.kindOf o==D .local&&Q.line==px.line then D o else aa)=D o))).trans (aA _ R)
 have z:=f j C (f L X (f g O (r:=[]) C));exact(aJ λq=>cY (aA (λu:I af=>u.length !=3) k) ((aA (λp:I af=>(p.length !=3||p.eraseDups.length !=p.length)) z).symm.trans q)).trans ((aJ (cY n)).trans ((aJ (cY l)).trans (aA (λc=>pure _) z)))
theorem z3(F:Fm c.V n k G)(i t m z l j:J)(o:n[i]?=D x)(A:i<k)(L:n[t]?=D h)(O:t<k)(g:n[m]?=D E)(R:m<k)(p:G[z]?=D (x,.local))(aC:G[l]?=D (h,.local))(aH:G[j]?=D (E,.local))(aM:ER c n k y ao [a,b,d] P [q,f,u])(X:e.line=r.line)(w:e.line=B.line)(T:[x,h,E].eraseDups=[x,h,E])
  (ah:[a,b,d].all (foldedForSure 8)=ay)(aj:[a,b,d].all (constantsAlone 8)=ay)(ak:[a,b,d].all dO=Y):
  ES c n k y (.Assign [.Tuple [.Name x e,.Name h r,.Name E B] a_ aT] (.Tuple [a,b,d] aP ao) aY) (((P.set m (.t u)).set t (.t f)).set i (.t q)) .next:=by
 refine⟨λaE aF s Q H au S aK=>?_⟩;have aN:c.V.blockKind=.function:=by
  have:=S.1.kind
  first|exact this|(delta Dp;simp [this])|trace_state
 exact K7 c.R.handled (Bp aM.1 C) (.cons (λv Q H s=>zG v Q H s) g R (F.loc g R) (.cons (λv Q H s=>zG v Q H s) L O (F.loc L O) (.cons (λv Q H s=>zG v Q H s) o A (F.loc o A) .nil))) C C C (adz aN (F.kn z p nofun) (F.kn l aC nofun) (F.kn j aH nofun) X w T ah aj ak) aE aF s Q H au S aK
end
noncomputable def jV:bw->I J->bg (I J)
 |ay,[]=>D []
 |Y,[]=>aa
 |Y,c::r=>(jV ay r).map (c::·)
 |ay,c::r=>if c=92 then jV Y r else(jV ay r).map (c::·)
theorem ad4:∀{l A:I J}{d:J},jV ay l=D (d::A)->∃e:bw,∃r,l=(if e then [92]else [])++d::r/\jV ay r=D A/\((if e then 92 else d)==92)=e
 |[],A,d,h=>nomatch h
 |c::l,A,d,h=>by
  have h:(if c=92 then jV Y l else(jV ay l).map _)=_:=h
  by_cases q:c=92
  .rw [aL q]at h;cases l with
   |nil=>exact nomatch h
   |cons x r=>
    refine ai (pV.mp h) λP a b=>?_;obtain⟨rfl,rfl⟩:=zZ b;exact(gx (Y) (r) (by rw [q];rfl) (a) (C))
  .rw [aJ q]at h;refine ai (pV.mp h) λP a b=>?_;obtain⟨rfl,rfl⟩:=zZ b;exact⟨ay,l,C,a,beq_false_of_ne q⟩
theorem ad6:∀{l:I J},jV ay l=D []->l=[]
 |[],_=>C
 |c::l,h=>by
  have h:(if c=92 then jV Y l else(jV ay l).map _)=_:=h
  by_cases q:c=92
  .rw [aL q]at h;cases l with
   |nil=>exact aV C (h)
   |cons x r=>exact ai (pV.mp h) λP a b=>nomatch b
  .rw [aJ q]at h;exact ai (pV.mp h) λP a b=>nomatch b
noncomputable def lC(A:I J):I J->J
 |[]=>0
 |x::r=>if x∈A then 0 else lC A r+1
noncomputable def ql:I (I J)->I J->J->bw
 |[],_,_=>Y
 |A::p,w,a=>if w.length<a+lC A (w.drop a)+1 then ay else ql p w (a+lC A (w.drop a)+1)
structure Row where
 b:bw
 i:I J
 t:I J
noncomputable def Row.x(r:Row):I J:=if r.b then 91::(r.i++[93,41])else r.i++[41]
def Row.ok(r:Row):bw:=jV ay r.i==D r.t&&aO (r.x.length<=100)&&(r.b||r.t.length==1&&match r.i with|[]=>ay|h::_=>h !=91&&!aO (h∈[40,41,42,43,63,123,124,94,36,46]))
section
variable{c:Cx O}{text word:I J}{rows:I T}{k at':J}{row inner told:I J}{bt:bw}
noncomputable def yX:I (af×fc):=[("text",.local),("word",.local),("rows",.local),("at",.local),("row",.local),("bracket",.local),("inner",.local),("told",.local),("k",.local),("len",.globalImplicit)]
noncomputable def lF:I af:=["text","word","rows","at","row","bracket","inner","told","k"]
abbrev Qf:bg cz:=fV 2 (dD (bB 25))
abbrev pK:I cz:=iw Qf
noncomputable abbrev xg(text word:I J)(rows:I T)(at':J)(x w r c Q:AV O):I (AV O):=[.t (.str text),.t (.str word),.t (.list rows),.t (.int at'),x,w,r,c,Q]
abbrev pL(text word:I J)(rows:I T)(at':J)(row:I J)(bt:bw)(inner told:I J)(k:J):I (AV O):=xg text word rows at' (.t (.str row)) (.t (.bool bt)) (.t (.str inner)) (.t (.str told)) (.t (.int k))
theorem Gu{l:I J}{i:J}(X:U l<=100000)(h:l[i]?=D a):i<2^60:=eH (cG.mp h).1 (aD X (az C))
theorem adO(F:Fm c.V lF 9 yX)(X:U inner<=100):∀(A h rest told:I J),inner=h++rest->jV ay rest=D A->U told+U A<=1000->
  EW c lF 9 (lE (D (hU pK 2))) (lD (D (hU pK 2))) [] (U A) (pL text word rows at' row bt inner told (U h)) (pL text word rows at' row bt inner (told++A) (U inner)) .next:=λT=>T.rec
 (λh rest told a i B=>by
  have:=ad6 i;subst this;simp only [ju]at a;subst a;rw [ju]
  exact rK (zC (zv F 8 C C) (rH F 9 C (zv F 6 C C) (eU (aD X (az C))) C) (mh (ef (IF _))) C) fY)
 (λd A n h rest told a i B=>by
  refine cps λk f=>?_;obtain⟨e,r,s,l,m⟩:=ad4 i;have O:inner=h++((if e then [92]else [])++[d])++r:=by apply ae (a);rw [s];simp
  have b:U inner<=100000:=aD X (az C);have G:inner[U h]?=D (if e then 92 else d):=by rw [a,s,oU];cases e<;>rfl
  have P:inner[U h+e.toNat]?=D d:=by
   rw [O,gX,kU (fO _ _),x6];cases e<;>rfl
  have E:U (h++((if e then [92]else [])++[d]))=U h+e.toNat+1:=by apply ae (cA);rw [cA];cases e<;>rfl
  have x:=n _ r (told++[d]) O l (by rw [cA];show _+1+_<=_;have:U told+(U A+1)<=1000:=B;exact cS 0 (.a (.a (.v 0) (.n 1)) (.v 1)) (.n 1000) (.a (.v 0) (.a (.v 1) (.n 1))) (.n 1000) C [_,_] this);apply f;rw [E,gX]at x;exact ow (zC (zv F 8 C C) (rH F 9 C (zv F 6 C C) (eU (aD X (az C))) C) (mh (cL (jY.mpr (by rw [O,cA,cA,cA];show _<_+(_+1)+_;exact eF (.a (.v 0) (.n 1)) (.a (.a (.v 0) (.a (.v 1) (.n 1))) (.v 2)) C [_,_,_])))) C)
   (zx (tE F 8 C (dm _) C (QO (zC (dS (zv F 6 C C) (zv F 8 C C) (jn (Gu b G) G) C) (zs [92] (cR ['\\'])) (CI (by simpa using m)) C) e.toNat (by cases e<;>rfl)) (u5 C))
   (zx (tE F 7 C (az C) C (dS (zv F 6 C C) (zv F 8 C C) (jn (Gu b P) P) C) (O9 (by have:=B;exact aD (aD (iO (dK 1 (U A)) _) this) (az C))))
   (fb (tE F 8 C (dm _) C (zi 1) (u5 C)) C))) x)
theorem adN(F:Fm c.V lF 9 yX)(X:U word<=1000):∀(rest h:I J),word=h++rest->
  EW c lF 9 (lE (D (hU pK 5))) (lD (D (hU pK 5))) [] (U rest) (pL text word rows (U h) row bt inner told k) (pL text word rows (U h+lC told rest) row bt inner told k) .next:=λT=>T.rec
 (λh e=>by
  simp only [ju]at e;subst e
  exact rK (aeC (zC (zv F 3 C C) (rH F 9 C (zv F 1 C C) (eU (aD X (az C))) C) (mh (ef (IF _))) C)) fY)
 (λx rest n h e=>by
  have G:word[U h]?=D x:=by rw [e,oU];rfl
  have i:EC c lF 9 _ (lE (D (hU pK 5))) (pL text word rows (U h) row bt inner told k) _:=
   jo (kO (zC (zv F 3 C C) (rH F 9 C (zv F 1 C C) (eU (aD X (az C))) C) (mh (cL (jY.mpr (j7 G)))) C) λ_=>kO (zC (dS (zv F 1 C C) (zv F 3 C C) (jn (Gu (aD X (az C)) G) G) C) (zv F 7 C C) (aA D C) C) λ_=>tD) (by rw [Iw,Iz])
  show EW _ _ _ _ _ _ _ _ (pL text word rows (U h+(if x∈told then 0 else lC told rest+1)) row bt inner told k) _
  by_cases m:x∈told
  .rw [aL m];exact rK (jo i (by rw [cL m];rfl)) fY
  .rw [aJ m];have a:=n (h++[x]) (by apply ae (e);rw [gX];rfl);rw [cA,vD,qI (U [x])]at a
   exact ow (jo i (by rw [ef m];rfl)) (fb (tE F 3 C (az C) C (zi 1) (u5 C)) C) a)
end
section
variable{r:Row}
theorem Row.un(h:r.ok=Y):jV ay r.i=D r.t:=iS (cQ.mp (cQ.mp h).1).1
theorem Row.len(h:r.ok=Y):U r.x<=100:=dh (cQ.mp (cQ.mp h).1).2
theorem Row.sign(h:r.ok=Y)(f:r.b=ay):U r.t=1/\∃a l,r.i=a::l/\a≠91/\a∉[40,41,42,43,63,123,124,94,36,46]:=by
 have:=(cQ.mp h).2;rw [f,Rv,cQ]at this;refine⟨iS this.1,?_⟩;have v:=this.2;cases A:r.i with
 |nil=>rw [A]at v;exact nomatch v
 |cons a l=>
  rw [A]at v;have v:=cQ.mp v;exact(gx (a) (l) (C) (bne_iff_ne.mp v.1) (λm=>by rw [cL m]at v;exact nomatch v.2))
theorem ad5:∀(b:bw)(l A:I J),jV b l=D A->U A<=U l:=by
 intro b l
 induction l generalizing b with
 |nil=>intro A h;cases b with
  |false=>obtain rfl:=bj h;exact dm _
  |true=>exact nomatch h
 |cons c l n=>
  intro A h;have f:∀A,(jV ay l).map (c::·)=D A->U A<=U (c::l):=λA h=>ai (pV.mp h) λP a b=>b▸jx (n ay P a);cases b with
  |true=>exact f A h
  |false=>
   have h:(if c=92 then jV Y l else(jV ay l).map _)=_:=h
   by_cases q:c=92
   .rw [aL q]at h;exact Ac (n Y A h)
   .rw [aJ q]at h;exact f A h
theorem U4(l:I J):cut (D 1) (D (-2)) (91::(l++[93,41]))=l:=by
 have e:U (91::(l++[93,41]))=U l+3:=by apply ae (gB);rw [cA];rfl
 show((91::(l++[93,41])).drop (clipAt (U (91::(l++[93,41]))) (1:J))).take (clipAt (U (91::(l++[93,41]))) (-(2:J))-clipAt (U (91::(l++[93,41]))) (1:J))=l;rw [e,we,A6 _ _ (az C),vF (by exact eF (.n 1) (.a (.v 0) (.n 3)) C [_])];show(l++[93,41]).take _=l;rw [show U l+3-2-1=U l from C,z9]
theorem U7(l:I J)(a:J):cut aa (D (-1)) (l++[a])=l:=by
 show((l++[a]).drop 0).take (clipAt (U (l++[a])) (-(1:J))-0)=l;rw [A6 _ _ (az C),cA];show(l++[a]).take (U l+1-1-0)=l;rw [agu,Nat.sub_zero,z9]
theorem Row.xb(f:r.b=Y):r.x=91::(r.i++[93,41]):=aL f
theorem Row.xs(f:r.b=ay):r.x=r.i++[41]:=aJ (by exact(f)▸(nofun))
theorem acm(h:r.ok=Y):(r.x.take 1==[91])=r.b:=by
 cases f:r.b with
 |true=>rw [Row.xb f];rfl
 |false=>exact e5 (Row.sign h f).2 λa l e u _=>by rw [Row.xs f,e];exact beq_false_of_ne λq=>u (zZ q).1
theorem ack:r.x.drop (U (r.x)-1)=[41]:=by
 have L:∀l,(l++[41]).drop (U (l++[41])-1)=[41]:=λl=>by exact(cA)▸(RQ)
 cases f:r.b with
 |true=>rw [Row.xb f,show 91::(r.i++[93,41])=91::(r.i++[93])++[41]by simp];exact L _
 |false=>rw [Row.xs f];exact L _
theorem acj(f:r.b=Y):r.x.drop (U (r.x)-2)=[93,41]:=by
 simp only [Row.xb f,show 91::(r.i++[93,41])=(91::r.i)++[93,41]from C,cA];exact RQ
section
variable{c:Cx O}{text word:I J}{rows:I T}{at':J}{a4 a5 a6 a7 a8:AV O}
theorem adL(F:Fm c.V lF 9 yX)(h:r.ok=Y)(y:U word<=1000)(u:at'<=U word){a:J}(e:at'+lC r.t (word.drop at')=a):
  EX c lF 9 (xg text word rows at' (.t (.str r.x)) a5 a6 a7 a8) pK (pL text word rows (a+1) r.x r.b r.i r.t (U r.i)) (if U word<a+1 then .ret (.bool ay)else .next):=by
 have X:=Row.len h
 have A:U r.i<=100:=aD (by cases f:r.b with
  |true=>rw [Row.xb f,gB,cA];exact eF (.v 0) (.a (.a (.v 0) (.a (.a (.n 0) (.n 1)) (.n 1))) (.n 1)) C [_]
  |false=>simp only [Row.xs f,cA];exact fO _ _) X
 have l:=aD (ad5 _ _ _ (Row.un h)) A;have d:ES c lF 9 (xg text word rows at' _ _ a6 a7 a8) (hU pK 1) (pL text word rows at' r.x r.b r.i [] 0) .next:=
  z3 F 6 7 8 6 7 8 C (az C) C (az C) C (az C) C C C (zr (QN (lG (zv F 5 C C) C λ_=>C)
   (λf=>kQ (zv F 4 C C) (iM (zi 1)) (iM (vo (zi 2))) (qz (aD X (az C)) (by rw [Row.xb f];exact U4 _)))
   (λf=>kQ (zv F 4 C C) rJ (iM (vo (zi 1))) (qz (aD X (az C)) (by exact(Row.xs f)▸(U7 _ _))))) (zr (zs [] (cR [])) (zr (zi 0) cT C) C) C) C C C C C C
 have s:EC c lF 9 _ (uE (D (hU pK 3))) (pL text word rows at' r.x r.b r.i r.t (U r.i)) ay:=jo (b:=ay||(r.b&&(ay&&Y)||ay))
  (nA (zC (kQ (zv F 4 C C) (iM (vo (zi 1))) rJ (qz (aD X (az C)) (ae (Ks _ 1 (by decide)) ack))) (zs [41] (cR [')'])) (zA C) C) λ_=>
   nA (kO (lG (zv F 5 C C) C λ_=>C) λf=>kO (zC (kQ (zv F 4 C C) (iM (vo (zi 2))) rJ (qz (aD X (az C)) (ae (Ks _ 2 (az C)) (acj f)))) (zs [93,41] (cR [']',')'])) (zA C) C) λ_=>tD) λ_=>zN) (by cases r.b<;>rfl)
 have b:EC c lF 9 (pL text word rows at' r.x r.b r.i r.t (U r.i)) (uE (D (hU pK 4))) _ ay:=jo (b:=!r.b&&((ay||(ay||ay))&&Y))
  (kO (C_ (lG (zv F 5 C C) C λ_=>C)) λf=>by
   have f:=by simpa using f
   exact bT (Row.sign h f) λw v=>e5 v λa k e n m=>kO (nA (zC (rH F 9 C (zv F 7 C C) (eU (aD l (az C))) C) (zi 1) (by rw [w];rfl) C) λ_=>nA (zC (dS (zv F 4 C C) (zi 0) (jn (i:=0) (by decide) (by rw [Row.xs f,e];rfl)) C) (zs [40,41,42,43,63,123,124,94,36,46] (cR ['(',')','*','+','?','{','|','^','$','.'])) (G8 (ef m)) C) λ_=>zN) λ_=>tD) (by cases r.b<;>rfl)
 have i:=adN (text:=text) (rows:=rows) (row:=r.x) (bt:=r.b) (inner:=r.i) (told:=r.t) (k:=U r.i) F y _ (word.take at') (agn _ _).symm;rw [z6,vF u,e]at i;have x:EC c lF 9 (pL text word rows (a+1) r.x r.b r.i r.t (U r.i)) (uE (D (hU pK 7))) _ (aO (U word<a+1)):=
  zC (zv F 3 C C) (rH F 9 C (zv F 1 C C) (eU (aD y (az C))) C) (aA D (decide_eq_decide.mpr jY)) C
 refine zx (eL F 5 C (az C) (xu (kQ (zv F 4 C C) rJ (iM (zi 1)) (qz (aD X (az C)) (EH r.x 1))) (zs [91] (cR ['['])) (CI (acm h)) C) C) (zx d (zx (lI ((adO (c:=c) (text:=text) (word:=word) (rows:=rows) (at':=at') (row:=r.x) (bt:=r.b) F A r.t [] r.i [] C (Row.un h) (by rw [aga,jy];exact aD l (az C))))) (zx (dP s fY) (zx (dP b fY) (zx (lI i) (zx (tE F 3 C (az C) C (zi 1) (u5 C)) ?_))))))
 by_cases q:U word<a+1
 .rw [aL q];exact h_ (dP (jo x (cL q)) (h_ (je (zb ay))))
 .rw [aJ q];exact zx (dP (jo x (ef q)) fY) fY
theorem adM(F:Fm c.V lF 9 yX)(y:U word<=1000):∀(l:I Row)(at':J)(a4 a5 a6 a7 a8:AV O),(∀r∈l,r.ok=Y)->at'<=U word->
  ∃x h,jH c lF 9 (oZ Qf) pK (l.map λr=>T.str r.x) (xg text word rows at' a4 a5 a6 a7 a8) x h/\h=if ql (l.map Row.t) word at' then .next else .ret (.bool ay):=λa=>a.rec
 (λat' a4 a5 a6 a7 a8 e u=>(gg (_) (_) (my) (C)))
 (λr l n at' a4 a5 a6 a7 a8 e u=>by
  have A:=adL (text:=text) (rows:=rows) (a5:=a5) (a6:=a6) (a7:=a7) (a8:=a8) F (e r (.head _)) y u C;have L:ql ((r::l).map Row.t) word at'=if U word<at'+lC r.t _+1 then ay else ql _ word _:=C
  by_cases q:U word<at'+lC r.t (word.drop at')+1
  .rw [aL q]at A;rw [L,aL q];exact⟨_,_,QM (iD F 4 C (az C)) A,C⟩
  .rw [aJ q]at A;rw [L,aJ q]
   exact d5 (n _ _ _ _ _ _ (λs m=>e s (.tail _ m)) (iP q)) λx h i b=>⟨x,h,ki (iD F 4 C (az C)) A i,b⟩)
end
noncomputable def ry:I J:=[40,63,62,46,42,63]
def kK(l:I Row):I J:=(l.map λr=>ry++r.x).flatten
noncomputable def C0:I J:=[46,42,41,92,90]
def iL(l:I Row):I J:=sJ++(kK l++C0)
def uY(l:I Row):bw:=l.all Row.ok&&aO (l.length<=10)&&aO ((kK l).length<=500)&&Hs (kK l) ry ([]::l.map Row.x)&&Ai (iA ry) (([]::l.map Row.x).map iA)==iA (kK l)
variable{y:Ly O}{rs:I Row}{word:I J}
theorem QB(k:y.aZ "_law_takes" 25)(e:uY rs=Y)(i:U word<=1000):y.F (n+1) "_law_takes" [.str (iL rs),.str word] (.bool (ql (rs.map Row.t) word 0)):=by
 have e:(_&&_&&_&&_&&_)=Y:=e;simp only [oz]at e;refine cps λz f=>?_;obtain⟨⟨⟨⟨w,v⟩,R⟩,g⟩,H⟩:=e;have v:=dh v;have R:=dh R;have X:U (iL rs)<=600:=by
  show U (sJ++(kK rs++C0))<=_;simp only [cA,cA];show 4+_+5<=600;exact cS 0 (.a (.a (.n 4) (.v 0)) (.n 5)) (.n 600) (.v 0) (.n 500) C [_] R
 have h:U ([]::rs.map Row.x)<=20:=by simp only [gB,dg];exact cS 0 (.a (.v 0) (.n 1)) (.n 20) (.v 0) (.n 10) C [_] v
 apply f;refine y.fn 25 lF yX k C C C (ez C) (λu code p=>yt λE E=>C) λL j G t F=>?_
 let c:=y.c L j G n t
 have l:cut (D 4) (D (-5)) (iL rs)=kK rs:=by
  show((iL rs).drop (clipAt (U (iL rs)) (4:J))).take (clipAt (U (iL rs)) (-(5:J))-clipAt (U (iL rs)) (4:J))=_;have x:U (iL rs)=U (kK rs)+9:=by show U (sJ++(kK rs++C0))=_;rw [cA,cA];show 4+(_+5)=_;exact fS (eF (.a (.n 4) (.a (.v 0) (.n 5))) (.a (.v 0) (.n 9)) C [_]) (eF (.a (.v 0) (.n 9)) (.a (.n 4) (.a (.v 0) (.n 5))) C [_])
  rw [x,we,A6 _ _ (by decide),vF (aD (az C) (dK 9 _)),show U (kK rs)+9-5-4=U (kK rs)from C];exact z9
 have O:((([]::rs.map Row.x).map (U ·)).sum+U ([]::rs.map Row.x)*U ry)<=16777216:=by
  have B:(([]::rs.map Row.x).map (U ·)).sum<=1000:=by
   have L:∀rs:I Row,((rs.map Row.x).map (U ·)).sum<=U (kK rs):=λrs=>rs.rec (dm _) λr rs o=>by
    show U r.x+_<=U ((ry++r.x)++kK rs);rw [cA,cA];exact iE (dK _ _) o
   exact aD (fq (jy _)) (aD (L rs) (aD R (az C)))
  have:U ry=6:=C;rw [this];exact aD (iE B (I2 6 h)) (az C)
 have d:EC c lF 9 (xg (iL rs) word (([]::rs.map Row.x).map .str) 0 .un .un .un .un .un) (uE (D (hU (dD (bB 25)) 1))) (xg (iL rs) word (([]::rs.map Row.x).map .str) 0 .un .un .un .un .un) ay:=
  nA (b₁:=ay) (zC (zv F 0 C C) (fh (fh (zs [40,63,115,58] (cR ['(','?','s',':'])) (aeZ (r:=kK rs) (zs ry (cR ['(','?','>','.','*','?'])) (zv F 2 C C) C C C O (iS H)) (pH (by show 4+_<=_;exact cS 0 (.a (.n 4) (.v 0)) (.n 1000000) (.v 0) (.n 500) C [_] R))) (zs [46,42,41,92,90] (cR ['.','*',')','\\','Z'])) (pH (by rw [cA];show 4+_+5<=_;exact cS 0 (.a (.a (.n 4) (.v 0)) (.n 5)) (.n 1000000) (.v 0) (.n 500) C [_] R))) (zA (by rw [gX];exact aA (!·) (beq_self_eq_true (iL rs)))) C) λ_=>
   nA (b₁:=ay) (zC (dS (zv F 2 C C) (zi 0) (fR (i:=0) (by decide) C) C) (zs [] (cR [])) (zA C) C) λ_=>zN
 have s:cut (D 1) aa ((([]::rs.map Row.x).map T.str))=rs.map λr=>T.str r.x:=ae (U5 _ 1) (by rw [iN,List.drop_succ_cons,List.drop_zero,dH];rfl);refine d5 (adM (c:=c) (text:=iL rs) (rows:=([]::rs.map Row.x).map .str) F i rs 0 .un .un .un .un .un (gK.mp w) (gF _)) λm A a b=>⟨m,zx (z2 F 2 3 2 3 C (az C) C (az C) C C (zr (ae3 (kQ (zv F 0 C C) (iM (zi 4)) (iM (vo (zi 5))) (qz (aD X (az C)) l)) (zs ry (cR ['(','?','>','.','*','?'])) C C C (aD R (az C)) g (aD h (az C))) (zr (zi 0) cT C) C) C C C C C C) (zx (dP d fY) ?_)⟩
 by_cases q:ql (rs.map Row.t) word 0=Y
 .rw [aL q]at b;subst b;rw [q];exact zx (kP (jd (kQ (zv F 2 C C) (iM (zi 1)) rJ (w6 (aD (by rw [dg];exact h) (az C)) s))) a C C) (h_ (je (zb Y)))
 .rw [aJ q]at b;subst b;rw [oB.mpr q];exact h_ (kP (jd (kQ (zv F 2 C C) (iM (zi 1)) rJ (w6 (aD (by rw [dg];exact h) (az C)) s))) a C C)
end
theorem Q5(p:bK c.B c.Z c.w a)(aC:u+2<=c.n)(F:Fm c.V n k G)(i t:J)(O:G[t]?=D (L,.globalImplicit))(s:c.mg L=D (.ref a.bq))(T:(("__init__":af),Q)∈a.fs)(au:∀E d,e8 c.B c.Z c.w (u+1) (.ref Q) (.gQ E d 0) [] λX r=>X=.bN E [] aa 0 0/\r=.none)
  (g:n[i]?=D h)(e:i<k)(B:gY (.Call (.Name L j) [] [] o) (D (.Name h q)) v.line c.V=pure ay):
  SP c n k y (.Assign [.Name h q] (.Call (.Name L j) [] [] o) v) λm A=>∃E,m=y.set i (.obj (.bN E [] aa 0 0))/\A=.next:=by
 constructor;intro aP bC aY bh bl H S R;obtain⟨w,bx,bz,l⟩:=S
 exact kC (kD (nZ c.G w l.base (F.kn t O nofun) s (F.kg t O) (callWith_K0 (p.iI l.base) p.ok.MK (ZX p (c.R.less aC) T au l λaT P E bf ah aj ak z Fr=>gh (av:=.obj (.bN E [] aa 0 0)) w H ak g e (F.loc g e) ⟨_,C,z⟩ ⟨λb f=>lg ((Fr b f).hb) ((Fr b f).fz) ((Fr b f).loc) ((Fr b f).cell),λaE a_ aF b f=>(Fr b f).fp aE aF,λao aK f=>(Fr ao f).tab aK⟩
  λaH aM aN x=>R aH P .next _ .next (aR E C C) (ah.trans aN) aj ⟨w,aM,_,x⟩ dj)))) B
theorem H_(p:bK c.B c.Z c.w O)(F:Fm c.V n k aK)(i:J)(j:n[i]?=D x)(ah:y[i]?=D (.obj (.bN E e s q B))){o':Ob}(g:(L,a)∈O.fs)(f:vO O a)(z:L∉(["_node2info","_ready_nodes","_npassedout","_nfinished"]:I af))(o:copiedNames.contains L=ay)
  (T:∀{h},bF c.B.h₀ h->h.get? a=D b)(l:b.data=.func aF)(h:AD c n k y u Q P t)(d:P[i]?=D (.obj (.bN E e s q B)))(v:e8 c.B c.Z c.w c.n (.ref a) (.bN E e s q B) t λm r=>m=o'/\r=.none)(w:(backTo u (starEach Q c.V)).any (·.1)=Y)
  (H:gY (.Call (.Attribute (.Name x X) L A) Q [] u) aa R.line c.V=pure ay):
  ES c n k y (.Expr (.Call (.Attribute (.Name x X) L A) Q [] u) R) (P.set i (.obj o')) .next:=by
 constructor;intro aM aN aY a_ bf bh S aj;refine tT (aaa p F i j ah g f z o T l h d v w S λak G aP m aT au ao aC aE aH=>?_) (by delta interactive;exact S.1.kind.symm▸C) H;obtain⟨rfl,_⟩:=au;exact aj ak G .next ao aC aE dj
theorem Rg(p:bK c.B c.Z c.w O)(F:Fm c.V n ao cB)(i:J)(j:n[i]?=D t)(ak:y[i]?=D (.obj (.bN E aE aT q B)))(g:(L,a)∈O.fs)(b:L∉(["_node2info","_ready_nodes","_npassedout","_nfinished"]:I af))
  (T:∀{h},bF c.B.h₀ h->h.get? a=D u)(s:u.data=.func bR)(k:e8 c.B c.Z c.w c.n (.ref a) (.bN E aE aT q B) [] λm o=>m=X/\o=f)(v:(A.endLine==d.line)=Y):
  EE c n ao y (.Call (.Attribute (.Name t bI) L A) [] [] d) (y.set i (.obj X)) f:=by
 constructor;intro bE Q P bW ck R ah;refine cps λbQ aj=>?_;obtain⟨w,x,cC,l⟩:=R;refine gv (CG p l j ak) λz au aC=>ai aC λG aF S=>?_;apply aj;subst aF
 exact B3 p F j w l z S g b C (az C) v (Am ⟨⟨T l.base,s⟩,i8 (k c.A c.ρ Q (.ref G.self) [] _ P _ c.R l.ready au (l.uu (j7 j)) .nil λaH r aM bZ m b_ aN aP H aY a_ aK bh bl bf bz=>by
  refine cps λcu bx=>?_;refine bT aN λbC e=>?_;subst bC e
  apply bx;exact ah aH r aM aP H ⟨w,x,_,l.qB j aY a_ H aK bh z ⟨.ref G.self,C,bl⟩ bf⟩ bz)⟩)
section
set_option tactic.hygienic true
theorem pI{R:Type}{l:I R}{x:R}(h:l[i]?=D x):l.set i x=l:=by
 refine bH (cG.mp h) λA j=>?_;subst j;exact List.set_getElem_self A
theorem abp{x:String}(a:OwnCls x d i newId O j)(n:ExcBaseFacts l newId F i)(k:bF j s.heap)(w:s.heap.get? e=D c)(v:c.cls=.ref d)(h:Q Y s):
  aQ M L (excMatches (.ref e) (.ref d)) Q H s:=by
 refine cps λ_ b=>?_;obtain⟨G,p,B,E,T,t,o,sub,q,m,r,g,u,y,z,A,X,f,S,P,R⟩:=a.obj;exact b (wpAny_excMatches_sub_self (k _ _ f) w v (R.hasType n.hasBase) h)
theorem abI(a_:bK c.B c.Z c.w zS)(h:gZ c G)(z:Fm c.V ah k jf)(i j q:J)(g:ah[i]?=D bI)(ic:y[i]?=D (.obj (.bN aT Q aa v B)))(aK:(aY,bR)∈zS.fs)(fj:aY∉(["_node2info","_ready_nodes","_npassedout","_nfinished"]:I af))
  (T:∀{e},bF c.B.h₀ e->e.get? bR=D kR)(mC:kR.data=.func afv)(xH:mO c.B c.Z c.w c.n (.ref bR) (.bN aT Q aa v B) [] (.ref bC) λbE r=>bE=.bN aT Q (D O) v B/\r=Cy ak)(fy:(bZ.endLine==ck.line)=Y)
  (cC:jf[q]?=D (("CycleError":af),.globalImplicit))(cF:OwnCls "CycleError" bC jr jt c.mg c.B.h₀)(ko:ExcBaseFacts afs jt aft jr)(bf:ah[j]?=D cX)(c9:j<k)(xE:y[j]?=D (.t (.bool ay)))(xM:i≠j)
  (zR:gY (.Call (.Attribute (.Name bI Di) aY bZ) [] [] ck) aa Ie.line c.V=pure ay)(Ii:gY (.Constant (.bool Y) u Dj) (D (.Name cX Ih)) gU.line c.V=pure ay):
  ES c ah k y (.Try [.Expr (.Call (.Attribute (.Name bI Di) aY bZ) [] [] ck) Ie] [.ExceptHandler (D (.Name "CycleError" afr)) aa [.Assign [.Name cX Ih] (.Constant (.bool Y) u Dj) gU] afq] [] [] afu)
   ((y.set i (.obj (.bN aT Q (D O) v B))).set j (.t (.bool ak.isSome))) .next:=by
 constructor;intro bh Ic bl afz Rm gc gi bx;refine cps λ_ u=>?_;obtain⟨w,ao,bz,l⟩:=gi;refine gv (CG a_ l g ic) λaC nF pQ=>?_;obtain⟨s,rfl,xD⟩:=pQ;apply u;have A:=j7 g;have aH:=l.fp i A;refine SY (gN (tT (B3 a_ z g w l aC xD aK fj C (az C) fy (Am ⟨⟨T l.base,mC⟩,i8 (xH c.A c.ρ Ic (.ref s.self) [] _ bl (bz i) [c.V.locals] G (l.E4 h A) c.R l.ready nF (l.uu A) .nil λa p zT bE r afA P bQ H aE Ib E bW L b_ n cu=>(bT P λgV cB=>?_))⟩)) (by unfold interactive;exact w.kind.symm▸C) zR));subst gV;have au:=Hr Ib (.head _) l.ns;cases r with
 |some t=>
  refine ai cu λafD jq afp=>?_;subst jq;cases ak<;>first|(cases cB;done)|skip
  refine rW (rW (bx a p .next bQ H ?_ dj));have x:(y.set i (.obj (.bN s.self Q (D O) v B))).set j (.t (.bool (aa:bg (I (I J))).isSome))=y.set i (.obj (.bN s.self Q (D O) v B)):=pI (ae (lN xM) xE);exact x.symm▸⟨w,ao,_,l.xj g (λb d F m o T=>aE b d F (λq=>m (cO.mp q)) o T) au E H bW L aC ⟨.ref s.self,C,b_⟩ λb f=>⟨(n b f).1.imp id l.free,(n b f).2⟩⟩
 |none=>
  refine KP cu λx kS kT lJ lK mz cM cU pP=>?_;subst lJ;cases ak<;>first|(cases cB;done)|skip
  refine cps λ_ u=>?_;obtain⟨S,afx,afC,rL,ahv,afn,afo,rM⟩:=Qk mz;refine ai h.fr λrN xB xC=>u ?_;have X:∀{b},(kT.get? b).isSome=Y->b≠x/\b≠S:=λf=>⟨λq=>cY (aA mJ lK) (q▸f),λq=>cY (aA mJ rL) (q▸f)⟩;have dG:∀{b o},bl.heap.get? b=D o->b≠x/\b≠S:=λT=>X (cM _ (cV T));have fZ:∀aM∈c.V.locals::G,∃o,a.heap.get? aM=D o/\∀xF,o.data≠.fields xF:=λaM fB=>(cD.mp fB).elim (λq=>q.symm▸jl au λo dN dN T xJ dN=>⟨o,T,λ_ q=>nomatch ae xJ.symm q⟩) λe=>h.dat _ _ E aM e;have xK:Heap.FlyingW (rest a.heap (x::S::c.V.locals::G)) (c.V::rN) x (.ref bC) kS a.heap:=
   ⟨u3 _,tP _ (.head _),Fa (λdU aF=>tP _ (fF _ (fF _ aF))) fZ
    λxN aP=>(cD.mp aP).elim (λq=>q.symm▸⟨h.kd,_,.head _,h.own⟩) λaP=>match xC xN aP with|⟨k,dU,aF,aK⟩=>⟨k,dU,fF _ aF,aK⟩,
    rM _ (tP _ (d9 1 C))⟩
  have cJ:∀{b o},b≠x/\b≠S->b≠c.V.locals->b∉G->a.heap.get? b=D o->(rest a.heap (x::S::c.V.locals::G)).get? b=D o:=λd F m T=>n8 T λe=>(cD.mp e).elim d.1 λe=>(cD.mp e).elim d.2 λe=>(cD.mp e).elim F m;have er:∀{e},(rest a.heap (x::S::c.V.locals::G)).StaysIn e->bF c.B.h₀ e:=λk b o q=>by
   have f:=l.f_ b o q;have ew:=eZ l.nL.1 f;exact k b o (cJ (dG (l.base b o q)) ew (λq=>l.jb f (h.tab b q)) (aE b (λr=>aV (aH b r).1 f) (l.jb f) (λr=>ew (cO.mp r)) o (l.base b o q)))
  refine wpAny_looks_onW xB h.own xK λafy zU eB=>wpAny_landsW zU λzV aN ee=>ai aN.there λRn Dk xG=>?_;have eN:=er aN.1;refine wpAny_handleBy_cons (codeAny_handlers_test (nZ (s:={a with heap:=zV}) c.G w eN (z.kn q cC nofun) cF.bound (z.kg q cC) (abp cF ko eN Dk xG (codeAny_handlers_suite (lands_againW aN λR eM eR=>?_))))) nofun;have aj:∀{b o},b≠x/\b≠S->b≠c.V.locals->b∉G->a.heap.get? b=D o->R.get? b=D o:=λd F m T=>eM.1 _ _ (cJ d F m T);have Ij:aW c.B c.ρ bh p c.V ah k (y.set i (.obj (.bN s.self Q (D O) v B))) ao (bU bz i zT) R:=
   l.xj g (λb d F m o T=>aj (dG T) m (λq=>F (h.tab b q)) (aE b d F (λq=>m (cO.mp q)) o T)) (((eB.trans ee).trans eR).ns au)
    (h.sl p a.heap R E λP e6 o T=>(afN (P∈G)).elim (λq=>.inr ⟨q,ai (h.dat _ _ E P q) λafw Il Im=>((eB.trans ee).trans eR) P o T (bj (ae Il.symm T)▸Im)⟩) λq=>.inl (aj (X (cM P (c.B.live l.inv P e6))) (l.tab P e6).2.2.1 q T)) H (λb o T=>aj (X (cV (pP b o T))) ((L b o T).elim (λq=>eZ l.nL.2 q) λq=>q.elim (λq r=>cY (aA mJ (r▸q)) (Cj l.ns)) λq=>(aH b q).2.2.1) (λt=>(L b o T).elim (λq=>aV (l.tab b (h.tab b t)).2.1 q) λq=>q.elim (λq=>cY (aA mJ q) (c.B.live l.inv b (h.tab b t))) λq=>(l.tab b (h.tab b t)).2.2.2.2 i A q) (bW b o T)) L aC
    ⟨.ref s.self,C,c.B.frame b_ (er eM.1) λb f o T=>aj (X (cU b f)) ((λ_ r q=>r.elim (λr=>(aH _ r).2.2.1 q) λr=>cY (aA mJ (q▸r)) (Cj l.ns)) (cU b f) (n b f).1) (λt=>(n b f).1.elim (λq=>(l.tab b (h.tab b t)).2.2.2.2 i A q) λq=>cY (aA mJ q) (c.B.live l.inv b (h.tab b t))) T⟩ λb f=>⟨(n b f).1.imp id l.free,(n b f).2⟩
  refine gN (K4 bf c9 (z.loc bf c9) (yz (τ:=.bool Y) C) Ii bh p {a with heap:=R} _ _ gc ⟨w,ao,_,Ij⟩ λIo Ik afB Iq Ip Ir Ig=>?_);cases Ig.nx;exact rW (bx Io Ik .next ((bQ.trans ⟨R,_,C⟩).trans Iq) (H.trans Ip) Ir dj)
end
section
variable{α:Type}{g:α->I α}{F:α->Prop}{x y t:α}{n:J}
def Gk(g:α->I α)(n:J):α->α->Prop:=n.rec (λx y=>x=y) λ_ H x y=>∃E,H x E/\y∈g E
theorem Fl:Gk g (n+1) x y<->∃E,Gk g n x E/\y∈g E:=ID
theorem Xu:Gk g 1 x y<->y∈g x:=⟨λh=>ai h λE e m=>e▸m,λh=>⟨x,C,h⟩⟩
theorem Xv(h:Gk g (n+1) x y):∃E,E∈g x/\Gk g n E y:=by
 induction n generalizing y with
 |zero=>exact⟨y,Xu.mp h,C⟩
 |succ n e=>exact ai (Fl.mp h) λE w m=>ai (e w) λv d t=>(aR (v) (d) (⟨E,t,m⟩))
def Ay(g:α->I α)(F:α->Prop):Prop:=∀x,F x->∀y∈g x,F y
def D0(g:α->I α)(F:α->Prop):Prop:=∀x,F x->∀n,¬Gk g (n+1) x x
theorem ada(h:Ay g F)(j:F x)(w:Gk g n x y):F y:=by
 induction n generalizing y with
 |zero=>exact w▸j
 |succ n e=>exact ai (Fl.mp w) λE w m=>h E (e w) y m
theorem TB(d:Ay g F)(p:D0 g F)(l:¬F t)(B:∀y∈g t,F y):Ay g (λx=>F x\/x=t)/\D0 g (λx=>F x\/x=t):=by
 refine⟨λx j y L=>j.elim (λq=>.inl (d x q y L)) λq=>.inl (B y (q▸L)),λx j n w=>j.elim (λq=>p x q n w) λq=>?_⟩;subst q;exact ai (Xv w) λE e h=>l (ada d (B E e) h)
end
section
variable{g:Gr}{t nd l x:I J}{p n:J}{r:Rs}{kv:Kv}{seen dX:I (I J)}{F:I J->Prop}
def Key(kv:Kv)(t:I J):Prop:=∃x∈kv,x.1=t
theorem F9:(jN kv t).isSome=Y<->Key kv t:=by
 delta jN
 rw [Option.isSome_map,af6];exact⟨λh=>ai h λx a b=>⟨x,a,dh b⟩,λh=>ai h λx a b=>(aR (x) (a) (cL b))⟩
theorem Y4(h:jN kv t=aa):¬Key kv t:=λk=>nomatch h▸F9.mpr k
theorem Y5:Key (oX kv l i) t<->Key kv t\/t=l:=by
 delta oX
 by_cases c:kv.any (λx=>aO (x.1=l))=Y
 .rw [aL c];refine⟨λh=>ai h λx j e=>ai (dZ.mp j) λH L q=>?_,λh=>h.elim (λh=>ai h λx j e=>⟨_,fM j,?_⟩) λq=>ai (mH.mp c) λx j e=>⟨_,fM j,?_⟩⟩
  .subst q
   by_cases d:H.1=l
   .rw [aL d]at e;exact .inl ⟨H,L,e⟩
   .rw [aJ d]at e;exact .inl ⟨H,L,e⟩
  .by_cases d:x.1=l
   .rw [aL d];exact e
   .rw [aJ d];exact e
  .rw [aL (dh e),q];exact dh e
 .rw [aJ c];refine⟨λh=>ai h λx j e=>(fE.mp j).elim (λm=>.inl ⟨x,m,e⟩) λm=>.inr (ae e.symm (aA Prod.fst (cO.mp m))),λh=>h.elim (λh=>ai h λx j e=>⟨x,gj _ j,e⟩) λq=>(aR ((l,i)) (i6 _ (.head _)) (q.symm))⟩
theorem F8:Key (lW kv l) t<->Key kv t/\t≠l:=
 ⟨λh=>ai h λx j e=>⟨⟨x,(f9.mp j).1,e⟩,λq=>dh (f9.mp j).2 (ae e q)⟩,λh=>ai h.1 λx j e=>⟨x,f9.mpr ⟨j,cL λq=>h.2 (ae e.symm q)⟩,e⟩⟩
theorem ZF:U (lW kv l)<=U kv:=kq _ _
def Fn(seen:I (I J))(r:Rs)(x:I J):Prop:=x∈seen/\x∉r.map (·.1)
def Ch(g:Gr)(F:I J->Prop)(l:I J)(r:Rs):Prop:=r.rec (λ_=>True) (λa r n l=>(∃q,a.2=q+1/\(g a.1)[q]?=D l/\∀i,i<q->∀H,(g a.1)[i]?=D H->F H)/\n a.1) l
theorem UE:Ch g F l ((t,p)::r)<->(∃q,p=q+1/\(g t)[q]?=D l/\∀i,i<q->∀H,(g t)[i]?=D H->F H)/\Ch g F t r:=ID
theorem Ch.mono(h:∀x,F x->k x):∀{r:Rs}{l:I J},Ch g F l r->Ch g k l r
 |[],_,_=>dj
 |a::r,l,c=>⟨dF c.1 λq a b d=>⟨q,a,b,λi A H e=>h H (d i A H e)⟩,Ch.mono h c.2⟩
theorem Kg:∀{r:Rs}{l:I J},Ch g F l r->t∈r.map (·.1)->∃k,Gk g (k+1) t l
 |[],_,_,h=>bA (h) dQ
 |a::r,l,c,m=>dF c.1 λq H b d=>(cD.mp m).elim (λe=>⟨0,a.1,e,cN b⟩) λm=>bH (Kg c.2 m) λk w=>⟨k+1,a.1,w,cN b⟩
def Top(g:Gr)(F:I J->Prop):Rs->Prop
 |[]=>True
 |(t,p)::r=>(∀i,i<p->∀H,(g t)[i]?=D H->F H)/\Ch g F t r
structure Sk(g:Gr)(seen:I (I J))(r:Rs)(kv:Kv):Prop where
 nd:(r.map (·.1)).Nodup
 sn:∀t∈r.map (·.1),t∈seen
 ky:∀t,Key kv t<->t∈r.map (·.1)
 cl:Ay g (Fn seen r)
 nr:D0 g (Fn seen r)
 lr:r.length<=seen.length
 lk:kv.length<=seen.length
theorem Qg(c:Ch g F l r)(h:F l):Top g F r:=match r with
 |[]=>dj
 |(t,p)::r=>⟨dF c.1 λq a b d=>λi A H e=>(Sf (rR (Nat.lt_of_lt_of_eq A a))).elim (λk=>d i k H e) λk=>by subst k;rw [b]at e;exact bj e▸h,c.2⟩
noncomputable def rem(g:Gr)(r:Rs):J:=(r.map λa=>(g a.1).length-a.2).sum
theorem CB:rem g ((t,p)::r)=U (g t)-p+rem g r:=IZ
theorem OS:∀(r:Rs)(kv:Kv),Sk g seen r kv->Top g (Fn seen r) r->(∃k,l_ g r kv=D (aa,[],k)/\Sk g seen [] k)\/∃l s k,l_ g r kv=D (D l,s,k)/\Sk g seen s k/\Ch g (Fn seen s) l s/\rem g s<rem g r/\(∀x∈s.map (·.1),x∈r.map (·.1))/\∃t∈r.map (·.1),l∈g t:=λr=>r.rec
 (λkv S T=>.inl ⟨_,C,S⟩)
 (λ(t,p)r o kv S T=>by
  have nd:t∉r.map _/\(r.map _).Nodup:=gM.mp S.nd;cases e:(g t)[p]? with
  |some l=>
   refine .inr ⟨l,(t,p+1)::r,kv,?_,⟨S.nd,S.sn,S.ky,S.cl,S.nr,S.lr,S.lk⟩,UE.mpr ⟨(i12 (p) (C) (e) (T.1)),T.2⟩,?_,λx m=>m,t,.head _,cN e⟩
   .apply ae (Cv);rw [e]
   .rw [CB,CB];have:=(cG.mp e).1;exact d_ 0 (.a (.a (.v 2) (.v 3)) (.n 1)) (.a (.v 4) (.v 3)) (.a (.v 2) (.a (.v 0) (.n 1))) (.v 1) (.v 1) (.a (.v 4) (.v 0)) C [_,_,_,_,_] ((lz this)) m9
  |none=>
   have b:l_ g ((t,p)::r) kv=l_ g r (lW kv t):=by
    exact(Cv)▸(e)▸(aL (F9.mpr ((S.ky t).mpr (.head _))))
   have j:¬Fn seen ((t,p)::r) t:=λh=>h.2 (.head _);have i:=TB S.cl S.nr j (λH L=>bH (pS L) λn A=>T.1 n (eH (cG.mp A).1 (af9.mp e)) H A);have f:λx=>Fn seen ((t,p)::r) x\/x=t=Fn seen r:=funext λx=>propext ⟨λh=>h.elim (λh=>⟨h.1,λm=>h.2 (.tail _ m)⟩) λq=>q▸⟨S.sn t (.head _),nd.1⟩,λh=>(afN _).elim .inr λc=>.inl ⟨h.1,λm=>(cD.mp m).elim c h.2⟩⟩;rw [f]at i;have ST:Sk g seen r (lW kv t):=⟨nd.2,λx m=>S.sn x (.tail _ m),λx=>⟨λh=>(cD.mp ((S.ky x).mp (F8.mp h).1)).resolve_left (F8.mp h).2,λm=>F8.mpr ⟨(S.ky x).mpr (.tail _ m),λq=>nd.1 (q▸m)⟩⟩,i.1,i.2,agw S.lr,aD ZF S.lk⟩;rw [b]
   exact(o _ ST (Qg (T.2.mono λx h=>⟨h.1,λm=>h.2 (.tail _ m)⟩) ⟨S.sn t (.head _),nd.1⟩)).imp id λh=>EN h λl s k h=>uh h λa u c d y v=>⟨l,s,k,a,u,c,eH d (CB▸dK _ _),λx m=>.tail _ (y x m),ai v λt m h=>⟨t,.tail _ m,h⟩⟩)
noncomputable def jk(g:Gr)(dX seen:I (I J)):J:=(dX.map λx=>if x∈seen then 0 else 1+(g x).length).sum
theorem Vn(h:nd∉seen)(m:nd∈dX):jk g dX (seen++[nd])+(1+U (g nd))<=jk g dX seen:=by
 have t:∀x,(if x∈seen++[nd]then 0 else 1+U (g x))<=if x∈seen then 0 else 1+U (g x):=λx=>by
  by_cases c:x∈seen
  .rw [aL c,aL (gj _ c)];exact dm _
  .rw [aJ c];split<;>omega
 have L:∀dX:I (I J),jk g dX (seen++[nd])<=jk g dX seen:=λdX=>dX.rec (dm _) λx dX n=>iE (t x) n
 induction dX with
 |nil=>exact bA (m) dQ
 |cons x dX n=>
  show(if _ then _ else _)+jk g dX _+_<=(if _ then _ else _)+jk g dX _;rcases cD.mp m with q|m
  .subst q;rw [aJ h,aL (i6 _ (.head _))];have:=L dX;exact cS 0 (.a (.a (.n 0) (.v 0)) (.a (.n 1) (.v 2))) (.a (.a (.n 1) (.v 2)) (.v 1)) (.v 0) (.v 1) C [_,_,_] this
  .rw [vD];exact iE (t x) (n m)
theorem ZE{l:I R}:U (cut (D z) aa l)<=U l:=aD (R4 ..) (by rw [xU];exact DA _ _)
def AL(g:Gr)(dX seen:I (I J))(nd:I J):I (I J)⊕I (I J)×Kv->Prop
 |.inl c=>(∃x∈dX,∃k,Gk g (k+1) x x)/\c≠[]/\c.length<=801
 |.inr (s,kv)=>Sk g s [] kv/\(∀x∈seen,x∈s)/\nd∈s/\s.length+jk g dX s<=800
theorem AL.to(h:∀x∈seen,x∈e)(z:nd∈e):∀{o},AL g dX e l o->AL g dX seen nd o
 |.inl _,i=>i
 |.inr (_,_),i=>⟨i.1,λx m=>i.2.1 x (h x m),i.2.1 _ z,i.2.2.2⟩
theorem acz(E:∀x∈dX,∀R∈g x,R∈dX):∀(n:J)(nd:I J)(r:Rs)(kv:Kv)(seen:I _),Sk g seen r kv->Ch g (Fn seen r) nd r->nd∈dX->(∀t∈r.map (·.1),t∈dX)->jk g dX seen+rem g r<n->U seen+jk g dX seen<=800->
  ∃o,n_ g n nd r kv seen=D o/\AL g dX seen nd o:=λn=>n.rec
 (λ_ _ _ _ _ _ _ _ h=>nomatch h)
 (λn T nd r kv seen S u z s w B=>by
  have e:n_ g (n+1) nd r kv seen=_:=G6
  by_cases c:nd∈seen
  .rw [aL c]at e;cases P:jN kv nd with
   |some X=>
    refine⟨.inl (cut (D X) aa ((r.map _).reverse)++[nd]),by apply ae (e);rw [P],⟨nd,z,Kg u ((S.ky nd).mp (F9.mp (P▸C)))⟩,List.append_ne_nil_of_right_ne_nil _ nofun,?_⟩;rw [cA];have:=ZE (z:=X) (l:=(r.map (·.1)).reverse);simp only [List.length_reverse,dg]at this;exact jx (aD this (aD S.lr (aD (fO _ _) B)))
   |none=>
    rw [P]at e;rcases OS _ _ S (Qg u (⟨c,λm=>Y4 P ((S.ky nd).mpr m)⟩))with h|h
    .exact ai h λk a A=>⟨.inr (seen,k),by rw [e,a],A,λx h=>h,c,B⟩
    .exact EN h λl ak k h=>uh h λa A b d y v=>ai (T _ _ _ _ A b (ai v λt m i=>E t (s t m) l i) (λt m=>s t (y t m)) (by exact d_ 0 (.a (.a (.v 0) (.v 3)) (.n 1)) (.v 2) (.a (.a (.v 0) (.v 1)) (.n 1)) (.a (.v 2) (.n 1)) (.a (.v 3) (.n 1)) (.v 1) C [_,_,_,_] w h.2.2.2.1) B) λo h j=>⟨o,by apply ae (e);rw [a];exact h,j.to (λx m=>m) c⟩
  .have aj:nd∉r.map (·.1):=λm=>c (S.sn nd m);have L:=Vn (g:=g) c z;have H:U (seen++[nd])=U seen+1:=cA;have f:Fn (seen++[nd]) ((nd,0)::r)=Fn seen r:=funext λx=>propext ⟨λh=>⟨(fE.mp h.1).resolve_right λm=>h.2 (cO.mp m▸.head _),λm=>h.2 (.tail _ m)⟩,λh=>⟨gj _ h.1,λm=>(cD.mp m).elim (λq=>c ((show x=nd from q)▸h.1)) h.2⟩⟩;have ao:Sk g _ ((nd,0)::r) (oX kv nd (U r)):=⟨gM.mpr ⟨aj,S.nd⟩,λt m=>(cD.mp m).elim (λq=>q▸i6 _ (.head _)) λm=>gj _ (S.sn t m),λt=>Y5.trans ⟨λh=>h.elim (λh=>.tail _ ((S.ky t).mp h)) λq=>q▸.head _,λm=>(cD.mp m).elim .inr λm=>.inl ((S.ky t).mpr m)⟩,f▸S.cl,f▸S.nr,H▸jx S.lr,H▸aD (EM ..) (jx S.lk)⟩;have au:Top g (Fn _ _) ((nd,0)::r):=⟨λi h=>(nomatch h),f▸u⟩;have ah:U r<=800/\U kv<=800/\U seen<=800:=by
    have G:=aD (fO _ _) B;exact⟨aD S.lr G,aD S.lk G,G⟩
   rw [aJ c,aL ah]at e;have Q:U (seen++[nd])+jk g dX (seen++[nd])<=800:=by exact jS 0 (.a (.v 4) (.v 2)) (.n 800) (.a (.v 0) (.v 1)) (.n 800) (.a (.v 2) (.a (.n 1) (.v 3))) (.v 1) (.v 4) (.a (.v 0) (.n 1)) C [_,_,_,_,_] B L ((iX H))
   have O:∀x∈seen,x∈seen++[nd]:=λx m=>gj _ m;have F:nd∈seen++[nd]:=i6 _ (.head _);have p:=λt m=>(cD.mp m).elim (λq=>q▸z) (s t);rcases OS _ _ ao au with h|h
   .exact ai h λk a A=>⟨.inr (seen++[nd],k),by apply ae (e);rw [a],A,O,F,Q⟩
   .refine EN h λl ak k h=>uh h λa A b d y v=>ai (T _ _ _ _ A b (ai v λt m i=>E t (p t m) l i) (λt m=>p t (y t m)) ?_ Q) λo h j=>⟨o,by apply ae (e);rw [a];exact h,j.to O F⟩;simp only [CB]at d
    exact m8 0 (.a (.a (.v 3) (.v 5)) (.n 1)) (.v 2) (.a (.a (.v 0) (.v 1)) (.n 1)) (.a (.v 2) (.n 1)) (.a (.v 3) (.a (.n 1) (.v 4))) (.v 0) (.a (.v 5) (.n 1)) (.a (.v 6) (.v 1)) (.v 6) (.v 4) C [_,_,_,_,_,_,_] w L d Cd)
theorem Vp:jk g dX seen<=jk g dX []:=dX.rec (dm _) λx dX n=>iE (aD (by show(if _ then _ else _)<=_;split;exact gF _;exact dm _) (fq (aJ dQ).symm)) n
theorem Xc(u:∀x∈dX,∀H∈g x,H∈dX):∀(G:I _)(seen:I _)(kv:Kv),Sk g seen [] kv->(∀x∈G,x∈dX)->U seen+jk g dX seen<=800->
  ∃o,qV g (jk g dX []+1) G seen kv=D o/\(o=aa->∃s k,Sk g s [] k/\(∀x∈seen,x∈s)/\∀x∈G,x∈s)/\∀c,o=D c->(∃x∈dX,∃l,Gk g (l+1) x x)/\c≠[]/\U c<=801:=λG=>G.rec
 (λ_ _ S _ _=>(i12 (aa) (C) (λ_=>⟨_,_,S,λx m=>m,λx m=>(nomatch m)⟩) (λc e=>(nomatch e))))
 (λnd G n seen kv S z B=>by
  have e:qV g (jk g dX []+1) (nd::G) seen kv=_:=Lm;have X:=λx m=>z x (.tail _ m)
  by_cases c:nd∈seen
  .rw [aL c]at e;exact dF (n _ _ S X B) λo a b d=>⟨o,ae e a,λq=>e5 (b q) λs k A y v=>(gx (s) (k) (A) (y) (λx m=>(cD.mp m).elim (λq=>q▸y _ c) (v x))),d⟩
  .rw [aJ c]at e;refine ai (acz u (jk g dX []+1) _ _ _ _ S dj (z nd (.head _)) (λt m=>nomatch m) (Sg Vp) B) λo a i=>?_;rw [a]at e;cases o with
   |inl c=>exact(i12 (D c) (e) (λq=>(nomatch q)) (λd q=>bj q▸i))
   |inr p=>obtain⟨s,k⟩:=p;exact dF (n _ _ i.1 X i.2.2.2) λo a b d=>⟨o,ae e a,λq=>e5 (b q) λj h A y v=>⟨j,h,A,λx m=>y x (i.2.1 x m),λx m=>(cD.mp m).elim (λq=>q▸y _ i.2.2.1) (v x)⟩,d⟩)
theorem sk0:Sk g [] [] []:=⟨xX,λt m=>(nomatch m),λt=>⟨λh=>ai h λx m=>(bA (m) dQ),λm=>nomatch m⟩,λx h=>(nomatch h.1),λx h=>(nomatch h.1),dm _,dm _⟩
theorem WW(l:nU H=Y)(B:jk (dR H) (H.map (·.1)) []<=800):∃T o,l0 H T=D o/\ng o=Y/\(o=aa<->∀x∈H.map (·.1),∀k,¬Gk (dR H) (k+1) x x):=by
 have u:∀x∈H.map (·.1),∀h∈dR H x,h∈H.map (·.1):=λx m h L=>by
  delta dR at L
  cases g:H.find? _ with
  |none=>rw [g]at L;exact bA (L) dQ
  |some a=>
   rw [g]at L;have:=gK.mp (gK.mp l a (agf g)) h L;exact ai (mH.mp this) λb f i=>dh i▸fM f
 refine dF (Xc u _ _ _ sk0 (λx m=>m) ((jy _).symm▸B)) λo a b d=>⟨_,o,a,?_,?_⟩
 .cases o with
  |none=>rfl
  |some c=>exact gv (d c C) λ_ x h=>cQ.mpr ⟨by cases c with|nil=>exact bA C x|cons _ _=>rfl,cL (aD h (az C))⟩
 .refine⟨λq x m k w=>e5 (b q) λn s S y v=>S.nr x ⟨v x m,nofun⟩ k w,λe=>?_⟩;cases o with
  |none=>rfl
  |some c=>exact gv (d c C) λr _ _=>ai r λx m w=>bH w λk w=>bA w (e x m k)
end
section
variable{L:I AN}{l x p:I J}{d:aS}{u:AN->AN}
noncomputable def j4(L:I AN)(x:I J):bg AN:=L.find? λa=>aO (a.1=x)
noncomputable def upd(L:I AN)(l:I J)(u:AN->AN):I AN:=L.map λa=>if a.1=l then u a else a
theorem uU:ek L x=match j4 L x with|D a=>a.2.1|aa=>0:=C
theorem vd:dR L x=match j4 L x with|D a=>a.2.2|aa=>[]:=C
theorem Bu(h:∀a,(u a).1=a.1):j4 (upd L l u) x=if x=l then(j4 L x).map u else j4 L x:=by
 delta j4 upd
 apply ae (List.find?_map);have e:((λa:AN=>aO (a.1=x))∘λa=>if a.1=l then u a else a)=λa=>aO _:=funext λa=>by
  show aO ((if a.1=l then u a else a).1=x)=_
  by_cases c:a.1=l
  .rw [aL c,h]
  .rw [aJ c]
 rw [e];cases g:L.find? _ with
 |none=>simp
 |some a=>
  have:=dh (af7 g:)
  by_cases c:x=l
  .simp [c,this]
  .simp [c,this]
theorem BK(h:∀a,(u a).1=a.1):(upd L l u).map (·.1)=L.map (·.1):=by
 delta upd
 apply ae (dH);exact kr λa _=>by
  show(if a.1=l then u a else a).1=_
  by_cases c:a.1=l
  .rw [aL c,h]
  .exact aA _ (aJ c)
theorem Li(h:x∈L.map (·.1)):∃a,j4 L x=D a:=ai (dZ.mp h) λa u e=>gG.mp (af6.mpr ⟨a,u,cL e⟩)
theorem E6(h:x∉L.map (·.1)):j4 L x=aa:=Du.mpr λa u e=>h (dZ.mpr ⟨a,u,dh e⟩)
theorem yM:FP L x=Y<->x∈L.map (·.1):=⟨λh=>ai (mH.mp h) λa u e=>dZ.mpr ⟨a,u,dh e⟩,λh=>ai (dZ.mp h) λa u e=>mH.mpr ⟨a,u,cL e⟩⟩
theorem Lv(h:l∈L.map (·.1)):e_ L l=L:=aL (yM.mpr h)
theorem Lz(h:l∉L.map (·.1)):e_ L l=L++[(l,0,[])]:=aJ λe=>h (yM.mp e)
theorem Lg:j4 (e_ L l) x=if x=l/\x∉L.map (·.1)then D (l,0,[])else j4 L x:=by
 by_cases c:l∈L.map (·.1)
 .rw [Lv c,aJ λh=>h.2 (h.1▸c)]
 .rw [Lz c]
  delta j4
  refine ae (IP) ?_
  by_cases e:x=l
  .subst e;rw [aL ⟨C,c⟩,show List.find? (λa:AN=>aO (a.1=x)) L=aa from E6 c];simp
  .rw [aJ λh=>e h.1];have:[(l,(0:aS),([]:I (I J)))].find? (λa=>aO (a.1=x))=aa:=by simp [iF e]
   rw [this,agN]
theorem MD:(e_ L l).map (·.1)=if l∈L.map (·.1)then L.map (·.1)else L.map (·.1)++[l]:=by
 by_cases c:l∈L.map (·.1)
 .rw [Lv c,aL c]
 .rw [Lz c,aJ c,eW];rfl
theorem NB:ek (e_ L l) x=ek L x:=by
 apply ae (uU);rw [uU,Lg]
 by_cases c:x=l/\x∉L.map (·.1)
 .rw [aL c,E6 c.2]
 .rw [aJ c]
theorem P0:dR (e_ L l) x=dR L x:=by
 apply ae (vd);rw [vd,Lg]
 by_cases c:x=l/\x∉L.map (·.1)
 .rw [aL c,E6 c.2]
 .rw [aJ c]
theorem GK(h:∀a,(u a).1=a.1){φ:aS->aS}(i:∀a,(u a).2.1=φ a.2.1)(X:l∈L.map (·.1)):ek (upd L l u) x=if x=l then φ (ek L x)else ek L x:=by
 apply ae (uU);rw [uU,Bu h]
 by_cases c:x=l
 .rw [aL c,aL c];exact bH (Li (c▸X)) λa e=>e▸i a
 .rw [aJ c,aJ c]
theorem aaC(h:∀a,(u a).1=a.1)(i:∀a,(u a).2.1=a.2.1):ek (upd L l u) x=ek L x:=by
 apply ae (uU);rw [uU,Bu h]
 by_cases c:x=l
 .rw [aL c];cases j4 L x with
  |none=>rfl
  |some a=>exact i a
 .rw [aJ c]
theorem Hx(h:∀a,(u a).1=a.1)(i:∀a,(u a).2.2=a.2.2):dR (upd L l u) x=dR L x:=by
 apply ae (vd);rw [vd,Bu h]
 by_cases c:x=l
 .rw [aL c];cases j4 L x with
  |none=>rfl
  |some a=>exact i a
 .rw [aJ c]
theorem aaA(h:l∈L.map (·.1)):ek (lA L l d) x=ek L x+if x=l then d else 0:=
 ae (GK (u:=λa=>(a.1,a.2.1+d,a.2.2)) (φ:=(·+d)) (λ_=>C) (λ_=>C) h) (by by_cases c:x=l;rw [aL c,aL c];apply ae (aJ c);rw [aJ c,Int.add_zero])
theorem adw:dR (lA L l d) x=dR L x:=Hx (λ_=>C) λ_=>C
theorem aaB:ek (i5 L l p) x=ek L x:=aaC (λ_=>C) λ_=>C
theorem adx(h:l∈L.map (·.1)):dR (i5 L l p) x=dR L x++if x=l then [p]else []:=by
 apply ae (vd);rw [vd,show j4 (i5 L l p) x=if x=l then(j4 L x).map (λa=>(a.1,a.2.1,a.2.2++[p]))else j4 L x from Bu λ_=>C]
 by_cases c:x=l
 .rw [aL c,aL c];exact bH (Li (c▸h)) λa e=>e▸C
 .rw [aJ c,aJ c,ju]
theorem NC(h:l∈L.map (·.1)):ek (pC L l d) x=if x=l then d else ek L x:=GK (u:=λa=>(a.1,d,a.2.2)) (φ:=λ_=>d) (λ_=>C) (λ_=>C) h
theorem P1:dR (pC L l d) x=dR L x:=Hx (λ_=>C) λ_=>C
theorem GJ(h:l∈L.map (·.1)):ek (decA L l) x=if x=l then ek L x-1 else ek L x:=GK (u:=λa=>(a.1,a.2.1-1,a.2.2)) (φ:=(·-1)) (λ_=>C) (λ_=>C) h
theorem adv:dR (decA L l) x=dR L x:=Hx (λ_=>C) λ_=>C
theorem ME:(lA L l d).map (·.1)=L.map (·.1):=BK λ_=>C
theorem MF:(i5 L l p).map (·.1)=L.map (·.1):=BK λ_=>C
theorem BJ:(pC L l d).map (·.1)=L.map (·.1):=BK λ_=>C
theorem MC:(decA L l).map (·.1)=L.map (·.1):=BK λ_=>C
theorem B0:x∈(e_ L l).map (·.1)<->x∈L.map (·.1)\/x=l:=by
 rw [MD]
 by_cases c:l∈L.map (·.1)
 .rw [aL c];exact⟨.inl,λh=>h.elim id λe=>e▸c⟩
 .rw [aJ c,fE,cO]
theorem Nj(h:(L.map (·.1)).Nodup):((e_ L l).map (·.1)).Nodup:=by
 rw [MD]
 by_cases c:l∈L.map (·.1)
 .rw [aL c];exact h
 .rw [aJ c];exact gk.mpr ⟨h,gM.mpr ⟨nofun,.nil⟩,λa u b f e=>c (cO.mp f▸e▸u)⟩
theorem Lh(h:(L.map (·.1)).Nodup){a:AN}(u:a∈L):j4 L a.1=D a:=by
 induction L with
 |nil=>exact bA (u) dQ
 |cons b L n=>
  show List.find? _ _=_
  by_cases c:b.1=a.1
  .apply ae (IS (by exact cL c));rcases cD.mp u with q|q
   .exact q▸C
   .exact bA (fM (f:=Prod.fst) q) (c▸(gM.mp h).1)
  .apply ae (IQ (by exactλq=>c (dh q)));exact n (gM.mp h).2 ((cD.mp u).resolve_left λq=>c (q▸C))
theorem O1(h:(L.map (·.1)).Nodup):eA L=(L.map (·.1)).filter λx=>aO (ek L x=0):=by
 simp only [IM];refine aA _ (vA λa u=>?_);show _=aO (ek L a.1=0);rw [uU,Lh h u]
end
section
variable{L:I AN}{k x p:I J}{ps:I (I J)}
theorem aaz(Q:ps.Nodup):ek (jL L k ps) x=ek L x+if x=k then(U ps:aS)else 0:=by
 have h:∀(ps:I (I J))(L:I AN),ek (ps.foldl (λL p=>i5 (e_ L p) p k) L) x=ek L x:=λps=>ps.rec (λ_=>C) λp ps n L=>ae (n _) (ae aaB NB);show ek (ps.foldl _ _) x=_;rw [h,aaA (B0.mpr (.inr C)),NB]
theorem Y6:x∈(jL L k ps).map (·.1)<->x∈L.map (·.1)\/x=k\/x∈ps:=by
 have e:∀(ps:I (I J))(L:I AN),x∈(ps.foldl (λL p=>i5 (e_ L p) p k) L).map _<->x∈L.map _\/x∈ps:=λps=>ps.rec (λ_=>⟨.inl,λh=>h.elim id λh=>bA (h) dQ⟩) λp ps n L=>(n _).trans (by rw [MF,B0,cD,or_assoc]);apply(e ps _).trans;rw [ME,B0,or_assoc]
theorem aag(h:(L.map (·.1)).Nodup):((jL L k ps).map (·.1)).Nodup:=by
 have e:∀(ps:I _)(L:I AN),(L.map _).Nodup->((ps.foldl (λL p=>i5 (e_ L p) p k) L).map _).Nodup:=λps=>ps.rec (λ_ h=>h) λp ps n L h=>n _ (by rw [MF];exact Nj h);exact e ps _ (by rw [ME];exact Nj h)
theorem succ_add(Q:ps.Nodup):dR (jL L k ps) x=dR L x++if x∈ps then [k]else []:=by
 have e:∀(ps:I (I J))(L:I AN),ps.Nodup->dR (ps.foldl (λL p=>i5 (e_ L p) p k) L) x=dR L x++if x∈ps then [k]else []:=λps=>ps.rec (λL _=>by rw [aJ nofun,ju];rfl) λp ps n L Q=>by
  have Q:=gM.mp Q;apply ae (n _ Q.2);rw [adx (B0.mpr (.inr C)),P0,gX];apply aA _
  by_cases c:x=p
  .rw [aL c,aJ (c▸Q.1),aL (c▸.head _),ju]
  .rw [aJ c,R8]
   by_cases d:x∈ps
   .apply ae (aL d);rw [aL (.tail _ d)]
   .apply ae (aJ d);rw [aJ λh=>(cD.mp h).elim c d]
 apply ae (e ps _ Q);rw [adw,P0]
def gO(P:I (I J))(Q:I J->I (I J)):I AN:=P.foldl (λL k=>jL L k (Q k)) []
variable{P:I (I J)}{Q:I J->I (I J)}
theorem Ll(P:I _)(k:I J):gO (P++[k]) Q=jL (gO P Q) k (Q k):=List.foldl_append
theorem TL(f:∀k,(Q k).Nodup)(o:P.reverse.Nodup):ek (gO P Q) x=if x∈P then(U (Q x):aS)else 0:=by
 have L:∀i:I (I J),i.Nodup->ek (gO i.reverse Q) x=if x∈i then(U (Q x):aS)else 0:=λi=>i.rec (λ_=>C) λk i n h=>by
  have h:=gM.mp h;rw [IX,Ll,aaz (f k),n h.2]
  by_cases c:x=k
  .subst c;rw [aJ h.1,aL C,aL (.head _),Int.zero_add]
  .rw [aJ c,Int.add_zero]
   by_cases d:x∈i
   .apply ae (aL d);rw [aL (.tail _ d)]
   .apply ae (aJ d);rw [aJ λe=>(cD.mp e).elim c d]
 have:=L _ o;simp only [agl,List.mem_reverse]at this;exact this
theorem AW(f:∀k,(Q k).Nodup):dR (gO P Q) x=P.filter λk=>aO (x∈Q k):=by
 have L:∀i:I (I J),dR (gO i.reverse Q) x=i.reverse.filter λk=>aO (x∈Q k):=λi=>i.rec C λk i n=>by
  rw [IX,Ll,succ_add (f k),n,List.filter_append];apply aA _
  by_cases c:x∈Q k
  .rw [aL c];simp [c]
  .apply ae (aJ c);simp [c]
 have:=L P.reverse
 rwa [agl]at this
theorem v9:((gO P Q).map (·.1)).Nodup:=by
 have e:∀(P:I (I J))(L:I AN),(L.map _).Nodup->((P.foldl (λL k=>jL L k (Q k)) L).map _).Nodup:=λP=>P.rec (λ_ h=>h) λk P n L h=>n _ (aag h);exact e P [] .nil
theorem t8(R:∀k∈P,∀H∈Q k,H∈P):x∈(gO P Q).map (·.1)<->x∈P:=by
 have e:∀(i:I (I J))(L:I AN),x∈(i.foldl _ L).map _<->x∈L.map _\/x∈i\/∃k∈i,x∈Q k:=λi=>i.rec (λL=>⟨.inl,λh=>h.elim id λh=>h.elim (λh=>nomatch h) λh=>ai h λk m=>nomatch m⟩) λk i n L=>(n _).trans (by
  rw [Y6];constructor
  .rintro((h|h|h)|h|⟨t,m,h⟩)
   .exact .inl h
   .exact .inr (.inl (h▸.head _))
   .exact .inr (.inr ⟨k,.head _,h⟩)
   .exact .inr (.inl (.tail _ h))
   .exact .inr (.inr ⟨t,.tail _ m,h⟩)
  .rintro(h|h|⟨t,m,h⟩)
   .exact .inl (.inl h)
   .rcases cD.mp h with h|h
    .exact .inl (.inr (.inl h))
    .exact .inr (.inl h)
   .rcases cD.mp m with q|m
    .exact .inl (.inr (.inr (q▸h)))
    .exact .inr (.inr ⟨t,m,h⟩))
 refine(e P []).trans ⟨λh=>h.elim (λh=>nomatch h) λh=>h.elim id λh=>ai h λk m q=>R k m x q,λh=>.inr (.inl h)⟩
theorem JH(f:∀k,(Q k).Nodup)(R:∀k∈P,∀H∈Q k,H∈P):nU (gO P Q)=Y:=gK.mpr λa u=>gK.mpr λs B=>by
 refine yM.mpr ((t8 R).mpr ?_);have:dR (gO P Q) a.1=a.2.2:=by apply ae (vd);rw [Lh v9 u]
 rw [<-this,AW f]at B;exact(f9.mp B).1
end
noncomputable def S4(L:J->J):J:=L 0+(L 1+(L 2+L 3))
theorem m5{P:J->Prop}(h:t<4)(a:P 0)(b:P 1)(c:P 2)(d:P 3):P t:=by
 cases t with
 |zero=>exact a
 |succ t=>cases t with
  |zero=>exact b
  |succ t=>cases t with
   |zero=>exact c
   |succ t=>cases t with
    |zero=>exact d
    |succ t=>exact bA h (Sj (dK 4 t))
theorem Tr(h:∀t,t<4->L t<=f t):S4 L<=S4 f:=
 iE (h 0 (by decide)) (iE (h 1 (by decide)) (iE (h 2 (by decide)) (h 3 (by decide))))
theorem iT(h:∀t,t<4->f t=g t):S4 f=S4 g:=by
 unfold S4;simp only [h 0 (by decide),h 1 (by decide),h 2 (by decide),h 3 (by decide)]
theorem BQ(h:t<4):f t<=S4 f:=by
 exact m5 (P:=λt=>f t<=f 0+(f 1+(f 2+f 3))) h (by exact eF (.v 0) (.a (.v 0) (.a (.v 1) (.a (.v 2) (.v 3)))) C [_,_,_,_]) (by exact eF (.v 0) (.a (.v 1) (.a (.v 0) (.a (.v 2) (.v 3)))) C [_,_,_,_]) (by exact eF (.v 0) (.a (.v 1) (.a (.v 2) (.a (.v 0) (.v 3)))) C [_,_,_,_]) (by exact eF (.v 0) (.a (.v 1) (.a (.v 2) (.a (.v 3) (.v 0)))) C [_,_,_,_])
theorem v7:0<S4 L<->∃t,t<4/\0<L t:=by
 refine⟨λh=>?_,λh=>ai h λt O p=>eH p (BQ O)⟩;unfold S4 at h
 by_cases a:0<L 0
 .exact⟨0,by decide,a⟩
 by_cases b:0<L 1
 .exact⟨1,by decide,b⟩
 by_cases c:0<L 2
 .exact⟨2,by decide,c⟩
 exact⟨3,by decide,by exact m8 0 (.a (.n 0) (.n 1)) (.v 3) (.a (.n 0) (.n 1)) (.a (.v 0) (.a (.v 1) (.a (.v 2) (.v 3)))) (.v 0) (.n 0) (.v 1) (.n 0) (.v 2) (.n 0) C [_,_,_,_] h ((iP a)) ((iP b)) ((iP c))⟩
theorem Jt(h:∀t,t<4->f t<=g t){i:J}(A:i<4)(l:f i<g i):S4 f<S4 g:=by
 have n:=h 0 (by decide);have w:=h 1 (by decide);have v:=h 2 (by decide);have R:=h 3 (by decide)
 revert l
 exact m5 (P:=λi=>f i<g i->f 0+(f 1+(f 2+f 3))<g 0+(g 1+(g 2+g 3))) A (λl=>by exact m8 0 (.a (.a (.v 6) (.a (.v 0) (.a (.v 2) (.v 4)))) (.n 1)) (.a (.v 7) (.a (.v 1) (.a (.v 3) (.v 5)))) (.v 0) (.v 1) (.v 2) (.v 3) (.v 4) (.v 5) (.a (.v 6) (.n 1)) (.v 7) C [_,_,_,_,_,_,_,_] w v R l) (λl=>by exact m8 0 (.a (.a (.v 0) (.a (.v 6) (.a (.v 2) (.v 4)))) (.n 1)) (.a (.v 1) (.a (.v 7) (.a (.v 3) (.v 5)))) (.v 0) (.v 1) (.v 2) (.v 3) (.v 4) (.v 5) (.a (.v 6) (.n 1)) (.v 7) C [_,_,_,_,_,_,_,_] n v R l) (λl=>by exact m8 0 (.a (.a (.v 0) (.a (.v 2) (.a (.v 6) (.v 4)))) (.n 1)) (.a (.v 1) (.a (.v 3) (.a (.v 7) (.v 5)))) (.v 0) (.v 1) (.v 2) (.v 3) (.v 4) (.v 5) (.a (.v 6) (.n 1)) (.v 7) C [_,_,_,_,_,_,_,_] n w R l) (λl=>by exact m8 0 (.a (.a (.v 0) (.a (.v 2) (.a (.v 4) (.v 6)))) (.n 1)) (.a (.v 1) (.a (.v 3) (.a (.v 5) (.v 7)))) (.v 0) (.v 1) (.v 2) (.v 3) (.v 4) (.v 5) (.a (.v 6) (.n 1)) (.v 7) C [_,_,_,_,_,_,_,_] n w v l)
def Pw(L:J->J->J)(u:J):J->J->J:=u.rec (λi k=>if i=k then 1 else 0) λ_ P i k=>S4 λt=>P i t*L t k
def Wy(L:J->J->J)(u:J):J->J->Prop:=u.rec (λi k=>i=k) λ_ H i k=>∃t,t<4/\H i t/\0<L t k
section
variable{A:J->J->J}
theorem pF:∀(u i k:J),0<Pw A u i k<->Wy A u i k:=λu=>u.rec
 (λi k=>by
  show 0<(if i=k then 1 else 0)<->i=k
  by_cases h:i=k
  .rw [aL h];exact⟨λ_=>h,λ_=>Ae⟩
  .rw [aJ h];exact⟨λq=>bA q (i7 0),λq=>bA q h⟩)
 (λu n i k=>by
  show 0<S4 (λt=>Pw A u i t*A t k)<->∃t,t<4/\Wy A u i t/\0<A t k
  exact v7.trans ⟨λh=>ai h λt O p=>⟨t,O,(n i t).mp (agE p),agD p⟩,
   λh=>dF h λt O w p=>(aR (t) (O) (Nat.mul_pos ((n i t).mpr w) p))⟩)
theorem pM:Wy A (u+1) i k<->∃t,t<4/\Wy A u i t/\0<A t k:=ID
theorem oj(m u i k:J)(B:k<4):Wy A (u+m) i k<->∃t,Wy A u i t/\Wy A m t k:=by
 induction m generalizing k with
 |zero=>exact⟨λh=>⟨k,h,C⟩,λh=>ai h λt w e=>e▸w⟩
 |succ m n=>
  refine⟨λh=>?_,λh=>?_⟩
  .exact dF (show∃t,t<4/\Wy A (u+m) i t/\0<A t k from h) λt O w p=>ai ((n t O).mp w) λl z x=>⟨l,z,⟨t,O,x,p⟩⟩
  .exact ai h λl z w=>dF (pM.mp w) λt O x p=>((i12 (t) (O) ((n t O).mpr ⟨l,z,x⟩) (p)):∃t,t<4/\Wy A (u+m) i t/\0<A t k)
end
theorem AM(L f:J->J):S4 (λk=>L k+f k)=S4 L+S4 f:=(ae (Dx ..) (aA _ (ae (Dx ..) (aA _ (Dx ..))))).symm
theorem Ju(L:J->J->J):S4 (λk=>S4 λt=>L t k)=S4 λt=>S4 λk=>L t k:=ae (AM (L 0) _) (aA _ (ae (AM (L 1) _) (aA _ (AM (L 2) _))))
theorem yo{v:J->J}(B:k<4):S4 (λt=>if t=k then v t else 0)=v k:=m5 (P:=λk=>S4 (λt=>if t=k then v t else 0)=v k) B C (jy (v 1)) (ae (jy _) (jy (v 2))) (ae (jy _) (ae (jy _) (jy (v 3))))
theorem D5(a:J)(L:J->J):S4 (λt=>a*L t)=a*S4 L:=by
 delta S4;rw [Dz,Dz,Dz]
section
variable{A:J->J->J}{L:J->bw}{n i j:J}
def lam(A:J->J->J)(L:J->bw)(n i:J):J:=S4 λj=>if L j then Pw A n i j else 0
def kI(A:J->J->J)(L:J->bw)(j:J):J:=S4 λk=>if L k then A j k else 0
theorem MT:lam A L (n+1) i=S4 λj=>Pw A n i j*kI A L j:=by
 have e:lam A L (n+1) i=S4 λk=>S4 λj=>Pw A n i j*if L k then A j k else 0:=iT λk _=>by
  show(if L k=Y then S4 (λj=>Pw A n i j*A j k)else 0)=_
  by_cases h:L k=Y
  .apply ae (aL h);exact iT λj _=>by rw [aL h]
  .apply ae (aJ h);exact(iT (g:=λ_=>0) λj _=>by rw [aJ h,x_]).symm
 apply ae (e);rw [Ju];exact iT λj _=>D5 _ _
theorem MU(p:∀j,j<4->L j=Y->1<=kI A L j)(j:J)(O:j<4):(if L j=Y then Pw A n i j else 0)<=Pw A n i j*kI A L j:=by
 by_cases h:L j=Y
 .rw [aL h];exact agv _ (p j O h)
 .rw [aJ h];exact gF _
theorem Zk(p:∀j,j<4->L j=Y->1<=kI A L j):lam A L n i<=lam A L (n+1) i:=by
 simp only [MT];exact Tr (MU p)
theorem Zl(p:∀j,j<4->L j=Y->1<=kI A L j)(O:j<4)(v:L j=Y)(e:0<Pw A n i j)(h:2<=kI A L j):lam A L n i<lam A L (n+1) i:=by
 rw [MT];apply Jt (MU p) O;rw [aL v];exact eH ((Nat.lt_mul_iff_one_lt_right e).mpr (by decide:1<2)) (x8 _ h)
theorem MS(p:∀j,j<4->L j=Y->1<=kI A L j):∀d,lam A L n i<=lam A L (n+d) i:=λd=>d.rec (dm _) λd h=>aD h (Zk p)
theorem XI(p:∀j,j<4->L j=Y->1<=kI A L j)(O:j<4)(v:L j=Y)(h:2<=kI A L j)(z:4<=n)(R:n<16)(e:0<Pw A n i j):∃k,k<4/\Pw A 4 i k≠Pw A 16 i k:=by
 refine oF λq=>?_;have x:lam A L 4 i=lam A L 16 i:=iT λk B=>by
  rw [Rz.mp λr=>q (aR (k) (B) (r))]
 have a:=by
  have:=MS (n:=4) (i:=i) p (n-4)
  rwa [pU z]at this
 have b:=Zl p O v e h;have c:=by
  have:=MS (n:=n+1) (i:=i) p (16-(n+1))
  rwa [pU R]at this
 exact rh (m8 0 (.n 1) (.n 0) (.v 1) (.v 0) (.v 0) (.v 2) (.a (.v 2) (.n 1)) (.v 3) (.v 3) (.v 1) C [_,_,_,_] ((pB x)) a b c)
end
section
variable{A:J->J->J}{n i k:J}
structure nR(A:J->J->J)(n:J)(p:J->J):Prop where
 lt:∀m,m<=n->p m<4
 st:∀m,m<n->0<A (p m) (p (m+1))
theorem xo(x:i<4)(B:k<4)(h:Wy A n i k):∃p,p 0=i/\p n=k/\nR A n p:=by
 induction n generalizing k with
 |zero=>exact⟨λ_=>i,C,h,⟨λm _=>x,λm q=>bA q (Nat.not_lt_zero m)⟩⟩
 |succ n b=>
  refine dF (pM.mp h) λt O w q=>dF (b O w) λp T s P=>⟨λm=>if m<=n then p m else k,?_,?_,⟨λm R=>?_,λm R=>?_⟩⟩
  .exact ae (aL (gF n)) T
  .exact aJ (agC n)
  .by_cases c:m<=n
   .rw [aL c];exact P.lt m c
   .rw [aJ c];exact B
  .have a:=rR R;show 0<A _ _;rw [aL a]
   by_cases c:m+1<=n
   .rw [aL c];exact P.st m c
   .rw [aJ c];have e:=fS a (iP c);exact(e)▸(s)▸(q)
theorem nj(P:nR A n p):Wy A n (p 0) (p n):=by
 induction n with
 |zero=>exact(C)
 |succ n e=>exact pM.mpr ⟨p n,P.lt n (rS n),e ⟨λm h=>P.lt m (Ac h),λm h=>P.st m (jZ h)⟩,P.st n (fG n)⟩
theorem nR.pre(P:nR A n p){a:J}(h:a<=n):nR A a p:=⟨λm q=>P.lt m (aD q h),λm q=>P.st m (eH q h)⟩
theorem nR.nt(P:nR A n p){b:J}(h:b<=n):nR A (n-b) λm=>p (b+m):=
 ⟨λm q=>P.lt _ (aD (iO q b) (fq (pU h))),λm q=>P.st _ (eH (z_ q b) (fq (pU h)))⟩
theorem yY{R:Type} [BEq R] [LawfulBEq R]:∀(l P:I R),l.Nodup->(∀x∈l,x∈P)->U l<=U P:=λl=>l.rec
 (λ_ _ _=>gF _)
 (λx l n P Q h=>by
  have Q:=gM.mp Q;have j:=h x (.head _);have:=n _ Q.2 λH L=>(List.mem_erase_of_ne ((λq=>Q.1 (q▸L):H≠x))).mpr (h H (.tail _ L));simp only [List.length_erase_of_mem j]at this
  exact aD (jx this) (fq (tM (List.length_pos_of_mem j))))
theorem GY(Q:J->bw){p:J->J}(h:∀m,m<=(dz 4).countP Q->p m<4/\Q (p m)=Y):∃a b,a<b/\b<=(dz 4).countP Q/\p a=p b:=oF λc=>by
 have:=yY ((dz ((dz 4).countP Q+1)).map p) ((dz 4).filter Q) (List.pairwise_map.mpr (List.Pairwise.imp_of_mem (λu f l e=>c ⟨_,_,l,rR (fm.mp f),e⟩) List.pairwise_lt_range)) λx m=>ai (dZ.mp m) λk B e=>by
  have:=h k (rR (fm.mp B));exact e▸f9.mpr ⟨fm.mpr this.1,this.2⟩
 rw [dg,xW,<-List.countP_eq_length_filter]at this;exact i7 _ this
theorem Cu{p:J->J}(h:∀m,m<=4->p m<4):∃a b,a<b/\b<=4/\p a=p b:=GY (λ_=>Y) λm q=>⟨h m q,C⟩
theorem aey(h:i<4)(B:k<4)(e:Wy A n i k)(G:8<=n):∃m,4<=m/\m<n/\Wy A m i k:=by
 refine dF (xo h B e) λp T s P=>e5 (Cu λm q=>P.lt m (aD q (aD (by decide) G))) λa b o H x=>?_;have t:=aD H (aD (by decide) G);refine(i12 (a+(n-b)) (by exact jS 0 (.n 4) (.a (.v 2) (.v 3)) (.n 8) (.v 0) (.v 1) (.n 4) (.v 0) (.a (.v 3) (.v 1)) C [_,_,_,_] G H m9) (by exact d_ 0 (.a (.a (.v 0) (.v 3)) (.n 1)) (.v 2) (.a (.v 0) (.n 1)) (.v 1) (.a (.v 3) (.v 1)) (.v 2) C [_,_,_,_] o ((lz t))) ((oj _ _ _ _ B).mpr ⟨p a,?_,?_⟩))
 .exact T▸nj (P.pre (aD (e7 o) t))
 .have w:=nj (P.nt t);simp only [vE,pU t,s,<-x]at w;exact w
theorem L_(e:i<4)(B:k<4)(h:Wy A n i k)(g:4<=n):∃m,4<=m/\m<8/\Wy A m i k:=by
 induction n using Nat.strongRecOn with
 |ind n a=>
  by_cases c:n<8
  .exact⟨n,g,c,h⟩
  .exact dF (aey e B h (iP c)) λm x j w=>a m j w x
end
section
variable{al:I AN}{rl:I (I J)}{x p:I J}{P:I (I J)}{Q:I J->I (I J)}{aZ E:I J->bw}
theorem U':∀(n:I _)(al:I AN)(rl:I _),n.Nodup->(∀H∈n,H∈al.map (·.1))->
  (n.foldl qe (al,rl)).2=rl++n.filter (λH=>aO (ek al H=1))/\(n.foldl qe (al,rl)).1.map (·.1)=al.map (·.1)/\(∀x,dR (n.foldl qe (al,rl)).1 x=dR al x)/\∀x,ek (n.foldl qe (al,rl)).1 x=if x∈n then ek al x-1 else ek al x:=λn=>n.rec
 (λal rl _ _=>⟨(ju _).symm,C,λx=>C,λx=>C⟩)
 (λH n e al rl Q B=>by
  have Q:=gM.mp Q;have i:=B H (.head _);refine sH (e (decA al H) (if ek (decA al H) H=0 then rl++[H]else rl) Q.2 λE g=>(MC (L:=al) (l:=H)).symm▸B E (.tail _ g)) λs b c d=>⟨ae s ?_,ae b MC,λx=>ae (c x) adv,λx=>ae (d x) ?_⟩
  .rw [(vA λE g=>by rw [GJ i,aJ (show¬E=H fromλq=>Q.1 (q▸g))]),(ae (GJ i) (aL C))]
   by_cases q:ek al H=1
   .rw [aL (by rw [q];rfl),z4 (by exact cL q),gX];rfl
   .rw [aJ λa=>q (Int.sub_eq_zero.mp a),z0 (by exactλh=>q (dh h))]
  .rw [GJ i]
   by_cases q:x=H
   .subst q;apply ae (aJ Q.1);rw [aL C,aL (.head _)]
   .rw [aJ q]
    by_cases m:x∈n
    .apply ae (aL m);rw [aL (.tail _ m)]
    .apply ae (aJ m);rw [aJ λh=>(cD.mp h).elim q m])
noncomputable def sC(Q:I J->I (I J))(E:I J->bw)(x:I J):J:=(Q x).countP λH=>!E H
theorem U3:∀(l:I _),l.Nodup->E p=ay->l.countP (λH=>!E H)=l.countP (λH=>!(E H||aO (H=p)))+if p∈l then 1 else 0:=λl=>l.rec
 (λ_ _=>C)
 (λH l n Q t=>by
  have Q:=gM.mp Q;have n:=n Q.2 t;rw [Dt,Dt,n]
  by_cases c:H=p
  .subst c;simp only [aJ Q.1,aL gC,t];rfl
  .have:(p∈H::l)=(p∈l):=propext ⟨λh=>(cD.mp h).resolve_left (iF c),.tail _⟩
   simp only [this,ef c,Dm];exact fS (eF (.a (.a (.v 0) (.v 1)) (.v 2)) (.a (.a (.v 0) (.v 2)) (.v 1)) C [_,_,_]) (eF (.a (.a (.v 0) (.v 2)) (.v 1)) (.a (.a (.v 0) (.v 1)) (.v 2)) C [_,_,_]))
theorem Km:sC Q E x=0<->∀H∈Q x,E H=Y:=by
 delta sC
 rw [List.countP_eq_zero];exact⟨λh H m=>by have:=h H m;simpa using this,λh H m=>by rw [h H m];exact nofun⟩
structure Rd(P:I (I J))(Q:I J->I (I J))(aZ:I J->bw)(al:I AN)(rl:I (I J)):Prop where
 ks:∀x,x∈al.map (·.1)<->x∈P
 sc:∀x,dR al x=P.filter λk=>aO (x∈Q k)
 cl:∀x∈P,aZ x=Y->∀y∈Q x,aZ y=Y
 np:∀x∈P,ek al x=if aZ x then-2 else(sC Q aZ x:aS)
 nd:rl.Nodup
 rl:∀x,x∈rl<->x∈P/\aZ x=ay/\∀y∈Q x,aZ y=Y
structure Md(P:I (I J))(Q:I J->I (I J))(E:I J->bw)(ps:I (I J))(al:I AN)(rl:I (I J)):Prop where
 ks:∀x,x∈al.map (·.1)<->x∈P
 sc:∀x,dR al x=P.filter λk=>aO (x∈Q k)
 cl:∀x∈P,(E x=Y\/x∈ps)->∀y∈Q x,E y=Y/\y∉ps
 np:∀x∈P,ek al x=if E x then-2 else if x∈ps then-1 else(sC Q E x:aS)
 nd:rl.Nodup
 rl:∀x,x∈rl<->x∈P/\E x=ay/\x∉ps/\∀y∈Q x,E y=Y
 pe:∀p∈ps,E p=ay/\p∈P
 pn:ps.Nodup
theorem Z1(G:∀k,(Q k).Nodup)(z:P.Nodup)(T:Md P Q E (p::S) al rl):Md P Q (λH=>E H||aO (H=p)) S (qS (al,rl) p).1 (qS (al,rl) p).2:=by
 have u:=T.pe p (.head _);have d:=gM.mp T.pn;have r:(dR al p).Nodup:=by rw [T.sc];exact z.filter _
 have l:∀x,x∈dR al p<->x∈P/\p∈Q x:=λx=>by rw [T.sc,f9,rZ]
 have t:=U' _ (pC al p (-2)) rl r λH L=>by rw [BJ];exact(T.ks H).mpr ((l H).mp L).1
 have o:∀x,x∈P->p∈Q x->E x=ay/\x∉p::S:=λx s j=>⟨oB.mpr λh=>(T.cl x s (.inl h) p j).2 (.head _),λh=>(T.cl x s (.inr h) p j).2 (.head _)⟩;have y:∀x,sC Q E x=sC Q (λH=>E H||aO (H=p)) x+if p∈Q x then 1 else 0:=λx=>U3 _ (G x) u.1
 have X:∀x,ek _ x=if x=p then-2 else ek al x:=λx=>NC ((T.ks p).mpr u.2)
 have F:qS (al,rl) p=(dR al p).foldl qe (pC al p (-2),rl):=C;have i:∀x,x≠p->(E x||aO (x=p))=E x:=λx h=>by simp only [ef h,Dm]
 rw [F];refine sH t λa ah aj c=>⟨λx=>by rw [ah,BJ];exact T.ks x,λx=>ae (aj x) (ae P1 (T.sc x)),λx s h H L=>?_,λx s=>?_,?_,λx=>?_,λq j=>?_,d.2⟩
 .by_cases n:x=p
  .have:=T.cl x s (.inr (n▸.head _)) H L;exact⟨by rw [this.1];rfl,λm=>this.2 (.tail _ m)⟩
  .rw [i x n]at h;have:=T.cl x s (h.imp id (.tail _)) H L;exact⟨by rw [this.1];rfl,λm=>this.2 (.tail _ m)⟩
 .apply ae (c x);rw [X x]
  by_cases n:x=p
  .subst n;rw [aJ λh=>(o x s ((l x).mp h).2).2 (.head _),aL C,aL (by simp)]
  .rw [aJ n,i x n,(T.np x s)]
   by_cases m:x∈dR al p
   .have h:=o x s ((l x).mp m).2;have k:=y x;rw [aL ((l x).mp m).2]at k;have R:x∉S:=λq=>h.2 (fF _ q);apply ae (aL m);rw [h.1,aJ nofun,aJ h.2,aJ nofun,aJ R,k];exact afT (Int.ofNat _) 1
   .have k:=y x;rw [aJ λh=>m ((l x).mpr ⟨s,h⟩)]at k;apply ae (aJ m);rw [k];have:(x∈p::S)=(x∈S):=propext ⟨λh=>(cD.mp h).resolve_left n,.tail _⟩;simp only [this,vE]
 .rw [a];refine gk.mpr ⟨T.nd,r.filter _,λf A v O q=>?_⟩;subst q;have w:=((T.rl f).mp A).2.2.2 p ((l f).mp (f9.mp O).1).2;exact nomatch u.1.symm.trans w
 .rw [a,fE,f9,l,rZ,X,T.rl];have k:=y x;constructor
  .rintro(⟨w,e,R,g⟩|⟨⟨w,e⟩,R⟩)
   .exact⟨w,by rw [i x λq=>R (q▸.head _)];exact e,λm=>R (.tail _ m),λH m=>by rw [g H m];rfl⟩
   .have h:=o x w e;have b:x≠p:=λq=>h.2 (q▸.head _);rw [aJ b,T.np x w,h.1,aJ nofun,aJ h.2]at R;rw [aL e]at k;exact⟨w,by rw [i x b];exact h.1,λm=>h.2 (.tail _ m),Km.mp (by exact fS (d_ 0 (.v 1) (.n 0) (.a (.v 1) (.n 1)) (.v 0) (.v 0) (.n 1) C [_,_] ((pB k)) ((iX (Ds R)))) (eF (.n 0) (.v 0) C [_]))⟩
  .rintro⟨w,e,R,g⟩;have b:x≠p:=λq=>by simp only [cL q,Rw]at e;exact nomatch e
   rw [i x b]at e;have B:x∉p::S:=λm=>(cD.mp m).elim b R
   by_cases m:p∈Q x
   .refine .inr ⟨⟨w,m⟩,?_⟩;rw [aL m,Km.mpr g]at k;apply ae (aJ b);rw [T.np x w,e,aJ nofun,aJ B,k];rfl
   .exact .inl ⟨w,e,B,λH L=>by
     have:=g H L
     rwa [i H λq=>m (q▸L)]at this⟩
 .have:=T.pe q (.tail _ j);exact⟨by rw [i q λt=>d.1 (t▸j)];exact this.1,this.2⟩
theorem Md.len(o:P.Nodup)(T:Md P Q E S al rl):U rl<=U P:=yY _ _ T.nd λx m=>((T.rl x).mp m).1
theorem ZY(f:∀k,(Q k).Nodup)(o:P.Nodup)(h:U P<=400):∀(S:I _)(E:I J->bw)(al:I AN)(rl:I _),Md P Q E S al rl->sU (al,rl) S=Y/\Md P Q (λH=>E H||aO (H∈S)) [] (jB (al,rl) S).1 (jB (al,rl) S).2:=λS=>S.rec
 (λE al rl T=>⟨C,by
  have:(λH=>E H||aO (H∈([]:I (I J))))=E:=funext λH=>by rw [ef nofun,Dm]
  rw [this];exact T⟩)
 (λp S n E al rl T=>by
  have a:=n _ (qS (al,rl) p).1 (qS (al,rl) p).2 (Z1 f o T);have u:=T.pe p (.head _);refine⟨?_,?_⟩
  .show(_&&_&&_&&_&&_)=Y;have e:∀x∈P,al.any _=Y:=λx m=>yM.mpr ((T.ks x).mpr m)
   rw [e p u.2,cL (ae (T.np p u.2) (by rw [u.1,aJ nofun,aL (.head _)])),gK.mpr λx m=>e x (by
    have m:x∈dR al p:=m
    rw [T.sc]at m;exact(f9.mp m).1),cL (show U rl+U (dR al p)<=900 by
    exact aD (iE (aD (T.len o) h) (aD (by rw [T.sc];exact kq _ _) h)) (az C))]
   exact a.1
  .have:(λH=>E H||aO (H∈p::S))=λH=>E H||aO (H=p)||aO (H∈S):=funext λH=>by
    rw [Bool.or_assoc];apply aA _;rw [<-Bool.decide_or];exact decide_eq_decide.mpr cD
   rw [this]
   exact a.2)
theorem abn:∀(S:I _)(al:I AN),(∀H∈S,H∈al.map (·.1))->(iz al S).map (·.1)=al.map (·.1)/\(∀x,dR (iz al S) x=dR al x)/\∀x,ek (iz al S) x=if x∈S then-1 else ek al x:=λS=>S.rec
 (λal _=>⟨C,λx=>C,λx=>C⟩)
 (λp S n al h=>by
  refine gv (n (pC al p (-1)) λH L=>(BJ).symm▸h H (.tail _ L)) λa b c=>⟨ae a BJ,λx=>ae (b x) P1,λx=>ae (c x) ?_⟩;rw [NC (h p (.head _))]
  by_cases m:x∈S
  .apply ae (aL m);rw [aL (.tail _ m)]
  .apply ae (aJ m)
   by_cases q:x=p
   .apply ae (aL q);rw [aL (q▸.head _)]
   .apply ae (aJ q);rw [aJ λh=>(cD.mp h).elim q m])
theorem ab6(f:∀k,(Q k).Nodup)(o:P.Nodup)(h:U P<=400)(i:Rd P Q aZ al rl)(t:S.Perm rl):sU (iz al rl,[]) S=Y/\Rd P Q (λH=>aZ H||aO (H∈S)) (jB (iz al rl,[]) S).1 (jB (iz al rl,[]) S).2:=by
 have e:∀x,x∈S<->x∈rl:=λx=>t.mem_iff;have T:Md P Q aZ S (iz al rl) []:=by
  refine gv (abn rl al λH L=>(i.ks H).mpr ((i.rl H).mp L).1) λb l c=>⟨λx=>by exact(b)▸(i.ks x),λx=>ae (l x) (i.sc x),λx s a H L=>?_,λx s=>?_,.nil,λx=>⟨nofun,λh=>bA ((e x).mpr ((i.rl x).mpr ⟨h.1,h.2.1,h.2.2.2⟩)) h.2.2.1⟩,λq m=>?_,t.nodup_iff.mpr i.nd⟩
  .have n:=a.elim (λd=>i.cl x s d H L) λm=>((i.rl x).mp ((e x).mp m)).2.2 H L;exact⟨n,λm=>nomatch ae n.symm ((i.rl H).mp ((e H).mp m)).2.1⟩
  .apply ae (c x);rw [i.np x s]
   by_cases m:x∈rl
   .apply ae (aL m);rw [((i.rl x).mp m).2.1,aJ nofun,aL ((e x).mpr m)]
   .apply ae (aJ m);have:x∉S:=λh=>m ((e x).mp h);rw [aJ this]
  .have:=(i.rl q).mp ((e q).mp m);exact⟨this.2.1,this.1⟩
 exact bT (ZY f o h S aZ _ _ T) λA p=>⟨A,p.ks,p.sc,λx s d H L=>(p.cl x s (.inl d) H L).1,λx s=>(p.np x s),p.nd,λx=>(p.rl x).trans ⟨λh=>⟨h.1,h.2.1,h.2.2.2⟩,λh=>⟨h.1,h.2.1,nofun,h.2.2⟩⟩⟩
theorem Rd.congr(i:Rd P Q aZ al rl)(R:∀k∈P,∀H∈Q k,H∈P)(e:∀x∈P,aZ x=E x):Rd P Q E al rl:=by
 refine⟨i.ks,i.sc,λx s d H L=>(e H (R x s H L)).symm.trans (i.cl x s (ae (e x s) d) H L),λx s=>?_,i.nd,λx=>(i.rl x).trans ⟨λh=>⟨h.1,(e x h.1).symm.trans h.2.1,λH L=>(e H (R x h.1 H L)).symm.trans (h.2.2 H L)⟩,λh=>⟨h.1,ae (e x h.1) h.2.1,λH L=>ae (e H (R x h.1 H L)) (h.2.2 H L)⟩⟩⟩;apply ae (i.np x s);rw [e x s,show sC Q aZ x=sC Q E x from afZ λH L=>by rw [e H (R x s H L)]]
def Ct(al:I AN)(rl:I (I J))(l:I (I (I J))):bw:=rl.all (λp=>al.any λa=>aO (a.1=p))&&aO (rl.length<=50)&&aO (l.length<=50)&&sU (iz al rl,[]) (dM rl)
noncomputable def oh:J->I AN->I (I J)->I (I (I J))->bg (I (I (I J)))
 |0,_,_,_=>aa
 |u+1,al,rl,l=>if rl.isEmpty then D l else if Ct al rl l then oh u (jB (iz al rl,[]) (dM rl)).1 (jB (iz al rl,[]) (dM rl)).2 (l++[dM rl])else aa
theorem O7:oh (u+1) al rl l=if rl.isEmpty then D l else if Ct al rl l then oh u (jB (iz al rl,[]) (dM rl)).1 (jB (iz al rl,[]) (dM rl)).2 (l++[dM rl])else aa:=C
noncomputable def Dn(Q:I J->I (I J))(u:J):I J->bw:=u.rec (λ_=>ay) λ_ aZ x=>(Q x).all aZ
theorem sE:Dn Q (u+1) x=Y<->∀H∈Q x,Dn Q u H=Y:=gK
theorem KL:∀(u:J)(x:I J),Dn Q u x=Y->Dn Q (u+1) x=Y:=λu=>u.rec (λx h=>nomatch h) λu n x h=>sE.mpr λH L=>n H (sE.mp h H L)
def lay(P:I (I J))(Q:I J->I (I J))(u:J):I (I J):=P.filter λx=>Dn Q (u+1) x&&!Dn Q u x
theorem yU:x∈lay P Q u<->x∈P/\Dn Q (u+1) x=Y/\Dn Q u x=ay:=by delta lay;rw [f9,oz,tH]
theorem aah{R:Type} [BEq R] [LawfulBEq R]{l H:I R}(h:l.Nodup)(O:H.Nodup)(e:∀x,x∈l<->x∈H):l.Perm H:=(List.perm_ext_iff_of_nodup h O).mpr e
theorem ac0(h:l.Perm H):dM l=dM H:=PI ((zF l).trans h) (PJ l)
theorem Rd.lay(o:P.Nodup)(i:Rd P Q (Dn Q u) al rl):rl.Perm (lay P Q u):=aah i.nd (o.filter _) λx=>(i.rl x).trans ((and_congr_right λ_=>and_comm.trans (and_congr_left λ_=>sE.symm)).trans yU.symm)
noncomputable def lq(P:I (I J))(Q:I J->I (I J)):J->J->I (I (I J))
 |0,_=>[]
 |k+1,u=>if(lay P Q u).isEmpty then lq P Q k (u+1)else dM (lay P Q u)::lq P Q k (u+1)
theorem Gm:lq P Q (k+1) u=if(lay P Q u).isEmpty then lq P Q k (u+1)else dM (lay P Q u)::lq P Q k (u+1):=C
theorem Zz(R:∀k∈P,∀H∈Q k,H∈P)(h:lay P Q u=[]):lay P Q (u+1)=[]:=RT.mpr λx m=>by
 have m:=yU.mp m;have e:=λH L d=>oF λc=>by
  have:H∈lay P Q u:=yU.mpr ⟨L,d,oB.mpr c⟩;rw [h]at this;exact nomatch this
 exact nomatch m.2.2.symm.trans (sE.mpr λH L=>e H (R x m.1 H L) (sE.mp m.2.1 H L))
theorem ZA(R:∀k∈P,∀H∈Q k,H∈P):∀(k u:J),lay P Q u=[]->lq P Q k u=[]:=λk=>k.rec (λ_ _=>C) λk n u h=>by
 exact(Gm)▸(h)▸(n _ (Zz R h))
theorem acs(f:∀k,(Q k).Nodup)(o:P.Nodup)(R:∀k∈P,∀H∈Q k,H∈P)(a:U P<=50):∀(k n:J)(al:I AN)(rl:I _)(l:I _),Rd P Q (Dn Q n) al rl->lay P Q (n+k)=[]->U l+k<=50->oh (k+1) al rl l=D (l++lq P Q k n):=λk=>k.rec
 (λn al rl l i h _=>by
  have p:=i.lay o;simp only [show lay P Q n=[]from h]at p;rw [p.eq_nil]
  exact aA _ (ju _).symm)
 (λk j n al rl l i h B=>by
  have p:=i.lay o;apply ae (O7)
  by_cases c:rl=[]
  .subst c;simp only [ZA R _ _ p.nil_eq.symm,ju];rfl
  .have S:(dM rl).Perm rl:=zF rl;have r:=ab6 f o (aD a (az C)) i S;have A:Ct al rl l=Y:=by
    show((rl.all (FP al))&&_&&_&&_)=Y;rw [r.1,gK.mpr λx m=>yM.mpr ((i.ks x).mpr ((i.rl x).mp m).1),cL (aD (yY _ _ i.nd λx m=>((i.rl x).mp m).1) a),cL (show U l<=50 by exact cS 0 (.v 0) (.n 50) (.a (.v 0) (.a (.v 1) (.n 1))) (.n 50) C [_,_] B)];rfl
   have b:=r.2.congr R (E:=Dn Q (n+1)) λx s=>by
    by_cases m:x∈rl
    .rw [cL (S.mem_iff.mpr m),Rw];exact(sE.mpr ((i.rl x).mp m).2.2).symm
    .rw [ef λq=>m (S.mem_iff.mp q),Dm]
     by_cases d:Dn Q n x=Y
     .apply ae (d);rw [KL n x d]
     .apply ae (oB.mpr d);exact(oB.mpr λq=>m ((i.rl x).mpr ⟨s,oB.mpr d,sE.mp q⟩)).symm
   apply ae (aJ (by rwa [z5]));rw [aL A,j (n+1) _ _ _ b (by rw [agH];exact h) (by rw [cA];show _+1+k<=50;exact cS 0 (.a (.a (.v 0) (.n 1)) (.v 1)) (.n 50) (.a (.v 0) (.a (.v 1) (.n 1))) (.n 50) C [_,_] B),Gm,aJ (by rw [z5];exactλe=>c (by rw [e]at p;exact p.eq_nil)),gX,ac0 p]
   rfl)
theorem rd0(f:∀k,(Q k).Nodup)(o:P.Nodup)(R:∀k∈P,∀H∈Q k,H∈P):Rd P Q (Dn Q 0) (gO P Q) (eA (gO P Q)):=by
 have j:∀x∈P,ek (gO P Q) x=(U (Q x)):=λx m=>ae (TL f (List.pairwise_reverse.mpr (o.imp iF))) (aL m);refine⟨λx=>t8 R,λx=>AW f,λx _ h=>(nomatch h),λx m=>ae (j x m) ?_,?_,λx=>?_⟩
 .exact aA _ (List.countP_eq_length.mpr λH _=>C).symm
 .rw [O1 v9];exact v9.filter _
 .rw [O1 v9,f9,t8 R,rZ];refine⟨λh=>⟨h.1,C,λH L=>?_⟩,λh=>⟨h.1,?_⟩⟩
  .rw [j x h.1]at h;rw [xT (Ds h.2)]at L;exact bA (L) dQ
  .apply ae (j x h.1);rw [RT.mpr λH L=>nomatch h.2.2 H L];rfl
end
inductive lR(B:bD Ob)(cl:Cl)(f:af)(j:J)(xs:I af):Prop
 |mk(a:J)(ob:bL)(fd:rY)(h1:(f,a)∈cl.fs)(h2:vO cl a)(h3:iG B a 19 j ob fd xs)
theorem lR.up(T:lR X O L t n)(B:bF X.h₀ f):lR (X.up f B) O L t n:=match T with|⟨a,u,S,w,v,R⟩=>⟨a,u,S,w,v,R.up B⟩
theorem lR.fr{X:bD Ob}(T:lR X O L t n):lR (X.fr A h) O L t n:=match T with|⟨a,u,S,w,v,R⟩=>⟨a,u,S,w,v,R.fr⟩
structure Sy(y:Ly Ob)(cl:Cl)(bq:aq)(bm:I aB)(Bx newId F0:String):Prop where
 d6:bK y.B y.Z y.w cl
 OC:OwnCls "CycleError" bq bm newId y.mg y.B.h₀
 FB:ExcBaseFacts Bx newId F0 bm
 mR:lR y.B cl "get_ready" 4 tu
 mI:lR y.B cl "is_active" 5 xr
 mD:lR y.B cl "done" 7 h9
 mP:lR y.B cl "prepare" 3 pO
 mF:lR y.B cl "_find_cycle" 8 fx
 nO:∃t,y.mg "_NODE_OUT"=D (.int (-1) t)
 nD:∃t,y.mg "_NODE_DONE"=D (.int (-2) t)
theorem Sy.up(S:Sy H O d i l k q)(B:bF H.B.h₀ f):Sy (H.up f B) O d i l k q:=⟨S.d6.up B,S.OC.keeps B,S.FB,S.mR.up B,S.mI.up B,S.mD.up B,S.mP.up B,S.mF.up B,S.nO,S.nD⟩
theorem Sy.fr(S:Sy H O d i l k q):Sy (H.fr A h) O d i l k q:=⟨S.d6.fr,S.OC,S.FB,S.mR.fr,S.mI.fr,S.mD.fr,S.mP.fr,S.mF.fr,S.nO,S.nD⟩
def Av(c:Cx Ob)(O:Cl)(L:af)(o:Ob)(p:I T)(n:Ob->T->Prop):Prop:=
 ∃a u S,(L,a)∈O.fs/\vO O a/\(∀{h},bF c.B.h₀ h->h.get? a=D u)/\u.data=.func S/\e8 c.B c.Z c.w c.n (.ref a) o p n
section
variable{c:Cx Ob}
theorem Sy.gr(S:Sy c.y O d b l k q)(z:1<=c.n)(w:U s<=900)(v:∀p∈s,∃a∈Q,a.1=p):Av c O "get_ready" (.bN sf Q (D s) po fi) [] λX r=>X=.bN sf (iz Q s) (D []) (po+U s) fi/\r=.tup (s.map .str):=by
 refine cps λx f=>?_;obtain⟨a,u,h,H,i,e⟩:=S.mR;obtain⟨m,R⟩:∃m,c.n=m+1:=⟨c.n-1,by exact fS (m9) ((lz z))⟩;apply f;exact bH S.nO λA g=>(FF (a) (u) (h) (H) (i) (e.d.ho) (e.d.hd) (R▸aef S.d6 e g w v))
theorem Sy.ia(S:Sy c.y O d b l k q)(z:1<=c.n)(w:s.length<=900):Av c O "is_active" (.bN sf al (D s) po fi) [] λX r=>X=.bN sf al (D s) po fi/\r=.bool (aO (fi<po)||!s.isEmpty):=by
 refine cps λx f=>?_;obtain⟨a,u,h,H,i,e⟩:=S.mI;obtain⟨m,R⟩:∃m,c.n=m+1:=⟨c.n-1,by exact fS (m9) ((lz z))⟩;apply f;exact⟨a,u,h,H,i,e.d.ho,e.d.hd,R▸aeg S.d6 e w⟩
theorem Sy.dn(h:Sy c.y O d j k n q)(z:1<=c.n)(S:I _)(w:U S<=900)(v:sU (Q,s) S=Y):Av c O "done" (.bN sf Q (D s) po fi) (S.map .str) λX r=>X=.bN sf (jB (Q,s) S).1 (D (jB (Q,s) S).2) po (fi+U S)/\r=.none:=by
 refine cps λl b=>?_;obtain⟨a,u,i,H,x,e⟩:=h.mD;obtain⟨m,R⟩:∃m,c.n=m+1:=⟨c.n-1,by exact fS (m9) ((lz z))⟩;apply b;exact bH h.nO λA g=>bH h.nD λP f=>⟨a,u,i,H,x,e.d.ho,e.d.hd,R▸aea h.d6 e g f S w v⟩
theorem Sy.pr(S:Sy c.y O d H B ni q)(z:2<=c.n)(w:nU Q=Y)(v:l0 Q fuel=D o)(i:ng o=Y)(g:U Q<=800):
  ∃a u x,(("prepare":af),a)∈O.fs/\(∀{h},bF c.B.h₀ h->h.get? a=D u)/\u.data=.func x/\mO c.B c.Z c.w c.n (.ref a) (.bN sf Q aa 0 0) [] (.ref d) λX r=>X=.bN sf Q (D (eA Q)) 0 0/\r=Cy o:=by
 refine cps λl f=>?_;obtain⟨j,t,p,b,L,e⟩:=S.mP;obtain⟨k,y,E,s,A,n⟩:=S.mF;obtain⟨m,R⟩:∃m,c.n=m+2:=⟨c.n-2,by exact fS (m9) ((lz z))⟩;apply f;exact⟨j,t,p,b,e.d.ho,e.d.hd,R▸aek S.d6 e n s S.OC S.FB w fuel v i g⟩
end
noncomputable def B6:I (af×fc):=[("sorter",.local),("ring",.local),("groups",.local),("CycleError",.globalImplicit),("sorted",.globalImplicit)]
noncomputable def qD:I af:=["sorter","ring","groups"]
noncomputable abbrev gL(l:I (I (I J))):I T:=l.map λr=>.list (r.map .str)
abbrev CD:bg cz:=fV 2 (dD (bB 26))
section
variable{c:Cx Ob}{al:I AN}{rl:I (I J)}{rs:I (I (I J))}{po:aS}{rg:AV Ob}
theorem Pr(l:I _):U (dM l)=U l:=(zF l).length_eq
theorem O5(S:Sy c.y O d i l k q)(F:Fm c.V qD 3 B6)(z:1<=c.n)(X:U rl<=900):EC c qD 3 [.obj (.bN E al (D rl) po po),rg,.own (gL rs)] (lE CD) [.obj (.bN E al (D rl) po po),rg,.own (gL rs)] (!rl.isEmpty):=by
 refine wj (S.ia (sf:=E) (al:=al) (po:=po) (fi:=po) z X) λa u h w v R g H=>?_;have e:(aO (po<po)||!rl.isEmpty)=!rl.isEmpty:=by rw [ef (IF po),Rv]
 rw [e]at H;exact lG (Rg S.d6 F 0 C C w (by decide) R g H C) C λ_=>C
theorem ace(S:Sy c.y O d x l k q)(F:Fm c.V qD 3 B6)(z:1<=c.n)(X:U rl<=50)(s:U rs<=50)(B:∀p∈rl,∃a∈al,a.1=p)(P:sU (iz al rl,[]) (dM rl)=Y):
  EX c qD 3 [.obj (.bN E al (D rl) po po),rg,.own (gL rs)] (lD CD) [.obj (.bN E (jB (iz al rl,[]) (dM rl)).1 (D (jB (iz al rl,[]) (dM rl)).2) (po+U rl) (po+U rl)),rg,.own (gL (rs++[dM rl]))] .next:=by
 have L:=Pr rl;refine wj (S.gr (sf:=E) (po:=po) (fi:=po) z (aD X (az C)) B) λa o f w v R g H=>wj (S.dn (sf:=E) (po:=po+U rl) (fi:=po) z (dM rl) (L▸aD X (az C)) P) λb j t h i y n u=>?_;rw [show gL (rs++[dM rl])=gL rs++[.list ((dM rl).map .str)]from eW];have e:(po+U (dM rl))=po+U rl:=by rw [L]
 simp only [e]at u;exact zx (vm F 2 C C (afc F 4 C (Rg S.d6 F 0 C C w (by decide) R g H C) (kW X (az C)) C) C C C (eU (by rw [dg];exact aD s (az C))))
  (fb (H_ S.d6 F 0 C C h i (by decide) C y n (T3 (zP F 2 C C (Df (vq 1)) (G9 (by rw [cA];exact af8)) C) (by simp only [dg,L];exact aD X (az C))) C u C C) C)
noncomputable def iu:J->I AN->I (I J)->aS->I AN×aS
 |0,al,_,po=>(al,po)
 |u+1,al,rl,po=>if rl.isEmpty then(al,po)else iu u (jB (iz al rl,[]) (dM rl)).1 (jB (iz al rl,[]) (dM rl)).2 (po+rl.length)
theorem VP:iu (u+1) al rl po=if rl.isEmpty then(al,po)else iu u (jB (iz al rl,[]) (dM rl)).1 (jB (iz al rl,[]) (dM rl)).2 (po+U rl):=C
theorem acf(S:Sy c.y O d x o j q)(F:Fm c.V qD 3 B6)(z:1<=c.n):∀(u:J)(al:I AN)(rl:I _)(po:aS)(rs b:I _),oh u al rl rs=D b->
  EW c qD 3 (lE CD) (lD CD) [] u [.obj (.bN sf al (D rl) po po),rg,.own (gL rs)] [.obj (.bN sf (iu u al rl po).1 (D []) (iu u al rl po).2 (iu u al rl po).2),rg,.own (gL b)] .next:=λT=>T.rec
 (λal rl po rs b h=>aV C h)
 (λu n al rl po rs b h=>by
  simp only [O7]at h;simp only [VP]
  by_cases m:rl.isEmpty=Y
  .rw [aL m]at h⊢;obtain rfl:=bj h;obtain rfl:=z5.mp m;exact rK (O5 S F z (gF _)) fY
  .rw [aJ m]at h⊢
   by_cases l:Ct al rl rs=Y
   .rw [aL l]at h;have l:(_&&_&&_&&_)=Y:=l;simp only [oz]at l;refine cps λk f=>?_;obtain⟨⟨⟨B,X⟩,s⟩,P⟩:=l;have X:=dh X;have g:=λp t=>by
     have:=gK.mp B p t;exact ai (mH.mp this) λa i e=>(aR a i (dh e))
    apply f;exact ow (jo (O5 S F z (aD X (az C))) (by rw [oB.mpr m];rfl)) (ace S F z X (dh s) g P) (n _ _ _ _ b h)
   .rw [aJ l]at h
    exact aV C h)
end
section
variable{y:Ly Ob}
theorem aem{code:aB}(S:Sy y L G ah aC aE q)(T:Turn y.B s)(x:j2 y.B a bf (docDef "_law_rounds" (gw (bB 26)) (dD (bB 26)) (eg (bB 26)) h code r) (dD (bB 26)) qD)(w:nU Q=Y)(v:l0 Q bh=D o)(R:ng o=Y)(g:U Q<=800)(i:oh m Q (eA Q) []=D b):
  Ax (ym s) y.B y.Z y.w (n+3) (.ref a) (.bN sf Q aa 0 0) [] λX l=>X=.bN sf (iu m Q (eA Q) 0).1 (D []) (iu m Q (eA Q) 0).2 (iu m Q (eA Q) 0).2/\l=.tup [.bool o.isSome,.list (gL b)]:=by
 refine Ew y.G x (ez C) (.plain λz k=>?_) (λe=>aR _ e (λt f=>f)) (λP w v=>?_) (λ{bl e aN a_ p}B E E E E H aj ak ao u=>?_) λP E E O E E=>gx _ _ P O (λt f=>.inl f)
 .exact bind1 (λa=>C) z k
 .refine bT P λd E=>?_;subst d;rw [S.d6.ob]at w v;exact CH w v
 .have F:Fm (di (docDef "_law_rounds" (gw (bB 26)) (dD (bB 26)) (eg (bB 26)) h code r) H a) qD (U qD) B6:=jP C C
  let c:=(y.up p B).c (aj.deeper (di (docDef "_law_rounds" (gw (bB 26)) (dD (bB 26)) (eg (bB 26)) h code r) H a)) ak (di (docDef "_law_rounds" (gw (bB 26)) (dD (bB 26)) (eg (bB 26)) h code r) H a) (n+2) u.deeper
  have A:Sy c.y L G ah aC aE q:=S.up B;have aF:gZ c s:=E9 (c:=c) ao C (T.up B) C C;refine mX (A.pr (c:=c) (sf:=sf) (dK _ _) w v R g) λaP aT aY au aK aH aM=>?_;have j:=acf (c:=c) (sf:=sf) (rg:=.t (.bool o.isSome)) A F (dK _ _) m Q (eA Q) 0 [] b i
  refine XP.ev (c:=c) (EX.xp (aX:=[.obj (.bN sf (iu m Q (eA Q) 0).1 (D []) (iu m Q (eA Q) 0).2 (iu m Q (eA Q) 0).2),.t (.bool o.isSome),.t (.list (gL b))]) (fl:=.ret (.tup [.bool o.isSome,.list (gL b)])) (zx (z2s F 1 2 1 2 C (az C) C (az C) C C (zb ay) (rG cT C) C C C C C C)
   (zx (abI (c:=c) (i:=0) (j:=1) (q:=3) A.d6 aF F C C au (by decide) aK aH aM C C A.OC A.FB C (az C) C nofun C C) (zx (lI j) (h_ (je (Ia (zr (zv F 1 C C) (zr (zQ F 2 C C) cT C) C) C)))))) (l6 _ _ C (.inl C) C C))
theorem ael(S:Sy y aF aP aH aC aE aN)(k:y.aZ "_law_rounds" 26)(w:nU Q=Y)(v:l0 Q au=D o)(R:ng o=Y)(g:U Q<=800)(s:oh m Q (eA Q) []=D b):
  ∃a u i,y.mg "_law_rounds"=D (.ref a)/\(∀{h},bF y.B.h₀ h->h.get? a=D u)/\u.data=.func i/\mO y.B y.Z y.w (x+3) (.ref a) (.bN E Q aa 0 0) [] .none λX r=>X=.bN E (iu m Q (eA Q) 0).1 (D []) (iu m Q (eA Q) 0).2 (iu m Q (eA Q) 0).2/\r=D (.tup [.bool o.isSome,.list (gL b)]):=by
 refine Bk (BY (xs:=qD) k C) λa l aK code aM n T=>⟨a,l,_,n,T.ho,T.hd,J' λaT aY h f=>?_⟩;have:=aem (n:=x) (sf:=E) S.fr f T.fr w v R g s;intro L F j e z q d p H c A t O G ah;exact this L F j e z q d p H c A t O G λB ak aj ao X r P=>ah B ak aj ao X r ⟨P.1,aA D P.2⟩
end
section
variable{B:bD O}{Z:cy}{w:bX}{A:cZ}{ρ:Mk}{V:c3}{xs:I af}{k:J}{lv aX:I (AV O)}
def Au(B:bD O)(Z:cy)(w:bX)(u:J)(L:aB)(e:I T)(p:I T):Prop:=
 ∀(A:cZ)(ρ:Mk)(g:Fz)(z:I aB)(i:pX->aU->Prop)(s:aU),dW A u->Ready B g s->bu ρ g z e->
  (∀t j k h X,cg B g s j t->s.heap.get? k=aa->j k=aa->t.heap.get? k=D (lo h X)->bu ρ j h p->i (.ok (.ret (.ref k))) t)->codeAny (aI Z w) A (.call L ⟨z,[]⟩) i s
theorem Up(d:fe B aP bh)(T:∀{h},bF B.h₀ h->h.get? x=D o)(P:o.data=.func S)(j:∀{h},bF B.h₀ h->h.CodeRec S.code S.qualname)
  (y:S.body=.stmts [.Return (D e) aN])(r:S.closure=[])(Q:oR S.scope xs)(aj:S.globals=j0)(f:S.builtins=builtinsNs)(aC:p.length<=U xs)
  (aM:∀z,U z=p.length->bindArgs S ⟨z,[]⟩=pure (e0 xs z))
  (i:∀H A ρ,dW A u->∃k,qM B Z w A ρ (di S H x) xs (U xs) (rf xs p) e k m):Au B Z w (u+1) (.ref x) p m:=by
 intro A ρ g z bx s n O l c;refine I7 n.d (T O.base) P (d.nolimit O.base) (j O.base) y (aM z l.length) r ?_ ?_ Q.co Q.gen Q.kind
 .intro E L;have R:=by
   have:E.1∈(e0 xs z).map (·.1):=fM L
   delta e0 at this
   rw [xw]at this;exact Dv this
  rcases Q.names _ R with h|h
  .exact .inl h
  .exact .inr ⟨h,ud S.scope.names _ [] (.inl h)⟩
 .intro ah G;obtain⟨k,i⟩:=i s.heap.objs.size _ ρ n.deeper;refine gN (I_ (i _ g ah _ _ (CR Q aj f O l aC G) λt ao v au X aT aY q aE bz a FD ak aH=>(d5 (G.done) λa_ bf aF bl=>?_)));have aK:∀b,b∉B.tabs->∀o,s.heap.get? b=D o->t.heap.get? b=D o:=λb f o e=>a.kept b o (by simp [f,e]);have F:=by
   have:=FD.hb;dsimp only at this
   split at this
   .rename_i f;exact bA f FD.tab
   .exact this
  refine c t ao v au X ⟨bP.trans (bP.of aF) q,λb f o e=>aK b f o e,a.inv,aE,a.bJ,λb o e=>?_⟩ F FD.fz ak aH;rcases a.new b o e with q|q
  .exact .inl q
  .right
   dsimp only at q
   split at q
   .rename_i f;exact aV ((a.tab b f).2.1) e
   .exact q
theorem VF(G:fe B mg aK)(y:dW A u)(j:V.kindOf x=D .globalImplicit)(d:mg x=D (.ref a))(P:(x=="__debug__")=ay)
  (T:∀{h},bF B.h₀ h->h.get? a=D o)(g:o.data=.func aF)(L:∀i∈Q,∀x p,i≠.Starred x p)(h:kE B Z w A ρ V xs k lv b Q aX s)(n:Au B Z w u (.ref a) s t):
  qM B Z w A ρ V xs k lv (.Call (.Name x p) Q [] b) aX t:=by
 intro aP aE aH aM aN S R;refine kD (nZ G S.1 S.ready.base j d P (yc (jM L h S λc e z q r E m=>⟨⟨T E.ready.base,g⟩,(i8 (n A ρ e z _ c y E.ready m λs' H X v F f ah aj O ao=>?_))⟩)));obtain⟨ak,au,aC,l⟩:=E;have FD:=l.free ah;exact R s' H X v F au aC (q.trans f.same) (r.trans f.le) ak (l.step f) ⟨FD.hb,aj,FD.loc,FD.cell,FD.fp,FD.tab,FD.h0⟩ O ao
end
section
variable{c:Cx O}
theorem aeQ(w:EE c n k y ah a (.list l))(m:EE c n k a d X (.list H))(B:U l+U H<=1000000):EF c n k y (.BinOp ah .Add d aj) X (l++H):=by
 refine⟨λT g s au aC S R=>DL (w.1 T g s _ _ S λi x j q o E O=>m.1 T x i _ _ E λF aE t v h f L=>(jl (qg (O.mono h)) λj z ak u p b=>jl (qg L) λt G ao Q A e=>?_))⟩;subst u Q;have r:=f.ready;refine P.add_list (r.bJ _ _ p) (r.bJ _ _ A) ?_ (by simp only [<-b.length,<-e.length]at B;exact kN (eU B));have:=SR.newList (nn:=0) (tk:=F.toks) (q.trans v) (o.trans h) f (b.append e) R;exact M1 z G▸this
end
section
variable{y:Ly Ob}
theorem ad'(k:y.aZ "_law_counted" 22)(s:I J)(B:U s<=1000):∃a o S,y.mg "_law_counted"=D (.ref a)/\(∀{e},bF y.B.h₀ e->e.get? a=D o)/\o.data=.func S/\Au y.B y.Z y.w (n+1) (.ref a) [.str s] (.int (U s)::s.map λ(a:J)=>.int a):=by
 refine Bk (BY (xs:=C8) k C) λa o b code r i T=>⟨a,o,_,i,T.ho,T.hd,(Up y.G T.ho T.hd T.yJ C C T.l5 C C (az C) (λz X=>?_) λH L x l=>⟨[.t (.str s)],?_⟩)⟩
 .exact bind1 (λa=>C) z X
 .have F:Fm (di (docDef "_law_counted" (gw (bB 22)) (dD (bB 22)) (eg (bB 22)) b code r) H a) C8 (U C8) Nf:=jP C C;exact(aeQ (c:=y.c L x (di _ H a) n l) (oq (zr (rH F 1 C (zv F 0 C C) (eU (aD B (az C))) C) cT C) C) (zf (jW "sign" [] [] _ F C C C (xx (zv F 0 C C)) C (λd h t j=>Q_ h 2 C (zv h 0 C C) C) C (aD B (az C)))) (by rw [dg];exact aD (iO B 1) (az C))).1
end
section
open Builtin.Re
noncomputable def OE:bg SN->bw
 |D .matched=>Y
 |_=>ay
theorem aa'(h:OE o=Y):o=D .matched:=by
 cases o with
 |none=>exact cY C h
 |some x=>cases x with
  |matched=>rfl
  |_=>exact cY C h
theorem Hp:Slot "re.Match" "group" "re.Match.group":=
 .of (owner:="re.Match") (n:="group") (C) C C C
  (by first|exact .inl _|exact .inr C) (C)
theorem ad3:typeOf (.builtin "re.Match.group")=pure (.type "method_descriptor"):=C
theorem VU:entryFor table "re.Match.group"=D Builtin.«re.Match.group»:=Ak (C)
theorem T5(a b:aB):argsOk "re.Match.group" ⟨[a,b],[]⟩:=C
theorem abv:PlainAttrs "re.Match":=
 ⟨aR ("object.__getattribute__") (by kernel_rfl) C,C⟩
def LV(code e:iR J)(start i:J):bw:=(yw 1000 (Ah code e 1 start e.size ay)).any λm=>OE m.outcome&&(m.start==i&&(m.handed==i+1&&(m.lastmark==1&&m.marks==#[D i,D (i+1)])))
def M_(code e:iR J)(start:J):bw:=(yw 1000 (Ah code e 1 start e.size ay)).any λm=>E1 m.outcome
variable{Z:cy}{w:bX}{A:cZ}{E:aB->aU->Prop}{s:aU}
set_option tactic.hygienic true in
theorem acu{code:iR J}{start:J}(h:M_ code e start=Y)(k:Q aa s):aQ (aI Z w) A (reRunToEnd (Ah code e 1 start e.size ay)) Q E s:=ai ((I3 _ _).mp h) λm R T=>aG (Bg 1000 _ _ (dK _ _) R (aG (G5 _ ((Lf T).symm▸bM k))))
noncomputable def uA(m:DI)(i:J):DI:={m with start:=i,handed:=i+1,marks:=#[D i,D (i+1)],lastmark:=1}
theorem Yc(v:m.start=i)(R:m.handed=i+1)(g:m.lastmark=1)(H:m.marks=#[D i,D (i+1)]):m=uA m i:=by
 delta uA
 rw [<-H,<-g,<-R,<-v]
set_option tactic.hygienic true in
theorem acr{code:iR J}{start:J}(h:LV code e start i=Y)(k:∀m,Q (D (uA m i)) s):aQ (aI Z w) A (reRunToEnd (Ah code e 1 start e.size ay)) Q E s:=by
 refine cps λb f=>?_;refine ai ((I3 _ _).mp h) λm R T=>bT (cQ.mp T) λa h=>bT (cQ.mp h) λv h=>bT (cQ.mp h) λx h=>?_;apply f;exact bT (cQ.mp h) λg H=>aG (Bg 1000 _ _ (dK _ _) R (aG (G5 _ ((aa' a).symm▸bM (Yc (iS v) (iS x) (iS g) (iS H)▸k m)))))
noncomputable abbrev B4(a d:aB)(H i:aB)(E:J):bL:={cls:=.type "re.Match",data:=.fields #[a,d,c4 0,c4 E,H,i]}
theorem aak{i:J}(b:∀H O L,bF s.heap O->s.heap.get? L=aa->(∃h u,O.get? L=D (B4 x d H (.ref h) a)/\O.get? h=D {cls:=.type "tuple",data:=.seq [c4 i,c4 (i+1:J),c4 i,c4 (i+1:J)].toArray u})->Q (.ref L) {s with heap:=O}):
  aQ (aI Z w) A (reNewMatch d x 1 0 a (uA m i)) Q E s:=by
 have e:reNewMatch d x 1 0 a (uA m i)=newTuple [c4 i,c4 (i+1:J),c4 i,c4 (i+1:J)]>>=λh=>newFields "re.Match" [x,d,c4 0,c4 a,c4 m.lastindex,h]:=aJ (show¬(Y&&aO _||ay)=Y by rw [ef (ie.mpr (rS _))];decide);refine mw e (aG (S2 ?_ (ez C)));have G:=bF.push s.heap {cls:=.type "tuple",data:=.seq [c4 i,c4 (i+1:J),c4 i,c4 (i+1:J)].toArray};have F:=gS {s with heap:=s.heap.push {cls:=.type "tuple",data:=.seq [c4 i,c4 (i+1:J),c4 i,c4 (i+1:J)].toArray}};exact rX (b _ _ _ (λl o e=>eG _ (G l o e)) (iY λo e=>aV F (G _ o e)) (gg s.heap.objs.size 0 (eS _ C) (eG _ (eS _ C)))) (ez C)
theorem XH{l:I J}{G:fT}{u i a:J}(T:s.heap.get? L=D (B4 (.str (cj l) G) d H (.ref h) j))(x:s.heap.get? h=D {cls:=.type "tuple",data:=.seq [c4 i,c4 (i+1:J),c4 i,c4 (i+1:J)].toArray u})(k:l[i]?=D a)
  (e:∀c n,Q (.str (cj [a]) c) {s with toks:=n}):aQ (aI Z w) A (call (.builtin "re.Match.group") [.ref L,.int 1 y]) Q E s:=by
 refine i8 (qL Hp.plain VU (Hp.check _ _ _ _ _ _ _ _ (aR _ T C) (T5 _ _) ?_));refine aG (iQ (a:=()) (by rfl) ?_);dsimp only;refine aG (aG (wpAny_fieldsOf T C (aG (m:=reRawItems (.ref h)) (aG (yg x C (bM (bM ?_)))))));have t:Array.map reRawOf ((D #[c4 (i:aS),c4 (i+1:J),c4 (i:aS),c4 (i+1:J)]).getD #[])=#[(i:aS),(i+1:J),(i:aS),(i+1:J)]:=by
  show(xZ [c4 (i:aS),c4 (i+1:J),c4 (i:aS),c4 (i+1:J)]).map reRawOf=_;apply ae (age);rfl
 rw [t];refine aG (iQ (a:=1) (by rfl) (aG ?_));have X:=cG.mp k;have b:({cps:=(cj l).cps.extract i (i+1)}:af)=cj [a]:=by
  show Str.mk (l.toArray.extract i (i+1))=_;simp only [af3,List.extract,x6,xS X.1,X.2]
  rfl
 show aQ _ _ (mkStr {cps:=(cj l).cps.extract i (i+1)}) _ _ _;rw [b];exact tU (bM (e _ _)) (ez C)
end
section
open Builtin.Re
def Zf:As:=(uq BN).2.2.1
def Gb:cE:=(uq BN).1
def MQ:jg:=(uq BN).2.1
variable{Z:cy}{w:bX}{A:cZ}{E:aB->aU->Prop}{s:aU}
theorem Zh{u i:J}(B:G.scope.kind=.function)(X:G.kindOf "_m"=D .local)(m:s.heap.Ns G.locals h)(R:h "_m"=D (.ref f))
  (T:s.heap.get? f=D (B4 (.str (cj l) g) d H (.ref b) v))(k:s.heap.get? b=D {cls:=.type "tuple",data:=.seq [c4 i,c4 (i+1:J),c4 i,c4 (i+1:J)].toArray u})(j:l[i]?=D a)
  (e:∀c n,Q (.str (cj [92,a]) c) {s with toks:=n}):aQ (aI Z w) A (eval Gb G) Q E s:=DL (rO (Sv (lP C (oA _) C abv Hp ad3 (eO (Jd B X m R ⟨aR _ T C,λq t=>by obtain rfl:=ku t;exact aR _ T C,kA C (t9 C (oi C (SX (lO (XH T k j λc n=>P.truthy_str (show¬((1))>=2^63 by decide) (agP (λo x=>e o x) (ez C)))))))⟩) C))))
def pA(E:af)(doc y i d:aB):rY:={name:="<lambda>",qualname:=E,params:=Zf,body:=.expr Gb,scope:=MQ,globals:=j0,closure:=[],closureTuple:=d,code:=i,builtins:=builtinsNs,defaults:=.none,kwdefaults:=.none,annotations:=aa,pyModule:=y,doc}
theorem Zg:bindArgs (pA qual doc pm cv ctv) ⟨[.ref g],[]⟩=pure [(("_m":af),vK g)]:=C
noncomputable abbrev Ge:jg:={kind:=.function,names:=[("_m",.local)],isGenerator:=ay,isCoroutine:=ay,more:=[]}
theorem Gf:MQ=Ge:=C
theorem Zj{S:rY}(h:S.scope=Ge):(newEnv S.scope L gl cl q sf cd aa bi).scope.kind=.function/\(newEnv S.scope L gl cl q sf cd aa bi).kindOf "_m"=D .local:=h▸⟨C,C⟩
theorem Zi{r y i d:aB}{ak e x:J}(g:A.depth<recursionLimit)(u:s.heap.get? L=D o)(au:o.data=.func (pA h r y i d))(aC:s.heap.CodeRec i h)(z:s.heap.NoLimit)
  (T:s.heap.get? f=D (B4 (.str (cj H) aN) aP aM (.ref aH) aK))(l:s.heap.get? aH=D {cls:=.type "tuple",data:=.seq [c4 e,c4 (e+1:J),c4 e,c4 (e+1:J)].toArray ak})(k:H[e]?=D x)
  (q:∀O c n,bF s.heap O->p (.str (cj [92,x]) c) {s with heap:=O,toks:=n}):aQ (aI Z w) A (call (.ref L) [.ref f]) p E s:=by
 have B:(pA h r y i d).scope=Ge:=Gf;have X:(pA h r y i d).body=.expr Gb:=C;have G:(pA h r y i d).qualname=h:=C;have P:(pA h r y i d).code=i:=C;have ah:(pA h r y i d).scope.isCoroutine=ay:=aA Scope.isCoroutine Gf;have F:(pA h r y i d).scope.isGenerator=ay:=aA Scope.isGenerator Gf;have aj:=Zg (qual:=h) (doc:=r) (pm:=y) (cv:=i) (ctv:=d) (g:=f);generalize pA h r y i d=S at*;refine i8 (kla_callFunE g u au ah F X (G.symm▸P.symm▸aC) (mw aj (bM (ahc (λao j=>?_) (λao j=>?_) (λv m a=>⟨z.fresh _ a,kla_codeExpr ?_⟩) (B▸C)))))
 .rw [B]at j;exact cO.mp j▸nofun
 .rw [B,cO.mp j];rfl
 generalize R:s.heap.objs.size=aE at m a;have Q:bF s.heap v:=λaF o b=>a.extBut aF o (eZ (R▸gS s) b) (eG _ b);have t:=Zj (gl:=S.globals) (cl:=S.closure) (q:=S.qualname++".<locals>.") (sf:=D L) (cd:=S.code) (bi:=S.builtins) (L:=aE) B;exact Zh t.1 t.2 m C (Q _ _ T) (Q _ _ l) k λc n=>q v c n Q
end
section
open Builtin.Re
noncomputable def wu(code:I J)(l:I J):J->I J->bw
 |d,[]=>M_ code.toArray l.toArray d&&aO (d=l.length)
 |d,p::S=>LV code.toArray l.toArray d p&&(aO (d<=p)&&(aO (p<l.length)&&wu code l (p+1) S))
noncomputable def pJ(l:I J):J->I J->I J
 |_,[]=>[]
 |d,p::S=>(l.take p).drop d++(92::l.getD p 0::pJ l (p+1) S)
theorem adm:pJ l d (p::S)=(l.take p).drop d++(92::l.getD p 0::pJ l (p+1) S):=C
variable{Z:cy}{w:bX}{A Jg:cZ}{E:aB->aU->Prop}{R:pX->aU->Prop}
theorem WR{j h O:cf}(x:jX H j h)(a:jX H h O):jX H j O:=λb o u e=>a b o u (x b o u e)
theorem PY{z:I aB}{G:I af}(h:StrsAre z G)(x A):StrsAre (z++[.str x A]) (G++[x]):=by
 induction h with
 |nil=>exact .cons x A .nil
 |cons H y _ n=>exact .cons H y n
theorem PX{z:I aB}{G:I af}(h:StrsAre z G):U z=U G:=by
 induction h with
 |nil=>rfl
 |cons H y _ n=>exact aA _ n
theorem abK{R:Type}{l:I J}{a:Unit->Sem R}{Q:R->aU->Prop}{s:aU}{G:I (I J)}{z:I aB}{X:J}(n:s.heap.get? H=D (lo z X))(y:StrsAre z (G.map cj))(j:d<=p)(u:p<U l)(x:U l<=1000)(g:U G<=1000)
  (h:∀(i:cf)(k q:J)(o:I aB)(t:I (I J)),jX H s.heap i->i.get? H=D (lo o k)->StrsAre o (t.map cj)->t.flatten=G.flatten++(l.take p).drop d->U t<=U G+1->(t.map (U ·)).sum<=(G.map (U ·)).sum+1000->aQ (aI Z w) A (a ()) Q E {s with heap:=i,toks:=q}):
  aQ (aI Z w) A (if d<p then(do let b<-reSlice l.toArray 0 d p;let r<-updateSeq H λf=>f.push b;a r)else a ()) Q E s:=by
 have v:U z<=sizeLine:=by rw [PX y,dg];exact aD g (az C)
 by_cases c:d<p
 .have e:l.toArray.extract d p=((l.take p).drop d).toArray:=by simp [af3,List.extract,RS]
  have B:U ((l.take p).drop d)<=1000:=by rw [xU,z6];exact jS 0 (.v 2) (.n 1000) (.v 0) (.n 1000) (.v 2) (.v 1) (.v 1) (.v 0) C [_,_,_] x Cd GH
  refine mw (aL c) (aG (CP e (aD B (az C)) (aG (HK n v λi k F L=>h i k _ _ (G++[(l.take p).drop d]) F L (by rw [eW];exact PY y _ _) (by rw [RX];simp) (by rw [cA];exact dm _) (by rw [eW,agm];exact iO (by show _+0<=_;exact B) _)))))
 .have m:d=p:=fS j (iP c);refine mw (aJ c) (h s.heap X s.toks z G (λT S _ e=>e) n y (by subst m;rw [vz (by rw [z6];exact Ad _ _),ju]) (rS _) (fO _ _))
theorem ZO{code l:I J}{h₀:cf}(aK:U l<=1000)(aM:Jg.in1.depth<recursionLimit)(P:o.data=.func (pA aP cB dG aE b_))(c9:L≠li)
  (t:∀{O},jX li h₀ O->qO O bl code 1/\O.NoLimit/\O.get? L=D o/\O.CodeRec aE aP):∀(S:I J)(d:J)(n:aS)(A:fT)(s:aU)(z:I aB)(G:I (I J))(X:J)(R:pX->aU->Prop),
   wu code l d S=Y->jX li h₀ s.heap->s.heap.get? li=D (lo z X)->StrsAre z (G.map cj)->U G+2*U S<=1000->(G.map (U ·)).sum+1002*U S<=100000->(S=[]->z≠[])->
   (∀O b c,jX li h₀ O->R (.ok (.ret (.str (cj (G.flatten++pJ l d S)) b))) {s with heap:=O,toks:=c})->
  codeAny (aI Z w) Jg (.builtin "re.Pattern.sub.loop" ⟨[.ref bl,.str (cj l) A,.ref L,c4 1,c4 0,c4 n,c4 d,c4 d,.bool ay,.ref li,.bool ay],[]⟩) R s:=λS=>S.rec
 (λd n A s z G X R B x h y g e r k=>by
  have B:=cQ.mp B;have P:=dh B.2;subst P;apply Aj EV;rw [afE (by decide+kernel)];refine aG (zK (t x).1 (aG (acu B.1 (mw (aJ (show¬II (U l)<U l from i7 _)) ?_))));refine aG (CP (l:=[]) (by simp) (gF _) (aG (yg h C ?_)));have aY:z≠[]:=r C;refine mw (aJ (show¬((D z.toArray).getD #[]).isEmpty=Y by cases z with|nil=>exact bA C aY|cons a cU=>exact nofun)) (aG ?_);refine Sw (i12 _ h C ⟨X,C⟩) y ?_ λbf E=>?_
  .rw [dH,dg];show(G.map (U ·)).sum+U G*0<=_;exact aD (aD (fO _ _) e) (az C)
  .have j:Ai (cj []) (G.map cj)=cj (G.flatten++pJ l (U l) []):=ae (join_nil G) (aA cj (ju _).symm)
   exact j▸bM (k s.heap bf E x))
 (λQ S au d n A s z G X R B x h y g e r k=>by
  have B:=cQ.mp B;have ah:=cQ.mp B.2;have aj:=cQ.mp ah.2;have aF:=dh ah.1;have i:=dh aj.1;rw [gB]at g e;apply Aj EV;rw [afE (by decide+kernel)];refine aG (zK (t x).1 (aG (acr B.1 λm=>abK (d:=d) (p:=Q) h y aF i aK (by exact cS 0 (.v 0) (.n 1000) (.a (.v 0) (.m 2 (.a (.v 1) (.n 1)))) (.n 1000) C [_,_] g) λee ck cC aH f F aN p aT H a_=>?_)));apply mw (aJ (show¬((1:aS)==0)=Y by decide));refine aG (aak λcF cJ cM T cX v=>(d5 (v) λdN dU v aC=>?_));have q:=t (WR x F);refine aG (gH (Zi aM (T _ _ q.2.2.1) P ?_ (q.2.1.keeps T) v aC (dB i) λcu c E ak=>?_))
  .exact q.2.2.2.keeps T
  have bx:U aH<=sizeLine:=by rw [PX p,dg];exact aD (show U f<=1000 by exact d_ 0 (.v 2) (.n 1000) (.a (.v 0) (.m 2 (.a (.v 1) (.n 1)))) (.n 1000) (.v 2) (.a (.v 0) (.n 1)) C [_,_,_] g H) (az C)
  refine aG (HK (ak _ _ (T _ _ aN)) bx λbz bC bE bh=>?_);have bQ:jX li h₀ bz:=λbR o u j=>bE bR o u (ak _ _ (T _ _ (F _ _ u (x _ _ u j))));have bI:((uA m Q).handed==(uA m Q).start)=ay:=beq_false_of_ne (agI Q);rw [bI];have bW:(f++[[92,l[Q]]]).flatten++pJ l (Q+1) S=G.flatten++pJ l d (Q::S):=by
   rw [adm,RX,aT,tJ,dB i];simp
  exact bM ⟨zW _ (by decide+kernel),au (Q+1) (n+1) A _ _ (f++[[92,l[Q]]]) bC R aj.2 bQ bh (by rw [eW];exact PY p _ _) (by rw [cA];show _+1+_<=_;exact d_ 0 (.a (.a (.v 2) (.n 1)) (.m 2 (.v 1))) (.n 1000) (.a (.v 0) (.m 2 (.a (.v 1) (.n 1)))) (.n 1000) (.v 2) (.a (.v 0) (.n 1)) C [_,_,_] g H) (by rw [eW,agm];show _+2+_<=_;exact d_ 0 (.a (.a (.v 2) (.n 2)) (.m 1002 (.v 1))) (.n 100000) (.a (.v 0) (.m 1002 (.a (.v 1) (.n 1)))) (.n 100000) (.v 2) (.a (.v 0) (.n 1000)) C [_,_,_] e a_) (λ_ bZ=>by simp at bZ) λO b c ao=>bW▸k O b c ao⟩)
end
section
open Builtin.Re
section
variable{Z:cy}{w:bX}{A:cZ}{E:aB->aU->Prop}{s:aU}
theorem adn{code l S:I J}{T F i d:aB}{o:bL}(P:qO s.heap p code 1)(B:wu code l 0 S=Y)(m:S≠[])(X:U l<=1000)(t:U S<=20)
  (r:A.depth<recursionLimit)(g:s.heap.get? L=D o)(R:o.cls=.type "function")(a:o.data=.func (pA k T F i d))(n:s.heap.CodeRec i k)(ah:s.heap.NoLimit)(f:∀{O},bF s.heap O->O.NoLimit)
  (v:∀O G c,bF s.heap O->Q (.str (cj (pJ l 0 S)) G) {s with heap:=O,toks:=c}):aQ (aI Z w) A (call (.builtin "re.Pattern.sub") [.ref p,.ref L,.str (cj l) h]) Q E s:=by
 refine i8 (qL w9.plain K0 (w9.check _ _ _ _ _ _ _ _ (by obtain⟨o,aj,b,aC,e,ak,ao,au,z,H,_⟩:=P;exact(aR o z H)) (JV _ _ _) ?_));refine aG (iQ (a:=[D (.ref L),D (.str (cj l) h),aa]) (C) ?_);refine aG (bM (aG (Ar (aR o g R) Pq.lookup (aG (bM (aG (bM ?_)))))));dsimp only;refine aG (gH (zK P (aG (aG (S1 (T:="str") (b:=ay) (tR _ _ _) (by rw [isSubtype_type];exact C) (bM (aG (DN (bM ?_)))))))));have u:bF s.heap (s.heap.push (lo [] 0)):=bF.push _ _;have y:s.heap.get? s.heap.objs.size=aa:=gS s;have j:∀{O},jX s.heap.objs.size (s.heap.push (lo [] 0)) O->bF s.heap O:=λx b o e=>x b o (eZ y e) (u _ _ e);exact⟨zW _ (by decide+kernel),ZO (h₀:=s.heap.push (lo [] 0)) (li:=s.heap.objs.size) X r a (eZ y g) (λx=>⟨P.keeps (j x),f (j x),j x _ _ g,n.keeps (j x)⟩) S 0 0 h _ [] [] 0 _ B (λb o _ e=>e) (eS _ C) .nil (aD (fq (jy _)) (aD (x8 2 t) (az C))) (aD (fq (jy _)) (aD (x8 1002 t) (az C))) (λq=>bA q m) λO G c x=>v O G c (j x)⟩
end
theorem adt{H:Ly bf}(c:vX H)(K:jK H.B H.mg j cJ m3)(i:dW L u)(F:Fm G x9 13 n9)(O:G.code=.ref j)(x:G.qual="_translate.<locals>.")(B:wu wd l 0 h=Y)(q:h≠[])(P:U l<=1000)(T:U h<=20)(X:y[9]?=D (.t (.str l))):
  EE (H.c L ck G u i) x9 13 y t7 y (.str (pJ l 0 h)):=by
 refine ai c.ex λaT p s=>?_;constructor;intro cM a_ bl cu cB S R;obtain⟨w,m,r,S⟩:=S;obtain⟨o,_,_,_,_,_,_,_,a,v,d,_⟩:=s S.base;refine lP C (oA _) C ON w9 Qt (nZ H.G w S.base (F.kn 15 C nofun) p (F.kg 15 C) (dI (aR o a v) (λb e=>by obtain rfl:=ku e;exact aR o a d) (kA C (t9 C (oi C (Gg H.G K (MR x) O (A7 ?_) ?_ w S λbz bI bQ bR bW bZ b_ n z A E g aY k ah _=>?_))))))
 .decide
 .rfl
 .refine oi C (cps λbh aj=>?_);obtain⟨bx,ak,bC,bE,rfl,ao⟩:=E.vars 9 "stuff" _ C X;refine aj (eO (eK w E.ns ak (lO (bH (jj ao) λt au=>?_))) (F.eY (i:=9) C));subst au;refine Bj (ah.kn (aR (_) (R7 _) (C))) λb aC Q aF aH aK aE aN=>adn (s E.base) B q P T i.d g C C (FG b aC Q aF aH (E.bJ _ _ aK) ⟨aE,aN⟩) (H.G.nolimit E.base) (λk=>H.G.nolimit λb o e=>k _ _ (E.base b o e)) λcC cF aM aP=>?_;have f:=cg.keeps (t:=aM) E.ready aP;exact R _ n _ (z.trans f.same) A ⟨w,m,r,E.step f⟩ (.str _ _)
end
section
variable{c:Cx O}{pat:I J}{acc:I T}{l l':I J}
theorem acG(h:aO (a>=b)=d):gb .GtE (.int a) (.int b)=D d:=aA D h
abbrev zy:cz:=hU (mZ (fV 4 R9)) 1
theorem FH(t:U l<=1000)(h:l[i]?=D a):i<2^60:=eH (cG.mp h).1 (aD t (az C))
theorem HF(F:Fm c.V x9 13 n9)(h:U pat<=1000){t:J}(G:y[8]?=D (.t (.int t)))(m:y[6]?=D (.t (.int (U pat))))(n:y[0]?=D (.t (.str pat)))(u:pat[t]?=D a)(l:e=⟨[d].toArray⟩)(f:aO (a=d)=b):
  EC c x9 13 y (.BoolOp .And [.Compare (.Name "j" i) [.Lt] [.Name "n" B] x,.Compare (.Subscript (.Name "pat" P) (.Name "j" p5) s) [.Eq] [.Constant (.str e) v k] q] p) y b:=
 jo (kO (zC (zv F 8 C G) (zv F 6 C m) (mh (cL (jY.mpr (cG.mp u).1))) C) λE=>kO (zC (dS (zv F 0 C n) (zv F 8 C G) (jn (FH h u) u) C) (zs [d] l) (wZ f) C) λE=>tD) (by simp only [Iw,Iz])
theorem Qo(F:Fm c.V x9 13 n9)(h:U pat<=1000){t:J}(G:y[8]?=D (.t (.int t)))(m:y[6]?=D (.t (.int (U pat))))(n:y[0]?=D (.t (.str pat)))(u:pat[t]?=D a)(l:e=⟨[d].toArray⟩)(f:(!aO (a=d))=b):
  EC c x9 13 y (.BoolOp .And [.Compare (.Name "j" i) [.Lt] [.Name "n" B] x,.Compare (.Subscript (.Name "pat" P) (.Name "j" p5) s) [.NotEq] [.Constant (.str e) v k] q] p) y b:=
 jo (kO (zC (zv F 8 C G) (zv F 6 C m) (mh (cL (jY.mpr (cG.mp u).1))) C) λE=>kO (zC (dS (zv F 0 C n) (zv F 8 C G) (jn (FH h u) u) C) (zs [d] l) (zA (d:=b) (by simp only [<-f,show([a]==[d])=aO (a=d)by rw [oE];simp])) C) λE=>tD) (by simp only [Iw,Iz])
theorem Qp(F:Fm c.V x9 13 n9)(t:U pat<=1000):∀(r y:I J),pat=y++(r++93::e)->93∉r->
  EW c x9 13 (lE (D (hU R9 3))) (lD (D (hU R9 3))) [] (U r) (L9 pat acc i a7 (.t (.int (U y))) a9 iq fJ fK) (L9 pat acc i a7 (.t (.int (U y+U r:J))) a9 iq fJ fK) .next:=λT=>T.rec
 (λy h _=>rK (Qo F t C C C (by rw [h];exact oU _ _) (cR [']']) C) fY)
 (λx r n y h u=>by
  have a:=n (y++[x]) (by apply ae (h);rw [gX];rfl) λm=>u (.tail _ m);rw [cA,vD,qI (U [x])]at a
  exact ow (Qo F t C C C (by rw [h];exact oU _ _) (cR [']']) (aA _ (ef ((λq=>u (q▸.head _):¬x=93))))) (fb (eL F 8 C (dK _ _) (fh (zv F 8 C C) (zi 1) (ru C)) C) C) a)
theorem Ql(F:Fm c.V x9 13 n9)(t:U pat<=1000){pre b a:I J}{x:J}(h:pat=pre++91::(x::b++93::a))(n:x≠33)(g:93∉b)
  (k:EX c x9 13 (L9 pat acc (U pre+1) (.t (.str [91])) (.t (.int (U pre+2+U b:J))) H f fJ z) (mZ (fV 4 R9)) y .next):EX c x9 13 (L9 pat acc (U pre) a7 Q H f fJ z) B9 y .next:=by
 have w:pat=pre++[91]++(x::b++93::a):=by apply ae (h);rw [gX];rfl
 have e:U (pre++[91])=U pre+1:=cA;have P:pat[U pre+1]?=D x:=by rw [<-e,w,oU];rfl
 have i:ES c x9 13 _ (hU R9 4) y .next:=
  dP (zC (zv F 8 C C) (zv F 6 C C) (acG (ef (RN.mpr (jY.mpr (by rw [w,cA,e,cA];show _<_+((U b+1)+(_+1));exact eF (.a (.a (.a (.v 0) (.n 2)) (.v 1)) (.n 1)) (.a (.a (.v 0) (.n 1)) (.a (.a (.v 1) (.n 1)) (.a (.v 2) (.n 1)))) C [_,_,_]))))) C) k
 refine HE F t (by rw [h,oU];rfl) (fb (dP (b:=ay) (zC (zv F 7 C C) (zs [42] (cR ['*'])) C C) (fb (dP (b:=ay) (zC (zv F 7 C C) (zs [63] (cR ['?'])) C C) (fb (dP (b:=Y) (zC (zv F 7 C C) (zs [91] (cR ['['])) C C)
  (zx (eL F 8 C (dK _ _) (zv F 5 C C) C) (zx (dP (HF F t C C C P (cR ['!']) (ef n)) fY) ?_))) C)) C)) C)
 by_cases L:x=93
 .subst L;have v:pat=pre++[91,93]++(b++93::a):=by apply ae (h);simp
  have s:=Qp (acc:=acc) (i:=U pre+1) (a7:=.t (.str [91])) (a9:=H) (iq:=f) (fJ:=fJ) (fK:=z) F t b _ v g;rw [(cA)]at s;exact zx (dP (HF F t C C C P (cR [']']) C) (fb (eL F 8 C (dK _ _) (fh (zv F 8 C C) (zi 1) (ru C)) C) C)) (zx (lI s) (fb i C))
 .have s:=Qp (acc:=acc) (i:=U pre+1) (a7:=.t (.str [91])) (a9:=H) (iq:=f) (fJ:=fJ) (fK:=z) F t _ _ w λm=>(cD.mp m).elim (λq=>L q.symm) g;rw [e,show U pre+1+U (x::b)=U pre+2+U b by rw [gB];exact fS (eF (.a (.a (.v 0) (.n 1)) (.a (.v 1) (.n 1))) (.a (.a (.v 0) (.n 2)) (.v 1)) C [_,_]) (eF (.a (.a (.v 0) (.n 2)) (.v 1)) (.a (.a (.v 0) (.n 1)) (.a (.v 1) (.n 1))) C [_,_])]at s;exact zx (dP (HF F t C C C P (cR [']']) (ef L)) fY) (zx (lI s) (fb i C))
noncomputable def uG(s:I J):I J:=match s with
 |x::_=>if x=94\/x=91 then 92::s else s
 |[]=>[]
theorem Qm(F:Fm c.V x9 13 n9)(X:U acc<=100000){x i t:J}(b:∀y,y[9]?=D (.t (.str d))->EE c x9 13 y t7 y (.str (x::r)))(n:x≠33)(h:U r<=100):
  EX c x9 13 (L9 pat acc i (.t (.str [91])) (.t (.int t)) (.t (.str d)) f fJ z) ((mZ (fV 4 R9)).drop 2) (L9 pat (acc++[.str ([91]++uG (x::r)++[93])]) (t+1) (.t (.str [91])) (.t (.int t)) (.t (.str (uG (x::r)))) f fJ z) .next:=by
 have a:gb .In (.str [x]) (.tup [.str [94],.str [91]])=D (aO (x=94\/x=91)):=by
  show jR (.str [x]) ([[94],[91]].map .str)=_;simp only [FT];simp
 have j:=jx h;have e:∀s:I J,U s<=200->EX c x9 13 (L9 pat acc (t+1) (.t (.str [91])) (.t (.int t)) _ f fJ z) [hU (mZ (fV 0 (mZ (fV 4 (mZ (fV 4 R9)))))) 1] _ .next:=λs B=>
  fb (zO F 3 4 C C C (HZ (zj (zs [91] (cR ['['])) (az C) (zj (HY (zv F 9 C C) (aD B (az C))) (aD (jx B) (az C)) (zj (zs [93] (cR [']'])) (by simp;exact aD B (az C)) H8))) (by simp;exact aD B (az C))) C C C (eU (aD X (az C)))) C
 refine zx (eL F 9 C (dK _ _) (b _ C) C) (zx (eL F 5 C (dK _ _) (fh (zv F 8 C C) (zi 1) (ru (d:=(t+1:J)) C)) C)
  (fb (dP (b:=ay) (C_ (b:=Y) (lG (zv F 9 C C) (acM (aD j (az C)) C) λE=>C)) (fb (dP (b:=ay) (zC (zv F 9 C C) (zs [33] (cR ['!'])) (CI (beq_false_of_ne λq=>n (zZ q).1)) C)
   (zx (dP (b:=ay) (zC (dS (zv F 9 C C) (zi (0:J)) (jn (a:=x) (az C) C) C) (zs [33] (cR ['!'])) (wZ (ef n)) C)
    (dc:=L9 pat acc (t+1) (.t (.str [91])) (.t (.int t)) (.t (.str (uG (x::r)))) f fJ z) (fl:=.next) ?_) (e _ ?_))) C)) C))
 .by_cases q:x=94\/x=91
  .rw [cL q]at a;rw [show uG (x::r)=[92]++(x::r)from aL q]
   exact fb (dP (b:=Y) (zC (dS (zv F 9 C C) (zi (0:J)) (jn (a:=x) (az C) C) C) (Ia (zr (zs [94] (cR ['^'])) (zr (zs [91] (cR ['['])) cT C) C) C) a C)
    (fb (eL F 9 C (dK _ _) (fh (zs [92] (cR ['\\'])) (zv F 9 C C) (pH (aD (iO j 1) (az C)))) C) C)) C
  .rw [ef q]at a;rw [show uG (x::r)=x::r from aJ q];exact fb (dP (b:=ay) (zC (dS (zv F 9 C C) (zi (0:J)) (jn (a:=x) (az C) C) C) (Ia (zr (zs [94] (cR ['^'])) (zr (zs [91] (cR ['['])) cT C) C) C) a C) fY) C
 .show U (if x=94\/x=91 then 92::x::r else x::r)<=200
  split
  .exact aD (jx j) (az C)
  .exact aD j (az C)
theorem O4{x a b:I J}{s:aU}(n:s.toks≠0)(h:((⟨a.toArray⟩:af)==⟨b.toArray⟩)=ay)(j:U x<=1000)(f:U b<=14)(e:yb ⟨x.toArray⟩ ⟨a.toArray⟩ ⟨b.toArray⟩=⟨l'.toArray⟩)
  (R:∀P k,Q (.str ⟨l'.toArray⟩ P) {s with toks:=k}):aQ (aI m w) L (call (.builtin "str.replace") [.str ⟨x.toArray⟩ A,.str ⟨a.toArray⟩ s.toks,.str ⟨b.toArray⟩ (s.toks+1)]) Q H {s with toks:=s.toks+1+1}:=
 SC.replaceW n (DE _) (fH (fG _)) h (aD j (az C)) (f) (e.symm▸R)
theorem aax(e:(afK x H 0 x.length 1).isEmpty=Y)(h:Q (.bool Y) s):aQ (aI m w) L (compareOp .NotIn (.str H y) (.str x A)) Q a s:=P.notIn_str (e.symm▸h)
theorem ab9(F:Fm c.V x9 13 n9)(L:y[9]?=D (.t (.str l)))(e:45∉l)(X:U l<=1000)(s:yb ⟨l.toArray⟩ ⟨#[92]⟩ ⟨#[92,92]⟩=⟨l'.toArray⟩):
  ES c x9 13 y zy (y.set 9 (.t (.str l'))) .next:=by
 constructor;intro T g k Q H a S R;refine cps λE v=>?_;obtain⟨w,u,p,h⟩:=S;obtain⟨A,z,m,n,rfl,d⟩:=h.vars 9 "stuff" _ C L;refine v (bH (jj d) λt j=>?_);subst j;exact An (Ao (rO (eO (eK w h.ns z (aax (occ_none e 1 (dm 1)) (yh (gN (kC (lP C (oA _) C DH SD SI (eO (eK w h.ns z ⟨C,λo q=>nc Ag q C,kA C (t9 C (oi C (rO (oi C (rO (lO (O4 (a:=[92]) (b:=[92,92]) (DE _) C X (az C) s λP r=>gh (av:=.t (.str l')) w a h (i:=9) (by rfl) (by decide) (.inl (F.kn 9 C nofun)) ⟨C,_,C,.str _ _⟩ .nil λi b x f=>rW (R i g .next (bP.trans (cH _ _ C) x) (Le.refl _) ⟨w,b,_,f⟩ dj))))))))⟩) (F.eY (i:=9) C))) C))))) (F.eY (i:=9) C))) C)
end
section
open Builtin.Str
section
variable{s:aU}
theorem Xn(h:G.code=.ref c)(d:lQ s.heap c P)(l:TabAt s.heap P S)
  (R:∀i O n A,jX P s.heap O->s.heap.objs.size<=O.objs.size->TabAt O P A->tX s.heap O u q S A i->Q i {s with heap:=O,toks:=n}):
  aQ M L (genexprCode G u q v) Q H s:=by
 cases g:codeAmong u S.toList with
 |some i=>exact wpAny_genexprCode_hit h (d.code l) g (R i s.heap s.toks S (λE E E e=>e) (dm _) l (.wq g C))
 |none=>
  refine wpAny_genexprCodeX h (d.code l) (d.tab l) g λk O n j F x E a b E=>R _ O n _ j (e7 (kW F x)) ⟨b.2,?_⟩ (.new k g C F a (by simp));have X:(S++#[c4 u.line,c4 u.col,vK k]).toList=S.toList++[c4 u.line,c4 u.col,.ref k]:=by simp
  simp only [X];exact TriplesOk_snoc _ _ _ _ l.2
end
theorem Xo(x:r6 h f S)(l:TriplesOk S.toList)(a:tX s O u q S A i)(z:∀x∈f,¬((u.line:aS)=x.1.line/\(u.col:aS)=x.1.col)):r6 h f A:=by
 cases a with
 |wq e p=>exact p.symm▸x
 |new k e v b r p=>
  intro H L d q;rw [p]at q;exact(JR l q).elim (x H L d) λq=>bA q.2 (z H L)
variable{Z:cy}{w:bX}{A:cZ}{E:aB->aU->Prop}{s:aU}
theorem ab_{x y z:I J}(e:(occurrences ⟨x.toArray⟩ ⟨y.toArray⟩ 0 (U x) (U x+1)).isEmpty=Y)(k:Q (.str ⟨x.toArray⟩ h) s):
  aQ (aI Z w) A (call (.builtin "str.replace") [.str ⟨x.toArray⟩ h,.str ⟨y.toArray⟩ a,.str ⟨z.toArray⟩ v]) Q E s:=by
 have l:((occurrences ⟨x.toArray⟩ ⟨y.toArray⟩ 0 (⟨x.toArray⟩:af).length ((⟨x.toArray⟩:af).length+1)).isEmpty||(⟨y.toArray⟩:af).length==0&&(⟨z.toArray⟩:af).length==0)=Y:=by
  simp only [str_len,e];rfl
 exact SV F.slot_str_replace (tR _ _ _) F.entry_str_replace (F.args_str_replace_3 _ _ _) (gives_str_replace _ _ _ h a v λq=>cY q l) ((aL l).symm▸k)
abbrev LG:cz:=(fV 6 (mZ (D zy))).getD (.Pass default)
def Fo:cE:=v_ (D LG)
def Fp:cE:=(xV Fo).1
def LF:cE:=(uq Fp).1
theorem Xz{G O:I J}(c:U G<=1000)(L:92∉G)(n:yb ⟨G.toArray⟩ ⟨#[45]⟩ ⟨#[92,45]⟩=⟨O.toArray⟩)(B:h.scope.kind=.function)(X:h.kindOf "s"=D .local)(m:s.heap.Ns h.locals a)(R:a "s"=D (.str ⟨G.toArray⟩ x)):
  aQ (aI Z w) A (eval LF h) (λH j=>(∃y,H=.str ⟨O.toArray⟩ y)/\Keeps s j) E s:=lP C (oA _) C DH SD SI (lP C (oA _) C DH SD SI (eO (Jd B X m R ⟨C,λi q=>nc Ag q C,kA C (t9 C (oi C (rO (oi C (rO (lO (ab_ (y:=[92]) (z:=[92,92]) (occ_none L _ (dK _ _)) ⟨C,λi q=>nc Ag q C,kA C (t9 C (oi C (rO (oi C (rO (lO (O4 (DE _) C c (az C) n λP k=>⟨⟨P,C⟩,s.heap,k,C,λb o e=>e⟩)))))))⟩)))))))⟩) C))
end
section
open Builtin.Str
def LH:jg:=(uq Fp).2.1
def Fq:ig:=(uq Fp).2.2.2
noncomputable abbrev Xx:jg:={kind:=.function,names:=[(".0",.local),("s",.local)],isGenerator:=Y,isCoroutine:=ay,more:=[]}
theorem Xy:LH=Xx:=C
theorem XB:∀x∈m3,¬((Fq.line:aS)=x.1.line/\(Fq.col:aS)=x.1.col):=by
 decide+kernel
theorem Ua(f:O.bare=Y)(R:GenOnlyQ G.size (G.push O) o):AllBare o=AllBare G:=propext ⟨λh H L=>by
 obtain⟨i,A,e⟩:=Array.mem_iff_getElem.mp L;have t:(G.push O)[i]?=D H:=ae (Array.getElem?_push_lt A) (aA D e)
 exact R.elim (λq=>h H (q▸afG t)) λq=>h H (afG (ae (q.1.2 i (fH A)) t)),λh=>(h.push f).moved R⟩
theorem abc{p:J->J->Prop}{l:I _}{G:af}(h:ItemsOf (λt H=>∃i,p t i/\∃y,H=.str G y) (strValues l).toArray u)(z:u=1):l.map (·.1)=[G]:=by
 subst z;have w:=h.1;have v:=h.2;cases l with
 |nil=>exact bA w (wI C)
 |cons q r=>
  exact xT ((dg _).symm.trans (DD w))▸ai (v 0 (.str q.1 q.2) C) λk a h=>bH h λg e=>aA (λE=>[E]) (PySem.Value.str.inj e).1
theorem YU{O:I J}(o:U O<=1000):JoinOk "-" [⟨O.toArray⟩]=Y:=by
 show(!aO (_<0+U O+1))=Y;rw [ef];rfl;exact ie.mpr (aD (rQ (aD (fq (jy _)) o) 1) (az C))
variable{c:Cx O}
theorem XA{G O:I J}(gc:U G<=1000)(aN:U O<=1000)(a_:92∉G)(cJ:yb ⟨G.toArray⟩ ⟨#[45]⟩ ⟨#[92,45]⟩=⟨O.toArray⟩)(K:jK c.B c.mg dN P m3)(gi:Fm c.V x9 13 n9)(aF:c.V.code=.ref dN)(ah:gm c.V)(l:aW c.B c.ρ bh ck c.V x9 13 S cU c9 s.heap)(ew:S[10]?=D (.own [.str G]))
  (eR:∀t A,bP s t->aW c.B c.ρ bh ck c.V x9 13 S cU c9 t.heap->Q (.str ⟨O.toArray⟩ A) t):aQ (aI c.Z c.w) c.A (eval Fo c.V) Q rN s:=by
 refine lP C (oA _) C DH SA SH (rO ⟨C,(λw q=>nc Ag q C),kA C (t9 C (oi C ?_))⟩);show aQ _ _ (eval (.GeneratorExp LF [⟨.Name "s" _,.Name "chunks" _,[],0⟩] LH Fq) c.V) _ _ _;rw [Xy];refine cps λh bz=>?_;obtain⟨pP,bC,k,pQ,L,rfl,r,cX,aT⟩:=l.vars 10 "chunks" _ C ew;refine bz (ai cX.jc λv z dU=>?_);subst z;refine bH (jj dU) λA z=>?_;subst z;have er:s.heap.IsList k (xZ [DJ ⟨G.toArray⟩ A]):=i12 _ r C ⟨L,C⟩;refine wpAny_GeneratorExp_walksQ c.R.handled C (A7 (by decide)) (by decide) C C C c.R.d (eO (eK ah l.ns bC (Jf er ?_)) (gi.eY (i:=10) C)) (λkS=>C);have u:=bF.push s.heap {cls:=.type "list_iterator",data:=.fields #[.ref k,.int 0 0]};have E:=l.ux u (Le.refl _) λb o e=>.inl e;have ao:=eS s.heap (o:={cls:=.type "list_iterator",data:=.fields #[.ref k,.int 0 0]}) C;generalize s.heap.push {cls:=.type "list_iterator",data:=.fields #[.ref k,.int 0 0]}=aK at u E ao⊢;refine⟨c.G.nolimit E.base,ai (K.at_ E.inv) λaM H aP=>Xn aF (K.hd E.base) H λlJ n ko bf j kT bl bx=>?_⟩;have T:kZ c.B aK n:=λb f o e=>j b o (λq=>f (q▸K.tab)) e;have a:=E.grow T (K.put E.inv (λ_ _ _ _ e=>e) (λQ h bE o e=>j Q o bE e) (aR bf bl (Xo aP H.2 bx XB))) (Le.refl _) λb o e=>.inl e;refine KO (K.bm a.base) λrM kR bI bQ h rL bR bW bZ b_=>?_;have g:=gS s;have cu:s.heap.objs.size≠P:=ai (K.at_ l.inv) λaM cB h=>(eZ g cB.1).symm;have cC:k≠s.heap.objs.size:=eZ g r;have cF:k≠P:=λq=>(l.tab P K.tab).2.2.2.2 10 (az C) (aT▸q▸.head _);have aj:=j _ _ cu ao;have au:=j _ _ cF (u _ _ r);apply SZ (ah.globals.symm▸c.G.g a.base) bI bQ bR bW bZ b_;have cM:=c.G.nolimit a.base;refine⟨s.heap.objs.size,[s.heap.objs.size,k],[s.heap.objs.size],1,_,_,λ_=>Y,λ_ aH=>∃y,aH=.str ⟨O.toArray⟩ y,C,(λX p=>SU p s.heap.objs.size k cC (xZ [DJ ⟨G.toArray⟩ A])),⟨⟨_,aj,C,C⟩,i12 _ au C ⟨L,C⟩⟩,bO (fk aj) (bO (fk au) eJ),cM,λq=>?_,λmz B=>⟨λX aY i v F ee p m ak R eB=>?_,λX aY i v F ee p m h ak R eB=>?_⟩,λw eM mC nF eN x e6 fj dG fB=>?_⟩
 .have f:=c.G.nolimit l.base;have:cStatics<s.heap.objs.size:=let⟨_,fZ,_⟩:=f;fZ.lt
  exact bA (cO.mp q) (fH this)
 .rw [List.forIn_nil];exact bM ⟨C,F.heap,F.toks,C,λb o e=>e⟩
 .have d:v=.str ⟨G.toArray⟩ A:=by
   cases i with
   |zero=>exact(bj m).symm
   |succ i=>exact aV C m
  subst d;exact Xz gc a_ cJ C C ak R
 .refine lO (SC.joinGen dG.in4_2 (λi t st=>st.1.typeIs) fB (λb f=>?_) (.head _) (λi v d=>ai d λaC h d=>bH d λy e=>cH _ y e) (λt lK R gU=>?_) (az C))
  .show b<eM.objs.size;have x:n.objs.size<w:=x;rw [e6];rcases cD.mp f with q|f
   .exact q▸fG _
   .rcases cD.mp f with q|f
    .exact q▸jZ x
    .exact jZ (qJ (fm.mp f) x)
  .have fy:=abc gU C;rw [fy];refine⟨YU aN,λic aC=>eR _ ic ?_ ?_⟩
   .have jf:t.drawn=s.drawn:=R.drawn;have gV:t.os=s.os:=R.os;have jr:AllBare t.gens=AllBare s.gens:=Ua eN R.gens;exact⟨t.heap,aC,Su (by cases t;subst jf gV;rfl) jr⟩
   .have B:∀{b o},n.get? b=D o->b≠s.heap.objs.size->t.heap.get? b=D o:=λ{b o}e jq=>R.heap b o (λq=>(cD.mp q).elim (λq=>fH (fk e) q) λq=>jq (cO.mp q)) (fj b o e);exact l.grow (h':=t.heap) (λb f o e=>B (T b f o (u _ _ e)) (eZ g e)) (bD.iy a.inv λjt aE o e=>B e λq=>cY (aA mJ g) (q▸c.B.live l.inv jt aE)) (Le.refl _) λb o e=>.inl e
end
section
open Builtin Builtin.Str
theorem Xs(x H:af)(i t:aS)(A y v j:fT):Gives («str.find» ⟨[.str x A,.str H y,.int i v,.int t j],[]⟩) (.int (match occurrences x H (fromIndex x.length i) (min (fromIndex x.length t) x.length) 1 with|k::_=>k|[]=>-1)):=by
 show Gives (match occurrences x H (fromIndex x.length i) (min (fromIndex x.length t) x.length) 1 with|k::_=>retInt k|[]=>do rule "str.find.not-found";retInt (-1)) _;cases occurrences x H _ _ 1 with
 |nil=>exact .rule (.of_eq C)
 |cons k _=>exact .of_eq C
theorem AZ{l:I J}(B:hi<=U l):SJ ⟨l.toArray⟩ ⟨[o].toArray⟩ hi i<->i+1<=hi/\l[i]?=D o:=
 ⟨λh=>⟨h.1,Ep.mp ⟨aD h.1 B,h.2⟩⟩,λh=>⟨h.1,(Ep.mpr h.2).2⟩⟩
theorem W0{l:I J}(v:a0<=p)(t:p+1<=hi)(B:hi<=U l)(h:l[p]?=D o)(R:∀k,a0<=k->k<p->l[k]?≠D o):∃r,occurrences ⟨l.toArray⟩ ⟨[o].toArray⟩ a0 hi 1=p::r:=by
 rw [I5];rcases PySem.StrLaws.occ_first _ _ hi 1 (dm _) (z8 a0 (hi+1-a0)) a0 (λx h=>(IW.mp h).1)with⟨_,z⟩|⟨c,a,b,i,n,u,z⟩
 .exact bA ((AZ B).mpr ⟨t,h⟩) (z p (IW.mpr ⟨v,by exact d_ 0 (.a (.v 0) (.n 1)) (.a (.v 2) (.v 3)) (.a (.v 0) (.n 1)) (.v 1) (.a (.v 1) (.n 1)) (.a (.v 3) (.v 2)) C [_,_,_,_] t m9⟩))
 .have e:=PySem.StrLaws.range'_split_from i;have:a=p:=by
   rcases Nat.lt_trichotomy a p with q|q|q
   .exact bA ((AZ B).mp u).2 (R a e.1 q)
   .exact q
   .exact bA ((AZ B).mpr ⟨t,h⟩) (z p (e.2 p v q))
  subst this;generalize(forIn (z8 a0 _) ((#[]),a0) (SK _ _ hi 1)).run.fst=E at n⊢;cases g:E.toList with
  |nil=>rw [<-afF,g]at n;exact nomatch n
  |cons s r=>rw [<-afF,g]at n;exact⟨r,by rw [bj n]⟩
theorem W3(x H:af)(o A u:J)(h:A<o):occurrences x H o A u=[]:=by
 rw [I5,agG h];rfl
theorem aa5(x H:af)(k u:J)(h:0<H.length)(z:u=1):occurrences x H k k u=[]:=by
 subst z;rw [I5,x6];exact aA Rq ((PySem.StrLaws.occ_none x H k (z8 k 1) k (λi h=>fq (cO.mp h).symm)).mpr λi h q=>bA q.1 (Nat.not_le.mpr ((cO.mp h).symm▸Se ‹_›)))
theorem acL:kH .Sub (.int a) (.int b)=D (.int (a-b)):=C
theorem Lp(u k:J):fromIndex u (k:aS)=k:=by
 delta fromIndex
 rw [aJ (xQ.mpr (qG k)),RK (qG k),IJ]
noncomputable def yC(l:I J):aS:=match l with|k::_=>k|[]=>-1
variable{c:Cx O}{pat:I J}{acc:I T}{i:J}
theorem ae2{h s₂:I J}(O:t<=U h)(i:yC (occurrences ⟨h.toArray⟩ ⟨s₂.toArray⟩ k t 1)=E)(T:EE c n a y o P (.str h))(q:ER c n a P u [e,x,m] X [.str s₂,.int k,.int t])(f:attributeBase o "find" c.V (eval o c.V)=eval o c.V)(L:[e,x,m].all dO=Y)(b:(A.endLine==u.line)=Y):
  EE c n a y (.Call (.Attribute o "find" A) [e,x,m] [] u) X (.int E):=
 xy PySem.F.slot_str_find PySem.F.type_str_find T q f L (az C) b λak v z s l=>by
  refine bH (jj s) λaC j=>?_;subst j;obtain⟨v,z,rfl,g,w⟩:=l.jA (P:=λd=>∃v G,d=v::G/\Den _ _ v _/\bu _ _ G _) λv G p H=>⟨v,G,C,p,H⟩;refine e5 w.HJ λaF aP B r Q=>?_;subst B;refine bH (jj g) λao j=>bH (qf r) λau S=>bH (qf Q) λaE ah=>?_;subst j S ah;refine PO.give λaH aK aM aN aj=>SV F.slot_str_find (tR _ _ _) F.entry_str_find (F.args_str_find_4 _ _ _ _) (Xs _ _ _ _ _ _ _ _) ?_;rw [Lp,Lp,vF (by exact O)];have R:(match occurrences ⟨h.toArray⟩ ⟨s₂.toArray⟩ k t 1 with|k::_=>(k)|[]=>-1)=E:=by rw [<-i];cases occurrences _ _ k t 1<;>rfl
  rw [R];exact aj _ _ (.int _ _)
end
section
open Builtin Builtin.Str
theorem Bb{d p s:I J}(h:d=p++(s++q))(u:a=U p)(f:b=U p+U s):cut (D (a)) (D (b:aS)) d=s:=by
 subst u f;rw [Ku,h,<-gX,cA.symm,z9,RQ]
variable{c:Cx O}{pat:I J}{acc:I T}
abbrev yG:I cz:=mZ (D zy)
theorem adS(K:jK c.B c.mg bf c9 m3)(aF:c.V.code=.ref bf)(F:Fm c.V x9 13 n9)(a:U pat<=1000){p b nt qP:I J}{i:J}(A:i=U p)(h:pat=p++((b++[45])++93::nt))(bR:45∉b)(bW:92∉b)(bZ:(b++[45]).head?≠D 33)(bx:yb ⟨(b++[45]).toArray⟩ ⟨#[45]⟩ ⟨#[92,45]⟩=⟨qP.toArray⟩)(bQ:U qP<=1000):
  ∃z bI cB cu,∀{rest y g},EX c x9 13 (L9 pat acc z (.t (.str [91])) (.t (.int (i+U b+1:J))) (.t (.str qP)) bI cB cu) rest y g->EX c x9 13 (L9 pat acc i (.t (.str [91])) (.t (.int (i+U b+1:J))) a9 iq fJ fK) (hU (mZ (fV 4 R9)) 0::zy::rest) y g:=by
 have s:U (b++[45])=U b+1:=cA;have j:i+U b+1<U pat:=by rw [h,cA,cA,s,<-A];show _<_+(_+(_+1));exact eF (.a (.a (.a (.v 0) (.v 1)) (.n 1)) (.n 1)) (.a (.v 0) (.a (.a (.v 1) (.n 1)) (.a (.v 2) (.n 1)))) C [_,_,_]
 have l:U (b++[45])<=1000:=by rw [s];exact d_ 0 (.a (.v 2) (.n 1)) (.n 1000) (.v 0) (.n 1000) (.a (.a (.a (.v 1) (.v 2)) (.n 1)) (.n 1)) (.v 0) C [_,_,_] a j
 have b_:92∉b++[45]:=λm=>(fE.mp m).elim bW λm=>nomatch cO.mp m;have ck:∃x,pat[i]?=D x/\x≠33:=by
  rw [h,A,oU];cases f:b++[45]with
  |nil=>exact bA (aA U f) (by rw [s];exact nofun)
  |cons x r=>exact⟨x,C,λq=>bZ (by rw [f,q];rfl)⟩
 obtain⟨x,H,G⟩:=ck;have T:pat[i+U b]?=D 45:=by rw [h,A,gX,<-gX,<-cA,oU];rfl
 have Q:∀z fJ fK,ES c x9 13 (L9 pat acc z (.t (.str [91])) (.t (.int (i+U b+1:J))) (.t (.str (b++[45]))) (.own [.str (b++[45])]) fJ fK) LG (L9 pat acc z (.t (.str [91])) (.t (.int (i+U b+1:J))) (.t (.str qP)) (.own [.str (b++[45])]) fJ fK) .next:=λz fJ fK=>by
  constructor;intro cU ah aj ak ao au aC aE;obtain⟨w,m,cX,aK⟩:=aC;show aQ _ _ (exec (.Assign [.Name "stuff" _] Fo _) c.V) ak ao aj;exact kC (XA l bQ b_ bx K F aF w aK C λcM t q aN=>gh (av:=.t (.str qP)) w au aN (i:=9) (by rfl) (by decide) (.inl (F.kn 9 C nofun)) ⟨C,_,C,.str _ _⟩ .nil λaP aT aY a_=>aE aP ah .next (q.trans aY) (Le.refl _) ⟨w,aT,_,a_⟩ dj) C
 have L:∀{y:I (AV O)}{bh bl P bz bC:ig},y[0]?=D (.t (.str pat))->y[5]?=D (.t (.int (i:J)))->y[8]?=D (.t (.int (i+b.length+1:J)))->EE c x9 13 y (.Subscript (.Name "pat" bh) (.Slice (D (.Name "i" bl)) (D (.Name "j" P)) aa bz) bC) y (.str (b++[45])):=λbE aH aM=>
  kQ (zv F 0 C bE) (iM (zv F 5 C aH)) (iM (zv F 8 C aM)) (qz (aD a (az C)) (Bb h A (by rw [s,A];exact fS (eF (.a (.a (.v 0) (.v 1)) (.n 1)) (.a (.v 0) (.a (.v 1) (.n 1))) C [_,_]) (eF (.a (.v 0) (.a (.v 1) (.n 1))) (.a (.a (.v 0) (.v 1)) (.n 1)) C [_,_]))))
 have n:∀{y rest v R},EX c x9 13 (L9 pat acc i (.t (.str [91])) (.t (.int (i+b.length+1:J))) (.t (.str (b++[45]))) (.own []) (.t (.int (i+1:J))) fK) (yG.drop 2) y .next->EX c x9 13 y rest v R->EX c x9 13 (L9 pat acc i (.t (.str [91])) (.t (.int (i+b.length+1:J))) a9 iq fJ fK) (hU (mZ (fV 4 R9)) 0::zy::rest) v R:=λk r=>
  zx (eL F 9 C (dK _ _) (L C C C) C) (zx (dP (b:=ay) (zC (zs [45] (cR ['-'])) (zv F 9 C C) (aA D (by rw [show aO (45∈b++[45])=Y from cL (i6 _ (.head _))];rfl)) C)
   (zx (vp F 10 C (by decide) (rG cT C) C) (zx (eL F 11 C (by decide) (nE (b:=ay) (zC (dS (zv F 0 C C) (zv F 5 C C) (jn (FH a H) H) C) (zs [33] (cR ['!'])) (wZ (ef G)) C) (fh (zv F 5 C C) (zi 1) (ru (d:=(i+1:J)) C))) C) k))) r)
 have u:∀{z:J}{fJ fK:AV O},EX c x9 13 (L9 pat acc z (.t (.str [91])) (.t (.int (i+b.length+1:J))) (.t (.str (b++[45]))) (.own [.str (b++[45])]) fJ fK) (yG.drop 5) (L9 pat acc z (.t (.str [91])) (.t (.int (i+b.length+1:J))) (.t (.str qP)) (.own [.str (b++[45])]) fJ fK) .next:=λ{z fJ fK}=>
  zx (kP (tF F 14 C (zr (fh (QW F 10 13 C C C C) (zi 1) acL) (zr (zi 0) (zr (vo (zi 1)) cT C) C) C) C C C) my C C) (fb (Q _ _ _) C)
 have d:∀{z k:J}{E:aS}{a9 iq fK:AV O},yC (occurrences ⟨pat.toArray⟩ ⟨[45].toArray⟩ k (i+b.length+1) 1)=E->EE c x9 13 (L9 pat acc z (.t (.str [91])) (.t (.int (i+b.length+1:J))) a9 iq (.t (.int k)) fK) (v_ (D (hU (lD (D (hU yG 2))) 0))) (L9 pat acc z (.t (.str [91])) (.t (.int (i+b.length+1:J))) a9 iq (.t (.int k)) fK) (.int E):=λe=>
  ae2 (s₂:=[45]) (e7 j) e (zv F 0 C C) (zr (zs [45] (cR ['-'])) (zr (zv F 11 C C) (zr (zv F 8 C C) cT C) C) C) C C C
 have X:∀{z k:J}{a9 iq fK:AV O},yC (occurrences ⟨pat.toArray⟩ ⟨[45].toArray⟩ k (i+b.length+1) 1)=-1->EW c x9 13 (lE (D (hU yG 2))) (lD (D (hU yG 2))) [] 0 (L9 pat acc z (.t (.str [91])) (.t (.int (i+b.length+1:J))) a9 iq (.t (.int k)) fK) (L9 pat acc z (.t (.str [91])) (.t (.int (i+b.length+1:J))) a9 iq (.t (.int (-1))) fK) .next:=λe=>
  Dg (lG (zb Y) C λ_=>C) (zx (eL F 11 C (by decide) (d e) C) (vt (dP (b:=Y) (zC (zv F 11 C C) (zi 0) C C) (vt HU))))
 cases b with
 |nil=>
  exact⟨i,_,_,_,λk=>n (zx (lI (X (aA yC (aa5 ⟨pat.toArray⟩ ⟨[45].toArray⟩ (i+1) 1 Ae C)))) (zx (eL F 12 C (by decide) (L C C C) C) (zx (dP (b:=Y) (lG (zv F 12 C C) C λ_=>C) (fb (vm F 10 C C (zv F 12 C C) C C C C) C)) u))) k⟩
 |cons o b=>
  have cC:yC (occurrences ⟨pat.toArray⟩ ⟨[45].toArray⟩ (i+1) (i+(o::b).length+1) 1)=((i+(o::b).length:J):aS):=by
   obtain⟨r,e⟩:=W0 (a0:=i+1) (p:=i+(o::b).length) (hi:=i+(o::b).length+1) (by rw [gB];exact eF (.a (.v 0) (.n 1)) (.a (.v 0) (.a (.v 1) (.n 1))) C [_,_]) (dm _) (e7 j) T λk B cF q=>bR (by
    have e:pat[k]?=(o::b)[k-i]?:=by
     rw [h,gX,kU (by exact d_ 0 (.v 1) (.v 2) (.v 1) (.v 0) (.a (.v 0) (.n 1)) (.v 2) C [_,_,_] ((pB A)) B),nG (by exact jS 0 (.a (.v 4) (.n 1)) (.a (.v 3) (.n 1)) (.v 0) (.v 1) (.a (.v 2) (.n 1)) (.a (.v 0) (.a (.v 3) (.n 1))) (.a (.v 4) (.v 1)) (.v 2) C [_,_,_,_,_] ((iX A)) cF ((lz (d_ 0 (.v 1) (.v 2) (.v 1) (.v 0) (.a (.v 0) (.n 1)) (.v 2) C [_,_,_] ((pB A)) B)))),A]
    rw [e]at q
    exact cN q)
   rw [e];rfl
  have cJ:cut (D (i:aS)) (D ((i+(o::b).length:J):aS)) pat=o::b:=Bb (p:=p) (q:=[45]++93::nt) (by rw [h,gX]) A (by rw [A]);have S:cut (D ((i+(o::b).length+1:J):aS)) (D ((i+(o::b).length+1:J):aS)) pat=[]:=Bb (p:=p++((o::b)++[45])) (s:=[]) (q:=93::nt) (by rw [h];simp) (by rw [cA,s,A];rfl) (by rw [cA,s,A];rfl)
  exact⟨i+(o::b).length+1,_,_,_,λk=>n (zx (lI (ow (lG (zb Y) C λ_=>C) (zx (eL F 11 C (by decide) (d cC) C) (zx (dP (b:=ay) (zC (zv F 11 C C) (zi 0) (mh (ef (xQ.mpr (qG _)))) C) fY) (zx (vm F 10 C C (kQ (zv F 0 C C) (iM (zv F 5 C C)) (iM (zv F 11 C C)) (qz (aD a (az C)) cJ)) C C C C)
   (zx (eL F 5 C (by decide) (fh (zv F 11 C C) (zi 1) (ru (d:=(i+(o::b).length+1:J)) C)) C) (fb (eL F 11 C (by decide) (fh (zv F 11 C C) (zi 3) (ru (d:=(i+(o::b).length+3:J)) C)) C) C)))))
   (X (by rw [W3 _ _ _ _ _ (by exact eF (.a (.a (.a (.v 0) (.a (.v 1) (.n 1))) (.n 1)) (.n 1)) (.a (.a (.v 0) (.a (.v 1) (.n 1))) (.n 3)) C [_,_])];rfl))))
   (zx (eL F 12 C (by decide) (kQ (zv F 0 C C) (iM (zv F 5 C C)) (iM (zv F 8 C C)) (qz (aD a (az C)) S)) C) (zx (dP (b:=ay) (lG (zv F 12 C C) C λ_=>C) (fb (QK (l₁:=[.str (o::b)]) (l₂:=[.str (o::b)]) (ii:=-1) (j:=0) F 10 C C (vo (zi 1)) C C (zs [45] (cR ['-'])) C (O9 (by show(o::b).length+1<=_;exact d_ 0 (.a (.a (.v 1) (.n 1)) (.n 1)) (.n 1000000) (.a (.a (.v 1) (.n 1)) (.n 1)) (.v 0) (.v 0) (.n 1000) C [_,_] ((pB s)) l)) C C (T9 (op:=.Add) C)) C)) u))) k⟩
end
structure Px where
 k:J
 b:I J
 s1:I J
 ps:I J
 r:Row
def wY(d S:I J):I J:=if S.isEmpty then d else pJ d 0 S
noncomputable def Px.src(p:Px):I J:=if p.r.b then 91::(p.b++[93])else [p.k]
noncomputable def Row.ny(r:Row):I J:=if r.b then [91]++r.i++[93]else r.i
def Um(b d S i:I J):bw:=
 !b.isEmpty&&b.headD 33 !=33&&!aO (93∈b.tail)&&aO (b.length<=20)&&aO (d.length<=100)&&!d.isEmpty&&
 (if 45∈b then b==b.dropLast++[45]&&!aO (45∈b.dropLast)&&!aO (92∈b.dropLast)&&yb (iA b) (iA [45]) (iA [92,45])==iA d else yb (iA b) (iA [92]) (iA [92,92])==iA d)&&
 (if S.isEmpty then uQ wd.toArray d.toArray 1 else wu wd d 0 S&&aO (S.length<=20))&&
 (!(wY d S).isEmpty&&(wY d S).headD 33 !=33&&aO ((wY d S).length<=100)&&i==uG (wY d S))
def Px.ok(p:Px):bw:=p.r.ok&&if p.r.b then Um p.b p.s1 p.ps p.r.i else !aO (p.k∈[42,63,91])&&aO (p.k<128)&&p.r.i==lZ p.k
structure Jv(c:Cx O):Prop where
 no:∀l,uQ wd.toArray l.toArray 1=Y->l≠[]->l.length<=1000->∀lv:I (AV O),lv[9]?=D (.t (.str l))->EE c x9 13 lv t7 lv (.str l)
 ys:∀l ps,wu wd l 0 ps=Y->ps≠[]->l.length<=1000->ps.length<=20->∀lv:I (AV O),lv[9]?=D (.t (.str l))->EE c x9 13 lv t7 lv (.str (pJ l 0 ps))
abbrev AG(d:I J)(o:I T)(i:J)(a:J->AV q):I (AV q):=L9 d o i (a 0) (a 1) (a 2) (a 3) (a 4) (a 5)
theorem LR(h:(!b.isEmpty&&b.headD 33 !=33)=Y):∃x r,b=x::r/\x≠33:=by
 cases b with
 |nil=>exact nomatch h
 |cons x r=>exact⟨x,r,C,bne_iff_ne.mp h⟩
section
variable{c:Cx O}{pat:I J}{acc:I T}
theorem zI(h:EX c x9 13 y B9 (L9 pat acc i e q g n H L) .next):∃b,EX c x9 13 y B9 (AG pat acc i b) .next:=⟨λi=>[e,q,g,n,H,L].getD i .un,h⟩
theorem adU(K:jK c.B c.mg aH bI m3)(aj:c.V.code=.ref aH)(F:Fm c.V x9 13 n9)(n:Jv c)(ak:∀a,a<128->CN c "escape" [.str [a]] (.str (lZ a)))(t:U pat<=1000)(X:U acc<=100000){p:Px}(A:p.ok=Y){h rest:I J}(e:pat=h++(p.src++rest)):
  ∃aP,EX c x9 13 (L9 pat acc (U h) a7 a8 a9 iq fJ fK) B9 (AG pat (acc++[.str p.r.ny]) (U h+U p.src) aP) .next:=by
 have A:=(cQ.mp A).2;cases f:p.r.b with
 |false=>
  have Q:p.src=[p.k]:=aJ (by rw [f];exact nofun);have m:p.r.ny=p.r.i:=aJ (by rw [f];exact nofun);rw [f,aJ nofun]at A;simp only [oz,tH,decide_eq_false_iff_not,rZ]at A;rw [Q]at e⊢;rw [m,iS A.2];exact zI (adR F t (by rw [e,oU];rfl) A.1.1 (ak p.k A.1.2) X)
 |true=>
  have Q:p.src=91::(p.b++[93]):=aL f;have m:p.r.ny=[91]++p.r.i++[93]:=aL f;rw [f,aL C]at A;have A:(_&&_&&_&&_&&_&&_&&_&&_&&_)=Y:=A;simp only [oz]at A;refine cps λbl aE=>?_;obtain⟨⟨⟨⟨⟨⟨⟨⟨aM,ah⟩,P⟩,R⟩,d⟩,r⟩,x⟩,v⟩,⟨⟨au,aC⟩,u⟩,aF⟩:=A;obtain⟨l,z,T,G⟩:=LR (cQ.mpr ⟨aM,ah⟩);obtain⟨bf,H,s,k⟩:=LR (cQ.mpr ⟨au,aC⟩);have d:=dh d;have u:=dh u;have B:∀y:I (AV O),y[9]?=D (.t (.str p.s1))->EE c x9 13 y t7 y (.str (bf::H)):=λy L=>by
   rw [<-s]
   delta wY
   by_cases q:p.ps.isEmpty=Y
   .rw [aL q]at v⊢;exact n.no _ v (λb=>by rw [b]at r;exact nomatch r) (aD d (az C)) y L
   .rw [aJ q]at v⊢;have v:=cQ.mp v;exact n.ys _ _ v.1 (λb=>q (by rw [b];rfl)) (aD d (az C)) (dh v.2) y L
  have o:U H<=100:=by rw [s]at u;exact aD (rS _) u
  have g:93∉z:=λaK=>by rw [T,cL (show 93∈(l::z).tail from aK)]at P;exact nomatch P
  apply aE;rw [Q]at e;have w:pat=h++91::(l::z++93::rest):=by rw [e,T];simp
  have aN:U h+U p.src=U h+2+U z+1:=by rw [Q,T];simp;exact fS (eF (.a (.v 0) (.a (.a (.a (.v 1) (.n 1)) (.n 1)) (.n 1))) (.a (.a (.a (.v 0) (.n 2)) (.v 1)) (.n 1)) C [_,_]) (eF (.a (.a (.a (.v 0) (.n 2)) (.v 1)) (.n 1)) (.a (.v 0) (.a (.a (.a (.v 1) (.n 1)) (.n 1)) (.n 1))) C [_,_])
  rw [aN,m,iS aF,s]
  by_cases q:45∈p.b
  .rw [aL q]at x;simp only [oz,tH,decide_eq_false_iff_not]at x;obtain⟨⟨⟨i,ao⟩,aY⟩,a_⟩:=x;have i:=iS i;have j:=aA U i;rw [cA]at j;have E:U p.b=U z+1:=by rw [T];rfl
   have aT:U h+2+U z=U h+1+U p.b.dropLast+1:=by have:U p.b=U p.b.dropLast+1:=j;exact fS (d_ 0 (.a (.a (.v 3) (.n 2)) (.v 2)) (.a (.a (.a (.v 3) (.n 1)) (.v 1)) (.n 1)) (.v 0) (.a (.v 1) (.a (.n 0) (.n 1))) (.a (.v 2) (.n 1)) (.v 0) C [_,_,_,_] ((iX j)) ((pB E))) (d_ 0 (.a (.a (.a (.v 3) (.n 1)) (.v 1)) (.n 1)) (.a (.a (.v 3) (.n 2)) (.v 2)) (.a (.v 1) (.a (.n 0) (.n 1))) (.v 0) (.v 0) (.a (.v 2) (.n 1)) C [_,_,_,_] ((pB j)) ((iX E)))
   refine KQ (adS (acc:=acc) (a9:=a9) (iq:=iq) (fJ:=fJ) (fK:=fK) K aj F t (p:=h++[91]) (b:=p.b.dropLast) (nt:=rest) (qP:=p.s1) (i:=U h+1) (cA (bs:=[91])).symm (by rw [<-i,e];simp) ao aY (by rw [<-i,T];exactλb=>G (bj b)) (by rw [<-i];exact iS a_) (aD d (az C))) λbx bz bC bE bh=>?_;exact zI (Ql F t w G g (by rw [aT];exact bh (Qm F X B k o)))
  .rw [aJ q]at x;have S:cut (D ((U h+1:J):aS)) (D ((U h+2+U z:J):aS)) pat=p.b:=Bb (p:=h++[91]) (q:=93::rest) (by rw [e];simp) (cA (bs:=[91])).symm (by rw [T,cA];simp;exact fS (eF (.a (.a (.v 0) (.n 2)) (.v 1)) (.a (.a (.v 0) (.n 1)) (.a (.v 1) (.n 1))) C [_,_]) (eF (.a (.a (.v 0) (.n 1)) (.a (.v 1) (.n 1))) (.a (.a (.v 0) (.n 2)) (.v 1)) C [_,_]))
   exact zI (Ql F t w G g (zx (eL F 9 C (dK _ _) (kQ (zv F 0 C C) (iM (zv F 5 C C)) (iM (zv F 8 C C)) (qz (aD t (az C)) S)) C)
    (zx (ab9 F C q (aD (dh R) (az C)) (iS x)) (Qm F X B k o))))
end
def mq(S:I Px):I J:=(S.map λp=>42::p.src).flatten++[42]
def sW(S:I Px):I T:=(S.map λp=>[T.atom,.str p.r.ny]).flatten++[.atom]
section
variable{c:Cx O}{pat:I J}
theorem ac4(p:Px):0<U p.src:=by
 delta Px.src;split<;>exact gE _
theorem adT(K:jK c.B c.mg y ah m3)(j:c.V.code=.ref y)(F:Fm c.V x9 13 n9)(G:Jv c)(X:∀a,a<128->CN c "escape" [.str [a]] (.str (lZ a)))(t:U pat<=1000):∀(S:I Px)(h:I J)(o:I T)(a:J->AV O),pat=h++mq S->U o+2*U S<=1000->(∀p∈S,p.ok=Y)->(o=[]\/∃q Q,o=q++[.str Q])->
  ∃n b,EW c x9 13 (lE (fV 3 (dD (bB 12)))) B9 [] n (AG pat o (U h) a) (AG pat (o++sW S) (U pat) b) .next:=λH=>H.rec
 (λh o a i z k u=>by
  have e:pat=h++[42]:=i;have m:U h<U pat:=by rw [e,cA];exact fG _
  have g:U pat=U h+1:=by simp only [e,cA];rfl
  have st:=Qq (a7:=a 0) (a8:=a 1) (a9:=a 2) (iq:=a 3) (fJ:=a 4) (fK:=a 5) F t (by rw [e,oU];rfl) u (aD (aD (fO _ _) z) (az C));rw [<-g]at st
  exact bH (zI st) λb r=>⟨1,b,ow (zC (zv F 5 C C) (zv F 6 C C) (mh (cL (jY.mpr m))) C) r (rK (zC (zv F 5 C C) (zv F 6 C C) (mh (ef (IF _))) C) fY)⟩)
 (λp S d h o a i z k u=>by
  rw [gB]at z;have s:pat=h++(42::(p.src++mq S)):=by rw [i];show _++((42::p.src++_)++_)=_;rw [gX];rfl
  have v:pat=(h++[42])++(p.src++mq S):=by rw [s,gX];rfl
  have R:pat=(h++[42]++p.src)++mq S:=by rw [v,gX (h++[42])]
  have x:U (h++[42])=U h+1:=cA;have A:=ac4 p;have f:U (h++[42])<U pat:=by rw [v];simp only [cA];exact cS 0 (.a (.a (.v 1) (.a (.n 0) (.n 1))) (.n 1)) (.a (.a (.v 1) (.a (.n 0) (.n 1))) (.a (.v 0) (.v 2))) (.a (.n 0) (.n 1)) (.v 0) C [_,_,_] A
  have B:U h<U pat:=by rw [x]at f;exact cS 0 (.a (.v 0) (.n 1)) (.v 1) (.a (.a (.v 0) (.n 1)) (.n 1)) (.v 1) C [_,_] f
  have st:=Qq (a7:=a 0) (a8:=a 1) (a9:=a 2) (iq:=a 3) (fJ:=a 4) (fK:=a 5) F t (by rw [s,oU];rfl:pat[U h]?=D 42) u (by exact cS 0 (.v 0) (.n 100000) (.a (.v 0) (.m 2 (.a (.v 1) (.n 1)))) (.n 1000) C [_,_] z);rw [<-x]at st;refine bH (zI st) λb r=>bH (adU (acc:=o++[.atom]) (a7:=b 0) (a8:=b 1) (a9:=b 2) (iq:=b 3) (fJ:=b 4) (fK:=b 5) K j F G X t (by rw [cA];show _+1<=_;exact cS 0 (.a (.v 0) (.n 1)) (.n 100000) (.a (.v 0) (.m 2 (.a (.v 1) (.n 1)))) (.n 1000) C [_,_] z) (k p (.head _)) v) λE l=>?_;rw [<-cA]at l;refine jO (d _ (o++[.atom]++[.str p.r.ny]) E R (by rw [cA,cA];show _+1+1+_<=_;exact cS 0 (.a (.a (.a (.v 0) (.n 1)) (.n 1)) (.m 2 (.v 1))) (.n 1000) (.a (.v 0) (.m 2 (.a (.v 1) (.n 1)))) (.n 1000) C [_,_] z) (λq L=>k q (.tail _ L)) (.inr ⟨o++[.atom],p.r.ny,C⟩)) λn P w=>⟨n+2,P,?_⟩;rw [show o++[.atom]++[.str p.r.ny]++sW S=o++sW (p::S)by simp [sW]]at w
  exact ow (zC (zv F 5 C C) (zv F 6 C C) (mh (cL (jY.mpr B))) C) r (ow (zC (zv F 5 C C) (zv F 6 C C) (mh (cL (jY.mpr f))) C) l w))
end
section
variable{y:Ly O}
theorem aeq(k:y.DC "_translate" 12 (.ref b))(K:jK y.B y.mg b P m3)(t:vX y)(H:∀a,a<128->y.F n "escape" [.str [a]] (.str (lZ a)))(S:I Px)(B:U S<=100)(X:U (mq S)<=1000)(s:∀p∈S,p.ok=Y):
  y.F (n+1) "_translate" [.str (mq S),.atom,.str [46]] (.list (sW S)):=by
 refine y.W8 12 x9 n9 k C C C (ez C) (λf code o=>Ug λE E E=>C) λL x G i F q e=>⟨[.t (.str (mq S)),.t .atom,.t (.str [46]),.t (.list (sW S)),.un,.t (.int (U (mq S))),.t (.int (U (mq S))),.un,.un,.un,.un,.un,.un],Q1 F 3 C (ez C) (λm=>?_) C ?_⟩
 .exact jO (adT (c:=(y.c L x G n i).re m) K q F (⟨λl w v R j h=>adq t K i F q e w v (aD R (az C)) h,λl S w v R g j h=>adt t K i F q e w v R g h⟩) H X S [] [] (λE=>.un) C (by show 0+_<=_;exact d_ 0 (.a (.n 0) (.m 2 (.v 0))) (.n 1000) (.v 0) (.n 100) (.v 0) (.n 100) C [_] B B) s (.inl C)) λu d r=>rE (rI 7 (rE (rI 8 (rE (rI 9 (rE (rI 10 (rE (rI 11 (rE (rI 12 (zx (Q4 F 3 4 C C C (ez C)) (zx (z2 F 5 6 5 6 C (ez C) C (ez C) C C (zr (zi 0) (zr (rH F 13 C (zv F 0 C C) (eU (aD X (az C))) C) cT C) C) C (C) C C C C) (zx (lI r) (zx (xt (zC (zv F 5 C C) (zv F 6 C C) (aA D (beq_self_eq_true _)) C)) (Rj 3 C (qE 4 (h_ (je (zQ F 3 C C)))))))))) C)) C)) C)) C)) C)) C
 .exact oA _
noncomputable def n4:I (af×fc):=[("pat",.local),("STAR",.local),("parts",.local),("object",.globalImplicit),("_translate",.globalImplicit),("_join_translated_parts",.globalImplicit)]
noncomputable def x4:I af:=["pat","STAR","parts"]
theorem O6(r:Row):r.x=r.ny++[41]:=by
 delta Row.x Row.ny;split<;>simp
theorem abJ(S:I Px):qn (S.map (·.r.ny))=sW S:=by
 delta qn sW;rw [dH];rfl
theorem YV(S:I Px):sJ++(q8 (S.map (·.r.ny))).flatten++CY=iL (S.map (·.r)):=by
 have e:((S.map (·.r.ny)).map λA=>[40,63,62,46,42,63]++A++[41]).flatten=kK (S.map (·.r)):=by
  delta kK
  rw [dH,dH];exact aA List.flatten (kr λp _=>ae (gX ry _ _) (aA _ (O6 p.r).symm))
 delta q8 iL
 rw [RX,e,gX,gX];rfl
theorem aer(h:y.aZ "translate" 7)(b:y.DC "_translate" 12 (.ref x))(s:y.aZ "_join_translated_parts" 13)(K:jK y.B y.mg x P m3)(i:vX y)(H:∀a,a<128->y.F u "escape" [.str [a]] (.str (lZ a)))(S:I Px)(B:U S<=100)(X:U (mq S)<=1000)(l:U (iL (S.map (·.r)))<=100000)(k:∀p∈S,p.ok=Y):
  y.F (u+2) "translate" [.str (mq S)] (.str (iL (S.map (·.r)))):=by
 refine y.fn 7 x4 n4 h C C C (ez C) (λo code r=>bind1 λE=>C) λL f G j F=>?_;have e:=YV S
 have O:=aeh (n:=u) s (S.map (·.r.ny)) (λt m=>ai (dZ.mp m) λp n q=>by
  have:=Row.len (cQ.mp (k p n)).1;rw [O6,cA]at this
  exact q▸aD (fO _ _) (aD this (az C))) (by rw [dg];exact B) (e.symm▸l)
 rw [abJ,e]at O
 exact⟨[.t _,.un,.un],afd F 1 3 C (fO _ _) C (λm=>(rE (rI 1 (rE (rI 2 (zx (eL F 2 C (fG _) (nB F 4 C (zr (zv F 0 C C) (zr (zv F 1 C C) (zr (zs [46] (cR ['.'])) cT C) C) C) (aeq b K i H S B X k) C) C)
  (h_ (je (nB F 5 C (zr (zv F 2 C C) (zr (zv F 1 C C) cT C) C) O C))))) C)) C)) C C C⟩
end
noncomputable def gq:I (I J):=[[97,98,45,93],[94,91,97,93],[92,38,124,126],[42,63,97,46],[45,94,93,40],[10,91,98,42]]
noncomputable def Es(l:I J):I J:=(if 93∈l then [93]else [])++(l.filter λa=>aO (a∉[93,45]))++if 45∈l then [45]else []
noncomputable def s1F(b:I J):I J:=if 45∈b then b.dropLast++[92,45]else b.flatMap λa=>if a=92 then [92,92]else [a]
noncomputable def LW(s:I J):I J:=(dz s.length).filter λi=>aO (s.getD i 0∈[38,124,126])
def J5(b:I J):Px:=let d:=s1F b;let i:=uG (wY d (LW d));⟨0,b,d,LW d,⟨Y,i,(jV ay i).getD []⟩⟩
def nk(k:J):Px:=if k∈[42,63,91]then J5 [k]else⟨k,[],[],[],⟨ay,lZ k,[k]⟩⟩
def gf(l:I J):Px:=J5 (Es l)
noncomputable def CW:I J->I (I J)
 |[]=>[[]]
 |a::r=>(CW r).map (a::·)++CW r
theorem WZ(q:J->bw):∀l,l.filter q∈CW l:=λl=>l.rec (.head _) λa r n=>by
 show(match q a with|Y=>a::r.filter q|ay=>r.filter q)∈_;cases q a with
 |true=>exact gj _ (fM n)
 |false=>exact i6 _ n
def UH(k:J):bw:=(nk k).ok&&uY [(nk k).r]&&(nk k).r.t==[k]
def UG(o l:I J):bw:=l.isEmpty||(gf l).ok&&uY [(gf l).r,(gf l).r]&&o.all λa=>aO (a∈(gf l).r.t)==aO (a∈l)
theorem UJ:(gq.all λo=>o.all UH)=Y:=by decide+kernel
theorem UI:(gq.all λo=>(CW o).all (UG o))=Y:=by decide+kernel
section
variable{t w:I J}
theorem acS(t:I J):∀r,lC t r=U r/\r.countP (λx=>aO (x∈t))=0\/lC t r<U r/\r.countP (λx=>aO (x∈t))=(r.drop (lC t r+1)).countP (λx=>aO (x∈t))+1:=λT=>T.rec
 (.inl ⟨C,C⟩)
 (λx r n=>by
  by_cases m:x∈t
  .have e:lC t (x::r)=0:=aL m;exact .inr ⟨e▸gE _,by rw [e,List.countP_cons_of_pos (by exact cL m)];rfl⟩
  .have e:lC t (x::r)=lC t r+1:=aJ m;rw [e,(List.countP_cons_of_neg (by exactλq=>m (dh q)))]
   exact n.imp (λh=>⟨aA (·+1) h.1,h.2⟩) λh=>⟨Sn h.1,h.2⟩)
theorem LI:∀(n a:J),a<=U w->ql (nH n t) w a=aO (n<=(w.drop a).countP λx=>aO (x∈t)):=λn=>n.rec
 (λa _=>(cL (gF _)).symm)
 (λn e a u=>by
  show(if U w<a+lC t _+1 then ay else ql _ w _)=_;have P:U (w.drop a)=U w-a:=xU;rcases acS t _ with h|h
  .rw [h.1,P,aL (by exact cS 0 (.a (.v 1) (.n 1)) (.a (.a (.v 0) (.v 2)) (.n 1)) (.v 1) (.a (.v 2) (.v 0)) C [_,_,_] m9),h.2];exact(ef (Nat.not_succ_le_zero n)).symm
  .have X:=h.1;apply ae (aJ (by exactλr=>rh (m8 0 (.n 1) (.n 0) (.v 2) (.v 3) (.a (.v 4) (.n 1)) (.v 2) (.a (.v 1) (.n 1)) (.a (.a (.v 0) (.v 4)) (.n 1)) (.a (.v 3) (.v 0)) (.v 1) C [_,_,_,_,_] ((iX P)) h.1 r ((lz u)))));rw [e _ (by exact jS 0 (.a (.a (.v 0) (.v 4)) (.n 1)) (.v 1) (.v 2) (.v 3) (.a (.v 4) (.n 1)) (.v 2) (.a (.v 3) (.v 0)) (.v 1) C [_,_,_,_,_] ((iX P)) h.1 ((lz u))),h.2,List.drop_drop]
   exact decide_eq_decide.mpr ⟨λq=>jx (by simp only [vD]at q;exact q),λq=>by exact agx q⟩)
theorem XC(k:J):ql [[k]] w 0=aO (k∈w):=by
 refine ae (LI 1 0 (gF _)) (decide_eq_decide.mpr ?_);refine(Nat.succ_le_iff.trans List.countP_pos_iff).trans ⟨λh=>ai h λa m e=>cO.mp (dh e)▸m,λh=>(aR (k) (h) (cL gC))⟩
theorem XD{l:I J}(h:∀x∈w,x∈t<->x∈l):ql [t,t] w 0=aO (2<=w.countP λx=>aO (x∈l)):=by
 apply ae (LI 2 0 (gF _));rw [List.drop_zero,afZ (q:=λx=>aO (x∈l)) λx m=>by rw [rZ,rZ];exact h x m]
theorem Pk(h:o∈gq){k:J}(m:k∈o):(nk k).ok=Y/\uY [(nk k).r]=Y/\(nk k).r.t=[k]:=by
 have:=gK.mp (gK.mp UJ o h) k m;have:=cQ.mp this;have w:=cQ.mp this.1;exact⟨w.1,w.2,iS this.2⟩
theorem J7(h:o∈gq)(q:J->bw)(z:o.filter q≠[]):(gf (o.filter q)).ok=Y/\uY [(gf (o.filter q)).r,(gf (o.filter q)).r]=Y/\∀a∈o,a∈(gf (o.filter q)).r.t<->a∈o.filter q:=by
 have:=gK.mp (gK.mp UI o h) _ (WZ q o);rcases Dl.mp this with e|e
 .exact bA (z5.mp e) z
 .have e:=cQ.mp e;have w:=cQ.mp e.1;exact⟨w.1,w.2,λa m=>decide_eq_decide.mp (iS (gK.mp e.2 a m))⟩
theorem PF(k:J):mq [nk k]=42::(pD k++[42]):=by
 have e:(nk k).src=pD k:=by
  delta nk pD
  by_cases h:k∈[42,63,91]
  .rw [aL h,aL h];rfl
  .rw [aJ h,aJ h];rfl
 show 42::(nk k).src++[]++[42]=_;rw [e,ju];rfl
theorem PG(l:I J):mq [gf l,gf l]=42::j3 l++42::j3 l++[42]:=by
 have e:(gf l).src=j3 l:=by
  show 91::Es l++[93]=_
  delta j3 Es
  rfl
 show 42::(gf l).src++(42::(gf l).src++[])++[42]=_;rw [e];simp
end
noncomputable def d8:I (af×fc):=("script",.local)::("numbers",.local)::("letters",.cell)::("j",.cell)::("words",.local)::("octets",.local)::("word",.local)::("stream",.cell)::("told",.cell)::("images",.cell)::("stars",.cell)::("stands",.cell)::("sorter",.local)::("k",.cell)::("ring",.local)::("rounds",.cell)::("once",.local)::("powers",.cell)::("turn",.local)::("n",.cell)::("near",.cell)::("late",.cell)::("far",.local)::("due",.local)::("lasting",.cell)::("two",.cell)::("come",.cell)::("turned",.local)::("again",.local)::("groups",.cell)::("last",.cell)::("endless",.local)::("sum",.globalImplicit)::("_law_counted",.globalImplicit)::("_law_stream",.globalImplicit)::("read_string1",.globalImplicit)::("TopologicalSorter",.globalImplicit)::("range",.globalImplicit)::("_law_rounds",.globalImplicit)::("_law_times",.globalImplicit)::("sorted",.globalImplicit)::("translate",.globalImplicit)::("_law_bracket",.globalImplicit)::("max",.globalImplicit)::[]
noncomputable def b9:I af:=["script","numbers","letters","j","words","octets","word","stream","told","images","stars","stands","sorter","k","ring","rounds","once","powers","turn","n","near","late","far","due","lasting","two","come","turned","again","groups","last","endless"]
abbrev bG(i:J):cz:=hU (dD (bB 28)) i
noncomputable def zc(s:I aS):I aS:=(s.take 4++[1042,9,0,14]).take 4
def qv(s:I aS):I J:=(zc s).map λx=>(x.fmod 1000000).toNat
theorem GP(s:I aS):U (zc s)=4:=ae z6 (vF (cA▸dK 4 _))
theorem aaF(s:I aS):∀x∈qv s,x<1000000:=λx j=>by
 obtain⟨H,E,rfl⟩:=dZ.mp j;exact(Int.toNat_lt (afU _ (by decide))).mpr (Int.fmod_lt_of_pos _ (by decide))
theorem W7(x:aS):(x.fmod 1000000).toNat=x.fmod 1000000:=afX (afU x (by decide))
theorem P6:(10:aS)^(6:aS).toNat=1000000:=C
theorem gd{lv:I (AV q)}{i:J}(h:lv[i]?=D a):lv[i]?.getD AV.un=a:=by rw [h];rfl
theorem gs{y:I (AV q)}(h:y[i]?=D a)(z:j≠i):(y.set j x)[i]?=D a:=ae (lN z) h
theorem no2(h:y[i]?=D (.t a))(O:y[t]?=D (.t b)):noOwn y [i,t]=Y:=eP h (eP O C)
theorem zM(h:EI G c n u y e P p)(q:p=us):EI G c n u y e P us:=q▸h
theorem yu(l:I J):(l.map λx:J=>(x:aS)).sum=((l.sum)):=l.rec C λx l n=>by simp only [iN,IZ,n,IZ];rfl
section
variable{c:Cx O}{lv:I (AV O)}{ns:I J}{ab:I J}
theorem aaf(s:I aS):(zc s).map (λx=>T.int ((x.fmod 1000000).toNat))=nT (qv s):=by delta nT qv;simp only [dH];rfl
theorem s0(F:Fm c.V b9 32 d8)(s:I aS)(B:U s<=100)(n:lv[0]?=D (.t (.list (s.map .int)))):ES c b9 32 lv (bG 0) (lv.set 1 (.own (nT (qv s)))) .next:=by
 have t:cut aa (D ((4:J))) (s.map T.int)=(s.take 4).map T.int:=by simp only [EH,List.map_take]
 have b:cut aa (D ((4:J))) ((s.take 4).map T.int++[.int 1042,.int 9,.int 0,.int 14])=(zc s).map T.int:=by rw [EH];delta zc;simp
 rw [<-aaf];refine Dc "x" [] [] _ F C C C (jd (kQ (fh (kQ (zv F 0 C n) rJ (iM (zi 4)) (w6 (by rw [dg];exact aD B (az C)) t)) (oq (zr (zi 1042) (zr (zi 9) (zr (zi 0) (zr (zi 14) cT C) C) C) C) C) (G7 (by simp;exact aD (Ad _ _) (az C)))) rJ (iM (zi 4)) (w6 (by simp;exact aD (Ad _ _) (az C)) b))) C
  (λd o y E=>gJ (ae7 (zv o 0 C C) (fh (zi 10) (zi 6) (Pa (Ud (dK _ _)) (by decide) (by decide))) (nofun)) ?_) C (by rw [GP];exact dK _ _) (i:=1) C (az C) (i':=1) C C (C)
 simp only [P6,W7]
noncomputable def yq(ns:I J):J:=(ns.map (·/256)).sum%6
theorem s1(F:Fm c.V b9 32 d8)(z:∀x∈ns,x<1000000)(X:U ns<=4)(R:gq[yq ns]?=D ab)(w:lv[1]?=D (.t (.list (nT ns)))):ES c b9 32 lv (bG 1) (lv.set 2 (.t (.str ab))) .next:=by
 have B:(ns.map (·/256)).sum<2^2000:=by
  have:∀l:I J,(∀x∈l,x<1000000)->(l.map (·/256)).sum<=U l*1000000:=λl=>l.rec (λ_=>dm _) λx l n h=>by
   rw [iN,IZ];exact aD (iE (aD (Nat.div_le_self _ _) (e7 (h x (.head _)))) (n λH m=>h H (.tail _ m))) (fq (ae (qI _ _) (Nat.succ_mul _ _).symm))
  exact kW (this ns z) (kW (I2 _ X) (by decide+kernel))
 refine eL F 2 C (az C) (dS (oq (zr (zs [97,98,45,93] (cR ['a','b','-',']'])) (zr (zs [94,91,97,93] (cR ['^','[','a',']'])) (zr (zs [92,38,124,126] (cR ['\\','&','|','~'])) (zr (zs [42,63,97,46] (cR ['*','?','a','.'])) (zr (zs [45,94,93,40] (cR ['-','^',']','('])) (zr (zs [10,91,98,42] (cR ['\n','[','b','*'])) cT C) C) C) C) C) C) C)
  (fh (gJ (xA F 32 C (zf (jW "x" [] [] (λx:J=>T.int _) F C C C (jd (zv F 1 C w)) C (λd o y i=>fh (zv o 0 C C) (zi (256:J)) (O_ (eH (z y i) (by decide+kernel)) (gE _))) C (aD X (az C)))) (ae (aA kJ dH.symm) (ints_map _)) C) ?_) (zi _) (G_ B (gE _))) (fR (eH (vG _ (gE 5)) (az C)) ?_) C) C
 .rw [<-yu,dH];rfl
 .show(gq.map T.str)[yq ns]?=_;apply ae (jv);rw [R];rfl
end
section
variable{A:J->J->J}{L:J->bw}{n i j k x y:J}
theorem G1(m n i k:J)(B:k<4):Pw A (n+m) i k=S4 λj=>Pw A n i j*Pw A m j k:=by
 induction m generalizing k with
 |zero=>
  exact(yo (v:=Pw A n i) B).symm.trans (iT λj _=>by
   show _=Pw A n i j*(if j=k then 1 else 0)
   by_cases q:j=k
   .rw [aL q,aL q,Si]
   .rw [aJ q,aJ q,x_])
 |succ m h=>
  show S4 (λl=>Pw A _ i l*A l k)=S4 λj=>Pw A n i j*S4 λl=>Pw A m j l*A l k;apply ae (iT λl X=>ae (aA (·*A l k) (h l X)) (ae (I1 _ _) (D5 _ _).symm));apply ae (Ju (λj l=>A l k*(Pw A n i j*Pw A m j l)));exact iT λj _=>ae (iT λl _=>by rw [I1 _,I0]) (D5 _ _)
theorem QC(O:i<4):Wy A 1 i j<->0<A i j:=⟨λh=>dF h λl X e p=>e▸p,λh=>⟨i,O,C,h⟩⟩
structure r_(A:J->J->J)(L:J->bw):Prop where
 up:∀j k,j<4->k<4->0<A j k->L k=Y->L j=Y
 one:∀j,j<4->L j=Y->1<=kI A L j
theorem r_.wk(e:r_ A L)(x:i<4)(B:k<4)(w:Wy A n i k)(h:L k=Y):L i=Y:=by
 induction n generalizing k with
 |zero=>exact w▸h
 |succ n a=>exact dF (pM.mp w) λj O w p=>a O w (e.up j k O B p h)
theorem KZ(e:kI A L j=1):∃y,y<4/\L y=Y/\∀x,x<4->L x=Y->A j x=if x=y then 1 else 0:=by
 have s:∀x,x<4->L x=Y->A j x<=1:=λx i Q=>e▸by have:=BQ (f:=λk=>if L k=Y then A j k else 0) i;rwa [aL Q]at this
 refine ai (v7.mp (show 0<kI A L j from e▸Ae)) λy h p=>?_
 by_cases a:L y=Y
 .rw [aL a]at p;refine⟨y,h,a,λx i Q=>?_⟩
  by_cases q:x=y
  .rw [aL q,q];exact fS (s y h a) p
  .rw [aJ q];refine Aa λc=>?_
   have t:=Jt (f:=λk=>if k=y then 1 else 0) (g:=λk=>if L k=Y then A j k else 0) (λk B=>by
    by_cases r:k=y
    .rw [aL r,r,aL a];exact p
    .rw [aJ r];exact gF _) i (by exact(aJ q)▸(aL Q)▸(c))
   have o:=by
    have:=BQ (f:=λk=>if k=y then 1 else 0) h
    rwa [aL C]at this
   have t:(S4 λk=>if k=y then 1 else 0)<kI A L j:=t;exact rh (jS 0 (.n 1) (.n 0) (.v 0) (.n 1) (.n 1) (.v 1) (.a (.v 1) (.n 1)) (.v 0) C [_,_] ((iX e)) o t)
 .rw [aJ a]at p;exact bA p (i7 0)
def Ends(A:J->J->J)(L:J->bw)(i:J):Prop:=∀n j,j<4->4<=n->Wy A n i j->L j=Y->kI A L j=1
theorem abd(v:r_ A L)(S:Ends A L i)(O:j<4)(o:4<=n)(w:Wy A n i j)(u:L j=Y)(m:J):∃y,y<4/\L y=Y/\Wy A m j y/\∀x,x<4->L x=Y->Pw A m j x=if x=y then 1 else 0:=by
 induction m with
 |zero=>exact⟨j,O,u,C,λx e Q=>by
   show(if j=x then 1 else 0)=_
   by_cases q:x=j
   .rw [aL q,aL q.symm]
   .rw [aJ q,aJ (iF q)]⟩
 |succ m f=>
  obtain⟨y,h,k,s,r⟩:=f;obtain⟨E,g,b,a⟩:=KZ (S _ y h (aD o (fO _ _)) ((oj m n i y h).mpr ⟨j,w,s⟩) k);refine⟨E,g,b,pM.mpr (i12 (y) (h) (s) (?_)),λx e Q=>?_⟩
  .rw [a E g b,aL C];exact Ae
  .refine ae (iT (f:=λl=>Pw A m j l*A l x) (g:=λl=>if l=y then A l x else 0) λl X=>?_) (ae (yo (v:=λl=>A l x) h) (a x e Q))
   by_cases q:l=y
   .rw [aL q,r l X (q▸k),aL q,Sl]
   .rw [aJ q]
    by_cases t:L l=Y
    .rw [r l X t,aJ q,DF]
    .rw [Aa λp=>t (v.up l x X e p Q),x_]
end
section
variable{A:J->J->J}{L:J->bw}{n i j k x y a b:J}
theorem HM(h:Wy A (n+1) i k):i<4:=by
 induction n generalizing k with
 |zero=>exact dF (pM.mp h) λj O w p=>(w).symm▸O
 |succ n e=>exact dF (pM.mp h) λj O w p=>e w
theorem tq(O:j<4)(c:J)(w:Wy A c j j)(h:J):Wy A (c*h) j j:=by
 induction h with
 |zero=>exact(C)
 |succ h n=>exact(oj c (c*h) j j O).mpr (aR (j) (n) (w))
theorem nR.Gh(P:nR A n p)(i:r_ A L)(l:L (p n)=Y)(h:m<=n):L (p m)=Y:=by
 have w:=nj (P.nt h);simp only [vE,pU h]at w;exact i.wk (P.lt m h) (P.lt n (dm n)) w l
theorem acd(h:r_ A L)(S:Ends A L i)(O:p 0=i)(P:nR A n p)(k:L (p n)=Y)(o:a<b)(t:b<=n)(s:p a=p b):Wy A (b-a) (p n) (p n):=by
 have l:1<=b-a:=DB o;have u:∀m,a<=m->m<=n->Wy A (b-a) (p m) (p m):=λm=>m.rec
  (λe _=>by
   have B:=Nat.le_zero.mp e;subst B;have w:=nj (P.pre t);simp only [<-s]at w
   exact w)
  (λm T e z=>by
   by_cases q:a=m+1
   .have w:=nj ((P.pre t).nt (e7 o));rw [vE,pU (e7 o),<-s,q]at w;exact q▸w
   .have j:=agw z;have w:=T (rR (Nat.lt_of_le_of_ne e q)) j;have R:=P.lt m j;have g:=P.Gh h k j;have Q:=(oj _ _ _ _ R).mpr ⟨p m,(O▸nj (P.pre j)),tq R _ w 4⟩;obtain⟨y,G,ah,r⟩:=KZ (S _ _ R (aD (Sd 4 l) (dK _ _)) Q g);obtain⟨c,f⟩:=Ab l;rw [f]at w;refine ai ((oj c 1 _ _ R).mp w) λH E x=>?_;have d:=by
     cases c with
     |zero=>exact x▸R
     |succ c=>exact HM x
    have v:=(QC R).mp E;have F:=oF λq=>by rw [r H d (h.wk d R x g),aJ q]at v;exact bA v (i7 0)
    have X:=oF λq=>by
     have:=P.st m (agz z);rw [r _ (P.lt (m+1) z) (P.Gh h k z),aJ q]at this;exact bA this (i7 0)
    rw [f,qI]
    exact pM.mpr ⟨p m,R,ae X F.symm▸x,P.st m (agz z)⟩)
 exact u n (aD (e7 o) t) (dm n)
theorem aex(O:j<4){c:J}(h:1<=c)(g:c<=4)(w:Wy A c j j):Wy A 12 j j:=m5 (P:=λd=>Wy A (d+1) j j->Wy A 12 j j) (eH (Sm h Ae) g) (λw=>tq O _ w 12) (λw=>tq O _ w 6) (λw=>tq O _ w 4) (λw=>tq O _ w 3) ((tM h).symm▸w)
theorem Zo(a:r_ A L)(S:Ends A L i)(k:∀j,j<4->L j=Y->Wy A n i j->Wy A 12 j j)(h:x<4)(Q:L x=Y):Pw A (n+12) i x=Pw A n i x:=by
 refine ae (G1 12 n i x h) (ae (iT (f:=λj=>Pw A n i j*Pw A 12 j x) (g:=λj=>if j=x then Pw A n i j else 0) λj O=>?_) (yo (v:=Pw A n i) h))
 by_cases E:0<Pw A n i j
 .have w:=(pF n i j).mp E
  by_cases v:L j=Y
  .have e:=k j O v w;obtain⟨y,s,l,_,r⟩:=abd a S O (aD (by decide) (dK 12 n)) ((oj _ _ _ _ O).mpr ⟨j,w,e⟩) v 12;have b:=oF λq=>by
    have:=(pF 12 j j).mpr e;rw [r j O v,aJ q]at this;exact bA this (i7 0)
   rw [r x h Q,<-b]
   by_cases q:j=x
   .rw [aL q,aL q.symm,Si]
   .rw [aJ q,aJ (iF q),x_]
  .rw [Aa λp=>v (a.wk O h ((pF 12 j x).mp p) Q),aJ λq:j=x=>v (q▸Q),x_]
 .rw [Aa E,DF];exact(ite_self 0).symm
end
section
variable{A:J->J->J}{L:J->bw}{n i j k x y r s:J}
def DZ(A:J->J->J)(L:J->bw)(r:J):J->Prop:=r.rec (λx=>L x=Y) λ_ p x=>L x=Y\/∀j,j<4->0<A j x->p j
theorem W'(B:∀n,s<=n->∀x,x<4->L x=Y->Pw A (n+12) i x=Pw A n i x):∀(r x:J),x<4->DZ A L r x->∀n,s+r<=n->Pw A (n+12) i x=Pw A n i x:=λr=>r.rec
 (λx e h n z=>B n z x e h)
 (λr a x e h n z=>by
  rcases show L x=Y\/∀j,j<4->0<A j x->DZ A L r j from h with l|h
  .exact B n (aD (fO _ _) z) x e l
  .obtain⟨m,rfl⟩:=Ab z;have b:s+(r+1)+m=s+r+m+1:=by exact fS (eF (.a (.a (.v 0) (.a (.v 1) (.n 1))) (.v 2)) (.a (.a (.a (.v 0) (.v 1)) (.v 2)) (.n 1)) C [_,_,_]) (eF (.a (.a (.a (.v 0) (.v 1)) (.v 2)) (.n 1)) (.a (.a (.v 0) (.a (.v 1) (.n 1))) (.v 2)) C [_,_,_])
   rw [b];show S4 (λj=>Pw A (s+r+m+12) i j*A j x)=S4 λj=>Pw A _ i j*A j x;exact iT λj O=>by
    by_cases p:0<A j x
    .rw [a j O (h j O p) (s+r+m) (fO _ _)]
    .rw [Aa p,x_,x_])
theorem aav:∀(r x:J),x<4->(∀p,p r=x->nR A r p->(∀m,m<=r->L (p m)=ay)->False)->DZ A L r x:=λr=>r.rec
 (λx e h=>oF λq=>h _ C ⟨λm _=>e,λm q=>bA q (Nat.not_lt_zero m)⟩ λm _=>oB.mpr q)
 (λr n x e h=>by
  by_cases l:L x=Y
  .exact .inl l
  .refine .inr λj O p=>n j O λq b Q i=>h (λm=>if m<=r then q m else x) (aJ (agC r)) ⟨λm R=>?_,λm R=>?_⟩ λm R=>?_
   .by_cases c:m<=r
    .rw [aL c];exact Q.lt m c
    .rw [aJ c];exact e
   .have a:=rR R;show 0<A _ _;rw [aL a]
    by_cases c:m+1<=r
    .rw [aL c];exact Q.st m c
    .rw [aJ c,fS a (iP c),b];exact p
   .by_cases c:m<=r
    .rw [aL c];exact i m c
    .rw [aJ c];exact oB.mpr l)
end
theorem UT(H:J->bw)(l:I J):l.countP H+l.countP (λt=>!H t)=U l:=l.rec C λx l n=>by
 rw [Dt,Dt,gB,<-n];cases H x with
 |false=>exact C
 |true=>exact agt _ 1 _
section
variable{A:J->J->J}{L:J->bw}{i x:J}
theorem V8(b:r_ A L)(g:∀t,t<4->L t=ay->∀u,¬Wy A (u+1) t t)(S:Ends A L i)(f:i<4)(j:x<4):Pw A 16 i x=Pw A 4 i x:=by
 have B:∀u,(dz 4).countP L<=u->∀x,x<4->L x=Y->Pw A _ i x=Pw A u i x:=λu z x j Q=>
  Zo b S (λt O v w=>dF (xo f O w) λp T s P=>by
   refine e5 (GY L (p:=p) λm q=>⟨P.lt m (aD q z),P.Gh b (s.symm▸v) (aD q z)⟩) λa l o h e=>?_;have r:=acd b S T P (s.symm▸v) o (aD h z) e;rw [s]at r
   exact aex O (DB o) (aD (DA l a) (aD h List.countP_le_length)) r) j Q
 refine W' B _ x j (aav _ x j λp d P k=>(e5 (GY (λt=>!L t) (p:=p) λm q=>⟨P.lt m q,by show(!L (p m))=Y;rw [k m q];rfl⟩) λa l o h e=>?_)) 4 (fq (UT L (dz 4)));have w:=nj ((P.pre h).nt (e7 o));simp only [vE,pU (e7 o),<-e]at w;obtain⟨c,n⟩:=Ab (DB o);rw [n,qI]at w;exact g _ (P.lt a (aD (e7 o) h)) (k a (aD (e7 o) h)) c w
end
section
variable{A:J->J->J}{i j k n m:J}
def Al(A:J->J->J)(n j:J):Prop:=∃k,k<4/\Wy A n j k
theorem AX:0<S4 (Pw A n j)<->Al A n j:=v7.trans ⟨λh=>ai h λk B p=>(aR (k) (B) ((pF n j k).mp p)),λh=>ai h λk B w=>(aR (k) (B) ((pF n j k).mpr w))⟩
theorem AY(h:Al A n j)(R:m<=n):Al A m j:=by
 obtain⟨d,rfl⟩:=Ab R;clear R
 induction d with
 |zero=>exact h
 |succ d e=>exact e (ai h λk B w=>dF (pM.mp (show Wy A (m+d+1) j k from w)) λl X t _=>⟨l,X,t⟩)
theorem JI(O:j<4)(h:Al A 4 j)(n:J):Al A n j:=ai h λk B w=>dF (xo O B w) λp T s P=>e5 (Cu P.lt) λa b o H e=>by
 have u:=P.lt a (aD (e7 o) H);have r:=nj ((P.pre H).nt (e7 o));simp only [vE,pU (e7 o),<-e]at r;have z:=T▸nj (P.pre (aD (e7 o) H));exact AY ⟨p a,u,((oj _ _ _ _ u).mpr ⟨p a,z,tq u _ r n⟩)⟩ (aD (Sd n (DB o)) (dK _ _))
theorem JM(O:j<4)(B:k<4)(p:0<A j k)(e:Al A n k):Al A (n+1) j:=ai e λx h w=>⟨x,h,(qI n 1).symm▸(oj n 1 j x h).mpr ⟨k,(QC O).mpr p,w⟩⟩
theorem JJ(O:j<4)(e:Al A (n+1) j):∃k,k<4/\0<A j k/\Al A n k:=ai e λx h w=>dF (xo O h w) λp T s P=>by
 refine⟨p 1,P.lt 1 (jx (gF n)),T▸P.st 0 (gE n),⟨x,h,?_⟩⟩;have r:=nj (P.nt (b:=1) (jx (gF n)));rw [agu,qI 1 n,s]at r;exact r
def mS(A:J->J->J)(j:J):bw:=aO (0<S4 (Pw A 4 j))
theorem wC:mS A j=Y<->Al A 4 j:=decide_eq_true_iff.trans AX
theorem Gi:r_ A (mS A)where
 up:=λj k O B p l=>wC.mpr (AY (JM O B p (wC.mp l)) (by decide))
 one:=λj O l=>dF (JJ (n:=4) O (JI O (wC.mp l) 5)) λk B p a=>by
  apply eH p;have:=BQ (f:=λk=>if mS A k=Y then A j k else 0) B
  rwa [aL (wC.mpr a)]at this
theorem U9(O:j<4)(l:mS A j=ay)(n:J):¬Wy A (n+1) j j:=λw=>by
 rw [wC.mpr (AY (n:=(n+1)*4) ⟨j,O,tq O _ w 4⟩ (Sd 4 (gE n)))]at l;exact Bool.noConfusion l
theorem Ul(e:i<4):(∀x,x<4->Pw A 4 i x=Pw A 16 i x)<->∀n j,j<4->4<=n->n<8->Wy A n i j->mS A j=Y->kI A (mS A) j<2:=by
 refine⟨λh n j O g G w l=>agy λa=>?_,λh x b=>(V8 Gi (λj O l=>U9 O l) (λn j O g w l=>?_) e b).symm⟩
 .exact ai (XI Gi.one O l a g (eH G (by decide)) ((pF n i j).mpr w)) λk B q=>q (h k B)
 .exact dF (L_ e O w g) λm s o t=>fS (rR (h m j O s o t l)) (Gi.one j O l)
end
section
variable{A:J->J->J}{i j k n m r:J}
theorem short(e:i<4)(B:k<4)(h:Wy A n i k):∃m,m<4/\Wy A m i k:=by
 induction n using Nat.strongRecOn with
 |ind n x=>
  by_cases c:n<4
  .exact⟨n,c,h⟩
  .refine dF (xo e B h) λp T s P=>e5 (Cu λm q=>P.lt m (aD q (iP c))) λa b o H l=>?_;have t:=aD H (iP c);refine x (a+(n-b)) (by exact d_ 0 (.a (.a (.v 0) (.v 3)) (.n 1)) (.v 2) (.a (.v 0) (.n 1)) (.v 1) (.a (.v 3) (.v 1)) (.v 2) C [_,_,_,_] o ((lz t))) ((oj _ _ _ _ B).mpr ⟨p a,?_,?_⟩)
   .exact T▸nj (P.pre (aD (e7 o) t))
   .have w:=nj (P.nt t);simp only [vE,pU t,s,<-l]at w;exact w
theorem MA(O:j<4):¬Al A (r+1) j<->∀k,k<4->0<A j k->¬Al A r k:=
 ⟨λh k B p a=>h (JM O B p a),λh a=>dF (JJ O a) λk B p q=>h k B p q⟩
theorem JN(O:j<4):Al A 0 j:=⟨j,O,C⟩
def pY(A:J->J->J)(i j:J):Prop:=∃n,n<4/\Wy A n i j
def kY(A:J->J->J)(i r j:J):Prop:=∀m,r<=m->¬Wy A m i j
theorem YW(e:i<4)(O:j<4):kY A i (r+1) j<->∀l,l<4->pY A i l->0<A l j->kY A i r l:=by
 refine⟨λh l X _ p m R w=>h (m+1) (jx R) (pM.mpr ⟨l,X,w,p⟩),λh m R w=>?_⟩;obtain⟨d,rfl⟩:=Ab R;have a:r+1+d=r+d+1:=by exact fS (eF (.a (.a (.v 0) (.n 1)) (.v 1)) (.a (.a (.v 0) (.v 1)) (.n 1)) C [_,_]) (eF (.a (.a (.v 0) (.v 1)) (.n 1)) (.a (.a (.v 0) (.n 1)) (.v 1)) C [_,_])
 rw [a]at w;exact dF (pM.mp w) λl X t p=>h l X (short e X t) p _ (fO _ _) t
theorem XE(c:pY A i j):¬kY A i 0 j:=λh=>ai c λn _ w=>h n (gF n) w
theorem LJ(e:i<4)(O:j<4):kY A i 4 j<->∀m,4<=m->m<8->¬Wy A m i j:=
 ⟨λh m g _=>h m g,λh m g w=>dF (L_ e O w g) λn a l t=>h n a l t⟩
end
noncomputable def cI(T:I (I J))(i t:J):J:=(T.getD i []).getD t 0
theorem getD_map{R z:Type}(L:R->z){l:I R}(h:i<U l)(d:R)(B:z):(l.map L).getD i B=L (l.getD i d):=by
 apply ae (tJ);rw [jv,dB h,tJ,dB h];rfl
theorem OY(L:J->J)(h:k<4):((dz 4).map L).getD k 0=L k:=m5 (P:=λk=>((dz 4).map L).getD k 0=L k) h C C C C
theorem ze(A:i<L.length)(B:k<4):cI (jF L M) i k=S4 λt=>cI L i t*cI M t k:=by
 delta cI jF
 rw [getD_map _ A [] [],OY _ B]
 rfl
theorem Qe(L T:I _):U (jF L T)=U L:=dg _
noncomputable def xm:I (I J):=(dz 4).map λk=>(dz 4).map λt=>if t=k then 1 else 0
def zk(T:I (I J))(u:J):I (I J):=u.rec xm λ_ P=>jF P T
theorem abR(T:I _)(u:J):U (zk T u)=4:=u.rec C λu n=>(Qe _ _).trans n
theorem aa_(T:I _):∀(u i k:J),i<4->k<4->cI (zk T u) i k=Pw (cI T) u i k:=λu=>u.rec
 (λi k A B=>m5 (P:=λi=>cI (zk T 0) i k=if i=k then 1 else 0) A (m5 (P:=λk=>cI _ 0 k=if 0=k then 1 else 0) B C C C C) (m5 (P:=λk=>cI (zk T 0) 1 k=if 1=k then 1 else 0) B C C C C) (m5 (P:=λk=>cI (zk T 0) 2 k=if 2=k then 1 else 0) B C C C C) (m5 (P:=λk=>cI _ 3 k=if 3=k then 1 else 0) B C C C C))
 (λu n i k A B=>ae (ze ((abR T u).symm▸A) B) (iT λt O=>aA (·*cI T t k) (n i t A O)))
theorem Tab.mono(A:Tab b M)(h:b<=c):Tab c M:=⟨A.l,λr s=>⟨(A.r r s).1,λx j=>eH ((A.r r s).2 x j) h⟩⟩
theorem Tab.of(A:Tab b M){t k:J}(O:t<4)(B:k<4):cI M t k<b:=by
 have r:=A.r _ (getD_mem' (d:=[]) (A.l.symm▸O:t<U M));exact r.2 _ (getD_mem' (r.1.symm▸B))
theorem Js(h:∀t,t<4->f t<b):S4 f<4*b:=by
 have n:=h 0 (by decide);have w:=h 1 (az C);have v:=h 2 (by decide);have R:=h 3 (by decide)
 delta S4;exact m8 0 (.a (.a (.v 0) (.a (.v 2) (.a (.v 3) (.v 4)))) (.n 1)) (.m 4 (.v 1)) (.a (.v 0) (.n 1)) (.v 1) (.a (.v 2) (.n 1)) (.v 1) (.a (.v 3) (.n 1)) (.v 1) (.a (.v 4) (.n 1)) (.v 1) C [_,_,_,_,_] n w v R
theorem nv{L T:I _}(u:Tab b L)(R:Tab c T):Tab (4*(b*c)) (jF L T)where
 l:=ae (Qe L T) u.l
 r:=λr s=>ai (dZ.mp s) λm n e=>by
  subst e;have h:=u.r m n;refine⟨ae (dg _) xW,λx j=>ai (dZ.mp j) λk B e=>?_⟩;subst e;have B:=fm.mp B;exact Js λt O=>Nat.mul_lt_mul'' (h.2 _ (getD_mem' (h.1.symm▸O))) (R.of O B)
theorem adD:Tab 2 xm:=⟨C,by decide⟩
section
variable{A:J->J->J}{i j k n:J}
def GC(A:J->J->J)(k j:J):J:=S4 λn=>Pw A n k j
theorem GD:0<GC A k j<->pY A k j:=v7.trans ⟨λh=>ai h λn z p=>⟨n,z,(pF n k j).mp p⟩,λh=>ai h λn z w=>⟨n,z,(pF n k j).mpr w⟩⟩
def Gj(A:J->J->J)(k j:J):J:=S4 λl=>Pw A 4 k l*GC A l j
theorem Zs(O:j<4):0<Gj A k j<->∃m,4<=m/\m<8/\Wy A m k j:=by
 refine v7.trans ⟨λh=>?_,λh=>?_⟩
 .exact ai h λl X p=>ai (GD.mp (agD p)) λn z w=>⟨4+n,fO _ _,z_ z 4,(oj n 4 k j O).mpr (aR (l) ((pF 4 k l).mp (agE p)) (w))⟩
 .refine cps λb f=>?_;refine dF h λm a e w=>?_;obtain⟨n,rfl⟩:=Ab a;refine ai ((oj n 4 k j O).mp w) λl i x=>?_;have X:=by
   cases n with
   |zero=>exact x▸O
   |succ n=>exact HM x
  apply f;exact⟨l,X,Nat.mul_pos ((pF 4 k l).mpr i) (GD.mpr ⟨n,Nat.lt_of_add_lt_add_left e,x⟩)⟩
theorem WT(O:j<4):(S4 λl=>Pw A 8 k l*Pw A 8 l j)=Pw A 16 k j:=(G1 8 8 k j O).symm
theorem WU(O:j<4):(S4 λl=>Pw A 4 k l*Pw A 4 l j)=Pw A 8 k j:=(G1 4 4 k j O).symm
theorem Zr(B:k<4)(O:j<4):0<Gj A k j<->¬kY A k 4 j:=by
 rw [Zs O,LJ B O];exact⟨λh q=>dF h λm a b w=>q m a b w,λh=>oF λq=>h λm a b w=>q ⟨m,a,b,w⟩⟩
end
section
variable{f:J->I J}{bq:J->bw}{M:J->J->J}{j k n:J}{x y:I J}
def p_(f:J->I J):Prop:=∀a b,a<4->b<4->f a=f b->a=b
noncomputable def Pn(f:J->I J)(bq:J->bw):I (I J):=((dz 4).filter bq).map f
noncomputable def Qn(f:J->I J)(M:J->J->J)(x:I J):I (I J):=((dz 4).filter λj=>(dz 4).any λk=>aO (f k=x)&&aO (0<M k j)).map f
theorem sQ:x∈Pn f bq<->∃k,k<4/\bq k=Y/\x=f k:=dZ.trans ⟨λh=>ai h λk m e=>(i12 (k) (fm.mp (f9.mp m).1) ((f9.mp m).2) (e.symm)),λh=>dF h λk a b e=>⟨k,f9.mpr ⟨fm.mpr a,b⟩,e.symm⟩⟩
theorem D3(g:p_ f)(B:k<4):Qn f M (f k)=((dz 4).filter λj=>aO (0<M k j)).map f:=aA (List.map f) (vA λj _=>oE.mpr ⟨λh=>ai (mH.mp h) λl m e=>bT (cQ.mp e) λa b=>g l k (fm.mp m) B (dh a)▸b,λh=>mH.mpr ⟨k,fm.mpr B,cQ.mpr ⟨cL C,h⟩⟩⟩)
theorem yT(g:p_ f)(B:k<4):y∈Qn f M (f k)<->∃j,j<4/\0<M k j/\y=f j:=by
 rw [D3 g B];exact dZ.trans ⟨λh=>ai h λj m e=>⟨j,fm.mp (f9.mp m).1,dh (f9.mp m).2,e.symm⟩,λh=>dF h λj a b e=>⟨j,f9.mpr ⟨fm.mpr a,cL b⟩,e.symm⟩⟩
theorem Ni(g:p_ f)(p:J->bw):(((dz 4).filter p).map f).Nodup:=by
 have L:∀l:I J,l.Nodup->(∀a∈l,a<4)->(l.map f).Nodup:=λl=>l.rec (λ_ _=>.nil) λa l n Q e=>gM.mpr ⟨λm=>ai (dZ.mp m) λb h i=>(gM.mp Q).1 (g b a (e b (.tail _ h)) (e a (.head _)) i▸h),n (gM.mp Q).2 λb h=>e b (.tail _ h)⟩;exact L _ (List.nodup_range.filter _) λa m=>fm.mp (f9.mp m).1
theorem Nh(g:p_ f):(Pn f bq).Nodup:=Ni g bq
theorem wK(g:p_ f)(x:I J):(Qn f M x).Nodup:=Ni g _
theorem BV:U (Pn f bq)<=4:=aD (fq (dg _)) (kq _ _)
def AJ(bq:J->bw)(M:J->J->J):Prop:=∀k j,k<4->j<4->0<M k j->bq k=Y/\bq j=Y
theorem sZ(g:p_ f)(o:AJ bq M):∀k∈Pn f bq,∀y∈Qn f M k,y∈Pn f bq:=λx m y L=>dF (sQ.mp m) λk B c e=>by
 subst e;exact dF ((yT g B).mp L) λj O p q=>sQ.mpr ⟨j,O,(o k j B O p).2,q⟩
theorem Bf(g:p_ f):∀(n k:J),k<4->(Dn (Qn f M) n (f k)=Y<->¬Al M n k):=λn=>n.rec
 (λk B=>⟨λh=>(cY C (h)),(bA (JN B))⟩)
 (λn e k B=>sE.trans (xO ⟨λh j O p=>(e j O).mp (h _ ((yT g B).mpr ⟨j,O,p,C⟩)),λh y L=>dF ((yT g B).mp L) λj O p a=>a▸(e j O).mpr (h j O p)⟩ (MA B).symm))
theorem aez(O:j<4):∀{n l:J},Wy M n l j->l<4
 |0,_,w=>w▸O
 |n+1,_,w=>HM w
theorem QD(B:k<4)(O:j<4):Wy M (n+1) k j<->∃l,l<4/\0<M k l/\Wy M n l j:=by
 rw [qI n 1,oj n 1 k j O];exact⟨λh=>ai h λl w v=>dF w λE g e p=>⟨l,aez O v,(e).symm▸p,v⟩,λh=>dF h λl X p v=>(aR (l) (⟨k,B,C,p⟩) (v))⟩
theorem Vo(h:E.length<=4)(L:∀x,U (g x)<=4):jk g E []<=800:=by
 have e:∀E:I _,jk g E []<=U E*5:=λE=>E.rec (dm _) λx E n=>by
  show(if _ then _ else _)+jk g E []<=_;rw [aJ dQ,gB];have:=L x;exact d_ 0 (.a (.a (.n 1) (.v 2)) (.v 0)) (.r (.a (.v 1) (.n 1)) 5) (.v 0) (.r (.v 1) 5) (.v 2) (.n 4) C [_,_,_] n this
 exact aD (e E) (aD (I2 _ h) (az C))
variable(hf:p_ f)(hM:AJ bq M)
include hf hM
omit hM in
theorem P4(O:j<4)(a:bq j=Y):y∈dR (gO (Pn f bq) (Qn f M)) (f j)<->∃k,k<4/\bq k=Y/\y=f k/\0<M k j:=by
 rw [AW (wK hf),f9,rZ];refine⟨λh=>dF (sQ.mp h.1) λk B c e=>(FA (k) (B) (c) (e) (?_)),λh=>wh h λk B c e p=>⟨sQ.mpr ⟨k,B,c,e⟩,e▸(yT hf B).mpr (i12 (j) (O) (p) (C))⟩⟩;have m:=h.2;rw [e]at m;exact dF ((yT hf B).mp m) λl X p q=>hf j l O X q▸p
theorem LD(O:j<4)(i:bq j=Y):∀(n:J)(y:I J),Gk (dR (gO (Pn f bq) (Qn f M))) n (f j) y<->∃k,k<4/\bq k=Y/\y=f k/\Wy M n k j:=λn=>n.rec
 (λy=>⟨λh=>⟨j,O,i,(h).symm,C⟩,λh=>wh h λk B c e w=>show f j=y from(w)▸e.symm⟩)
 (λn a y=>Fl.trans ⟨λh=>ai h λE w m=>wh ((a E).mp w) λl X c e v=>by
  subst e;exact wh ((P4 hf X c).mp m) λk B x e p=>(FA (k) (B) (x) (e) ((QD B O).mpr ⟨l,X,p,v⟩)),
  λh=>wh h λk B c e w=>dF ((QD B O).mp w) λl X p v=>by
  have:=hM k l B X p
  exact⟨f l,(a _).mpr ⟨l,X,this.2,C,v⟩,(P4 hf X this.2).mpr ⟨k,B,c,e,p⟩⟩⟩)
theorem ab':(∀x∈(gO (Pn f bq) (Qn f M)).map (·.1),∀k,¬Gk (dR (gO (Pn f bq) (Qn f M))) (k+1) x x)<->∀k,k<4->bq k=Y->¬Al M 4 k:=by
 refine⟨λh k B c a=>ai a λx j w=>dF (xo B j w) λp T t P=>e5 (Cu P.lt) λa b o H e=>?_,λh x m n w=>dF (sQ.mp ((t8 (sZ hf hM)).mp m)) λk B c e=>?_⟩
 .have w:=nj ((P.pre H).nt (e7 o));simp only [show p (a+(b-a))=p b from aA p (pU (e7 o)),<-e]at w;obtain⟨d,s⟩:∃d,b-a=d+1:=⟨_,(tM (DB o)).symm⟩;rw [s]at w;have u:=P.lt a (by exact d_ 0 (.v 0) (.n 4) (.a (.v 0) (.n 1)) (.v 1) (.v 1) (.n 4) C [_,_] o H);have i:=(hM _ _ u (P.lt (a+1) (by exact d_ 0 (.a (.v 0) (.n 1)) (.n 4) (.a (.v 0) (.n 1)) (.v 1) (.v 1) (.n 4) C [_,_] o H)) (P.st a (by exact d_ 0 (.a (.v 0) (.n 1)) (.n 4) (.a (.v 0) (.n 1)) (.v 1) (.v 1) (.n 4) C [_,_] o H))).1;exact h _ ((t8 (sZ hf hM)).mpr (sQ.mpr ⟨_,u,i,C⟩)) d ((LD hf hM u i _ _).mpr ⟨_,u,i,C,w⟩)
 .subst e;refine wh ((LD hf hM B c _ _).mp w) λl X O e v=>h k B c ?_;rw [<-hf k l B X e]at v;exact AY ⟨k,B,tq B (n+1) v 4⟩ (by exact eF (.n 4) (.r (.a (.v 0) (.n 1)) 4) C [_])
theorem Pu:∃T o,l0 (gO (Pn f bq) (Qn f M)) T=D o/\ng o=Y/\(o=aa<->∀k,k<4->bq k=Y->¬Al M 4 k):=
 e5 (WW (JH (wK hf) (sZ hf hM)) (Vo (aD (yY _ _ v9 λx m=>(t8 (sZ hf hM)).mp m) BV) λx=>by rw [AW (wK hf)];exact aD (kq _ _) BV)) λT o a b c=>⟨T,o,a,b,c.trans (ab' hf hM)⟩
theorem Py:oh 5 (gO (Pn f bq) (Qn f M)) (eA (gO (Pn f bq) (Qn f M))) []=D (lq (Pn f bq) (Qn f M) 4 0):=
 acs (wK hf) (Nh hf) (sZ hf hM) (aD BV (by decide)) 4 0 _ _ [] (rd0 (wK hf) (Nh hf) (sZ hf hM)) (RT.mpr λx m=>bT (yU.mp m) λa b=>dF (sQ.mp a) λk B c e=>by
  subst e
  exact(Bf hf 5 k B).mp b.1 (JI B (oF λq=>nomatch b.2.symm.trans ((Bf hf 4 k B).mpr q)) 5)) (by decide)
omit hM in
theorem MW{a:J->J->bw}(u:∀n k,k<4->bq k=Y->(a n k=Y<->Al M n k)):lay (Pn f bq) (Qn f M) n=((dz 4).filter λk=>bq k&&(a n k&&!a (n+1) k)).map f:=by
 delta lay Pn
 apply ae (IM);rw [RV];refine aA _ (vA λk m=>?_);have B:=fm.mp m;have d:=λn c=>oE.mpr ((Bf hf n k B).trans (by rw [tH,<-Bool.not_eq_true,u n k B c]));show(Dn _ _ _&&!Dn _ n _&&bq k)=_;rw [Rt];cases c:bq k with
 |false=>rfl
 |true=>simp only [d n c,d (n+1) c,Bool.not_not,Rt (a n k)]
end
section
variable{A M:J->J->J}{i j k n:J}
theorem XF(a:i<4)(o:∀k j,k<4->j<4->(0<M k j<->pY A i k/\pY A i j/\0<A j k)):∀(n k:J),k<4->pY A i k->(¬Al M n k<->kY A i n k):=λn=>n.rec
 (λk B c=>⟨(bA (JN B)),λh=>bA h (XE c)⟩)
 (λn e k B c=>(MA B).trans (xO ⟨λh l X d p=>(e l X d).mp (h l X ((o k l B X).mpr ⟨c,d,p⟩)),λh l X p=>(e l X ((o k l B X).mp p).2.1).mpr (h l X ((o k l B X).mp p).2.1 ((o k l B X).mp p).2.2)⟩ (YW a B).symm))
theorem Zp:kY A i (n+1) j/\¬kY A i n j<->Wy A n i j/\∀m,n<m->¬Wy A m i j:=
 ⟨λh=>⟨oF λc=>h.2 λm R w=>(Sf R).elim (λq=>h.1 m q w) λq=>c (q▸w),λm R=>h.1 m R⟩,λh=>⟨λm R=>h.2 m R,λf=>f n (dm _) h.1⟩⟩
end
noncomputable def uF(o:I J)(x:J):I J:=(dz (x%4)).map λt=>o.getD (x/4^(t+1)%4) 0
theorem L8(o:I J)(x:J):U (uF o x)<4:=by
 delta uF;rw [dg,xW];exact vG _ (by decide)
theorem acg(h:m<4):ro (1,((m+1:J)),1)=(dz m).map (λ(p)=>T.int (p+1:J))/\sX (1,((m+1:J)),1)=Y:=
 m5 (P:=λm=>ro (1,((m+1:J):aS),1)=(dz m).map _/\sX (1,((m+1:J)),1)=Y) h ⟨C,C⟩ ⟨C,C⟩ ⟨C,C⟩ ⟨C,C⟩
noncomputable def sS(o:I J)(G:I (I J)):I J:=o.length::o++(G.map λw=>w.length::w).flatten
theorem w7{R:Type}{l:I R}{a b d e:R}(h:i≠t):(((l.set i a).set t b).set i d).set t e=(l.set i d).set t e:=by
 simp only [List.set_comm b d (iF h),IY]
section
variable{c:Cx O}
def CF(c:Cx O)(L:af)(e:I T)(p:I T):Prop:=∃a u S,c.mg L=D (.ref a)/\(∀{h},bF c.B.h₀ h->h.get? a=D u)/\u.data=.func S/\Au c.B c.Z c.w c.n (.ref a) e p
theorem aeR(F:Fm c.V n k G)(t:J)(O:G[t]?=D (x,.globalImplicit))(h:ER c n k y u Q P p)(l:CF c x p e)(L:Q.all dO=Y):EF c n k y (.Call (.Name x a) Q [] u) P e:=mX l λi b S w v R g=>⟨VF c.G c.R (F.kn t O nofun) w (F.kg t O) v R (l9 L) h.1 g⟩
end
section
variable{c:Cx O}{lv:I (AV O)}{ns:I J}{ab:I J}
theorem s2(F:Fm c.V b9 32 d8)(z:∀x∈ns,x<1000000)(X:U ns<=4)(g:U ab=4)(w:lv[1]?=D (.t (.list (nT ns))))(v:lv[2]?=D (.t (.str ab))):ES c b9 32 lv (bG 2) (lv.set 4 (.own ((ns.map (uF ab)).map .str))) .next:=by
 rw [dH];refine Dc "x" ["letters"] [2] _ F C C C (jd (zv F 1 C w)) (eP v C) (λd o x j=>?_) C (aD X (az C)) C (az C) (i':=4) C C C;have p:x<2^2000:=eH (z x j) (by decide);have r:=acg (vG x (by decide))
 refine gJ (De (zs [] (cR [])) (gJ (zf (jW "j" ["letters","x"] [1,0] (λt:J=>T.str [ab.getD (x/4^(t+1)%4) 0]) o C C C
  (zM (tF o 2 C (zr (zi _) (zr (fh (fh (zv o 0 C C) (zi (4:J)) (G_ p (gE _))) (zi 1) (ru C)) cT C) C) C r.2 C) r.1) (eP (a:=.str ab) (show D (lv[2]?.getD .un)=_ from aA D (gd v)) C) (λd H t O=>?_) C (by rw [xW];exact aD (e7 (vG x (by decide:0<4))) (az C)))) ?_) C C C ?_) (aA T.str (uZ _))
 .have R:x/4^(t+1)%4<4:=vG _ (by decide);have h:t+1<=4:=aD (Nat.succ_le_of_lt (fm.mp O)) (e7 (vG x (by decide:0<4)));exact dS (zv H 1 C (aA D (gd (lv:=lv) (i:=2) v))) (fh (fh (zv H 2 C C) (fh (zi (4:J)) (zv H 0 C C) (acK (by decide+kernel) (aD h (az C)))) (O_ p (Nat.pow_pos (by decide)))) (zi (4:J)) (G_ (kW (Nat.div_le_self _ _) p) (gE _))) (jn (eH R (az C)) (by rw [tJ,dB (g.symm▸R)];rfl)) C
 .delta uF;rw [dH,dH];rfl
 .rw [uZ];exact aD (e7 (L8 ab x)) (az C)
theorem s3(F:Fm c.V b9 32 d8)(K:CF c "_law_counted" [.str ab] (nT (U ab::ab)))(v:lv[2]?=D (.t (.str ab))):ES c b9 32 lv (bG 3) (lv.set 5 (.own (nT (U ab::ab)))) .next:=
 vp F 5 C (az C) (aeR F 33 C (zr (zv F 2 C v) cT C) K C) C
theorem aa7(F:Fm c.V b9 32 d8)(K:∀w,U w<4->CN c "_law_counted" [.str w] (.list (nT (U w::w)))):∀(G:I _)(lv:I _)(T:I J)(v:AV O),U lv=32->lv[5]?=D (.own (nT T))->lv[6]?=D v->(∀w∈G,U w<4)->U T+4*U G<=1000->
  ∃j,jH c b9 32 (oZ (D (bG 4))) (iw (D (bG 4))) (G.map .str) lv ((lv.set 6 j).set 5 (.own (nT (T++(G.map λw=>U w::w).flatten)))) .next:=λi=>i.rec
 (λlv T v X H e h B=>⟨v,by
  rw [pI e,show T++(([]).map λw=>U w::w).flatten=T from ju _,pI H]
  exact my⟩)
 (λw G n lv T v X H e h B=>by
  have y:=h w (.head _);simp only [gB]at B;have u:(lv.set 6 (.t (.str w)))[5]?=D _:=gs H (by decide);have a:(lv.set 6 _)[6]?=D (.t (.str w)):=jw (by simp only [X];decide);have x:nT T++nT (U w::w)=nT (T++U w::w):=eW.symm;refine bH (n _ (T++U w::w) _ (by apply ae (pT);rw [pT,X]) (jw (by rw [pT,X];decide)) (gs a (by decide)) (λt m=>h t (.tail _ m)) (by simp only [cA,gB];exact d_ 0 (.a (.a (.v 0) (.a (.v 2) (.n 1))) (.m 4 (.v 1))) (.n 1000) (.a (.v 0) (.m 4 (.a (.v 1) (.n 1)))) (.n 1000) (.a (.v 2) (.n 1)) (.n 4) C [_,_,_] B y)) λj r=>⟨j,?_⟩;rw [w7 (by decide),gX]at r
  exact ki (iD F 6 C (by decide)) (fb (aeD F 5 C (by decide) u (nB F 33 C (zr (zv F 6 C a) cT C) (K w y) C) u (eU (by delta nT;rw [dg];exact aD (by exact cS 0 (.v 0) (.n 1000) (.a (.v 0) (.m 4 (.a (.v 1) (.n 1)))) (.n 1000) C [_,_] B:U T<=1000) (az C))) (eU (by delta nT;rw [dg,gB];exact aD (by exact y:U w+1<=4) (az C)))) (by rw [x])) r)
theorem s4(F:Fm c.V b9 32 d8)(K:∀w,U w<4->CN c "_law_counted" [.str w] (.list (nT (U w::w))))(X:U lv=32)(g:lv[4]?=D (.t (.list (ws.map .str))))(H:lv[5]?=D (.own (nT (U ab::ab))))(m:lv[6]?=D v)(h:∀w∈ws,U w<4)(B:U ws<=4)(u:U ab=4):
  ∃j,ES c b9 32 lv (bG 4) ((lv.set 6 j).set 5 (.own (nT (sS ab ws)))) .next:=
 bH (aa7 F K ws lv _ v X H m h (by rw [gB,u];exact m8 0 (.a (.a (.n 4) (.n 1)) (.m 4 (.v 0))) (.n 1000) (.v 0) (.n 4) (.v 0) (.n 4) (.v 0) (.n 4) (.v 0) (.n 4) C [_] B B B B)) λj r=>⟨j,kP (jd (zv F 4 C g)) r C C⟩
end
structure se(B:bD Ob)(ρ:Mk)(hB:HB)(fz:Fz)(V:c3)(xs:I af)(k:J)(lv:I (AV Ob))(m:af->bg aB)(cK:J->I aq)(h:cf)(o:Ob)(v:aB)(fp:I aq):Prop where
 S:aW B ρ hB fz V xs k lv m cK h
 ob:B.ob.at_ o v h fp
 fr:∀b∈fp,e9 B hB fz V xs cK b
theorem se.keep(p:se X F hB g G n k y m r h o v R)(Q:bF h O):se X F hB g G n k y m r O o v R:=
 ⟨p.S.ux Q (Le.refl _) λb o e=>.inl e,X.frame p.ob (λb o e=>Q b o (p.S.base b o e)) λb _ o e=>Q b o e,p.fr⟩
theorem se.ok(p:se X F hB g G n k y m r h o v R):oN X hB g G n r i R:=
 ⟨λb f=>lg (p.fr b f).hb (p.fr b f).fz (p.fr b f).loc (p.fr b f).cell,λt _ O b f=>(p.fr b f).fp t O,λP s f=>(p.fr P f).tab s⟩
theorem se.no(p:se X F hB g G n k y m r h o v R)(e:h.get? b=aa):b∉R:=λq=>cY (aA mJ e) (X.ob.live p.ob b q)
section
variable{c:Cx Ob}
theorem adj(eN:bK c.B c.Z c.w fZ)(cB:1<=c.n)(bE:c.y.DC "_law_stream" 21 (.ref S))(K:jK (c.B.re A) c.mg S b_ [])(ck:∀{L cF h},A.eI L h->A.eI cF h)(H:∀{L h},c.B.inv L h->TabAt h b_ #[]/\A.eI L h)
  (F:Fm c.V a G cu)(q i:J)(aT:cu[q]?=D (("_law_stream":af),.globalImplicit))(j:a[i]?=D x)(bx:ak[i]?=D (.own (nT au)))
  (aM:gm c.V)(l:aW c.B c.ρ aP w c.V a G ak ee r s.heap)
  (bl:∀t st bz,bP s t->se (c.B.re A) c.ρ aP w c.V a G (ak.set i .un) ee (bU r i []) t.heap (.bB st au 0) (.ref st) bz->bC (.ref st) t):
  aQ (aI c.Z c.w) c.A (eval (.Call (.Name "_law_stream" gc) [.Name x bI] [] bQ) c.V) bC bW s:=by
 refine cps λ_ bZ=>Bj bE λao o aC aE cC aF R dU=>?_;obtain⟨gi,dN,n,eB,e6,rfl,aK,bf,E⟩:=l.vars i x _ j bx;apply bZ;have k:=(cG.mp j).1;refine kD (nZ c.G aM l.base (F.kn q aT nofun) cC (F.kg q aT) (yc (fd:=docDef "_law_stream" (gw (bB 21)) (dD (bB 21)) (eg (bB 21)) aC (.ref S) aE) (o:=o) ?_));have v:=mV (pos:=bQ) (V:=c.V) (e:=.Name x bI) (es:=[]) nofun;rw [v];refine tO (pW (eO (eK aM l.ns dN (lO ⟨⟨aF l.base,R⟩,?_⟩)) (F.eY j)));show aQ (aI c.Z c.w) c.A (call (.ref ao) [.ref n]) _ bW s;have u:=l.fp i k n (by exact(E)▸(R7 n));have X:n∉c.B.tabs:=λh=>(l.tab n h).2.2.2.2 i k (by exact(E)▸(R7 n));have B:=c.R.less cB;refine i8 (I7 B.d (aF l.base) R (c.G.nolimit l.base) (dU l.base) C (binds:=[(("octets":af),vK n)]) C C (λQ z=>?_) λbR ah=>?_)
 .rw [cO.mp z];have aj:(eg (bB 21)).names.lookup ("octets":af)=D .cell:=C;exact .inr ⟨aj,ud _ _ [] (.inl aj)⟩
 refine adi (y:=c.y) B.deeper ck K C (C) (jP (C) C) (CR (ρ:=c.ρ) (xs:=vg) (tG:=[.bV (.ref n)]) (vs:=[.ref n]) (fd:=docDef "_law_stream" (gw (bB 21)) (dD (bB 21)) (eg (bB 21)) aC (.ref S) aE) (a:=ao) (s:=s) (s₁:=bR) (mj (show zz (eg (bB 21)) vg=Y by decide+kernel)) C C l.ready (.cons (.bV _) .nil) (ez C) ah) C (show(if n∈c.B.tabs then aa else s.heap.get? n)=D (lo eB e6)by exact ae (aJ X) aK) (kF.of bf) H λt st d O y T g p cJ cM cU cX bh dG=>?_;have aH:∀b∈[st,d,O,y,T,g,p],s.heap.get? b=aa:=λb f=>bT (dG b f) λv er=>v▸((aJ er).symm);refine d5 ah.done λgU gV eM ic=>?_;have c9:=bP.trans (bP.of eM) cJ;have aN:=l.forget (i:=i);have P:=λb f=>aN.free (aH b f);have ew:e9 c.B aP w c.V a (bU r i []) n:=by
  refine⟨u.1,u.2.1,u.2.2.1,u.2.2.2,λm eR h=>?_,X,l.b0 u.1⟩
  by_cases e:m=i
  .have e:bU r i [] m=[]:=aL e;rw [e]at h;exact bA (h) dQ
  .have q:bU r i [] m=r m:=aJ e;exact l.apart i m k eR (iF e) n (E▸.head _) (q▸h)
 have fj:=bO (P st (d9 0 C)) (bO (P d (d9 1 C)) (bO (P O (d9 2 C)) (bO (P y (d9 3 C)) (bO (P T (d9 4 C)) (bO (P g (d9 5 C)) (bO ew (bO (P p (d9 6 C)) eJ)))))));have aY:∀{b},b∈[st,d,O,y,T,g,p]->b≠n:=λf h=>aV (h▸aH _ f) aK;refine bl t st [st,d,O,y,T,g,n,p] c9 ⟨(aN.re (H l.inv).2).grow (h':=t.heap) (λb f o e=>cM b o (by show(if b∈c.B.tabs then aa else s.heap.get? b)=D o;exact(aJ f).trans e)) cU (Le.refl _) λb o e=>.inl e,?_,λb f=>?_⟩
 .show c.B.ob.at_ _ _ _ _;rw [eN.ob];refine(⟨C,d,O,y,T,g,n,p,cX,C,?_⟩:yp st au 0 (.ref st) t.heap [st,d,O,y,T,g,n,p]);have e:[st,d,O,y,T,g,p]=[st,d,O,y,T,g]++[p]:=C;exact gv (gk.mp (e▸bh)) λfy fB a_=>(gk (l₁:=[st,d,O,y,T,g]) (l₂:=[n,p])).mpr (dI fy (.cons (bO (aY (d9 6 C)).symm eJ) fB) (λx j Q z=>(cD.mp z).elim (λq=>q.symm▸aY (e▸gj _ j)) (a_ x j Q)))
 .have F:=fj b f;exact⟨F.hb,F.fz,F.loc,F.cell,F.fp,F.tab,F.h0⟩
theorem s5(x:bK c.B c.Z c.w O)(z:1<=c.n)(k:c.y.DC "_law_stream" 21 (.ref S))(K:jK (c.B.re A) c.mg S P [])(B:∀{L u h},A.eI L h->A.eI u h)(a:∀{L h},c.B.inv L h->TabAt h P #[]/\A.eI L h)
  (F:Fm c.V b9 32 d8)(X:y[5]?=D (.own (nT bs)))(e:hB.lk=[])(i:SR c.B c.ρ hB g c.V b9 32 y s.heap)
  (R:∀t st,bP s t->SR (c.B.re A) c.ρ hB g c.V b9 32 ((y.set 5 .un).set 7 (.obj (.bB st bs 0))) t.heap->Q .next t):
  aQ (aI c.Z c.w) c.A (exec (bG 5) c.V) Q H s:=by
 obtain⟨w,m,r,l⟩:=i;exact kC (adj x z k K B a F 34 5 C C X w l λo st v q p=>gh (av:=.obj _) w e p.S (C) (by decide) (.inr (F.kn 7 C nofun)) ⟨.ref st,C,p.ob⟩ p.ok λn b j f=>R n st (q.trans j) ⟨w,b,_,f⟩) C
theorem Rb{st:aq}(d6:bK c.B c.Z c.w a)(F:Fm c.V n k G)(i t:J)(O:G[t]?=D (L,.globalImplicit))(j:n[i]?=D x)(X:y[i]?=D (.obj (.bB st bs m)))(l:c.y.FO c.n L (.bB st bs m) [] z (.bB st bs b)):
  EE c n k y (.Call (.Name L p) [.Name x s] [] u) (y.set i (.obj (.bB st bs b))) z:=mX l λo q S w v R g=>⟨K_ c.G c.R (F.kn t O nofun) w (F.kg t O) v R j (F.eY j) X (l9 C) lX X g λh e=>A0 (y:=c.y) d6 h e⟩
end
theorem ve{A:af}(B:G.kindOf A=D .cell):gY (.ListComp e f v u) (D (.Name A c)) h G=pure ay:=by
 show pure _=pure ay;rw [B,show(D NameKind.cell==D NameKind.local)=ay from C,Iv,Bool.false_and,Bool.false_and]
def vY(T:I J):J->I (I J)->Prop
 |_,[]=>True
 |m,l::s=>T[m]?=D l.length/\(T.drop (m+1)).take l.length=l/\l.length<=4/\vY T (m+1+l.length) s
noncomputable def Cz:J->I (I J)->J
 |m,[]=>m
 |m,l::s=>Cz (m+1+l.length) s
theorem abi(h:H[d.length]?=D v):nh d [i] y H=y.set i v:=by
 delta nh
 apply RU;intro t;apply ae (R0);rw [List.getElem?_set]
 by_cases q:i=t
 .subst q;cases X:y[i]? with
  |none=>rw [aL C,aJ (ie.mpr (af9.mp X))];rfl
  |some a=>
   rw [aL C,aL (cG.mp X).1];show D (if i∈[i]then _ else a)=_;rw [aL (.head _)];have:U d+[i].idxOf i=U d:=by rw [List.idxOf_cons_self];rfl
   rw [this,h];rfl
 .rw [aJ q];cases X:y[t]? with
  |none=>rfl
  |some a=>
   show D (if t∈[i]then _ else a)=_;rw [aJ λm=>q (cO.mp m).symm]
section
variable{c:Cx Ob}{st:aq}{bs:I J}{lv:I (AV Ob)}
def vZ(c:Cx Ob)(st:aq)(bs:I J):Prop:=∀{k:J}{l:I J},bs[k]?=D l.length->(bs.drop (k+1)).take l.length=l->l.length<=4->c.y.FO c.n "read_string1" (.bB st bs k) [] (.str l) (.bB st bs (k+1+l.length))
theorem s6(p:bK c.B c.Z c.w O)(F:Fm c.V b9 32 d8)(d:vZ c st bs){l:I J}(w:bs[m]?=D (U l))(v:(bs.drop (m+1)).take (U l)=l)(R:U l<=4)(j:lv[7]?=D (.obj (.bB st bs m))):
  ES c b9 32 lv (bG 6) ((lv.set 7 (.obj (.bB st bs (m+1+U l)))).set 8 (.t (.str l))) .next:=eL F 8 C (by decide) (Rb p F 7 35 C C j (d w v R)) C
theorem ab3{c:Cx Ob}(p:bK c.B c.Z c.w O)(d:vZ c st bs)(F:Fm c.V ["sign","stream"] 1 [(".0",.local),("sign",.local),("read_string1",.globalImplicit),("stream",.free)]):∀(s:I _)(j:I J)(m:J)(v:AV Ob),U j=U s->vY bs m s->
  AB c ["sign","stream"] 1 (.Name "sign" x) [] (.Call (.Name "read_string1" b) [.Name "stream" B] [] u) (j.map λa=>T.str [a]) [v,.obj (.bB st bs m)] (s.map .str) [qp v (j.map λa=>T.str [a]),.obj (.bB st bs (Cz m s))]:=λe=>e.rec
 (λj m v h _=>by
  obtain rfl:=List.length_eq_zero_iff.mp h
  exact .nil)
 (λl s n j m v h i=>by
  cases j with
  |nil=>exact nomatch h
  |cons y j=>exact .go (iD F 0 C (gE 0)).1 K8 (Rb p F 1 2 C C C (d i.1 i.2.1 i.2.2.1)).1 (n j _ _ (DD h) i.2.2.2))
theorem s7(p:bK c.B c.Z c.w O)(F:Fm c.V b9 32 d8)(d:vZ c st bs){o:I J}{G:I (I J)}(y:U o=U G)(g:U o=4)(i:vY bs m G)(j:lv[7]?=D (.obj (.bB st bs m)))(h:lv[8]?=D (.t (.str o))):
  ES c b9 32 lv (bG 7) ((lv.set 7 (.obj (.bB st bs (Cz m G)))).set 9 (.t (.list (G.map .str)))) .next:=
 eL F 9 C (by decide) (zf (HV ["sign"] ["stream"] [7] F C C C (xx (zv F 8 C h)) (cQ.mpr ⟨aA B7 j,C⟩) (λa x=>by
  have e:nW ["sign"] [7] lv=[.un,.obj (.bB st bs m)]:=by show [.un,lv[7]?.getD .un]=_;rw [j];rfl
  exact(e)▸(ab3 (c:=c.ff _ a) p d x G o m .un y i)) C C (eU (by rw [dg,g];exact az C)) (abi C))) (ve (F.kn 9 C nofun))
end
def u9(a:J):I J:=iL [(nk a).r]
noncomputable def iB(o w:I J):I J:=(dz 4).filter λt=>aO (o.getD t 0∈w)
theorem r4:ro (0,4,1)=(dz 4).map (λ(p:J)=>T.int p):=C
theorem OX:sX (0,4,1)=Y:=C
theorem ou{c:Cx q}(F:Fm c.V n k G)(t:J)(O:G[t]?=D (("range":af),.globalImplicit)):EI ay c n k y (.Call (.Name "range" p) [.Constant (.int 4) v h] [] u) y ((dz 4).map λ(p:J)=>T.int p):=zM (tF F t O (zr (zi 4) cT C) C OX C) r4
theorem jm(h:t∈dz 4):t<4/\t<2^60:=⟨fm.mp h,eH (fm.mp h) (az C)⟩
theorem q4{o:I J}(g:U o=4){t:J}(h:t<4):o[t]?=D (o.getD t 0):=by rw [tJ,dB (g.symm▸h)];rfl
theorem get_mem{o:I J}(g:U o=4)(h:t<4):o.getD t 0∈o:=cN (q4 g h)
theorem get_map{R:Type}{l:I R}{d:R}{L:R->T}(h:t<U l):(l.map L)[t]?=D (L (l.getD t d)):=by apply ae (jv);rw [tJ,dB h];rfl
section
variable{c:Cx O}{lv:I (AV O)}{ab:I J}{ws:I (I J)}
theorem s8(F:Fm c.V b9 32 d8)(e:∀r d,∀a∈ab,CN (c.ff r d) "_law_plain" [.str [a]] (.str (pD a)))(i:∀r d,∀a∈ab,CN (c.ff r d) "translate" [.str (42::(pD a++[42]))] (.str (u9 a)))(g:U ab=4)(G:lv[8]?=D (.t (.str ab))):
  ES c b9 32 lv (bG 8) (lv.set 10 (.t (.list ((ab.map u9).map .str)))) .next:=by
 rw [dH];exact eL F 10 C (by decide) (zf (jW "sign" [] [] _ F C C C (xx (zv F 8 C G)) C (λh o a u=>nB o 2 C (zr (fh (fh (zs [42] (cR ['*'])) (nB o 3 C (zr (zv o 0 C C) cT C) (e _ h a u) C) (pH (aD (iO (GX a) 1) (az C)))) (zs [42] (cR ['*'])) (pH (by rw [cA];exact aD (rQ (iO (GX a) 1) 1) (az C)))) cT C) (i _ h a u) C) C (g▸az C))) (ve (F.kn 10 C nofun))
theorem s9(F:Fm c.V b9 32 d8)(i:∀r d x B,∀a∈ab,∀w∈ws,CN ((c.ff r d).ff x B) "_law_takes" [.str (u9 a),.str w] (.bool (aO (a∈w))))(g:U ab=4)(y:U ws<=4)(L:lv[9]?=D (.t (.list (ws.map .str))))(G:lv[10]?=D (.t (.list ((ab.map u9).map .str)))):
  ES c b9 32 lv (bG 9) (lv.set 11 (.t (mL (ws.map (iB ab))))) .next:=by
 show ES _ _ _ _ _ (lv.set 11 (.t (.list ((ws.map _).map nL)))) _;rw [dH]
 exact eL F 11 C (by decide) (zf (jW "image" ["stars"] [10] _ F C C C (jd (zv F 9 C L)) (eP G C) (λh o w y=>zf (nC "j" ["image","stars"] [0,1] (λt:J=>T.int t) _ o C C C
  (ou o 2 C) (eP C (eP (aA D (gd G)) C))
  (λe H t O=>lG (nB H 2 C (zr (dS (zv H 2 C (aA D (gd (lv:=lv) (i:=10) G))) (zv H 0 C C) (fR (jm O).2 (by rw [dH];exact get_map (d:=0) (g.symm▸(jm O).1))) C) (zr (zv H 1 C C) cT C) C) (i _ h _ e _ (get_mem g (jm O).1) w y) C) C λ_=>C) (λe H t O _=>zv H 0 C C) C (az C))) C (aD y (az C)))) (ve (F.kn 11 C nofun))
end
theorem Ls(H:I AN)(l:I J):U (e_ H l)<=U H+1:=by delta e_;split<;>simp
theorem JE(H:I AN)(y:I J):∀(a:I _),U (jL H y a)<=U H+1+U a:=by
 intro a
 delta jL
 have n:U (lA (e_ H y) y a.length)<=U H+1:=by delta lA;rw [dg];exact Ls H y
 generalize lA _ y (U a)=T at n;have:∀(S:I _)(T:I AN)(k:J),U T<=k->U (S.foldl (λH p=>i5 (e_ H p) p y) T)<=k+U S:=by
  intro S
  induction S with
  |nil=>intro T k h;simpa using h
  |cons p S e=>
   intro T k h;have:=e (i5 _ p y) (k+1) (by delta i5;rw [dg];have:=Ls T p;exact d_ 0 (.v 2) (.a (.v 1) (.n 1)) (.v 0) (.v 1) (.v 2) (.a (.v 0) (.n 1)) C [_,_,_] h this);exact cS 0 (.v 0) (.a (.v 1) (.a (.v 2) (.n 1))) (.v 0) (.a (.a (.v 1) (.n 1)) (.v 2)) C [_,_,_] this
 exact this a T _ n
theorem JF(y:I J)(e:I _)(h:∀a∈H,U a.2.2<=k):∀a∈jL H y e,U a.2.2<=k+U e:=by
 have L:∀(T:I AN)(l:I J)(k:J),(∀a∈T,U a.2.2<=k)->∀a∈e_ T l,U a.2.2<=k:=λT l k h a u=>by
  delta e_ at u
  split at u
  .exact h a u
  .rcases fE.mp u with u|u
   .exact h a u
   .rw [cO.mp u];simp
 have z:∀a∈lA (e_ H y) y (U e),U a.2.2<=k:=λa u=>by
  refine ai (dZ.mp u) λb f d=>?_;subst d;have:=L H y k h b f
  split<;>exact this
 delta jL
 generalize lA _ y (U e)=T at z;have:∀(S:I (I J))(T:I AN)(k:J),(∀a∈T,U a.2.2<=k)->∀a∈S.foldl (λH p=>i5 (e_ H p) p y) T,U a.2.2<=k+U S:=by
  intro S
  induction S with
  |nil=>intro T k h;simpa using h
  |cons p S n=>
   intro T k h a u
   have:=n (i5 _ p y) (k+1) (λa u=>by
    refine ai (dZ.mp u) λb f d=>?_;subst d;have:=L T p k h b f
    split
    .simp;exact this
    .exact cS 0 (.v 0) (.a (.v 1) (.n 1)) (.v 0) (.v 1) C [_,_] this) a u
   exact cS 0 (.v 0) (.a (.v 1) (.a (.v 2) (.n 1))) (.v 0) (.a (.a (.v 1) (.n 1)) (.v 2)) C [_,_,_] this
 exact this e T k z
def k7(o:I J)(a:J->I J)(H:I AN)(k:J):I AN:=jL H [o.getD k 0] ((a k).map λt=>[o.getD t 0])
section
variable{c:Cx Ob}{lv:I (AV Ob)}{ab:I J}{ws:I (I J)}
def yi(c:Cx Ob)(O:Cl):Prop:=∀E Q(y:I J)(a:I _),Q.length+a.length<=900->(∀h∈Q,h.2.2.length+a.length<=900)->Av c O "add" (.bN E Q aa 0 0) (.str y::a.map .str) λX r=>X=.bN E (jL Q y a) aa 0 0/\r=.none
theorem s10(p:bK c.B c.Z c.w O)(z:u+2<=c.n)(F:Fm c.V b9 32 d8)(f:c.mg "TopologicalSorter"=D (.ref O.bq))(R:(("__init__":af),q)∈O.fs)(l:∀E d,e8 c.B c.Z c.w (u+1) (.ref q) (.gQ E d 0) [] λX r=>X=.bN E [] aa 0 0/\r=.none):
  SP c b9 32 lv (bG 10) λx A=>∃E,x=lv.set 12 (.obj (.bN E [] aa 0 0))/\A=.next:=Q5 p z F 12 36 C f R l C (by decide) C
theorem PT:∀t∈iB ab w,t<4:=λt h=>fm.mp (f9.mp h).1
theorem Hu:U (iB ab w)<=4:=aD (kq _ _) (dm _)
theorem LB(h:k<U ws):((ws.map (iB ab)).map nL)[k]?=D (nL (iB ab (ws.getD k []))):=by rw [dH];exact get_map h
theorem TH(p:bK c.B c.Z c.w ak)(K:yi c ak)(F:Fm c.V b9 32 d8)(g:U ab=4)(y:U ws=4):∀(f:I J)(lv:I _)(Q:I AN)(m:J)(v:AV Ob),U lv=32->lv[8]?=D (.t (.str ab))->lv[11]?=D (.t (mL (ws.map (iB ab))))->lv[12]?=D (.obj (.bN E Q aa 0 0))->lv[13]?=D v->(∀k∈f,k<4)->U Q<=m->(∀a∈Q,U a.2.2<=m)->m+5*U f<=800->
  ∃j,jH c b9 32 (oZ (D (bG 11))) (iw (D (bG 11))) (f.map λ(k:J)=>T.int k) lv ((lv.set 13 j).set 12 (.obj (.bN E (f.foldl (k7 ab λk=>iB ab (ws.getD k [])) Q) aa 0 0))) .next:=λau=>au.rec
 (λlv Q m v X G u s o h H e B=>⟨v,by
  rw [pI o,show([]).foldl (k7 ab λk=>iB ab _) Q=Q from C,pI s];exact my⟩)
 (λk f aj lv Q m v X G u s o h H e B=>by
  have i:=h k (.head _);rw [gB]at B;have S:=gs (x:=.t (.int k)) (j:=13) G (by decide);have l:=gs (x:=.t (.int k)) (j:=13) u (by decide);have n:=gs (x:=.t (.int k)) (j:=13) s (by decide);have w:(lv.set 13 (.t (.int k)))[13]?=D (.t (.int k)):=jw (by rw [X];decide);have x:U ((iB ab (ws.getD k [])).map λt=>[ab.getD t 0])<=4:=by rw [dg];exact Hu
  refine wj (K E Q [ab.getD k 0] ((iB ab (ws.getD k [])).map λt=>[ab.getD t 0]) (by exact jS 0 (.a (.v 0) (.v 3)) (.n 900) (.v 0) (.v 1) (.a (.v 1) (.m 5 (.a (.v 2) (.n 1)))) (.n 800) (.v 3) (.n 4) C [_,_,_,_] H B x) (λa b=>by have:=e a b;exact jS 0 (.a (.v 3) (.v 2)) (.n 900) (.a (.v 0) (.m 5 (.a (.v 1) (.n 1)))) (.n 800) (.v 2) (.n 4) (.v 3) (.v 0) C [_,_,_,_] B x this)) λaH aC aE z R ah d P=>?_;have A:k<2^60:=eH i (az C);have L:U (lv.set 13 (AV.t (T.int k)))=32:=by rw [pT,X]
  refine bH (aj ((lv.set 13 (.t (.int k))).set 12 (.obj (.bN E (k7 ab (λk=>iB ab (ws.getD k [])) Q k) aa 0 0))) _ (m+5) (.t (.int k)) (by rw [pT,L]) (gs S (by decide)) (gs l (by decide)) (jw (by rw [L];decide)) (gs w (by decide)) (λao b=>h ao (.tail _ b)) (aD (JE _ _ _) (aD (iE (jx H) x) (fq (vD m 1 4)))) (λa b=>aD (JF _ _ e a b) (iO (aD x (az C)) m)) (by exact cS 0 (.a (.a (.v 0) (.n 5)) (.m 5 (.v 1))) (.n 800) (.a (.v 0) (.m 5 (.a (.v 1) (.n 1)))) (.n 800) C [_,_] B)) λj r=>⟨j,?_⟩;rw [w7 (by decide)]at r
  exact ki (iD F 13 C (by decide)) (fb (H_ (c:=c) (o':=.bN E (k7 ab (λk=>iB ab (ws.getD k [])) Q k) aa 0 0) p F 12 C n z R (by decide) C ah d
   (JS (dS (zv F 8 C S) (zv F 13 C w) (jn A (q4 g i)) C)
    (zf (jW "j" ["told"] [8] (λt=>T.str [ab.getD t 0]) (us:=iB ab (ws.getD k [])) (g:=λt:J=>T.int t) F C C C (jd (dS (zv F 11 C l) (zv F 13 C w) (fR A (LB (y.symm▸i))) C)) (eP S C)
     (λaF q t O=>dS (zv q 1 C (aA D (gd S))) (zv q 0 C C) (jn (eH (PT t O) (az C)) (q4 g (PT t O))) C) C (aD Hu (az C)))) (by rw [dg];exact aD Hu (az C)) C)
   n (by rw [dH]at P;exact P) C C) C) r)
theorem s11(p:bK c.B c.Z c.w O)(K:yi c O)(F:Fm c.V b9 32 d8)(g:U ab=4)(y:U ws=4)(X:U lv=32)(G:lv[8]?=D (.t (.str ab)))(u:lv[11]?=D (.t (mL (ws.map (iB ab)))))(h:lv[12]?=D (.obj (.bN E [] aa 0 0)))(s:lv[13]?=D v):
  ∃j,ES c b9 32 lv (bG 11) ((lv.set 13 j).set 12 (.obj (.bN E ((dz 4).foldl (k7 ab λk=>iB ab (ws.getD k [])) []) aa 0 0))) .next:=
 bH (TH p K F g y _ lv [] 0 v X G u h s (λk m=>fm.mp m) (dm _) (λa m=>nomatch m) (az C)) λj r=>⟨j,kP (ou F 37 C) r C C⟩
end
section
variable{c:Cx Ob}
theorem QL(B:gZ c G)(F:Fm c.V n k bf)(i t:J)(O:bf[t]?=D (L,.globalImplicit))(j:n[i]?=D x)(a_:y[i]?=D (.obj o))(aj:c.mg L=D (.ref a))(T:∀{h},bF c.B.h₀ h->h.get? a=D u)(ak:u.data=.func ao)
  (aC:mO c.B c.Z c.w c.n (.ref a) o [] bW λm r=>m=X/\r=D q):EE c n k y (.Call (.Name L cu) [.Name x d] [] bQ) (y.set i (.obj X)) q:=by
 constructor;intro cF p E bR b_ S R;refine kD (nZ c.G S.1 S.ready.base (F.kn t O nofun) aj (F.kg t O) (yc (fd:=ao) (o:=u) (mV (e:=.Name x d) nofun▸tO (pW (cps λbZ Q=>?_)))));obtain⟨w,P,ah,l⟩:=S;obtain⟨ck,z,e,rfl,au⟩:=l.vars i x _ j a_;have A:=j7 j;refine Q (eO (eK w l.ns z (lO ⟨⟨T l.base,ak⟩,(i8 (aC c.A c.ρ p e [] _ E (ah i) [c.V.locals] G (l.E4 B A) c.R l.ready au (l.uu A) .nil λaE v cB m r cC aF g H aK aM aN aP aT aY s aH=>?_))⟩)) (F.eY j));obtain⟨rfl,rfl⟩:=aF;refine ai aH λbh bl bx=>?_;subst bl;exact R aE v bh g H ⟨w,P,_,l.xj j (λb bC bz bE o T=>aK b bC bz (λbI=>bE (cO.mp bI)) o T) (Hr aM (.head _) l.ns) aN H aP aT z ⟨e,C,aY⟩ λb f=>⟨(s b f).1.imp id l.free,(s b f).2⟩⟩ bx
theorem QI(F:Fm c.V n k G)(i t:J)(j:n[i]?=D x)(A:i<k)(L:n[t]?=D H)(O:t<k)(a:EE c n k b e P (.tup [q,o]))(B:swapsWithSole [.Tuple [.Name x h,.Name H r] E w] e u.line c.V=pure ay)(y:swappedStores [.Tuple [.Name x h,.Name H r] E w] e c.V=pure aa):
  ES c n k b (.Assign [.Tuple [.Name x h,.Name H r] E w] e u) ((P.set i (.t q)).set t (.t o)) .next:=
 ⟨K6 a.1 (KU c.R.handled j A (F.loc j A) L O (F.loc L O)) B y⟩
def D4(c:Cx Ob):Prop:=∀{E:aq}{Q:I AN}{T m:J}{o b},nU Q=Y->l0 Q T=D o->ng o=Y->Q.length<=800->oh m Q (eA Q) []=D b->
 ∃a u S,c.mg "_law_rounds"=D (.ref a)/\(∀{h},bF c.B.h₀ h->h.get? a=D u)/\u.data=.func S/\mO c.B c.Z c.w c.n (.ref a) (.bN E Q aa 0 0) [] .none λX r=>X=.bN E (iu m Q (eA Q) 0).1 (D []) (iu m Q (eA Q) 0).2 (iu m Q (eA Q) 0).2/\r=D (.tup [.bool o.isSome,.list (gL b)])
theorem s12(i:gZ c [])(F:Fm c.V b9 32 d8)(K:D4 c)(w:nU Q=Y)(v:l0 Q fuel=D o)(h3:ng o=Y)(g:U Q<=800)(s:oh m Q (eA Q) []=D b)(h:y[12]?=D (.obj (.bN E Q aa 0 0))):
  ES c b9 32 y (bG 12) (((y.set 12 (.obj (.bN E (iu m Q (eA Q) 0).1 (D []) (iu m Q (eA Q) 0).2 (iu m Q (eA Q) 0).2))).set 14 (.t (.bool o.isSome))).set 15 (.t (.list (gL b)))) .next:=
 mX (@K E _ _ _ _ _ w v h3 g s) λx u S a e z l=>QI F 14 15 C (az C) C (by decide) (QL i F 12 38 C C h a e z l) C C
end
section
open Builtin Builtin.Str
theorem aa4(w:I J)(a:J):∀(n k:J)(st:iR J×J),k+n=U w+1->st.2<=k->st.1.size<=k->(forIn (z8 k n) st (SK ⟨w.toArray⟩ ⟨[a].toArray⟩ (U w) (U w+1))).run.fst.size=st.1.size+(w.drop k).count a:=λn=>n.rec
 (λk st h _ _=>by
  have h:k+0=U w+1:=h
  rw [vz (by exact cS 0 (.v 1) (.v 0) (.a (.v 1) (.n 1)) (.a (.v 0) (.n 0)) C [_,_] ((pB h)))];rfl)
 (λn i k st h v R=>by
  rw [agk,RZ]
  delta SK
  have x:=AZ (o:=a) (i:=k) (hi:=U w) (dm _)
  by_cases c:k+1<=U w/\w[k]?=D a
  .have L:=x.mpr c;rw [aL ⟨⟨⟨by exact d_ 0 (.a (.v 3) (.n 1)) (.a (.v 2) (.n 1)) (.a (.v 0) (.a (.v 1) (.n 1))) (.a (.v 2) (.n 1)) (.v 3) (.v 0) C [_,_,_,_] ((iX h)) R,v⟩,L.1⟩,L.2⟩];have e:w.drop k=a::w.drop (k+1):=by apply ae (xS (by exact c.1));have:=cG.mp c.2;rw [this.2]
   apply ae (i (k+1) (st.1.push k,k+1) (by exact fS (cS 0 (.a (.a (.v 0) (.n 1)) (.v 1)) (.a (.v 2) (.n 1)) (.a (.v 0) (.a (.v 1) (.n 1))) (.a (.v 2) (.n 1)) C [_,_,_] ((iX h))) (cS 0 (.a (.v 2) (.n 1)) (.a (.a (.v 0) (.n 1)) (.v 1)) (.a (.v 2) (.n 1)) (.a (.v 0) (.a (.v 1) (.n 1))) C [_,_,_] ((pB h)))) (dm _) (by rw [Rp];exact cS 0 (.a (.v 1) (.n 1)) (.a (.v 0) (.n 1)) (.v 1) (.v 0) C [_,_] R));simp only [Rp,e,af1];exact fS (eF (.a (.a (.v 0) (.n 1)) (.v 1)) (.a (.v 0) (.a (.v 1) (.n 1))) C [_,_]) (eF (.a (.v 0) (.a (.v 1) (.n 1))) (.a (.a (.v 0) (.n 1)) (.v 1)) C [_,_])
  .rw [aJ λq=>c (x.mp ⟨q.1.2,q.2⟩)];refine ae (i _ st (by exact fS (cS 0 (.a (.a (.v 0) (.n 1)) (.v 1)) (.a (.v 2) (.n 1)) (.a (.v 0) (.a (.v 1) (.n 1))) (.a (.v 2) (.n 1)) C [_,_,_] ((iX h))) (cS 0 (.a (.v 2) (.n 1)) (.a (.a (.v 0) (.n 1)) (.v 1)) (.a (.v 2) (.n 1)) (.a (.v 0) (.a (.v 1) (.n 1))) C [_,_,_] ((pB h)))) (by exact cS 0 (.v 1) (.a (.v 0) (.n 1)) (.v 1) (.v 0) C [_,_] v) (by exact cS 0 (.v 1) (.a (.v 0) (.n 1)) (.v 1) (.v 0) C [_,_] R)) (aA _ ?_)
   by_cases q:k<U w
   .rw [xS q,af0];intro e;exact c ⟨q,by apply ae (dB q);exact aA D e⟩
   .rw [vz (by exact cS 0 (.v 1) (.a (.v 0) (.n 1)) (.v 1) (.v 0) C [_,_] ((iP q))),vz (by exact(iP q))])
theorem U2(w:I J)(a:J):U (occurrences ⟨w.toArray⟩ ⟨[a].toArray⟩ 0 w.length (w.length+1))=w.count a:=by
 rw [I5,Array.length_toList,aa4 w a _ 0 (#[],0) (by exact fS (cS 0 (.a (.n 0) (.v 1)) (.a (.v 0) (.n 1)) (.v 1) (.a (.v 0) (.n 1)) C [_,_] Cd) (cS 0 (.a (.v 0) (.n 1)) (.a (.n 0) (.v 1)) (.a (.v 0) (.n 1)) (.a (.v 1) (.n 0)) C [_,_] m9)) (dm _) (dm _)];exact jy _
variable{c:Cx O}
theorem ae1(T:EE c n k y o P (.str w))(h:EE c n k P e X (.str [a]))(f:attributeBase o "count" c.V (eval o c.V)=eval o c.V)(L:dO e=Y)(E:(A.endLine==u.line)=Y):
  EE c n k y (.Call (.Attribute o "count" A) [e] [] u) X (.int (w.count a:J)):=
 xy agY PySem.F.type_str_count T (zr h cT L) f (by simp [L]) (dK _ _) E λg v z d b=>by
  refine ai b.jc λl j q=>?_;subst j;refine bH (jj d) λx j=>bH (jj q) λs i=>?_;subst j i;refine PO.give λt Q H r R=>SV agY (tR _ _ _) PySem.F.entry_str_count (PySem.F.args_str_count_2 _ _) (gives_str_count _ _ _ _) ?_;have e:U (occurrences _ _ 0 (⟨w.toArray⟩:af).length ((⟨w.toArray⟩:af).length+1))=w.count a:=U2 w a;rw [e];exact R _ _ (.int _ _)
noncomputable def fu(o:I J)(G:I (I J)):I (I J):=G.map λw=>o.map (w.count)
variable{lv:I (AV O)}{ab:I J}{ws:I (I J)}
theorem s13(F:Fm c.V b9 32 d8)(g:U ab=4)(y:U ws<=4)(v:lv[2]?=D (.t (.str ab)))(q:lv[4]?=D (.t (.list (ws.map .str)))):ES c b9 32 lv (bG 13) (lv.set 16 (.own ((fu ab ws).map nL))) .next:=by
 delta fu
 rw [dH];refine Dc "word" ["letters"] [2] (λw=>nL _) F C C C (jd (zv F 4 C q)) (eP v C) (λd o w i=>(gJ (zf (jW "letter" ["word"] [0] (λa:J=>T.int (w.count a:J)) (us:=ab) (g:=λa:J=>T.str [a]) o C C C (xx (zv o 1 C (aA D (gd (lv:=lv) (i:=2) v)))) C (λe H a u=>?_) C (g▸az C))) (aA T.list (by rw [dH];rfl)))) C (aD y (az C)) C (by decide) (i':=16) C C C;exact ae1 (zv H 1 C C) (zv H 0 C C) C C C
end
def OJ(T:I (I J)):I (I J):=jF T T
def OK(T:I (I J)):I (I J):=jF (OJ T) T
def jE(T:I (I J)):I (I J):=jF (OK T) T
def fW(T:I (I J)):I (I (I J)):=[xm,T,OJ T,OK T,jE T]
theorem adA{x H:af}(j:G.kindOf x=D .cell):swappedStores [.Tuple [.Name x c,.Name H r] E k] (.Tuple Q k₂ n) G=pure aa:=by
 refine Mu (Mu (aL (Dl.mpr (.inl ?_))));have t:=af4 (l:=[zX H r]) (a:=zX x c) (f:=λe=>match e with|.Name id u=>if G.kindOf id==D .local&&u.line==c.line then D id else aa|_=>aa) (aJ λq=>nc NameKind.ctorIdx (bj (ae j.symm (beq_iff_eq.mp (cQ.mp q).1))) C)
 by_cases q:(G.kindOf H==D NameKind.local&&r.line==c.line)=Y
 .exact aA (λl:I af=>U l !=2) (ae t (IL (aL q)))
 .exact aA (λl:I af=>U l !=2) (ae t (af4 (aJ q)))
theorem E0(t k:J):gb .Eq (.int (t)) (.int (k:aS))=D (aO (t=k)):=aA D (by rw [oE,rZ];exact beq_iff_eq.trans IH)
noncomputable def F5(T:I (I J)):J->I (I (I J))->I (I J)->I (I (I J))
 |0,S,L=>S++[L]
 |u+1,S,L=>F5 T u (S++[L]) (jF L T)
section
variable{c:Cx O}{lv:I (AV O)}{M:I (I J)}
theorem s14(F:Fm c.V b9 32 d8)(a:lv[16]?=D (.t (mL M))):ES c b9 32 lv (bG 14) (lv.set 17 (.own [mL xm,mL M])) .next:=by
 exact vp F 17 C (by decide) (rG (zr (gJ (zf (jW "k" [] [] (λk:J=>nL _) F C C C (ou F 37 C) C (λd o k B=>(gJ (zf (jW "j" ["k"] [0] (λt:J=>T.int (if t=k then 1 else 0:J)) (us:=dz 4) (g:=λp:J=>T.int p) o C C C (ou o 2 C) C (λe H t O=>QO (b:=aO (t=k)) (zC (zv H 0 C C) (zv H 1 C C) (E0 t k) C) _ (by by_cases q:t=k;rw [cL q,aL C,aL q];rfl;rw [ef q,aJ nofun,aJ q];rfl)) C (az C))) (aA T.list (by rw [dH];rfl)))) C (az C))) C) (zr (zv F 16 C a) cT C) C) C) C
def v8(c:Cx O):Prop:=∀L M,Tab (2^1000) L->Tab (2^1000) M->CN c "_law_times" [mL L,mL M] (mL (jF L M))
theorem abH(F:Fm c.V b9 32 d8)(K:v8 c)(u:Tab (2^1000) L)(R:Tab (2^1000) M)(X:U lv=32)(x:S.length<=100)(a:lv[16]?=D (.t (mL M)))(h:lv[17]?=D (.own ((S++[L]).map mL))):
  EX c b9 32 (lv.set 18 t) (iw (D (bG 15))) ((lv.set 18 t).set 17 (.own ((S++[L]++[jF L M]).map mL))) .next:=by
 have e:=gs (x:=t) (j:=18) h (by decide);apply fb (vm F 17 C e (nB F 39 C (zr (zP F 17 C e (Df (vq 1)) (G9 (by rw [eW,cA];exact af8)) C) (zr (zv F 16 C (gs (x:=t) (j:=18) a (by decide))) cT C) C) (K L M u R) C) e C C (eU (by rw [dg,cA];exact aD (rQ x 1) (az C))));rw [eW (l₂:=[jF L M])];rfl
theorem r3:ro (0,3,1)=[T.int (0:J),T.int (1:J),T.int (2:J)]:=C
theorem r2:ro (0,2,1)=[T.int (0:J),T.int (1:J)]:=C
theorem abG(F:Fm c.V b9 32 d8)(K:v8 c)(R:Tab 4 M):∀(p:I T)(lv:I _)(S:I _)(L:I _)(b:J)(v:AV O),Tab b L->b*16^U p<=2^1000->U lv=32->U S+U p<=100->lv[16]?=D (.t (mL M))->lv[17]?=D (.own ((S++[L]).map mL))->lv[18]?=D v->
  ∃j,jH c b9 32 (oZ (D (bG 15))) (iw (D (bG 15))) p lv ((lv.set 18 j).set 17 (.own ((F5 M (U p) S L).map mL))) .next:=λs=>s.rec
 (λlv S L b v u f X h a e x=>⟨v,by rw [pI x,show F5 M (U ([]:I T)) S L=S++[L]from C,pI e];exact my⟩)
 (λt p n lv S L b v u f X h a e x=>by
  simp only [gB]at f h;have i:U (lv.set 18 (.t t))=32:=by apply ae (pT);rw [X]
  refine bH (n ((lv.set 18 _).set 17 (.own ((S++[L]++[jF L M]).map mL))) _ _ _ _ (nv u R) (by rw [show 4*(b*4)=b*16 by exact fS (eF (.m 4 (.r (.v 0) 4)) (.r (.v 0) 16) C [_]) (eF (.r (.v 0) 16) (.m 4 (.r (.v 0) 4)) C [_]),I0,I1 16];exact f) (by apply ae (pT);rw [i]) (by rw [cA];show _+1+_<=_;exact cS 0 (.a (.a (.v 0) (.n 1)) (.v 1)) (.n 100) (.a (.v 0) (.a (.v 1) (.n 1))) (.n 100) C [_,_] h) (gs (gs a (by decide)) (by decide)) (jw (by simp only [i];decide)) (gs (jw (by rw [X];decide)) (by decide))) λj r=>⟨j,?_⟩;rw [w7 (by decide)]at r
  exact ki (iD F 18 C (by decide)) (abH F K (u.mono (aD (agv b (Nat.pow_pos (by decide))) f)) (R.mono (by decide+kernel)) X (by exact cS 0 (.v 0) (.n 100) (.a (.v 0) (.a (.v 1) (.n 1))) (.n 100) C [_,_] h) a e) r)
theorem s15(F:Fm c.V b9 32 d8)(K:v8 c)(R:Tab 4 M)(X:U lv=32)(a:lv[16]?=D (.t (mL M)))(h:lv[17]?=D (.own [mL xm,mL M]))(e:lv[18]?=D v):∃j,ES c b9 32 lv (bG 15) ((lv.set 18 j).set 17 (.own ((fW M).map mL))) .next:=
 bH (abG F K R [T.int _,T.int _,T.int _] lv [xm] M 4 v R (by decide+kernel) X (az C) a h e) λj r=>⟨j,kP (zM (tF F 37 C (zr (zi 3) cT C) C C C) r3) r C C⟩
def ly(M:I (I J)):I (I J):=(dz 4).map λk=>(dz 4).map λt=>((dz 4).map λu=>cI ((fW M).getD u []) k t).sum
theorem wR(u:Tab b L){k t:J}(B:k<4)(O:t<4):(L.map nL)[k]?=D (nL (L.getD k []))/\((L.getD k []).map λ(x:J)=>T.int x)[t]?=D (.int (cI L k t:J)):=
 ⟨getM (u.l.symm▸B),Fj ((u.r _ (getD_mem' (u.l.symm▸B))).1.symm▸O)⟩
theorem xe(R:Tab 4 M):∀L∈fW M,Tab (2^20) L:=by
 have c:=nv R R;have l:=nv c R;have i:=nv l R;exact bO (adD.mono (az C)) (bO (R.mono (by decide)) (bO (c.mono (by decide)) (bO (l.mono (az C)) (bO (i.mono (az C)) eJ))))
theorem uw(z:u<5):((fW M).map mL)[u]?=D (mL ((fW M).getD u [])):=get_map z
theorem s16(F:Fm c.V b9 32 d8)(R:Tab 4 M)(h:lv[17]?=D (.t (.list ((fW M).map mL)))):ES c b9 32 lv (bG 16) (lv.set 20 (.t (mL (ly M)))) .next:=by
 refine eL F 20 C (by decide) (gJ (zf (jW "k" ["powers"] [17] (λk:J=>nL _) F C C C (ou F 37 C) (eP h C) (λd o k B=>(gJ (zf (jW "j" ["k","powers"] [0,1] (λt:J=>T.int (((dz 4).map λu=>cI ((fW M).getD u []) k t).sum:J)) (us:=dz 4) (g:=λp:J=>T.int p) o C C C (ou o 2 C) (eP (a:=.int k) C (eP (a:=.list ((fW M).map mL)) (show D (lv[17]?.getD .un)=_ from aA D (gd h)) C)) (λe H t O=>?_) C (az C))) (aA T.list (by rw [dH];rfl)))) C (az C))) (aA T.list (by delta ly;rfl))) (ve (F.kn 20 C nofun));refine gJ (xA H 2 C (zf (jW "n" ["j","k","powers"] [0,1,2] (λu:J=>T.int _) H C C C (ou H 3 C) (eP C (eP C (eP (show D (lv[17]?.getD .un)=_ from aA D (gd h)) C))) (λx n u z=>?_) C (az C))) (ae (aA kJ (by simp only [dH];rfl)) (ints_map ((dz 4).map λu=>((cI _ k t))))) C) (aA T.int (by rw [<-yu,dH];rfl));have i:=jZ (jm z).1;have a:=wR (xe R _ (getD_mem' (d:=[]) (M:=fW M) (j:=u) i)) (jm B).1 (jm O).1;exact dS (dS (dS (zv n 3 C (aA D (gd (i:=17) h))) (zv n 0 C C) (fR (jm z).2 (uw i)) C) (zv n 2 C C) (fR (jm B).2 a.1) C) (zv n 1 C C) (fR (jm O).2 a.2) C
end
def qq(T:I (I J)):I (I J):=jF (jE T) (ly T)
def GW(T:I (I J)):I (I J):=jF (jE T) (jE T)
def ri(T:I (I J)):I (I J):=jF (GW T) (GW T)
section
variable{c:Cx O}{lv:I (AV O)}{M:I (I J)}{ab:I J}
theorem CZ(R:Tab 4 M):Tab (2^22) (ly M):=by
 refine⟨by delta ly;rw [dg,xW],λr s=>(ai (dZ.mp s) λk B e=>?_)⟩;subst e;refine⟨by rw [dg,xW],λx j=>(ai (dZ.mp j) λt O e=>?_)⟩;subst e;have h:∀u,u<5->cI ((fW M).getD u []) k t<2^20:=λu z=>(xe R _ (getD_mem' z)).of (jm B).1 (jm O).1;exact eH (Js (f:=λu=>cI ((fW M).getD u []) k t) λu z=>h u (jZ z)) (az C)
theorem rz(R:Tab 4 M):Tab (2^20) (jE M):=xe R _ (d9 4 C)
theorem s17(F:Fm c.V b9 32 d8)(K:v8 c)(R:Tab 4 M)(h:lv[17]?=D (.t (.list ((fW M).map mL))))(e:lv[20]?=D (.t (mL (ly M)))):ES c b9 32 lv (bG 17) ((lv.set 21 (.t (mL (qq M)))).set 22 (.t (mL (jE M)))) .next:=
 ⟨K6 (Bp (zr (nB F 39 C (zr (dS (zv F 17 C h) (zi (4)) (fR (i:=4) (by decide) (uw (by decide))) C) (zr (zv F 20 C e) cT C) C) (K _ _ ((rz R).mono (by decide+kernel)) ((CZ R).mono (by decide))) C) (zr (dS (zv F 17 C h) (zi (4)) (fR (i:=4) (by decide) (uw (by decide))) C) cT C) C).1 C) (KU c.R.handled C (az C) (.inr (F.kn 21 C nofun)) C (by decide) (.inl (F.kn 22 C nofun))) C (adA (F.kn 21 C nofun))⟩
theorem s18(F:Fm c.V b9 32 d8)(K:v8 c)(R:Tab 4 M)(X:U lv=32)(e:lv[22]?=D (.t (mL (jE M)))):ES c b9 32 lv (bG 18) ((lv.set 18 (.t (.int (1:J)))).set 22 (.t (mL (ri M)))) .next:=by
 have i:=rz R;have v:=nv i i;have st:∀{L:I (I J)}{lv:I _}(t:T),Tab _ L->lv[22]?=D _->EX c b9 32 _ (iw (D (bG 18))) ((lv.set 18 (.t t)).set 22 _) .next:=λt u h=>
  fb (eL F 22 C (by decide) (nB F 39 C (zr (zv F 22 C (gs h (by decide))) (zr (zv F 22 C (gs h (by decide))) cT C) C) (K _ _ u u) C) C) C
 have b:=st (lv:=(lv.set 18 (.t (.int (0:J)))).set 22 (.t _)) (.int (1:J)) (v.mono (by decide+kernel)) (jw (by simp only [pT,X];decide));rw [w7 (by decide)]at b;exact kP (zM (tF F 37 C (zr (zi 2) cT C) C C C) r2) (ki (iD F 18 C (by decide)) (st _ (i.mono (by decide+kernel)) e) (ki (iD F 18 C (by decide)) b my)) C C
theorem s19(F:Fm c.V b9 32 d8):ES c b9 32 lv (bG 19) (lv.set 23 (.own [])) .next:=vp F 23 C (az C) (rG cT C) C
def wX(M:I (I J))(u k:J):J:=(((fW M).getD u []).getD k []).sum
def sF(ab:I J)(M:I (I J))(u:J):I (I J):=((dz 4).filter λk=>aO (0<wX M u k)&&(aO (wX M (u+1) k=0)&&Y)).map λk=>[ab.getD k 0]
theorem w5(a b:J):gb .Gt (.int (a)) (.int (b:aS))=D (aO (b<a)):=aA D (decide_eq_decide.mpr jY)
theorem Rf(F:Fm c.V n r G)(q:J)(e:G[q]?=D (("sum":af),.globalImplicit))(R:Tab 4 M){u k:J}(z:u<5)(B:k<4)(w:EE c n r lv a lv (.list ((fW M).map mL)))(v:EE c n r lv x lv (.int u))(i:EE c n r lv m lv (.int k))(s2:uT x=Y)(s3:uT m=Y):
  EE c n r lv (.Call (.Name "sum" p) [.Subscript (.Subscript a x l) m b] [] s) lv (.int (wX M u k:J)):=by
 have y:=xe R _ (getD_mem' (d:=[]) z);refine gJ (xA F q e (dS (dS w v (fR (eH z (az C)) (uw z)) s2) i (fR (eH B (az C)) (getM (y.l.symm▸B))) s3) (ae (aA kJ (by show(((fW M).getD u []).getD k []).map _=((((fW M).getD u []).getD k []).map λh:J=>(h:aS)).map T.int;simp only [dH];rfl)) (ints_map _)) C) (aA T.int (yu _))
theorem acA(F:Fm c.V b9 32 d8)(R:Tab 4 M)(g:U ab=4){u:J}(z:u<4)(P:U ds<=100)(v:lv[2]?=D (.t (.str ab)))(h:lv[17]?=D (.t (.list ((fW M).map mL))))(a:lv[19]?=D (.t (.int u)))(H:lv[23]?=D (.own ds)):
  EX c b9 32 lv (iw (D (bG 20))) (lv.set 23 (.own (ds++[.list ((dM (sF ab M u)).map .str)]))) .next:=by
 refine fb (vm F 23 C H (Ri F 40 C (gJ (zf (nC "k" ["letters","n","powers"] [2,19,17] (λk:J=>T.str [ab.getD k 0]) (λk=>aO (0<wX M u k)&&(aO (wX M (u+1) k=0)&&Y)) (us:=dz 4) (g:=λp:J=>T.int p) F C C C (ou F 37 C) (eP v (eP a (eP h C)))
  (λd o k B=>kO (zC (Rf o 2 C R (jZ z) (jm B).1 (zv o 3 C (aA D (gd h))) (zv o 2 C (aA D (gd a))) (zv o 0 C C) C C) (zi (0:J)) (w5 _ 0) C) λ_=>kO (zC (Rf o 2 C R (Sn z) (jm B).1 (zv o 3 C (aA D (gd h))) (fh (zv o 2 C (aA D (gd a))) (zi 1) (ru C)) (zv o 0 C C) C C) (zi (0:J)) (E0 _ 0) C) λ_=>tD)
  (λd o k B _=>dS (zv o 1 C (aA D (gd v))) (zv o 0 C C) (jn (jm B).2 (q4 g (jm B).1)) C) C (az C))) (aA T.list (by rw [dH];rfl)))
  (kW (aD (fq (dg _)) (kq _ _)) (by decide)) C) H C C (eU (aD P (az C)))) C
theorem Vq(F:Fm c.V b9 32 d8)(R:Tab 4 M)(g:U ab=4):∀(G:I J)(lv:I _)(b:I _)(v:AV O),U lv=32->(∀n∈G,n<4)->U b+U G<=100->lv[2]?=D (.t (.str ab))->lv[17]?=D (.t (.list ((fW M).map mL)))->lv[19]?=D v->lv[23]?=D (.own (gL b))->
  ∃j,jH c b9 32 (oZ (D (bG 20))) (iw (D (bG 20))) (G.map λn:J=>T.int n) lv ((lv.set 19 j).set 23 (.own (gL (b++G.map λn=>dM (sF ab M n))))) .next:=λl=>l.rec
 (λlv b v X z P h e x H=>⟨v,by rw [pI x,show b++([]:I J).map (λn=>dM _)=b from ju _,pI H];exact my⟩)
 (λn G k lv b v X z P h e x H=>by
  simp only [gB]at P;have i:U (lv.set 19 (.t (.int n)))=32:=by apply ae (pT);rw [X]
  have a:(lv.set 19 (.t _))[19]?=D (.t (.int n)):=jw (by rw [X];decide);have s:=acA (lv:=lv.set 19 (.t (.int n))) (ds:=gL b) F R g (z n (.head _)) (by rw [dg];exact cS 0 (.v 0) (.n 100) (.a (.v 0) (.a (.v 1) (.n 1))) (.n 100) C [_,_] P) (gs h (by decide)) (gs e (by decide)) a (gs H (by decide));rw [show gL b++[.list ((dM (sF ab M n)).map .str)]=gL (b++[dM (sF ab M n)])from(eW (l₂:=[dM (sF ab M n)])).symm]at s;refine bH (k ((lv.set 19 (.t (.int n))).set 23 (.own (gL (b++[dM (sF ab M n)])))) (b++[dM (sF ab M n)]) (.t (.int n)) (by rw [pT,i]) (λt m=>z t (.tail _ m)) (by rw [cA];show _+1+_<=_;exact cS 0 (.a (.a (.v 0) (.n 1)) (.v 1)) (.n 100) (.a (.v 0) (.a (.v 1) (.n 1))) (.n 100) C [_,_] P) (gs (gs h (by decide)) (by decide)) (gs (gs e (by decide)) (by decide)) (gs a (by decide)) (jw (by rw [i];decide))) λj r=>⟨j,?_⟩;rw [w7 (by decide),gX]at r
  exact ki (iD F 19 C (by decide)) s r)
def sG(ab:I J)(M:I (I J)):I (I (I J)):=(dz 4).map λu=>dM (sF ab M u)
theorem s20(F:Fm c.V b9 32 d8)(R:Tab 4 M)(g:U ab=4)(X:U lv=32)(v:lv[2]?=D (.t (.str ab)))(h:lv[17]?=D (.t (.list ((fW M).map mL))))(a:lv[19]?=D e)(H:lv[23]?=D (.own [])):∃j,ES c b9 32 lv (bG 20) ((lv.set 19 j).set 23 (.own (gL (sG ab M)))) .next:=
 bH (Vq F R g (dz 4) lv [] e X (λu m=>fm.mp m) (az C) v h a H) λj r=>⟨j,kP (ou F 37 C) r C C⟩
theorem Qc{R:Type} [DecidableEq R](L:T->T->bg bw)(f:R->T)(h:∀x H,L (f x) (f H)=D (aO (x=H))):∀(l m:I R),U l=U m->kh L (l.map f) (m.map f)=D (aO (l=m))
 |[],[],_=>C
 |x::l,H::m,e=>ae (adH (h x H) (Qc L f h l m (DD e))) (aA D (by simp))
theorem HA{R:Type} [DecidableEq R](u:J)(f:R->T)(h:∀x H,gA u (f x) (f H)=D (aO (x=H)))(l m:I R):gA (u+1) (.list (l.map f)) (.list (m.map f))=D (aO (l=m)):=by
 show(if U (l.map f)==U (m.map f)then kh _ _ _ else D ay)=_;simp only [dg]
 by_cases e:U l=U m
 .exact ae (aL (by exact cL e)) (Qc _ f h l m e)
 .apply ae (aJ (by simpa using e));rw [ef (λq=>e (by exact aA _ (q)))]
theorem P9(u:J)(a b:I _):gA (u+2) (.list (a.map .str)) (.list (b.map .str))=D (aO (a=b)):=
 HA (u+1) T.str (λa b=>aA D (by rw [oE,oK];exact DO)) a b
theorem P8(u:J)(a b:I _):gA (u+3) (.list (gL a)) (.list (gL b))=D (aO (a=b)):=HA _ _ (λa b=>P9 u a b) a b
theorem Nk(a b:I _):gb .NotEq (.list (gL a)) (.list (gL b))=D (!aO (a=b)):=aA (qK _) (P8 3 a b)
theorem GB(a b:I _):gb .NotEq (.list (a.map .str)) (.list (b.map .str))=D (!aO (a=b)):=aA (qK _) (P9 4 a b)
theorem GA(a b:bw):gb .NotEq (.bool a) (.bool b)=D (a !=b):=C
noncomputable def j9(b:I (I (I J))):I (I (I J)):=b.filter λd=>!aO (d=[])
theorem adQ(l:I _):(l.map λr:I J=>((r.sum):aS)).sum=(((l.map xY).sum)):=by rw [<-yu,dH];rfl
theorem s21(F:Fm c.V b9 32 d8)(R:Tab 4 M)(P:b.length<=100)(s:h=j9 b)(L:k=aO (0<((jE M).map xY).sum))(n:lv[14]?=D (.t (.bool k)))(l:lv[15]?=D (.t (.list (gL h))))(a:lv[17]?=D (.t (.list ((fW M).map mL))))(H:lv[23]?=D (.t (.list (gL b)))):ES c b9 32 lv (bG 21) lv .next:=by
 have i:=rz R;refine dP (b:=ay) (jo (nA (zC (zv F 15 C l) (zf (nC "group" [] [] _ _ F C C C (jd (zv F 23 C H)) C (λd o e P=>zC (zv o 0 C C) (oq cT C) (GB e []) C) (λd o e P _=>zv o 0 C C) C (aD P (az C)))) (Nk h (j9 b)) C) λ_=>nA (zC (zv F 14 C n) (xu (gJ (xA F 32 C (zf (jW "row" [] [] (λr:I J=>T.int (r.sum:J)) (us:=jE M) (g:=nL) F C C C (jd (dS (zv F 17 C a) (zi (4:J)) (fR (i:=4) (by decide) (uw (M:=M) (by decide))) C)) C (λd o r s=>gJ (xA o 2 C (zv o 0 C C) (ae (aA kJ (by rw [dH];rfl)) (ints_map (r.map λx:J=>(x:aS)))) C) (aA T.int (yu r))) C (i.l▸az C))) (ae (aA kJ (by rw [dH];rfl)) (ints_map ((jE M).map λr:I J=>((r.sum:J):aS)))) C) (aA T.int (adQ _))) (zi (0:J)) (w5 _ 0) C) (GA _ _) C) λ_=>zN) ?_) fY;rw [cL s,L,bne_self_eq_false];rfl
end
theorem W_(l:I J):∀(u:J)(o:iR J),(nH u l.toArray).foldl (·++·) o=o++(nH u l).flatten.toArray:=λR=>R.rec
 (λo=>C)
 (λu n o=>by
  simp only [RY,n,List.replicate_succ,IT]
  simp)
theorem aad(l:I J)(u:J):Txt.mul ⟨l.toArray⟩ u=⟨(nH u l).flatten.toArray⟩:=by
 by_cases w:(u:aS)<1
 .have n:=Nat.lt_one_iff.mp (jY.mp w);subst n;exact aL w
 .refine ae (aJ w) ?_
  split
  .rename_i h;rcases Dl.mp h with h|h
   .have n:u=1:=IH.mp (iS h);subst n;simp
   .have n:=xT (by simp only [str_len]at h;exact iS h);subst n;simp
  .exact(by simp only [W_];simp)
section
variable{c:Cx O}
theorem zsmul{u:J}(w:EE c n k y b P (.str l))(v:EE c n k P x X (.int u))(h:U l<=1000)(z:u<=1000):EE c n k y (.BinOp b .Mult x p) X (.str (nH u l).flatten):=by
 refine⟨λT g s Q H S R=>DL (w.1 T g s _ _ S λe a d q o E O=>v.1 T a e _ _ E λF r t i B f L=>(bH (jj O) λA j=>?_))⟩;subst j;refine bH (qf L) λG j=>?_;subst j;refine SB.mul (mulOk_of 1000 1000 (h) (mE.mpr z) (xP (by decide) (qG u)) (az C) (az C)) λah m=>?_;rw [aad];exact R _ r _ ((q.trans i).trans (cH _ _ C)) (o.trans B) (f.step (cg.tok f.ready _)) (.str _ _)
end
section
variable{c:Cx O}{lv:I (AV O)}{ab:I J}{out:I (I (I J))}
noncomputable def yP(ab:I J)(out:I (I (I J))):I J:=ab.filter λa=>aO (out.filter (λd=>aO ([a]∈d))=[])
theorem K2(a b:I _):gb .Eq (.list (gL a)) (.list (gL b))=D (aO (a=b)):=P8 3 a b
theorem s22(F:Fm c.V b9 32 d8)(g:U ab=4)(e:U out<=100)(v:lv[2]?=D (.t (.str ab)))(l:lv[15]?=D (.t (.list (gL out)))):ES c b9 32 lv (bG 22) (lv.set 24 (.t (.list (kM (yP ab out))))) .next:=
 eL F 24 C (az C) (zf (nC "sign" ["rounds"] [15] (λa=>T.str [a]) (λa=>aO (out.filter (λd=>aO ([a]∈d))=[])) F C C C (xx (zv F 2 C v)) (eP l C) (λh o a u=>zC (zf (nC "group" ["sign"] [0] _ _ o C C C (jd (zv o 1 C (aA D (gd l)))) C (λi H d P=>zC (zv H 1 C C) (zv H 0 C C) (EB [a] d) C) (λi H d P _=>zv H 0 C C) C (aD e (az C)))) (oq cT C) (K2 _ []) C) (λh o a u _=>zv o 0 C C) C (g▸az C))) (ve (F.kn 24 C nofun))
def C6(l:I J):I J:=if l=[]then []else iL [(gf l).r,(gf l).r]
theorem J6(l:I J):U (j3 l)<=U l+4:=by
 have w:U (if 93∈l then [93]else [])<=1:=by split<;>exact az C
 have v:U (if 45∈l then [45]else [])<=1:=by split<;>exact az C
 have R:=kq (λa=>aO (a∉[93,45])) l;show U (91::(if 93∈l then [93]else [])++_++_++[93])<=_;rw [cA,cA,cA,gB];show _+1+_+_+1<=_;exact jS 0 (.a (.a (.a (.a (.v 0) (.n 1)) (.v 2)) (.v 1)) (.n 1)) (.a (.v 3) (.n 4)) (.v 0) (.n 1) (.v 1) (.n 1) (.v 2) (.v 3) C [_,_,_,_] w v R
theorem Nl(l:I J):gb .NotEq (.list (kM l)) (.list [])=D (!aO (l=[])):=by
 have:=GB (l.map λa=>[a]) [];rw [dH]at this;exact this.trans (aA (λb=>D (!b)) (decide_eq_decide.mpr R5))
theorem s23(F:Fm c.V b9 32 d8){l:I J}(X:U l<=4)(e:CN c "_law_bracket" [.list (kM l)] (.str (j3 l)))(i:l≠[]->CN c "translate" [.str (42::j3 l++42::j3 l++[42])] (.str (iL [(gf l).r,(gf l).r])))(a:lv[24]?=D (.t (.list (kM l)))):ES c b9 32 lv (bG 23) (lv.set 25 (.t (.str (C6 l)))) .next:=by
 have h:=J6 l;refine eL F 25 C (az C) ?_ C
 delta C6
 by_cases q:l=[]
 .rw [aL q];exact nE (b:=ay) (jo (zC (zv F 24 C a) (oq cT C) (Nl l) C) (by rw [cL q];rfl)) (zs [] (cR []))
 .rw [aJ q];refine nE (b:=Y) (jo (zC (zv F 24 C a) (oq cT C) (Nl l) C) (by rw [ef q];rfl)) (nB F 41 C (zr (gJ (fh (zsmul (l:=42::j3 l) (fh (zs [42] (cR ['*'])) (nB F 42 C (zr (zv F 24 C a) cT C) e C) (pH (by show 1+_<=_;exact d_ 0 (.a (.n 1) (.v 1)) (.n 1000000) (.v 0) (.n 4) (.v 1) (.a (.v 0) (.n 4)) C [_,_] X h))) (zi _) (by simp only [gB];exact d_ 0 (.a (.v 1) (.n 1)) (.n 1000) (.v 0) (.n 4) (.v 1) (.a (.v 0) (.n 4)) C [_,_] X h) (az C)) (zs [42] (cR ['*'])) (pH ?_)) (aA T.str ?_)) cT C) (i q) C)
  .show U (42::j3 l++(42::j3 l++[]))+1<=_;simp only [ju,cA,gB];exact m8 0 (.a (.a (.a (.v 1) (.n 1)) (.a (.v 1) (.n 1))) (.n 1)) (.n 1000000) (.v 0) (.n 4) (.v 0) (.n 4) (.v 1) (.a (.v 0) (.n 4)) (.v 1) (.a (.v 0) (.n 4)) C [_,_] X X h h
  .show 42::j3 l++(42::j3 l++[])++[42]=_;rw [ju]
end
theorem abz(hh:L.handled=aa)(y:Den F g E (.list p))(h:kJ p=D G)(R:M∈G)(o:∀a∈G,a<=M):PO B (aI X w) L F (call (.builtin "max") [E]) g (.int M):=by
 refine jl (qg y) λa H T u S b=>?_;subst u;refine ai (Mi b h) λl j d=>?_;subst j d;intro s ak ao r e;have Q:s.heap.IsList a (intItems l.toArray):=by
  have:=gy r.bJ S;simpa [intItems]using this
 have m:0<U l:=agb.mpr λq=>by subst q;exact bA R dQ
 refine max_intList hh Q (by simpa using m) λP ah aj i k=>bH (intItems_at i) λA j=>?_;subst j;refine bT (argBest_gt (numAt l.toArray) (l.toArray.size-1)) λn v=>?_;have f:numAt l.toArray (argBest (λc t=>aO (numAt l.toArray c>numAt l.toArray t)) (l.toArray.size-1))=M:=by
  refine Int.le_antisymm (o _ ?_) ?_
  .rw [numAt_eq];exact getD_mem (by simp only [dg];exact kW n (Sm m Ae))
  .refine ai (mem_getD R) λt O z=>?_;simp only [dg]at O;exact z▸(((numAt_eq ..).symm:(l.map λx=>x.1).getD t 0=numAt l.toArray t))▸v t (Nat.le_sub_one_of_lt O)
 exact f▸e _ _ _ (cg.keeps r k) (.int _ _)
theorem YH{R:Type} [DecidableEq R](f:R->T)(e:∀a b,gA 6 (f a) (f b)=D (aO (a=b)))(x:R):∀l:I R,jR (f x) (l.map f)=D (aO (x∈l)):=λh=>h.rec
 C
 (λa r n=>by
  show(match gA 6 _ _,jR _ _ with|D a,D b=>D _|_,_=>aa)=_;simp only [n,e];apply aA D;rw [oE];simp only [afH,oK,cD]
  exact or_congr_left ⟨Dq,Dq⟩)
theorem adF(a b:J):gA 6 (.int a) (.int b)=D (aO (a=b)):=by
 apply aA D;rw [oE,oK];exact beq_iff_eq.trans IH
theorem YI(x:J)(l:I J):jR (.int x) (l.map λ(x:J)=>T.int x)=D (aO (x∈l)):=YH _ adF x l
theorem UR(x:J)(l:I J):gb .In (.int x) (nL l)=D (aO (x∈l)):=YI x l
section
variable{c:Cx O}
theorem Q2(F:Fm c.V n k G)(t:J)(O:G[t]?=D (("max":af),.globalImplicit))(h:EE c n k y e P (.list l))(A:kJ l=D is)(R:M∈is)(o:∀a∈is,a<=M)(L:dO e=Y):EE c n k y (.Call (.Name "max" p) [e] [] u) P (.int M):=
 rF F t 5 O C (zr h cT L) (by simp [L]) λg z d=>by refine ai d.jc λv j q=>?_;subst j;exact abz c.R.handled q A R o
theorem afm{R z:Type}(F:Fm c.V (x::i::n) (k+2) G)(f:R->T)(h:z->T)(L:R->z->T)(q:R->z->bw):∀(p:I (R×z))(v w:AV O),(∀t∈p,EC c (x::i::n) (k+2) (.t (f t.1)::.t (h t.2)::a) o (.t (f t.1)::.t (h t.2)::a) (q t.1 t.2))->(∀t∈p,q t.1 t.2=Y->EE c (x::i::n) (k+2) (.t (f t.1)::.t (h t.2)::a) g (.t (f t.1)::.t (h t.2)::a) (L t.1 t.2))->
  Az c.B c.Z c.w c.A c.ρ c.V (x::i::n) (k+2) (.Tuple [.Name x E,.Name i A] X d) [o] g (p.map λt=>[f t.1,h t.2]) (v::w::a) ((p.filter λt=>q t.1 t.2).map λt=>L t.1 t.2) (qp v (p.map (f ·.1))::qp w (p.map (h ·.2))::a):=λu=>u.rec
 (λv w _ _=>.nil)
 (λt p m v w j S=>by
  have r:=m (.t (f t.1)) (.t (h t.2)) (λy b=>j y (.tail _ b)) λy b=>S y (.tail _ b);have l:=j t (.head _);cases e:q t.1 t.2 with
  |true=>
   rw [z4 (by exact e)];simp only [e]at l;exact .go (aX:=.t _::.t _::a) (KV (is:=[0,1]) c.R.handled (.cons (λv Q H s=>CT v Q H s) C (gE _) (F.loc C (gE _)) (.cons (λv Q H s=>CT v Q H s) C (dK _ _) (F.loc C (dK _ _)) .nil)) C C) (Bo l.1) (S t (.head _) e).1 r
  |false=>
   rw [z0 (by exact(e)▸(nofun))];simp only [e]at l
   exact .skip (aX:=.t (f t.1)::.t _::a) (KV (is:=[0,1]) c.R.handled (.cons (λv Q H s=>CT v Q H s) C (gE _) (F.loc C (gE _)) (.cons (λv Q H s=>CT v Q H s) C (dK _ _) (F.loc C (dK _ _)) .nil)) C C) (Bo l.1) r)
theorem aeL{R z:Type}{f:R->T}{h:z->T}{e:I R}{G:I z}(x H:af)(b:I af)(a:I J)(L:R->z->T)(q:R->z->bw){j:J}(F:Fm c.V n k s)(r:uf v [x,H] b=Y)(o:uc s n b a=Y)(A:qk v.names (x::H::b) 2=Y)(O:s[j]?=D (("zip":af),.globalImplicit))
  (w:ER c n k y ak Q P [.list (e.map f),.list (G.map h)])(m:Q.all dO=Y)(u:noOwn P a=Y)
  (p:∀d,Fm (c.ff v d).V (x::H::b) 2 v.names->∀t∈e.zip G,EC (c.ff v d) (x::H::b) 2 (.t (f t.1)::.t (h t.2)::a.map λi=>P[i]?.getD .un) E (.t (f t.1)::.t (h t.2)::a.map λi=>P[i]?.getD .un) (q t.1 t.2))
  (S:∀d,Fm (c.ff v d).V (x::H::b) 2 v.names->∀t∈e.zip G,q t.1 t.2=Y->EE (c.ff v d) (x::H::b) 2 (.t (f t.1)::.t (h t.2)::a.map λi=>P[i]?.getD .un) X (.t (f t.1)::.t (h t.2)::a.map λi=>P[i]?.getD .un) (L t.1 t.2))
  (B:U e<=1000000):EF c n k y (.ListComp X [⟨.Tuple [.Name x au,.Name H ao] aE aH,.Call (.Name "zip" aj) Q [] ak,[E],0⟩] v aC) P (((e.zip G).filter λt=>q t.1 t.2).map λt=>L t.1 t.2):=by
 have ah:((e.map f).zip (G.map h)).map (λl=>[l.1,l.2])=(e.zip G).map λt=>[f t.1,h t.2]:=by rw [List.zip_map,dH];rfl
 have g:=WS c.G c.R.handled (F.kn j O nofun) (c.bi 7 _ _ C).1 (c.bi 7 _ _ C).2 (l9 m) w.1 (p:=aj);simp only [ah]at g
 exact⟨VH (Ba r) (A3 F o) g (Cf u) (λd=>afm (qU A) f h L q _ .un .un (p d (qU A)) (S d (qU A))) (λaF=>C) C
  (eU (aD (by simp only [dg,agc];exact Ad _ _) B)) (zg (pre:=[_,_]) C)⟩
end
abbrev Bl(i:J):cz:=hU (iw (D (bG 24))) i
def ji(T:I (I J))(k:J):I J:=(dz 4).filter λt=>aO (0<cI (ly T) k t)
theorem sD:∀t∈ji M k,t<4:=λt h=>fm.mp (f9.mp h).1
theorem Ko:U (ji M k)<=4:=aD (kq _ _) (dm _)
def qy(o:I J)(G:I (I J))(q:I J)(t:J):I J:=q.filter λi=>aO (t∈iB o (G.getD i []))
section
variable{c:Cx O}{lv:I (AV O)}{M:I (I J)}{k:J}
theorem b0(F:Fm c.V b9 32 d8)(R:Tab 4 M)(B:k<4)(s:lv[13]?=D (.t (.int k)))(e:lv[20]?=D (.t (mL (ly M)))):ES c b9 32 lv (Bl 0) (lv.set 26 (.t (nL (ji M k)))) .next:=by
 exact eL F 26 C (by decide) (zf (nC "j" ["k","near"] [13,20] _ _ F C C C (ou F 37 C) (no2 s e)
  (λd o t O=>zC (dS (dS (zv o 2 C (aA D (gd e))) (zv o 1 C (aA D (gd s))) (fR (eH B (az C)) (wR (CZ R) B (jm O).1).1) C) (zv o 0 C C) (fR (jm O).2 (wR (CZ R) B (jm O).1).2) C) (zi _) (w5 _ 0) C) (λd o t O _=>zv o 0 C C) C (az C))) (ve (F.kn 26 C nofun))
end
section
variable{c:Cx Ob}{lv:I (AV Ob)}{ab cm:I J}{ws:I (I J)}
theorem b1(p:bK c.B c.Z c.w O)(z:u+2<=c.n)(F:Fm c.V b9 32 d8)(f:c.mg "TopologicalSorter"=D (.ref O.bq))(R:(("__init__":af),q)∈O.fs)(l:∀E d,e8 c.B c.Z c.w (u+1) (.ref q) (.gQ E d 0) [] λX r=>X=.bN E [] aa 0 0/\r=.none):
  SP c b9 32 lv (Bl 1) λx A=>∃E,x=lv.set 27 (.obj (.bN E [] aa 0 0))/\A=.next:=Q5 p z F 27 36 C f R l C (by decide) C
theorem TA(ah:bK c.B c.Z c.w ak)(K:yi c ak)(F:Fm c.V b9 32 d8)(g:U ab=4)(aF:U ws=4)(h:∀t∈cm,t<4)(L:U cm<=4):∀(f:I J)(lv:I _)(Q:I AN)(m:J)(v:AV Ob),U lv=32->lv[8]?=D (.t (.str ab))->lv[11]?=D (.t (mL (ws.map (iB ab))))->lv[26]?=D (.t (nL cm))->lv[27]?=D (.obj (.bN E Q aa 0 0))->lv[3]?=D v->(∀k∈f,k<4)->U Q<=m->(∀a∈Q,U a.2.2<=m)->m+5*U f<=800->
  ∃j,jH c b9 32 (oZ (D (Bl 2))) (iw (D (Bl 2))) (f.map λ(k:J)=>T.int k) lv ((lv.set 3 j).set 27 (.obj (.bN E (f.foldl (k7 ab (qy ab ws cm)) Q) aa 0 0))) .next:=λaN=>aN.rec
 (λlv Q m v X G O w n R e H l B=>⟨v,by
  rw [pI R,show([]:I J).foldl (k7 ab (qy ab ws cm)) Q=Q from C,pI n];exact my⟩)
 (λt f aH lv Q m v X G O w n R e H l B=>by
  have r:=e t (.head _);rw [gB]at B;have S:=gs (x:=.t (.int t)) (j:=3) G (by decide);have s:=gs (x:=.t (.int t)) (j:=3) O (by decide);have q:=gs (x:=.t (.int t)) (j:=3) w (by decide);have u:=gs (x:=.t (.int t)) (j:=3) n (by decide);have y:(lv.set 3 (.t (.int t)))[3]?=D (.t (.int t)):=jw (by rw [X];decide);have d:U (qy ab ws cm t)<=4:=aD (kq _ _) L;have x:U ((qy ab ws cm t).map λi=>[ab.getD i 0])<=4:=by rw [dg];exact d
  refine wj (K E Q [ab.getD t 0] ((qy ab ws cm t).map λi=>[ab.getD i 0]) (by exact jS 0 (.a (.v 0) (.v 3)) (.n 900) (.v 0) (.v 1) (.a (.v 1) (.m 5 (.a (.v 2) (.n 1)))) (.n 800) (.v 3) (.n 4) C [_,_,_,_] H B x) (λa b=>by have:=l a b;exact jS 0 (.a (.v 3) (.v 2)) (.n 900) (.a (.v 0) (.m 5 (.a (.v 1) (.n 1)))) (.n 800) (.v 2) (.n 4) (.v 3) (.v 0) C [_,_,_,_] B x this)) λaP aY aT ao au aC aE P=>?_;have aj:t<2^60:=eH r (az C);have p:U (lv.set 3 (.t (.int t)))=32:=by rw [pT,X]
  refine bH (aH ((lv.set 3 (.t (.int t))).set 27 (.obj (.bN E (k7 ab (qy ab ws cm) Q t) aa 0 0))) _ (m+5) (.t (.int t)) (by rw [pT,p]) (gs S (by decide)) (gs s (by decide)) (gs q (by decide)) (jw (by rw [p];decide)) (gs y (by decide)) (λaK b=>e aK (.tail _ b)) (aD (JE _ _ _) (aD (iE (jx H) x) (fq (vD m 1 4)))) (λa b=>aD (JF _ _ l a b) (iO (aD x (az C)) m)) (by exact cS 0 (.a (.a (.v 0) (.n 5)) (.m 5 (.v 1))) (.n 800) (.a (.v 0) (.m 5 (.a (.v 1) (.n 1)))) (.n 800) C [_,_] B)) λj z=>⟨j,?_⟩;rw [w7 (by decide)]at z
  exact ki (iD F 3 C (by decide)) (fb (H_ (c:=c) (o':=.bN E (k7 ab (qy ab ws cm) Q t) aa 0 0) ah F 27 C u ao au (by decide) C aC aE
   (JS (dS (zv F 8 C S) (zv F 3 C y) (jn aj (q4 g r)) C)
    (zf (nC "i" ["j","stands","told"] [3,11,8] (λi=>T.str [ab.getD i 0]) (λi=>aO (t∈iB ab (ws.getD i []))) (us:=cm) (g:=λi:J=>T.int i) F C C C (jd (zv F 26 C q)) (eP y (eP s (eP S C)))
     (λaM o i A=>zC (zv o 1 C (aA D (gd y))) (dS (zv o 2 C (aA D (gd s))) (zv o 0 C C) (fR (eH (h i A) (az C)) (LB (aF.symm▸h i A))) C) (UR t _) C)
     (λaM o i A _=>dS (zv o 3 C (aA D (gd S))) (zv o 0 C C) (jn (eH (h i A) (az C)) (q4 g (h i A))) C) C (aD L (az C)))) (by rw [dg];exact aD d (az C)) C)
   u (by rw [dH]at P;exact P) C C) C) z)
theorem b2(p:bK c.B c.Z c.w O)(K:yi c O)(F:Fm c.V b9 32 d8)(g:U ab=4)(y:U ws=4)(h:∀t∈cm,t<4)(L:U cm<=4)(X:U lv=32)(G:lv[8]?=D (.t (.str ab)))(u:lv[11]?=D (.t (mL (ws.map (iB ab)))))(w:lv[26]?=D (.t (nL cm)))(n:lv[27]?=D (.obj (.bN sf [] aa 0 0)))(R:lv[3]?=D v):
  ∃j,ES c b9 32 lv (Bl 2) ((lv.set 3 j).set 27 (.obj (.bN sf (cm.foldl (k7 ab (qy ab ws cm)) []) aa 0 0))) .next:=
 bH (TA p K F g y h L cm lv [] 0 v X G u w n R h (dm _) (λa m=>bA (m) dQ) (aD (fq (jy _)) (aD (x8 5 L) (az C)))) λj r=>⟨j,kP (jd (zv F 26 C w)) r C C⟩
theorem b3(i:gZ c [])(F:Fm c.V b9 32 d8)(K:D4 c)(w:nU Q=Y)(v:l0 Q fuel=D o)(h3:ng o=Y)(g:U Q<=800)(s:oh m Q (eA Q) []=D b)(n:lv[27]?=D (.obj (.bN E Q aa 0 0))):
  ES c b9 32 lv (Bl 3) (((lv.set 27 (.obj (.bN E (iu m Q (eA Q) 0).1 (D []) (iu m Q (eA Q) 0).2 (iu m Q (eA Q) 0).2))).set 28 (.t (.bool o.isSome))).set 29 (.t (.list (gL b)))) .next:=
 mX (@K E _ _ _ _ _ w v h3 g s) λa u S h e z l=>QI F 28 29 C (az C) C (by decide) (QL i F 27 38 C C n h e z l) C C
end
def vf(T:I (I J))(k t:J):I J:=(dz 4).filter λu=>aO (0<cI ((fW T).getD u []) k t)
noncomputable def nX(l:I J):J:=l.foldr max 0
def qo(T:I (I J))(k t:J):J:=if 0<cI (qq T) k t then 4 else nX (vf T k t)
theorem wH:∀{l:I J},l≠[]->nX l∈l/\∀a∈l,a<=nX l
 |[],h=>bA C h
 |[a],_=>⟨cO.mpr (Nat.max_zero a),λb h=>by rw [cO.mp h];exact fq (Nat.max_zero a).symm⟩
 |a::b::l,_=>by
  have n:=wH (l:=b::l) nofun;show max a (nX (b::l))∈_/\∀c∈_,c<=max a (nX _);refine⟨?_,λc h=>(cD.mp h).elim (λq=>q▸Nat.le_max_left ..) λh=>aD (n.2 c h) (Nat.le_max_right ..)⟩;rcases Dy a _ with h|h
  .rw [Nat.max_eq_right h];exact .tail _ n.1
  .simp only [Nat.max_eq_left h];exact .head _
theorem B5(h:l≠[]):((nX l):aS)∈l.map (λx:J=>(x:aS))/\∀a∈l.map (λx:J=>(x:aS)),a<=((nX l)):=
 ⟨fM (wH h).1,λa m=>ai (dZ.mp m) λb f e=>e▸mE.mpr ((wH h).2 b f)⟩
noncomputable def wg(o q s:I J)(p:J):I (I J):=((q.zip s).filter λA=>aO (A.2=p)).map λA=>[o.getD A.1 0]
noncomputable def uo(o l:I J)(z:I (I (I J)))(q:I J):I J:=q.filter λt=>aO (o.getD t 0∈l)&&(aO (z.filter (λd=>aO ([o.getD t 0]∈d))=[])&&Y)
section
variable{c:Cx O}
theorem aeI{R:Type}{j:I R}{g:R->T}(x:af)(b:I af)(a:I J)(L:R->T)(q:R->bw){i':J}(F:Fm c.V n k G)(p:uf v [x] b=Y)(aC:uc G n b a=Y)(A:qk v.names (x::b) 1=Y)(s:EI aH c n k r iter P (j.map g))(BC:noOwn P a=Y)
  (E:∀d,Fm (c.ff v d).V (x::b) 1 v.names->∀y∈j,EC (c.ff v d) (x::b) 1 (.t (g y)::a.map λi=>P[i]?.getD .un) l (.t (g y)::a.map λi=>P[i]?.getD .un) (q y))
  (o:∀d,Fm (c.ff v d).V (x::b) 1 v.names->∀y∈j,q y=Y->EE (c.ff v d) (x::b) 1 (.t (g y)::a.map λi=>P[i]?.getD .un) f (.t (g y)::a.map λi=>P[i]?.getD .un) (L y))
  (B:uS iter=Y)(m:U j<=1000000)(hz:n[i]?=D z)(Fw:i<k)(Yr:G[i']?=D (z,.local))(X:h.line=w.line)(O:(v.names.any λ(u,e)=>u==z&&(e==.local||e==.cell))=ay):
  ES c n k r (.Assign [.Name z h] (.ListComp f [⟨.Name x aK,iter,[l],0⟩] v w) aF) (P.set i (.own ((j.filter q).map L))) .next:=by
 refine⟨λaj ak H Q ah ao S au=>?_⟩;have aE:c.V.blockKind=.function:=by
  have:=S.1.kind
  delta Dp;simp [this,ag4]
 have t:=F.kn i' Yr nofun;refine K5 (Ba p) (A3 F aC) s.1 (Cf BC) (λd=>QZ (qU A) g L q j .un (E d (qU A)) (o d (qU A))) (Co B) (.inl (cH _ _ C)) (cL (by rw [dg];exact m)) (zg (pre:=[qp .un (j.map g)]) C) hz Fw t ?_ aj ak H Q ah ao S au
 .show pure (c.V.blockKind==.function&&c.V.kindOf z==D .local&&h.line==w.line&&! v.names.any λ(u,k)=>u==z&&(k==.local||k==.cell))=pure Y;refine aE▸t▸X▸O▸?_;simp
end
section
variable{c:Cx O}{lv:I (AV O)}{M:I (I J)}{k:J}{ab cm ls l:I J}{gr:I (I (I J))}
theorem K3(a b:I J):gb .Eq (nL a) (nL b)=D (aO (a=b)):=HA 5 (λx:J=>T.int x) (λa b=>aA D (by rw [oE,oK];exact beq_iff_eq.trans IH)) a b
theorem b4(F:Fm c.V b9 32 d8)(R:Tab 4 M)(B:k<4)(e:∀t∈cm,t<4)(L:U cm<=4)(l:∀t∈cm,vf M k t≠[])(s:lv[13]?=D (.t (.int k)))(h:lv[17]?=D (.t (.list ((fW M).map mL))))(b:lv[21]?=D (.t (mL (qq M))))(w:lv[26]?=D (.t (nL cm))):ES c b9 32 lv (Bl 4) (lv.set 30 (.t (nL (cm.map (qo M k))))) .next:=by
 have A:k<2^60:=eH B (az C);have G:=nv (rz R) (CZ R);refine eL F 30 C (az C) (gJ (zf (jW "j" ["k","late","powers"] [13,21,17] (λt=>T.int _) F C C C (jd (zv F 26 C w)) (eP s (eP b (eP h C))) (λd o t O=>?_) C (aD L (az C)))) (aA T.list (by rw [dH];rfl))) (ve (F.kn 30 C nofun));have v:=e t O;have m:t<2^60:=eH v (az C);refine QN (b:=aO (0<cI (qq M) k t)) (zC (dS (dS (zv o 2 C (aA D (gd b))) (zv o 1 C (aA D (gd s))) (fR A (wR G B v).1) C) (zv o 0 C C) (fR m (wR G B v).2) C) (zi (0:J)) (w5 _ 0) C) (λq=>gJ (zi (4:J)) (aA (λu:J=>T.int u) (aL (dh q)).symm)) λq=>gJ (Q2 o 2 C (M:=((nX (vf M k t):J):aS)) (is:=(vf M k t).map λx:J=>(x:aS)) (zf (nC "n" ["j","k","powers"] [0,1,3] (λu:J=>T.int u) (λu=>aO (0<cI ((fW M).getD u []) k t)) (us:=dz 4) (g:=λp:J=>T.int p) o C C C (ou o 3 C) (eP (a:=.int t) C (eP (a:=.int k) (show D (lv[13]?.getD .un)=_ from aA D (gd s)) (eP (a:=.list ((fW M).map mL)) (show D (lv[17]?.getD .un)=_ from aA D (gd h)) C))) (λn H u z=>?_) (λn H u z _=>zv H 0 C C) C (az C))) (ae (aA kJ (by rw [dH];rfl)) (ints_map _)) (B5 (l t O)).1 (B5 (l t O)).2 C) (aA (λu:J=>T.int u) (aJ (of_decide_eq_false q)).symm);have i:u<5:=jZ (jm z).1;have a:=wR (xe R _ (getD_mem' (d:=[]) (M:=fW M) (j:=u) i)) B v;exact zC (dS (dS (dS (zv H 3 C (aA D (gd (lv:=lv) (i:=17) h))) (zv H 0 C C) (fR (jm z).2 (uw i)) C) (zv H 2 C (aA D (gd (lv:=lv) (i:=13) s))) (fR A a.1) C) (zv H 1 C C) (fR m a.2) C) (zi (0:J)) (w5 _ 0) C
theorem b5(F:Fm c.V b9 32 d8)(a:U ab=4)(x:∀h∈cm,h<4)(L:U cm<=4)(v:lv[2]?=D (.t (.str ab)))(w:lv[26]?=D (.t (nL cm)))(e:lv[30]?=D (.t (nL ls))):ES c b9 32 lv (Bl 5) (lv.set 23 (.own (gL ((dz 4).map λp=>dM (wg ab cm ls p))))) .next:=by
 show ES _ _ _ _ _ _ _;refine Dc "place" ["come","last","letters"] [26,30,2] (λp=>T.list ((dM (wg ab cm ls p)).map .str)) F C C C (ou F 37 C) (eP w (eP e (eP v C))) (λd o p b=>?_) C (az C) C (by decide) (i':=23) C C C;have g:∀t∈cm.zip ls,t.1<4:=λt l=>x t.1 (List.of_mem_zip l).1
 exact Ri o 2 C (gJ (zf (aeL "j" "n" ["letters","place"] [3,0] (λh u=>T.str [ab.getD h 0]) (λh u=>aO (u=p)) (j:=3) o C C C C (zr (zv o 1 C (aA D (gd w))) (zr (zv o 2 C (aA D (gd e))) cT C) C) C (eP (a:=.str ab) (show D (lv[2]?.getD .un)=_ from aA D (gd v)) (eP (a:=.int p) C C))
  (λi H t l=>zC (zv H 1 C C) (zv H 3 C C) (E0 _ _) C)
  (λi H t l _=>dS (zv H 2 C (aA D (gd (lv:=lv) (i:=2) v))) (zv H 0 C C) (jn (eH (g t l) (az C)) (q4 a (g t l))) C) (aD L (az C)))) (aA T.list (by delta wg;rw [dH];rfl)))
  (kW (aD (fq (dg _)) (aD (kq _ _) (by rw [agc];exact aD (Ad _ _) L))) (by decide)) C
theorem b6(F:Fm c.V b9 32 d8)(P:ds.length<=100)(l:ls≠[])(s:b=j9 ds)(L:a=aO (3<nX ls))(H:lv[23]?=D (.t (.list (gL ds))))(e:lv[28]?=D (.t (.bool a)))(i:lv[29]?=D (.t (.list (gL b))))(h:lv[30]?=D (.t (nL ls))):ES c b9 32 lv (Bl 6) lv .next:=by
 refine dP (b:=ay) (jo (nA (zC (zv F 29 C i) (zf (nC "group" [] [] (λd:I _=>T.list _) (λd=>!aO _) F C C C (jd (zv F 23 C H)) C (λk o d P=>zC (zv o 0 C C) (oq cT C) (GB d []) C) (λk o d P _=>zv o 0 C C) C (aD P (az C)))) (Nk b (j9 ds)) C) λ_=>nA (zC (zv F 28 C e) (xu (Q2 F 43 C (M:=((nX ls:J):aS)) (is:=ls.map λx:J=>(x:aS)) (zv F 30 C h) (ae (aA kJ (by rw [dH];rfl)) (ints_map _)) (B5 l).1 (B5 l).2 C) (zi (3:J)) (w5 _ 3) C) (GA _ _) C) λ_=>zN) ?_) fY;rw [cL s,L,bne_self_eq_false];rfl
theorem b7(F:Fm c.V b9 32 d8)(g:U ab=4)(h:∀t∈cm,t<4)(L:U cm<=4)(u:U gr<=100)(G:lv[8]?=D (.t (.str ab)))(a:lv[24]?=D (.t (.list (kM l))))(w:lv[26]?=D (.t (nL cm)))(i:lv[29]?=D (.t (.list (gL gr)))):ES c b9 32 lv (Bl 7) (lv.set 31 (.own (nT (uo ab l gr cm)))) .next:=by
 refine aeI (i':=31) "j" ["groups","lasting","told"] [29,24,8] _ (λt=>aO _&&(aO (gr.filter (λd=>aO _)=[])&&Y)) F C C C (jd (zv F 26 C w)) (eP i (eP a (eP G C)))
  (λe o t O=>?_) (λe o t O _=>zv o 0 C C) C (aD L (az C)) (i:=31) C (by decide) C C C
 have v:=h t O;have m:t<2^60:=eH v (az C)
 exact kO (zC (dS (zv o 3 C (aA D (gd G))) (zv o 0 C C) (jn m (q4 g v)) C) (zv o 2 C (aA D (gd a))) (ED _ l) C) λ_=>kO (zC (zf (nC "group" ["j","told"] [0,3] (λd:I (I J)=>T.list (d.map .str)) (λd=>aO ([ab.getD t 0]∈d)) (us:=gr) (g:=λd:I (I J)=>T.list (d.map .str)) o C C C (jd (zv o 1 C (aA D (gd i)))) (eP (a:=.int t) C (eP (a:=.str ab) (show D (lv[8]?.getD .un)=_ from aA D (gd G)) C))
  (λx H d P=>zC (dS (zv H 2 C (aA D (gd (lv:=lv) (i:=8) G))) (zv H 1 C C) (jn m (q4 g v)) C) (zv H 0 C C) (EB _ d) C) (λx H d P _=>zv H 0 C C) C (aD u (az C)))) (oq cT C) (K2 _ []) C) λ_=>tD
theorem b8(F:Fm c.V b9 32 d8)(R:Tab 4 M)(B:k<4){G:I (I J)}{n:I J->bw}(y:U G=4)(m:∀h∈S,h<4)(E:U S<=4)(K:S≠[]->∀r l,∀w∈G,CN (c.ff r l) "_law_takes" [.str tw,.str w] (.bool (n w)))
  (b:aO ((jE M).getD k []=(ri M).getD k [])=aO (S.filter (λh=>n (G.getD h []))=[]))(L:lv[9]?=D (.t (.list (G.map .str))))(s:lv[13]?=D (.t (.int k)))(q:lv[17]?=D (.t (.list ((fW M).map mL))))(e:lv[22]?=D (.t (mL (ri M))))(P:S≠[]->lv[25]?=D (.t (.str tw)))(a:∃t,lv[25]?=D (.t t))(x:lv[31]?=D (.t (.list (nT S)))):ES c b9 32 lv (Bl 8) lv .next:=by
 have A:k<2^60:=eH B (az C);have i:=rz R;have v:=nv i i;have j:=nv v v
 refine bH a λg f=>dP (b:=ay) (jo (zC (xu (dS (dS (zv F 17 C q) (zi (4:J)) (fR (i:=4) (by decide) (uw (M:=M) (by decide))) C) (zv F 13 C s) (fR A (getM (M:=jE M) (i.l.symm▸B))) C) (dS (zv F 22 C e) (zv F 13 C s) (fR A (getM (M:=ri M) (j.l.symm▸B))) C) (K3 _ _) C)
  (xu (zf (nC "j" ["images","two"] [9,25] (λh:J=>T.int h) (λh=>n (G.getD h [])) (us:=S) (g:=λh:J=>T.int h) F C C C (jd (zv F 31 C x)) (eP L (eP f C))
   (λd o h O=>lG (nB o 2 C (zr (zv o 2 C (aA D (gd (P (agi O))))) (zr (dS (zv o 1 C (aA D (gd L))) (zv o 0 C C) (fR (eH (m h O) (az C)) (get_map (d:=[]) (y.symm▸m h O))) C) cT C) C) (K (agi O) _ d _ (getD_mem' (y.symm▸m h O))) C) C λ_=>C) (λd o h O _=>zv o 0 C C) C (aD E (az C)))) (oq cT C) (K3 _ []) C) (GA _ _) C) ?_) fY
 rw [b,bne_self_eq_false]
end
noncomputable abbrev fN(o:I J)(k:J):I J:=[o.getD k 0]
abbrev mu(o:I J)(G:I (I J)):J->J->J:=cI (fu o G)
theorem JB:∀o∈gq,∀a,a<4->∀b,b<4->o.getD a 0=o.getD b 0->a=b:=by decide+kernel
theorem mU:∀o∈gq,U o=4:=by decide+kernel
theorem nV(u:o∈gq):p_ (fN o):=λa b w v e=>JB o u a w b v (zZ e).1
theorem JC(g:U o=4):o=(dz 4).map λk=>o.getD k 0:=BS (P:=λo=>o=(dz 4).map λk=>o.getD k 0) (λa b c d=>C) o g
theorem abV{R:Type}(L:J->R)(d:R)(h:k<4):((dz 4).map L).getD k d=L k:=m5 (P:=λk=>((dz 4).map L).getD k d=L k) h C C C C
theorem ady{r:I J}(h:U r=4):r.sum=S4 λt=>r.getD t 0:=BS (P:=λr=>r.sum=S4 λt=>r.getD t 0) (λa b c d=>C) r h
theorem YD:∀a∈uF o x,∃k,k<4/\a=o.getD k 0:=λa m=>ai (dZ.mp m) λt _ e=>(aR (_) (vG _ (by decide)) (e.symm))
section
variable{ab:I J}{ws:I (I J)}{i j k n:J}
theorem OF(g:U ab=4)(y:U ws=4)(B:k<4)(O:j<4):mu ab ws k j=(ws.getD k []).count (ab.getD j 0):=by
 show((fu ab ws).getD k []).getD j 0=_
 delta fu
 rw [getD_map _ (y.symm▸B) [] [],getD_map _ (g.symm▸O) 0 0]
theorem zH(g:U ab=4)(y:U ws=4)(X:∀w∈ws,U w<4):Tab 4 (fu ab ws):=by
 refine⟨ae (dg _) y,λr s=>ai (dZ.mp s) λw m e=>?_⟩;subst e;exact⟨ae (dg _) g,λx j=>ai (dZ.mp j) λa _ e=>e▸kW List.count_le_length (X w m)⟩
theorem PS(g:U ab=4)(y:U ws=4)(B:k<4):iB ab (ws.getD k [])=(dz 4).filter λj=>aO (0<mu ab ws k j):=
 vA λj m=>decide_eq_decide.mpr (by simp only [OF g y B (fm.mp m)];exact List.count_pos_iff.symm)
theorem Lk(a:J->I J)(Q:I J->I _):∀(q:I J)(H:I AN),(∀k∈q,(a k).map (fN ab)=Q (fN ab k))->q.foldl (k7 ab a) H=(q.map (fN ab)).foldl (λH k=>jL H k (Q k)) H:=λq=>q.rec (λ_ _=>C) λk q n H h=>by
 have B:k7 ab a H k=jL H (fN ab k) _:=aA (jL H (fN ab k)) (h k (.head _));simp only [iN,RY,RY,B];exact n _ λk m=>h k (.tail _ m)
theorem TP(u:ab∈gq)(y:U ws=4):(dz 4).foldl (k7 ab λk=>iB ab (ws.getD k [])) []=gO (Pn (fN ab) λ_=>Y) (Qn (fN ab) (mu ab ws)):=by
 refine ae (Lk _ _ _ [] λk m=>?_) C;rw [PS (mU ab u) y (fm.mp m),D3 (nV u) (fm.mp m)]
theorem HD(t:U P=4)(h:∀k j,k<4->j<4->cI P k j=Pw (cI M) n k j):∀k j,k<4->j<4->cI (jF P M) k j=Pw (cI M) (n+1) k j:=λk j B O=>ae (ze (t.symm▸B) O) (iT λl X=>aA (·*cI M l j) (h k l B X))
variable{M:I (I J)}
theorem abS(B:k<4)(O:j<4):Pw (cI M) 1 k j=cI M k j:=by
 refine ae (iT (f:=λl=>(if k=l then 1 else 0)*cI M l j) λl _=>?_) (yo (v:=λl=>cI M l j) B)
 by_cases q:l=k
 .rw [aL q,aL q.symm,Sl]
 .rw [aJ q,aJ (iF q),DF]
theorem Cw(R:Tab 4 M):∀n,n<5->∀k j,k<4->j<4->cI ((fW M).getD n []) k j=Pw (cI M) n k j:=by
 have c:=nv R R;have l:=nv c R;have H:∀k j,k<4->j<4->cI M k j=Pw (cI M) 1 k j:=λk j B O=>(abS B O).symm;have a:=HD R.l H;have e:=HD c.l a;intro n h;cases n with
 |zero=>exactλk j B O=>aa_ M 0 k j B O
 |succ n=>exact m5 (P:=λn=>∀k j,k<4->j<4->cI ((fW M).getD (n+1) []) k j=Pw (cI M) (n+1) k j) (Nat.lt_of_succ_lt_succ h) H a e (HD l.l e)
theorem G4(R:Tab 4 M)(z:n<5)(B:k<4):wX M n k=S4 (Pw (cI M) n k):=by
 have A:=xe R _ (getD_mem' (d:=[]) z);refine ae (ady (A.r _ (getD_mem' (A.l.symm▸B))).1) (iT λj O=>Cw R n z k j B O)
theorem Nm(R:Tab 4 M)(B:k<4)(O:j<4):cI (ly M) k j=GC (cI M) k j:=by
 have e:cI (ly M) k j=((dz 4).map λn=>cI ((fW M).getD n []) k j).sum:=by
  delta cI ly
  rw [abV _ _ B,OY _ O]
 exact ae e (ae C (iT λn z=>Cw R n (jZ z) k j B O))
theorem zh(R:Tab 4 M)(B:k<4)(O:j<4):cI (jE M) k j=Pw (cI M) 4 k j:=Cw R 4 (by decide) k j B O
theorem Zq(R:Tab 4 M)(B:k<4)(O:j<4):cI (qq M) k j=Gj (cI M) k j:=ae (ze ((rz R).l.symm▸B) O) (iT λl X=>by simp only [zh R B X,Nm R X O])
theorem OI(R:Tab 4 M)(B:k<4)(O:j<4):cI (ri M) k j=Pw (cI M) 16 k j:=by
 have i:=rz R;have v:=nv i i;have p:∀k j,k<4->j<4->cI (GW M) k j=Pw (cI M) 8 k j:=λk j B O=>ae (ze (i.l.symm▸B) O) (ae (iT λl X=>by rw [zh R B X,zh R X O]) (WU O));exact ae (ze (v.l.symm▸B) O) (ae (iT λl X=>by rw [p k l B X,p l j X O]) (WT O))
theorem aci{P Q:I _}(t:Tab b P)(e:Tab d Q)(B:k<4):P.getD k []=Q.getD k []<->∀j,j<4->cI P k j=cI Q k j:=by
 refine⟨λh j _=>aA (λl:I J=>l.getD j 0) h,λh=>?_⟩;rw [JC ((t.r _ (getD_mem' (d:=[]) (t.l.symm▸B:k<U P))).1),JC ((e.r _ (getD_mem' (d:=[]) (e.l.symm▸B:k<U Q))).1)];exact kr λj m=>h j (fm.mp m)
theorem Gn(P:I _)(Q:I J->I _):∀(k n:J),lq P Q k n=j9 ((z8 n k).map λm=>dM (lay P Q m)):=λk=>k.rec (λ_=>C) λk h n=>by
 apply ae (Gm);rw [agk,iN,h (n+1)]
 delta j9
 by_cases c:lay P Q n=[]
 .apply ae (aL (z5.mpr c));rw [z0];rw [c,show dM []=[]from List.mergeSort_nil];exact nofun
 .apply ae (aJ λq=>c (z5.mp q));rw [z4];rw [ef (p:=dM _=[]) λq=>c (xT ((Pr _).symm.trans (aA U q)))];rfl
end
theorem Z8:x∈dM l<->x∈l:=(zF l).mem_iff
section
variable{P:I (I J)}{Q:I J->I (I J)}{x:I J}{f:J->I J}{bq:J->bw}{M:J->J->J}{k n:J}
theorem aaw(j:x∈P):(lq P Q 4 0).filter (λd=>aO (x∈d))=[]<->Dn Q 4 x=ay:=by
 have m:∀n,x∈dM (lay P Q n)<->Dn Q _ x=Y/\Dn Q n x=ay:=λn=>Z8.trans (yU.trans ⟨λh=>h.2,λh=>⟨j,h⟩⟩);rw [Gn,af5];have a:(∀d∈j9 ((z8 0 4).map λm=>dM (lay P Q m)),¬aO (x∈d)=Y)<->∀n,n<4->¬(Dn Q (n+1) x=Y/\Dn Q n x=ay):=by
  refine⟨λh n z c=>?_,λh d i c=>?_⟩
  .have:=(m n).mpr c;exact h _ (f9.mpr ⟨dZ.mpr ⟨n,IW.mpr ⟨gF _,by exact cS 0 (.a (.v 0) (.n 1)) (.a (.n 0) (.n 4)) (.a (.v 0) (.n 1)) (.n 4) C [_] z⟩,C⟩,by rw [ef λq=>by rw [q]at this;exact bA (this) dQ];rfl⟩) (cL this)
  .refine ai (dZ.mp (f9.mp i).1) λn z a=>?_;subst a;have:=(IW.mp z).2;exact h n (by exact cS 0 (.a (.v 0) (.n 1)) (.n 4) (.a (.v 0) (.n 1)) (.a (.n 0) (.n 4)) C [_] this) ((m n).mp (dh c))
 rw [a];refine⟨λh=>?_,λh n z c=>?_⟩
 .have L:∀n,n<=4->Dn Q n x=ay:=λn=>n.rec (λ_=>C) λn e z=>oB.mpr λd=>h n (by exact z) ⟨d,e (by exact cS 0 (.v 0) (.n 4) (.a (.v 0) (.n 1)) (.n 4) C [_] z)⟩;exact L 4 (dm _)
 .have L:∀d,Dn Q (n+1+d) x=Y:=λd=>d.rec c.1 λd e=>KL _ x e;have:=L (4-(n+1));rw [pU z]at this;exact cY C (ae h.symm this)
theorem GI(g:p_ f)(B:k<4)(h:bq k=Y):(lq (Pn f bq) (Qn f M) 4 0).filter (λd=>aO (f k∈d))=[]<->Al M 4 k:=
 (aaw (sQ.mpr ⟨k,B,h,C⟩)).trans (oB.trans ((not_congr (Bf g 4 k B)).trans Rz))
end
section
variable{ab:I J}{ws:I (I J)}{M:I (I J)}{i j k n:J}
theorem adP{P:I (I J)}(h:U P=4):(P.map xY).sum=S4 λk=>(P.getD k []).sum:=BS (P:=λP=>(P.map xY).sum=S4 λk=>(P.getD k []).sum) (λa b c d=>C) P h
theorem Mq{R:Type}{r:bg R} [Decidable p](h:r=aa<->¬p):r.isSome=aO p:=by
 by_cases c:p
 .rw [cL c];cases r with
  |none=>exact bA c (h.mp C)
  |some a=>rfl
 .rw [ef c,h.mpr c];rfl
theorem abb(u:ab∈gq)(R:Tab 4 M):∃T o,l0 (gO (Pn (fN ab) λ_=>Y) (Qn (fN ab) (cI M))) T=D o/\ng o=Y/\o.isSome=aO (0<((jE M).map xY).sum):=
 e5 (Pu (nV u) (bq:=λ_=>Y) λ_ _ _ _ _=>⟨C,C⟩) λT o a b c=>⟨T,o,a,b,Mq (c.trans (by
  rw [adP (rz R).l,v7];have e:∀k,k<4->((jE M).getD k []).sum=S4 _:=λk B=>G4 R (n:=4) (by decide) B
  exact⟨λh q=>ai q λk B p=>h k B C (AX.mp (e k B▸p)),λh k B _ a=>h ⟨k,B,(e k B).symm▸AX.mpr a⟩⟩))⟩
theorem OG(u:ab∈gq)(R:Tab 4 M):lq (Pn (fN ab) λ_=>Y) (Qn (fN ab) (cI M)) 4 0=j9 (sG ab M):=by
 rw [Gn];refine aA j9 (kr (l:=dz 4) λn z=>aA dM ?_);have h:=fm.mp z;refine ae (MW (nV u) λn k B _=>decide_eq_true_iff.trans AX) (aA _ (vA λk m=>?_));have B:=fm.mp m;simp only [G4 R (jZ h) B,G4 R (Sn h) B,Iw,Iz];apply aA _
 by_cases c:S4 (Pw (cI M) (n+1) k)=0
 .rw [cL c,ef (by exactλr=>rh (d_ 0 (.n 1) (.n 0) (.v 0) (.n 0) (.a (.n 0) (.n 1)) (.v 0) C [_] ((iX c)) r))];rfl
 .rw [ef c,cL (Nat.pos_of_ne_zero c)];rfl
theorem Zm(u:ab∈gq)(R:Tab 4 M)(B:k<4):ab.getD k 0∈yP ab (j9 (sG ab M))<->mS (cI M) k=Y:=by
 rw [<-OG u R,wC,<-GI (bq:=λ_=>Y) (nV u) B C];exact f9.trans ⟨λh=>dh h.2,λh=>⟨get_mem (mU ab u) B,cL h⟩⟩
abbrev lV(M:I (I J))(i:J):J->bw:=λj=>aO (0<cI (ly M) i j)
def rA(M:I (I J))(i:J):J->J->J:=λj l=>if(lV M i j&&lV M i l)=Y then cI M l j else 0
theorem mW(R:Tab 4 M)(A:i<4)(O:j<4):lV M i j=Y<->pY (cI M) i j:=by
 apply decide_eq_true_iff.trans;rw [Nm R A O];exact GD
theorem C5:0<rA M i k j<->lV M i k=Y/\lV M i j=Y/\0<cI M j k:=by
 delta rA
 by_cases c:(lV M i k&&lV M i j)=Y
 .rw [aL c];have:=cQ.mp c;exact⟨λh=>⟨this.1,this.2,h⟩,λh=>h.2.2⟩
 .rw [aJ c];exact⟨λh=>bA h (i7 0),λh=>bA (cQ.mpr ⟨h.1,h.2.1⟩) c⟩
theorem HH:AJ (lV M i) (rA M i):=λk j _ _ h=>⟨(C5.mp h).1,(C5.mp h).2.1⟩
theorem zJ(R:Tab 4 M)(A:i<4)(B:k<4)(l:pY (cI M) i k)(n:J):¬Al (rA M i) n k<->kY (cI M) i n k:=
 XF A (λk j B O=>C5.trans ⟨λh=>⟨(mW R A B).mp h.1,(mW R A O).mp h.2.1,h.2.2⟩,λh=>⟨(mW R A B).mpr h.1,(mW R A O).mpr h.2.1,h.2.2⟩⟩) n k B l
theorem TS(u:ab∈gq)(y:U ws=4):(ji (fu ab ws) i).foldl (k7 ab (qy ab ws (ji (fu ab ws) i))) []=gO (Pn (fN ab) (lV (fu ab ws) i)) (Qn (fN ab) (rA (fu ab ws) i)):=by
 refine ae (Lk _ _ _ [] λj m=>?_) C;have O:=sD j m;have e:=(f9.mp m).2;simp only [D3 (nV u) O];refine aA _ (ae (RV) (vA λl a=>?_));rw [PS (mU ab u) y (fm.mp a)];have t:(j∈(dz 4).filter λj=>aO (0<mu ab ws l j))<->0<mu ab ws l j:=f9.trans ⟨λh=>dh h.2,λh=>⟨fm.mpr O,cL h⟩⟩;refine oE.mpr (cQ.trans (xO ?_ (decide_eq_true_iff.trans C5).symm));rw [rZ,t];exact⟨λh=>⟨e,h.2,h.1⟩,λh=>⟨h.2.2,h.2.1⟩⟩
theorem Kp(R:Tab 4 M)(A:i<4):i∈ji M i:=f9.mpr ⟨fm.mpr A,(mW R A A).mpr ⟨0,az C,C⟩⟩
theorem wG(R:Tab 4 M)(A:i<4):j∈ji M i<->j<4/\pY (cI M) i j:=
 ⟨λh=>⟨sD j h,(mW R A (sD j h)).mp (f9.mp h).2⟩,λh=>f9.mpr ⟨fm.mpr h.1,(mW R A h.1).mpr h.2⟩⟩
theorem yV(R:Tab 4 M)(A:i<4)(O:j<4):n∈vf M i j<->n<4/\Wy (cI M) n i j:=by
 refine f9.trans (and_congr fm ID|>.trans (and_congr_right λz=>decide_eq_true_iff.trans ?_));exact(Cw R n (jZ z) i j A O)▸(pF n i j)
theorem HO(R:Tab 4 M)(A:i<4):∀j∈ji M i,vf M i j≠[]:=λj h e=>ai ((wG R A).mp h).2 λn z w=>by
 have:=(yV R A (sD j h)).mpr ⟨z,w⟩;rw [e]at this;exact bA (this) dQ
theorem Gl(R:Tab 4 M)(A:i<4)(O:j<4):0<cI (qq M) i j<->¬kY (cI M) i 4 j:=by rw [Zq R A O];exact Zr A O
theorem Zn(R:Tab 4 M)(A:i<4)(h:j∈ji M i)(t:p<4):qo M i j=p<->kY (cI M) i (p+1) j/\¬kY (cI M) i p j:=by
 have O:=sD j h
 delta qo
 by_cases c:0<cI (qq M) i j
 .rw [aL c];exact⟨λe=>bA t (e▸i7 4),λf=>bA (λm R=>f.1 m (aD t R)) ((Gl R A O).mp c)⟩
 .rw [aJ c];have n:=oF λq=>c ((Gl R A O).mpr q);have l:=wH (HO R A j h);have x:=(yV R A O).mp l.1;rw [Zp];refine⟨λe=>?_,λf=>?_⟩
  .subst e;refine⟨x.2,λm a w=>?_⟩
   by_cases q:m<4
   .exact bA (l.2 m ((yV R A O).mpr ⟨q,w⟩)) (agB a)
   .exact n m (iP q) w
  .refine fS (iP λq=>f.2 _ q x.2) (l.2 p ((yV R A O).mpr ⟨t,f.1⟩))
theorem MV(R:Tab 4 M)(A:i<4)(h:j∈ji M i):3<qo M i j<->¬kY (cI M) i 4 j:=by
 have O:=sD j h;simp only [<-Gl R A O]
 delta qo
 by_cases c:0<cI (qq M) i j
 .rw [aL c];exact⟨λ_=>c,λ_=>by decide⟩
 .rw [aJ c];have:=((yV R A O).mp (wH (HO R A j h)).1).1;exact⟨λq=>by exact d_ 0 (.a (.n 0) (.n 1)) (.v 1) (.a (.v 0) (.n 1)) (.n 4) (.a (.n 3) (.n 1)) (.v 0) C [_,_] this q,λq=>bA q c⟩
theorem adZ(u:ab∈gq)(R:Tab 4 M)(A:i<4):∃T o,l0 (gO (Pn (fN ab) (lV M i)) (Qn (fN ab) (rA M i))) T=D o/\ng o=Y/\o.isSome=aO (3<nX ((ji M i).map (qo M i))):=
 e5 (Pu (nV u) HH) λT o a b c=>⟨T,o,a,b,Mq (c.trans (by
  have l:=wH (l:=(ji M i).map (qo M i)) λq=>by have:=Kp R A;rw [R5.mp q]at this;exact nomatch this
  refine⟨λe q=>?_,λe k B n a=>e ?_⟩
  .refine ai (dZ.mp l.1) λj O x=>?_;simp only [<-x]at q;have h:=(wG R A).mp O;exact(MV R A O).mp q ((zJ R A h.1 h.2 4).mp (e j h.1 ((mW R A h.1).mpr h.2)))
  .have s:=(mW R A B).mp n;have g:=(wG R A).mpr ⟨B,s⟩
   exact eH ((MV R A g).mpr λf=>(zJ R A B s 4).mpr f a) (l.2 _ (fM g))))⟩
theorem zip_map_self{R z:Type}(l:I R)(f:R->z):l.zip (l.map f)=l.map λa=>(a,f a):=l.rec C λa l n=>by rw [iN,List.zip_cons_cons,n,iN]
theorem ad0(u:ab∈gq)(R:Tab 4 M)(A:i<4):lq (Pn (fN ab) (lV M i)) (Qn (fN ab) (rA M i)) 4 0=j9 ((dz 4).map λp=>dM (wg ab (ji M i) ((ji M i).map (qo M i)) p)):=by
 rw [Gn];refine aA j9 (kr (l:=dz 4) λn z=>aA dM ?_);have h:=fm.mp z;refine ae (MW (nV u) (a:=λn k=>!@aO (kY (cI M) i n k) (RA _)) λn k B c=>?_) ?_
 .rw [tH,@decide_eq_false_iff_not _ _,<-zJ R A B ((mW R A B).mp c) n,Rz]
 .delta wg
  rw [zip_map_self,IM,dH];show _=(List.filter _ ((dz 4).filter _)).map _;simp only [RV];refine aA _ (vA λk m=>?_);have B:=fm.mp m;rw [Rt]
  by_cases c:lV M i k=Y
  .refine congr (aA _ ?_) C;rw [Bool.not_not];refine oE.mpr (cQ.trans (xO ?_ (decide_eq_true_iff.trans (Zn R A ((wG R A).mpr ⟨B,(mW R A B).mp c⟩) h)).symm));rw [tH,@decide_eq_false_iff_not _ (RA _),@rZ _ (RA _)];exact and_comm
  .rw [(oB.mpr c:aO (0<cI (ly M) i k)=ay),Iv,oB.mpr c,Iv]
end
section
variable{ab l:I J}{ws:I (I J)}{i j k:J}
theorem U1(u:ab∈gq)(l:I J):∀w:I J,(∀a∈w,∃k,k<4/\a=ab.getD k 0)->w.countP (λx=>aO (x∈l))=S4 λk=>if ab.getD k 0∈l then w.count (ab.getD k 0)else 0:=λw=>w.rec
 (λ_=>by simp [S4])
 (λx w n h=>by
  refine ai (h x (.head _)) λk B e=>?_;have L:∀j,j<4->(if ab.getD j 0∈l then(x::w).count (ab.getD j 0)else 0)=(if ab.getD j 0∈l then w.count (ab.getD j 0)else 0)+if j=k then if ab.getD j 0∈l then 1 else 0 else 0:=λj O=>by
   by_cases c:j=k
   .subst c;rw [aL C,e,af1]
    by_cases d:ab.getD j 0∈l
    .apply ae (aL d);rw [aL d,aL d]
    .apply ae (aJ d);rw [aJ d,aJ d]
   .rw [aJ c,af0 (by rw [e];exactλq=>c (JB ab u j O k B q.symm)),vE]
  rw [iT L,AM,yo (v:=λj=>if ab.getD j 0∈l then 1 else 0) B,Dt,n λa m=>h a (.tail _ m),e]
  by_cases d:ab.getD k 0∈l
  .rw [aL d,cL d,aL C]
  .rw [aJ d,ef d,aJ nofun])
theorem KY(u:ab∈gq)(y:U ws=4)(p:∀w∈ws,∀a∈w,∃k,k<4/\a=ab.getD k 0)(X:∀k,k<4->(ab.getD k 0∈l<->mS (mu ab ws) k=Y))(O:j<4):(ws.getD j []).countP (λx=>aO (x∈l))=kI (mu ab ws) (mS (mu ab ws)) j:=
 ae (U1 u l _ (p _ (getD_mem' (y.symm▸O)))) (iT λk B=>by
  rw [OF (mU ab u) y O B]
  by_cases c:ab.getD k 0∈l
  .apply ae (aL c);rw [aL ((X k B).mp c)]
  .apply ae (aJ c);rw [aJ λq=>c ((X k B).mpr q)])
theorem BZ(u:ab∈gq)(R:Tab 4 M)(A:i<4)(X:∀k,k<4->(ab.getD k 0∈l<->mS (cI M) k=Y)):j∈uo ab l (lq (Pn (fN ab) (lV M i)) (Qn (fN ab) (rA M i)) 4 0) (ji M i)<->j<4/\mS (cI M) j=Y/\¬kY (cI M) i 4 j/\pY (cI M) i j:=by
 refine f9.trans ⟨λh=>?_,λh=>?_⟩
 .have c:=(wG R A).mp h.1;have b:=cQ.mp h.2;exact⟨c.1,(X j c.1).mp (dh b.1),λf=>(zJ R A c.1 c.2 4).mpr f ((GI (nV u) c.1 ((mW R A c.1).mpr c.2)).mp (dh (cQ.mp b.2).1)),c.2⟩
 .have c:=(wG R A).mpr ⟨h.1,h.2.2.2⟩;refine⟨c,cQ.mpr ⟨cL ((X j h.1).mpr h.2.1),cQ.mpr ⟨cL ((GI (nV u) h.1 ((mW R A h.1).mpr h.2.2.2)).mpr (oF λq=>h.2.2.1 ((zJ R A h.1 h.2.2.2 4).mp q))),C⟩⟩⟩
theorem VR(u:ab∈gq)(R:Tab 4 M)(A:i<4):∀j∈uo ab l z (ji M i),j<4:=λj h=>sD j (f9.mp h).1
theorem VQ:U (uo ab l z (ji M i))<=4:=aD (kq _ _) Ko
theorem WV(u:ab∈gq)(y:U ws=4)(E:∀w∈ws,U w<4)(p:∀w∈ws,∀a∈w,∃k,k<4/\a=ab.getD k 0)(X:∀k,k<4->(ab.getD k 0∈l<->mS (mu ab ws) k=Y))(A:i<4):
  aO ((jE (fu ab ws)).getD i []=(ri (fu ab ws)).getD i [])=aO ((uo ab l (lq (Pn (fN ab) (lV (fu ab ws) i)) (Qn (fN ab) (rA (fu ab ws) i)) 4 0) (ji (fu ab ws) i)).filter (λj=>aO (2<=(ws.getD j []).countP λb=>aO (b∈l)))=[]):=by
 have R:=zH (mU ab u) y E;have x:=rz R;have v:=nv x x;refine decide_eq_decide.mpr ((aci x (nv v v) A).trans (xO (xO ⟨λh b n=>?_,λh j O=>?_⟩ (Ul (A:=mu ab ws) A)) (xO ?_ af5.symm)))
 .exact(zh R A n).symm.trans (ae (h b n) (OI R A n))
 .exact ae (zh R A O) (ae (h j O) (OI R A O).symm)
 .refine⟨λh j m c=>?_,λh s j O n4 o w q=>agy λf=>?_⟩
  .have e:=(BZ u R A X).mp m;have:=dh c;simp only [KY u y p X e.1]at this;exact bA this (agB (dF (show∃m,4<=m/\m<8/\Wy (mu ab ws) m i j from oF λd=>e.2.2.1 ((LJ A e.1).mpr λm a t w=>d ⟨m,a,t,w⟩)) λs n4 o w=>h s j e.1 n4 o w e.2.1))
  .refine h j ((BZ u R A X).mpr ⟨O,q,λg=>g s n4 w,ai (short A O w) λm a t=>(aR (m) (a) (t))⟩) (cL ?_);simp only [KY u y p X O];exact f
end
section
variable{c:Cx Ob}{xs:I af}{k:J}{lv aX dc:I (AV Ob)}{rest:I cz}
theorem Lc(i:J)(X:lv[i]?=D (.own l))(h:EX c xs k (lv.set i (.t (.list l))) rest dc A):EX c xs k lv rest dc A:=⟨λT g s Q H e S R=>by
 refine cps λ_ v=>?_;obtain⟨w,m,r,x⟩:=S
 exact dF (x.freeze X) λj B d a=>v (h.1 T j s Q H e ⟨w,m,_,a⟩ λn b L q o=>R n b L q (B.trans o))⟩
theorem WJ(h:SP c xs k lv u l)(r:∀x A,l x A->A=.next/\EX c xs k x rest dc R):EX c xs k lv (u::rest) dc R:=⟨λT g s Q H e S a=>by
 refine gN (h.1 T g s _ _ e S λi b L aX A p q o E d=>?_);obtain⟨rfl,r⟩:=r aX A p
 obtain rfl:=d.nx;exact r.1 T b i Q H e E λt j L n f v B=>a t j L (q.trans n) (o.trans f) v B⟩
end
theorem adY:iw (D (bG 24))=[Bl 0,Bl 1,Bl 2,Bl 3,Bl 4,Bl 5,Bl 6,Bl 7,Bl 8]:=C
section
variable{ab:I J}{M:I (I J)}{i:J}{bq:J->bw}{T:J->J->J}
theorem JK(u:ab∈gq)(q:AJ bq T):nU (gO (Pn (fN ab) bq) (Qn (fN ab) T))=Y/\U (gO (Pn (fN ab) bq) (Qn (fN ab) T))<=800:=by
 have g:=nV u;refine⟨JH (wK g) (sZ g q),aD (fq (dg _).symm) (aD (yY _ _ v9 λx m=>(t8 (sZ g q)).mp m) (aD BV (az C)))⟩
end
structure sd(c:Cx Ob)(cl:Cl)(ab:I J)(ws:I (I J)):Prop where
 p1:∀sc d,∀a∈ab,CN (c.ff sc d) "_law_plain" [.str [a]] (.str (pD a))
 t1:∀sc d,∀a∈ab,CN (c.ff sc d) "translate" [.str (42::(pD a++[42]))] (.str (u9 a))
 k1:∀sc d sc' d',∀a∈ab,∀w∈ws,CN ((c.ff sc d).ff sc' d') "_law_takes" [.str (u9 a),.str w] (.bool (aO (a∈w)))
 ad:yi c cl
 gQ:∃mi n,n+2<=c.n/\(("__init__":af),mi)∈cl.fs/\∀sf d,e8 c.B c.Z c.w (n+1) (.ref mi) (.gQ sf d 0) [] λo' r=>o'=.bN sf [] aa 0 0/\r=.none
 top:c.mg "TopologicalSorter"=D (.ref cl.bq)
 rn:D4 c
 tm:v8 c
 br:∀l:I J,l.length<=100->CN c "_law_bracket" [.list (kM l)] (.str (j3 l))
 t2:∀q:J->bw,ab.filter q≠[]->CN c "translate" [.str ((42::j3 (ab.filter q))++(42::j3 (ab.filter q))++[42])] (.str (iL [(gf (ab.filter q)).r,(gf (ab.filter q)).r]))
 k2:∀q:J->bw,ab.filter q≠[]->∀sc d,∀w∈ws,CN (c.ff sc d) "_law_takes" [.str (iL [(gf (ab.filter q)).r,(gf (ab.filter q)).r]),.str w] (.bool (aO (2<=w.countP λx=>aO (x∈ab.filter q))))
structure Wd(ab:I J)(ws:I (I J)):Prop where
 ha:ab∈gq
 l4:ws.length=4
 w4:∀w∈ws,w.length<4
 hA:∀w∈ws,∀a∈w,∃k,k<4/\a=ab.getD k 0
section
variable{ab:I J}{ws:I (I J)}
abbrev FL(ab:I J)(ws:I (I J))(T:I (I J))(l:I J)(G P n u a f j m b o v d e A h r y z S L Q i:AV Ob):I (AV Ob):=
 G::P::.t (.str ab)::A::n::u::a::f::.t (.str ab)::.t (.list (ws.map .str))::j::.t (mL (ws.map (iB ab)))::m::h::b::o::v::.t (.list ((fW T).map mL))::d::e::.t (mL (ly T))::.t (mL (qq T))::.t (mL (ri T))::r::.t (.list (kM l))::.t (.str (C6 l))::y::z::S::L::Q::i::[]
noncomputable def fg(y:I (AV Ob)):I (AV Ob):=(((((((y.set 3 .un).set 23 .un).set 26 .un).set 27 .un).set 28 .un).set 29 .un).set 30 .un).set 31 .un
theorem WY:fg (y.set 3 x)=fg y:=aA (λl:I (AV Ob)=>((((((l.set 23 .un).set 26 .un).set 27 .un).set 28 .un).set 29 .un).set 30 .un).set 31 .un) (IY _)
theorem oY{i:J}(h:i∈[23,26,27,28,29,30,31]):fg (y.set i x)=fg y:=by
 have L:∀(f:I J)(y:I (AV Ob)),i∈f->f.foldl (λl t=>l.set t AV.un) (y.set i x)=f.foldl (λl t=>l.set t AV.un) y:=λf=>f.rec (λy h=>nomatch h) λt f n y h=>by
  show f.foldl _ ((y.set i x).set t .un)=f.foldl _ (y.set t .un)
  by_cases c:i=t
  .subst c;rw [IY]
  .rw [List.set_comm _ _ c];exact n _ ((cD.mp h).resolve_left c)
 exact L [3,23,26,27,28,29,30,31] y (.tail _ h)
theorem EX.fg{y:I (AV Ob)}(e:fg y=P):EX c n k y [] P .next:=e▸qE 3 (qE 23 (qE 26 (qE 27 (qE 28 (qE 29 (qE 30 (qE 31 fY)))))))
theorem adX{cm ls l en tw:I J}{ds gr:I (I (I J))}{al:I AN}{tk:I J->bw}(d6:bK c.B c.Z c.w cl)(R:gZ c [])(F:Fm c.V b9 32 d8)(K:sd c cl ab ws)(h4:U ab=4)(l4:U ws=4)(hk:k<4)(hm:Tab 4 M)
  (XZ:ji M k=cm)(uC:∀j∈cm,j<4)(q5:U cm<=4)(LP:cm.foldl (k7 ab (qy ab ws cm)) []=al)(a1:nU al=Y)(f1:l0 al fuel=D res)(f2:ng res=Y)(a2:al.length<=800)(sr:oh 5 al (eA al) []=D gr)(Yq:∀j∈cm,vf M k j≠[])
  (Yg:cm.map (qo M k)=ls)(LQ:(dz 4).map (λp=>dM (wg ab cm ls p))=ds)(LS:gr=j9 ds)(cn:ls≠[])(f3:res.isSome=aO (3<nX ls))(X5:uo ab l gr cm=en)(X6:∀j∈en,j<4)(X4:en.length<=4)
  (Kt:en≠[]->∀sc d,∀w∈ws,CN (c.ff sc d) "_law_takes" [.str tw,.str w] (.bool (tk w)))(hq:aO ((jE M).getD k []=(ri M).getD k [])=aO (en.filter (λj=>tk (ws.getD j []))=[]))(XN:en≠[]->C6 l=tw):
  EX c b9 32 (FL ab ws M l g0 g1 g4 g5 g6 g7 Fb Fc Fd Fe Ff Fg Fi v3 (.t (.int k)) Qv Qw Qx Qy Qz v30 QA) (iw (D (bG 24))) (FL ab ws M l g0 g1 g4 g5 g6 g7 Fb Fc Fd Fe Ff Fg Fi .un (.t (.int k)) .un .un .un .un .un .un .un) .next:=by
 rw [adY];have d4:ds.length<=100:=LQ▸az C;have gl:gr.length<=100:=LS▸aD (kq _ _) d4;have r0:=b0 (c:=c) (lv:=FL ab ws M l g0 g1 g4 g5 g6 g7 Fb Fc Fd Fe Ff Fg Fi v3 (.t (.int k)) Qv Qw Qx Qy Qz v30 QA) F hm hk C C;rw [XZ]at r0;refine e5 K.gQ λmi nn i1 i2 i3=>zx r0 (WJ (b1 d6 i1 F K.top i2 i3) λlv' fl hh=>ai hh λsf q1 q2=>?_);subst q1 q2;refine⟨C,bH (b2 (c:=c) (lv:=((FL ab ws M l g0 g1 g4 g5 g6 g7 Fb Fc Fd Fe Ff Fg Fi v3 (.t (.int k)) Qv Qw Qx Qy Qz v30 QA).set 26 (.t (nL cm))).set 27 (.obj (.bN sf [] aa 0 0))) (sf:=sf) (v:=v3) (ab:=ab) (ws:=ws) (cm:=cm) d6 K.ad F h4 l4 uC q5 C C C C C C) λv' r2=>?_⟩;rw [LP]at r2;have r4:=λ(lv:I (AV Ob))=>b4 (c:=c) (lv:=lv) (k:=k) F hm hk uC q5 Yq;have r5:=λ(lv:I (AV Ob))=>b5 (c:=c) (lv:=lv) (ab:=ab) (cm:=cm) (ls:=ls) F h4 uC q5;rw [Yg]at r4;rw [LQ]at r5;refine zx r2 (zx (b3 R F K.rn a1 f1 f2 a2 sr C) (zx (r4 _ C C C C) (zx (r5 _ C C C) (Lc 23 C ?_))));refine zx (b6 F (ds:=ds) (ls:=ls) d4 cn LS f3 C C C C) ?_;have r7:=λ(lv:I (AV Ob))=>b7 (c:=c) (lv:=lv) (ab:=ab) (cm:=cm) (l:=l) (gr:=gr) F h4 uC q5 gl;rw [X5]at r7;refine zx (r7 _ C C C C) (Lc 31 C ?_);refine zx (b8 F hm hk (tw:=tw) l4 X6 X4 Kt hq C C C C (λh=>aA (λt=>D (AV.t (.str t))) (XN h)) ⟨_,C⟩ C) (EX.fg ?_);rw [oY (by decide),oY (by decide),oY (by decide),oY (by decide),oY (by decide),oY (by decide),oY (by decide),oY (by decide),oY (by decide),WY,oY (by decide),oY (by decide)]
 rfl
end
section
variable{c:Cx Ob}{ab:I J}{ws:I (I J)}
theorem BO{k:J}(p:bK c.B c.Z c.w O)(i:gZ c [])(F:Fm c.V b9 32 d8)(K:sd c O ab ws)(H:Wd ab ws)(B:k<4){l:I J}(E:yP ab (j9 (sG ab (fu ab ws)))=l):
  EX c b9 32 (FL ab ws (fu ab ws) l G P u A Q f j e b o v d a aC (.t (.int k)) ak aE aF aM aN ao au) (iw (D (bG 24))) (FL ab ws (fu ab ws) l G P u A Q f j e b o v d a .un (.t (.int k)) .un .un .un .un .un .un .un) .next:=by
 have g:=mU ab H.ha;have R:=zH g H.l4 H.w4;have X:∀k,k<4->(ab.getD k 0∈l<->mS (mu ab ws) k=Y):=λk B=>E▸Zm H.ha R B;have z:=WV H.ha H.l4 H.w4 H.hA X B;have y:=JK H.ha (HH (M:=fu ab ws) (i:=k));have n:(ji _ k).map (qo (fu ab ws) k)≠[]:=λq=>by have:=Kp R B;rw [R5.mp q]at this;exact bA (this) dQ
 have x:uo ab l _ _≠[]->l≠[]:=λh q=>bH (List.exists_mem_of_ne_nil _ h) λt m=>by
  have:=(X t ((BZ H.ha R B X).mp m).1).mpr ((BZ H.ha R B X).mp m).2.1;rw [q]at this;exact bA (this) dQ
 have S:l≠[]->∀L r,∀w∈ws,CN (c.ff L r) "_law_takes" [.str (iL [(gf l).r,(gf l).r]),.str w] (.bool (aO (2<=w.countP λT=>aO (T∈l)))):=by
  rw [<-E];exact K.k2 _
 exact e5 (adZ H.ha R B) λaH aK ah aj s=>adX p i F K g H.l4 B R C sD Ko (TS H.ha H.l4) y.1 ah aj y.2 (Py (nV H.ha) HH) (HO R B) C C (ad0 H.ha R B) n s C (VR H.ha R B) VQ (λh=>S (x h)) z λh=>aJ (x h)
theorem s24(p:bK c.B c.Z c.w O)(i:gZ c [])(F:Fm c.V b9 32 d8)(K:sd c O ab ws)(H:Wd ab ws)(E:yP ab (j9 (sG ab (fu ab ws)))=l):
  ES c b9 32 (FL ab ws (fu ab ws) l G P n u a f j m b o v d e A x r y z S L Q h) (bG 24) (FL ab ws (fu ab ws) l G P n u a f j m b o v d e .un (.t (.int (3:J))) .un .un .un .un .un .un .un) .next:=
 kP (zM (tF F 37 C (zr (zi 4) cT C) C OX C) (us:=[T.int (0:J),T.int (1:J),T.int (2:J),T.int (3:J)]) C)
  (ki (iD F 13 C (by decide)) (BO p i F K H (by decide) E) (ki (iD F 13 C (by decide)) (BO p i F K H (by decide) E) (ki (iD F 13 C (by decide)) (BO p i F K H (az C) E) (ki (iD F 13 C (by decide)) (BO p i F K H (by decide) E) my)))) C C
end
def LX(c:Cx Ob)(k:bD Ob)(y:I (AV Ob))(st:I cz):Prop:=
 ∀(T:HB)(g:Fz)(s:aU)(Q:Flow->aU->Prop)(H:aB->aU->Prop),T.lk=[]->SR c.B c.ρ T g c.V b9 32 y s.heap->
  (∀t j x,bP s t->SR k c.ρ T j c.V b9 32 x t.heap->Q (.ret (.bool Y)) t)->aQ (aI c.Z c.w) c.A (execs st c.V) Q H s
section
variable{c:Cx Ob}{st:cz}{rest:I cz}{lv aX:I (AV Ob)}
theorem iJ(h:ES c b9 32 lv u aX .next)(r:LX c k aX rest):LX c k lv (u::rest):=by
 intro T g s Q H e S R;refine gN (h.1 T g s _ _ e S λa i L q o E d=>?_);obtain rfl:=d.nx;exact r T i a Q H e E λt j b x A=>R t j b (q.trans x) A
theorem ZU(a:SP c b9 32 lv u b)(r:∀x A,b x A->A=.next/\LX c k x rest):LX c k lv (u::rest):=by
 intro T g s Q H e S R;refine gN (a.1 T g s _ _ e S λi l L aX A p q o E d=>?_);obtain⟨rfl,r⟩:=r aX A p;obtain rfl:=d.nx;exact r T l i Q H e E λt j x n h=>R t j x (q.trans n) h
theorem ZV(i:ES c b9 32 lv u aX (.ret (.bool Y))):LX c c.B lv (u::rest):=by
 intro T g s Q H e S R;refine gN (i.1 T g s _ _ e S λh a L q o E d=>?_);obtain⟨v,rfl,d⟩:=d.rt;obtain rfl:=d.inv;exact R h a aX q E
theorem yS(i:J)(X:lv[i]?=D (.own l))(r:LX c k (lv.set i (.t (.list l))) rest):LX c k lv rest:=by
 intro T g s Q H e S R;refine cps λ_ v=>?_;obtain⟨w,m,a,h⟩:=S;exact dF (h.freeze X) λj B d A=>v (r T j s Q H e ⟨w,m,_,A⟩ R)
end
section
variable{c:Cx Ob}{ab:I J}{ws:I (I J)}
theorem Zx(p:bK c.B c.Z c.w O)(i:gZ c [])(F:Fm c.V b9 32 d8)(K:sd c O ab ws)(H:Wd ab ws)(s:b=j9 (sG ab (fu ab ws)))(L:a=aO (0<((jE (fu ab ws)).map xY).sum)):
  LX c c.B (o::e::.t (.str ab)::x::j::w::r::P::.t (.str ab)::.t (.list (ws.map .str))::ah::.t (mL (ws.map (iB ab)))::z::n::.t (.bool a)::.t (.list (gL b))::t::.t (.list ((fW (fu ab ws)).map mL))::h::q::.t (mL (ly (fu ab ws)))::.t (mL (qq (fu ab ws)))::.t (mL (ri (fu ab ws)))::v::m::u::d::y::A::X::B::S::[])
   [bG 19,bG 20,bG 21,bG 22,bG 23,bG 24,bG 25]:=by
 have g:=mU ab H.ha;have R:=zH g H.l4 H.w4;have ld:U (sG ab (fu ab ws))<=100:=az C;have T:U b<=100:=s▸aD (kq _ _) ld;refine iJ (s19 F) (bH (s20 F R g C C C C C) λf Q=>iJ Q (yS 23 C (iJ (s21 F R ld s L C C C C) (iJ (s22 (ab:=ab) F g T C C) ?_))));generalize E:yP ab b=l;have G:=s▸E;have k:U l<=4:=E▸aD (kq _ _) (fq g);refine iJ (s23 F k (K.br l (aD k (az C))) (by rw [<-E];exact K.t2 _) C) (iJ (s24 p i F K H G) (ZV (je (zb Y))))
theorem Zw(d6:bK c.B c.Z c.w cl)(R:gZ c [])(F:Fm c.V b9 32 d8)(K:sd c cl ab ws)(W:Wd ab ws)(hr:out=j9 (sG ab (fu ab ws)))(hg:rg=aO (0<((jE (fu ab ws)).map xY).sum)):
  LX c c.B (a0::a1::.t (.str ab)::a3::.t (.list (ws.map .str))::a5::a6::a7::.t (.str ab)::.t (.list (ws.map .str))::iq::.t (mL (ws.map (iB ab)))::fK::D8::.t (.bool rg)::.t (.list (gL out))::D9::D_::AR::Ea::Eb::Ec::Ed::Ef::Eg::Eh::Ei::Ej::Ek::El::Em::En::[])
   [bG 13,bG 14,bG 15,bG 16,bG 17,bG 18,bG 19,bG 20,bG 21,bG 22,bG 23,bG 24,bG 25]:=by
 have h4:=mU ab W.ha;have hm:=zH h4 W.l4 W.w4;refine iJ (s13 F h4 (fq W.l4) C C) (yS 16 C (iJ (s14 (M:=fu ab ws) F C) (bH (s15 (M:=fu ab ws) (v:=AR) F K.tm hm C C C C) λv' r15=>iJ r15 (yS 17 C ?_))));exact iJ (s16 F hm C) (iJ (s17 F K.tm hm C C) (iJ (s18 F K.tm hm C C) (Zx d6 R F K W hr hg)))
theorem Zv{st:aq}(p:bK c.B c.Z c.w cl)(i:gZ c [])(F:Fm c.V b9 32 d8)(K:sd c cl ab ws)(H:Wd ab ws)(d:vZ c st bs)(w:bs[0]?=D (U ab))(v:(bs.drop 1).take (U ab)=ab)(k:vY bs (0+1+U ab) ws):
  LX c c.B (a0::a1::.t (.str ab)::a3::.t (.list (ws.map .str))::a5::a6::.obj (.bB st bs 0)::a8::a9::iq::fJ::fK::D8::Jz::JA::D9::D_::AR::Ea::Eb::Ec::Ed::Ef::Eg::Eh::Ei::Ej::Ek::El::Em::En::[])
   [bG 6,bG 7,bG 8,bG 9,bG 10,bG 11,bG 12,bG 13,bG 14,bG 15,bG 16,bG 17,bG 18,bG 19,bG 20,bG 21,bG 22,bG 23,bG 24,bG 25]:=by
 have g:=mU ab H.ha;have R:=zH g H.l4 H.w4;have y:=JK (T:=mu ab ws) H.ha λ_ _ _ _ _=>⟨C,C⟩;refine e5 K.gQ λq l f X j=>e5 (abb H.ha R) λT o e h s=>iJ (s6 p F d w v (fq g) C) (iJ (s7 p F d (ae g H.l4.symm) g k C C) (iJ (s8 F K.p1 K.t1 g C) (iJ (s9 F K.k1 g (fq H.l4) C C) (ZU (s10 p f F K.top X j) λn A B=>ai B λE x b=>?_))));subst x b;refine⟨C,bH (s11 (c:=c) (lv:=a0::a1::.t (.str ab)::a3::.t (.list (ws.map .str))::a5::a6::.obj (.bB st bs (Cz (0+1+U ab) ws))::.t _::.t (.list (ws.map .str))::.t (.list ((ab.map u9).map .str))::.t _::.obj (.bN E [] aa 0 0)::D8::Jz::JA::D9::D_::AR::Ea::Eb::Ec::Ed::Ef::Eg::Eh::Ei::Ej::Ek::El::Em::En::[]) p K.ad F g H.l4 C C C C C) λt a=>?_⟩;simp only [TP H.ha H.l4]at a;exact iJ a (iJ (s12 i F K.rn y.1 e h y.2 (Py (bq:=λ_=>Y) (M:=mu ab ws) (nV H.ha) λ_ _ _ _ _=>⟨C,C⟩) C) (Zw p i F K H (OG H.ha R) s))
end
abbrev Cx.r2(c:Cx Ob)(A:Inv c.B.tabs):Cx Ob:={c with B:=c.B.re A,G:=fe.re c.G}
theorem abZ:∀(s:I _)(c:I J),(∀l∈s,U l<=4)->vY (c++(s.map λw=>U w::w).flatten) (U c) s:=λs=>s.rec
 (λ_ _=>dj)
 (λl s n c h=>by
  have n:=n (c++(U l::l)) λH m=>h H (.tail _ m);rw [gX]at n;have e:U (c++l.length::l)=U c+1+U l:=by apply ae (cA);rw [gB];exact fS (eF (.a (.v 0) (.a (.v 1) (.n 1))) (.a (.a (.v 0) (.n 1)) (.v 1)) C [_,_]) (eF (.a (.a (.v 0) (.n 1)) (.v 1)) (.a (.v 0) (.a (.v 1) (.n 1))) C [_,_])
  simp only [e]at n;refine⟨?_,?_,h l (.head _),n⟩
  .apply ae (kU (dm _));rw [Nat.sub_self];rfl
  .rw [List.drop_append,vz (rS _),R8,x6]
   exact z9)
theorem aa9(g:o.length=4)(y:∀w∈G,U w<4):(sS o G)[0]?=D (U o)/\((sS o G).drop 1).take (U o)=o/\vY (sS o G) (0+1+U o) G:=by
 refine⟨C,?_,?_⟩
 .exact z9
 .have:=abZ G (U o::o) λw m=>e7 (y w m);simp only [show U (o.length::o)=0+1+U o by rw [gB];exact fS (eF (.a (.v 0) (.n 1)) (.a (.a (.n 0) (.n 1)) (.v 0)) C [_]) (eF (.a (.a (.n 0) (.n 1)) (.v 0)) (.a (.v 0) (.n 1)) C [_])]at this;exact this
theorem aa8(u:o∈gq)(y:∀w∈G,U w<4)(p:∀w∈G,∀i∈w,∃k,k<4/\i=o.getD k 0):∀x∈sS o G,x<256:=by
 have L:∀o∈gq,∀x∈U o::o,x<256:=by decide
 have X:=L o u;intro x j;rcases fE.mp j with h|h
 .exact X x h
 .refine ai (List.mem_flatten.mp h) λl a j=>ai (dZ.mp a) λw R e=>?_;subst e;rcases cD.mp j with q|q
  .rw [q];exact eH (y w R) (az C)
  .exact ai (p w R x q) λk B e=>e▸X _ (.tail _ (get_mem (mU o u) B))
theorem aa6{G:I (I J)}(g:U o=4)(H:U G=4)(y:∀w∈G,U w<4):U (sS o G)<=1000:=by
 have L:∀G:I (I J),(∀w∈G,U w<4)->(G.map λw=>U w::w).flatten.length<=4*U G:=λG=>G.rec (λ_=>dm _) λw G n h=>by
  rw [iN,IT,cA,gB,gB];exact aD (iE (h w (.head _)) (n λw m=>h w (.tail _ m))) (fq (qI _ _))
 have:=L G y;show U (o.length::o++_)<=1000;rw [cA,gB,g];exact aD (iO (H▸this) _) (az C)
theorem aet(s:I aS):∃o,gq[yq (qv s)]?=D o/\Wd o ((qv s).map (uF o)):=by
 have h:yq (qv s)<U gq:=vG _ (by decide);refine⟨gq[yq (qv s)],dB h,af_ h,ae (dg _) (ae (dg _) (GP s)),λw m=>ai (dZ.mp m) λx _ e=>e▸L8 _ x,λw m a u=>ai (dZ.mp m) λx _ e=>YD a (e▸u)⟩
theorem Zt(p:bK c.B c.Z c.w O)(k:gZ (c.r2 V2) [])(F:Fm c.V b9 32 d8)(z:1<=c.n)(aC:c.y.DC "_law_stream" 21 (.ref S))(K:jK (c.B.re V1) c.mg S X [])(B:∀{L u h},V1.eI L h->V1.eI u h)(i:∀{L h},c.B.inv L h->TabAt h X #[]/\V1.eI L h)(n:∀{L h},V1.eI L h->V2.eI L h)
  (f:∀w:I J,U w<=1000->CF c "_law_counted" [.str w] (nT (U w::w))/\CN c "_law_counted" [.str w] (.list (nT (U w::w))))
  (ak:∀st T,(∀x∈T,x<256)->U T<=1000->vZ (c.r2 V2) st T)
  (P:∀o G,Wd o G->sd (c.r2 V2) O o G)(s:I aS)(b:U s<=100):
  LX c (c.B.re V2) (.t (.list (s.map .int))::nH 31 .un) [bG 0,bG 1,bG 2,bG 3,bG 4,bG 5,bG 6,bG 7,bG 8,bG 9,bG 10,bG 11,bG 12,bG 13,bG 14,bG 15,bG 16,bG 17,bG 18,bG 19,bG 20,bG 21,bG 22,bG 23,bG 24,bG 25]:=by
 refine ai (aet s) λo R H=>?_;have g:=mU o H.ha;have y:U (qv s)<=4:=fq (ae (dg _) (GP s));have v:=aaF s;have d:=s0 (c:=c) (lv:=.t (.list (s.map .int))::nH 31 .un) F s b C;generalize qv s=e at*;refine iJ d (yS 1 C (iJ (s1 (ab:=o) F v y R C) (iJ (s2 (ab:=o) F v y g C C) (yS 4 C ?_))));generalize bh:e.map (uF o)=G at*;refine iJ (s3 (ab:=o) F (f o (g▸az C)).1 C) (bH (s4 (ab:=o) (ws:=G) (v:=.un) F (λw h=>(f w (aD (e7 h) (az C))).2) C C C C H.w4 (fq H.l4) g) λq r4=>iJ r4 ?_);have or:=aa9 g H.w4;have m:=aa8 H.ha H.w4 H.hA;have r:=aa6 g H.l4 H.w4;intro E A bf ah aj a ao au;refine gN (s5 p z aC K B i F (bs:=sS o G) C a ao λt st aE aF=>?_);obtain⟨Q,aK,aM,l⟩:=aF;have aP:=Zv (c:=c.r2 V2) (ab:=o) (ws:=G) (st:=st) (bs:=sS o G) (cl:=O) (⟨p.ob,λaH=>p.iI aH,p.ok⟩) k F (P o G H) H (ak st _ m r) or.1 or.2.1 or.2.2
  (a0:=.t (.list (s.map .int))) (a1:=.t (.list (nT e))) (a3:=.un) (a5:=.un) (a6:=q) (a8:=.un) (a9:=.un) (iq:=.un) (fJ:=.un) (fK:=.un) (D8:=.un) (Jz:=.un) (JA:=.un) (D9:=.un) (D_:=.un) (AR:=.un) (Ea:=.un) (Eb:=.un) (Ec:=.un) (Ed:=.un) (Ef:=.un) (Eg:=.un) (Eh:=.un) (Ei:=.un) (Ej:=.un) (Ek:=.un) (El:=.un) (Em:=.un) (En:=.un)
 exact aP E A t ah aj a ⟨Q,aK,aM,aW.re (B:=c.B.re V1) (mT:=V2) l (n l.inv)⟩ λaN aT a_ aY j=>au aN aT a_ (aE.trans aY) j
structure Fx(y:Ly Ob)(cl:Cl)(bq:aq)(bm:I aB)(Bx newId F0:String):Prop where
 S:Sy y cl bq bm Bx newId F0
 d3:y.aZ "read_uint1" 3
 d4:y.aZ "read_string1" 4
 d7:y.aZ "translate" 7
 Kw:y.aZ "escape" 10
 Kx:∃cd P,y.DC "_translate" 12 (.ref cd)/\jK y.B y.mg cd P m3
 Ky:y.aZ "_join_translated_parts" 13
 Kz:y.aZ "_law_plain" 23
 KA:y.aZ "_law_bracket" 24
 EK:y.aZ "_law_takes" 25
 KC:y.aZ "_law_rounds" 26
 KD:y.aZ "_law_times" 27
 sp:D6 y
 pt:vX y
 mA:lR y.B cl "add" 2 om
 mG:lR y.B cl "_get_nodeinfo" 1 rC
 nI:∃ob fd,iG y.B cl.ni 17 1 ob fd vh
 nN:y.mg "_NodeInfo"=D (.ref cl.N)
 gQ:∃a ob fd,(("__init__":af),a)∈cl.fs/\j2 y.B a ob fd (dD (fL 19 0)) tB/\fd.scope=eg (fL 19 0)/\Binds y.B y.Z y.w fd tB [] [.none]
 top:y.mg "TopologicalSorter"=D (.ref cl.bq)
section
variable{ab:I J}{ws:I (I J)}
theorem ad1(h:uY l=Y):U (iL l)<=100000:=by
 have:=dh (cQ.mp (cQ.mp (cQ.mp h).1).1).2;show U (sJ++(kK l++C0))<=_;simp only [cA,cA];exact aD (iO (rQ this _) _) (az C)
theorem rdc(z:c.n=6)(G:Fx c.y O d i l A F){st:aq}(h:∀x∈bs,x<256)(X:U bs<=1000):vZ c st bs:=λw v R=>z.symm▸aeo G.S.d6 G.d3 G.d4 h X w v R
theorem ZT(z:c.n=6)(G:Fx c.y O ck cC cB bh bz)(H:Wd ab ws):sd c O ab ws:=by
 have l:∀w∈ws,U w<=1000:=λw m=>aD (e7 (H.w4 w m)) (az C);refine cps λ_ j=>d5 G.Kx λbl cF E Q=>mX G.gQ λF cu bx aC aE f aT=>j ?_;have i:∀S:I Px,U S<=100->U (mq S)<=1000->uY _=Y->(∀p∈S,p.ok=Y)->c.y.F 6 "translate" [.str _] _:=λS h v R g=>
  aer G.d7 E G.Ky Q G.pt (λa u=>aec G.Kw G.sp a u) S h v (ad1 R) g
 refine⟨λr d a m=>?_,λr d a m=>?_,λr d bW b_ a m w y=>?_,λX bQ L T h v=>?_,⟨F,0,z.symm▸az C,aC,λX d=>aen G.S.d6 aE f aT⟩,G.top,λh v R g P=>?_,λbf ah u aj=>?_,λak ao=>?_,λq x=>?_,λq x r d w y=>?_⟩
 .delta CN
  exact z▸aej G.Kz a
 .delta CN
  have o:=Pk H.ha m;have:=i [nk a] (az C) (by rw [PF,gB,cA];exact aD (jx (rQ (GX a) 1)) (az C)) o.2.1 (λp t=>cO.mp t▸o.1);rw [PF]at this;exact z▸this
 .delta CN
  have o:=Pk H.ha m;have:=QB (n:=5) G.EK o.2.1 (l w y);rw [show [(nk a).r].map Row.t=[[a]]from aA (λaF=>[aF]) o.2.2,XC]at this;exact z▸this
 .obtain⟨aH,aK,aM,au,aP,n⟩:=G.mA;obtain⟨bC,bE,bI,aN,bR,a_⟩:=G.mG;exact jO G.nI λbZ fN aY=>⟨aH,aK,aM,au,aP,n.d.ho,n.d.hd,z.symm▸w_add (n:=2) G.S.d6 n a_ aY G.nN aN L T h v⟩
 .exact z.symm▸ael G.S G.KC h v R g P
 .delta CN
  exact z▸aep (n:=5) G.KD bf ah u aj
 .delta CN
  exact z▸ad9 (n:=5) G.KA ak ao
 .delta CN
  have b:=J7 H.ha q x;have A:U (ab.filter q)<=4:=aD (kq _ _) (fq (mU ab H.ha));have s:=J6 (ab.filter q)
  have:=i [gf _,gf _] (az C) (by rw [PG,cA,cA,gB];show _+1+(_+1)+1<=_;exact m8 0 (.a (.a (.a (.v 1) (.n 1)) (.a (.v 1) (.n 1))) (.n 1)) (.n 1000) (.v 0) (.n 4) (.v 0) (.n 4) (.v 1) (.a (.v 0) (.n 4)) (.v 1) (.a (.v 0) (.n 4)) C [_,_] A A s s) b.2.1 (λp t=>by
   rcases cD.mp t with e|e
   .rw [e];exact b.1
   .rw [cO.mp e];exact b.1)
  rw [PG]at this;exact z▸this
 .delta CN
  have b:=J7 H.ha q x;have:=QB (n:=5) G.EK b.2.1 (l w y);rw [show([(gf _).r,(gf _).r].map Row.t)=[(gf _).r.t,(gf _).r.t]from C,XD λk m=>b.2.2 k (ai (H.hA w y k m) λcJ B e=>e▸get_mem (mU ab H.ha) B)]at this;exact z▸this
end
abbrev Ly.r2(H:Ly Ob)(A:Inv H.B.tabs):Ly Ob:={H with B:=H.B.re A,G:=fe.re H.G}
theorem Zy:dD (bB 28)=[bG 0,bG 1,bG 2,bG 3,bG 4,bG 5,bG 6,bG 7,bG 8,bG 9,bG 10,bG 11,bG 12,bG 13,bG 14,bG 15,bG 16,bG 17,bG 18,bG 19,bG 20,bG 21,bG 22,bG 23,bG 24,bG 25]:=C
section
variable{y:Ly Ob}
theorem Zu{V1 V2:Inv y.B.tabs}(G:Fx (y.r2 V2) u bC cu bQ bR cM)(aF:y.DC "_law_stream" 21 (.ref aT))(K:jK (y.B.re V1) y.mg aT bf [])(bl:∀{L z h},V1.eI L h->V1.eI z h)(T:∀{L h},y.B.inv L h->TabAt h bf #[]/\V1.eI L h)(Q:∀{L h},V1.eI L h->V2.eI L h)
  (g:y.aZ "_law_counted" 22)
  {o:bL}{a code:aB}(ak:y.B.h₀.get? i=D o)(aC:o.data=.func (docDef "law" (gw (bB 28)) (dD (bB 28)) (eg (bB 28)) a code r))(X:y.B.h₀.CodeRec code "law")
  {fz:Fz}{v:aB}{s:aU}{Rs:pX->aU->Prop}(k:dW l 7)(d:l.frames=D [])(O:Ready y.B fz s){sc:I aS}(E:Den ρ fz v (.list (sc.map .int)))(B:U sc<=100)
  (S:∀t j,bP s t->(∀b,b∉y.B.tabs->∀x,s.heap.get? b=D x->t.heap.get? b=D x)->V2.eI j t.heap->Rs (.ok (.ret (.bool Y))) t):
  codeAny (aI y.Z y.w) l (.call (.ref i) ⟨[v],[]⟩) Rs s:=by
 have F:oR (eg (bB 28)) b9:=mj (by decide+kernel);have P:bindArgs (docDef "law" (gw (bB 28)) (dD (bB 28)) (eg (bB 28)) a code r) ⟨[v],[]⟩=pure (e0 b9 [v]):=C;have ah:(eg (bB 28)).names.lookup ("script":af)=D .local:=by decide+kernel
 refine I7 k.d (O.base _ _ ak) aC (y.G.nolimit O.base) (X.keeps O.base) C P C (λx aj=>?_) (λn R=>?_) C C C
 .have:=cO.mp aj;exact this.symm▸(.inl ah)
 let f:=di (docDef "law" (gw (bB 28)) (dD (bB 28)) (eg (bB 28)) a code r) s.heap.objs.size i
 let c:=y.c (l.deeper f) ρ f 6 k.deeper
 have ao:Fm c.V b9 32 d8:=jP (by decide+kernel) C;have au:gZ (c.r2 V2) []:=⟨(aR ([]) (Ro d) (λe aE=>(bA (aE) dQ))),C,by show(eg (bB 28)).kind≠_;exact nofun,λH p=>(nomatch p),λL h _ H p=>(nomatch p),λL h b_ aK aM=>V2.of aK (λb o bE _ e=>e) λaN aP o e=>(aM aN aP o e).elim id λq=>(nomatch q.1)⟩;have aY:bK c.B c.Z c.w u:=⟨G.S.d6.ob,λaH=>G.S.d6.iI aH,G.S.d6.ok⟩;have H:=Zt (c:=c) (V1:=V1) (V2:=V2) aY au ao (show 1<=6 by exact gE _) aF K bl T Q (λw h=>⟨ad' (n:=5) g w h,ad_ (n:=5) g w h⟩)
  (λst bI bh a_=>rdc (c:=c.r2 V2) C G bh a_) (λbW bZ bx=>ZT (c:=c.r2 V2) C G bx) sc B
 simp only [<-Zy]at H;refine H _ fz n _ _ C (CR (B:=y.B) (ρ:=ρ) (fz:=fz) (xs:=b9) (tG:=[.list (sc.map .int)]) (vs:=[v]) (fd:=docDef "law" (gw (bB 28)) (dD (bB 28)) (eg (bB 28)) a code r) (a:=i) (s:=s) (s₁:=n) F C C O (.cons E .nil) (ez C) R) λt j ck q A=>?_;obtain⟨_,cB,cC,A⟩:=A;exact d5 R.done λcF cJ bz cU=>S t j (bP.trans (bP.of bz) q) (λb m x e=>A.kept b x (by show(if b∈y.B.tabs then aa else s.heap.get? b)=D x;exact ae (aJ m) e)) A.inv
end
noncomputable abbrev GZ:cy:=PySem.Challenge.rw_rx0064_02.row.prog
def o_(w:bX):Cl:={K:=hK w.params,bq:=206,N:=109,fs:=[("__init__",142),("_get_nodeinfo",149),("add",156),("prepare",161),("get_ready",168),("is_active",175),("done",189),("_find_cycle",196)],ni:=105,p0:=110,p1:=111,p2:=112}
theorem Ze(w:bX):tV (o_ w)where
 pg:=λE=>C
 hd:=C
 sa:=C
 po:=C
 Gv:=C
 MK:=C
 MJ:=C
 lt:=dK _ _
 JY:=C
 Lq:=C
 GL:=λE=>C
 Ng:=C
 Cn:=C
 Ci:=C
 Ny:=C
 Nr:=C
 Nq:=C
 s0:=⟨C,C,C,C,C⟩
 s1:=⟨C,C,C,C,C⟩
 s2:=⟨C,C,C,C,C⟩
noncomputable def t0:bL:=⟨.none,aa,.fields #[],#[]⟩
def tabI(f:cf):Prop:=∀P∈[212,78],f.get? P=D t0
def lB(w:bX)(h:cf):bD Ob where
 ob:=Jo GZ w (o_ w)
 ok:=λE=>True
 h₀:=rest h [212,78]
 base:=λE=>dj
 frame:=λx E k=>aaY x k
 tabs:=[212,78]
 inv:=λ_=>tabI
 live:=λi P s=>cV (i P s)
 uJ:=λi E k P s=>k P s _ (i P s)
theorem uN:212∈([212,78]:I aq):=.head _
theorem wF:78∈([212,78]:I aq):=.tail _ (.head _)
theorem AS{p:aq->Prop}(a:p 212)(b:p 78):∀P∈[212,78],p P:=bO a (bO b eJ)
def BL(w:bX)(h:cf):Inv (lB w h).tabs where
 eI:=λ_ f=>(∃S,TabAt f 212 S)/\TabAt f 78 #[]
 live:=λi=>AS (ai i.1 λS e E=>cV e) (cV i.2.1)
 of:=λi E k=>⟨ai i.1 λS e r=>aR S (k 212 uN _ e) r,k 78 wF _ i.2.1,i.2.2⟩
def pq(w:bX)(h:cf):Inv (lB w h).tabs where
 eI:=λL f=>(∃S,TabAt f 212 S)/\∃S,TabAt f 78 S/\r6 L m3 S
 live:=λi=>AS (ai i.1 λS e E=>cV e) (ai i.2 λS e E=>cV e.1)
 of:=λi l k=>⟨ai i.1 λS e r=>aR S (k 212 uN _ e) r,ai i.2 λS e c=>(aR (S) (⟨k 78 wF _ e.1,e.2⟩) (c.le l))⟩
theorem VO(i:tabI f):TabAt f 212 #[]/\(BL w h).eI L f:=⟨⟨i 212 uN,dj⟩,⟨#[],i 212 uN,dj⟩,i 78 wF,dj⟩
theorem abg(i:(BL w h).eI L f):(pq w h).eI L f:=⟨i.1,#[],i.2,λx j a e=>aV C e⟩
theorem GN{l:I aq}(u:h.Ns a m)(q:a∉l):(rest h l).Ns a m:=jC u λo Q L e r=>l7 o Q L (n8 e q) r
section
variable{w:bX}{h:cf}{mg mb:af->bg aB}
theorem gz(G:(hK w.params).In h)(k:bF (rest h [212,78]) f):(hK w.params).In f:=λa o e=>by
 refine k a o (n8 (G a o e) λq=>?_);have z:∀P∈([212,78]),(hK w.params).lookup P=aa:=by
  intro P s;simp only [cD,dQ,or_false]at s;rcases s with rfl|rfl<;>kernel_rfl
 exact aV (z a q) e
theorem C3(T:TopRead p m mg mb h):TopRead p m mg mb (rest h [212,78]):=
 ⟨GN T.g (nofun),GN T.b (nofun),ai T.nolimit λP u e=>aR P (GN u (nofun)) e,T.builtins,T.free⟩
theorem Ub(G:(hK w.params).In h)(T:TopRead p m mg mb h)(i:J)(x:af)(v:aB)(e:wc[i]?=D (x,v)):mg x=aa/\mb x=D v:=by
 have a:(wc.all λH=>nsIn (hK w.params) j0 H.1==D aa&&bootBuiltins H.1==D H.2&&! H.1==("__name__"))=Y:=C;have:=gK.mp a (x,v) (cN e);simp only [oz,DO,tH]at this;exact bT this λn c=>bT (n) λs b=>⟨mg_none_of G T.g s,by apply ae (T.builtins x (by simpa using c));exact b⟩
def lY(G:(hK w.params).In h)(T:TopRead p m mg mb h):Ly Ob where
 B:=lB w h
 Z:=GZ
 w:=w
 mg:=mg
 mb:=mb
 G:=⟨λk=>(C3 T).g.keeps k,λk=>(C3 T).b.keeps k,λk=>(C3 T).nolimit.keeps k⟩
 bi:=Ub G T
theorem oW{X:bD Ob}(e:∀{f},bF X.h₀ f->(hK w.params).In f)(G:h.Ns j0 mg)(x:(hK w.params).In h){L:af}(a c:aq)(o n:bL)(t:nsIn (hK w.params) j0 L=D (D (.ref a)))(b:(hK w.params).lookup a=D o)
  (i:o.data=.func (docDef L (gw (bB u)) (dD (bB u)) (eg (bB u)) y (.ref c) r))(j:(hK w.params).lookup c=D n)(O:n.data=.fields z)(s:z[1]?=D (.str L A)):pZ X mg L u:=
 YA a o y _ r (mg_of x G t) (λk=>e k _ _ b) i (λk=>q7 c n z A C (e k _ _ j) O s)
theorem KI(G:(hK w.params).In h)(T:TopRead p m mg mb h)(a c:aq)(o n:bL)(t:nsIn (hK w.params) j0 L=D (D (.ref a)))(b:(hK w.params).lookup a=D o)
  (e:o.data=.func (docDef L (gw (bB u)) (dD (bB u)) (eg (bB u)) y (.ref c) r))(j:(hK w.params).lookup c=D n)(O:n.data=.fields z)(i:z[1]?=D (.str L A)):(lY G T).DC L u (.ref c):=
 q7 a o y r (mg_of G T.g t) (λk=>gz G k _ _ b) e (λk=>(q7 c n z A C (gz G k _ _ j) O i))
theorem uO(G:(hK w.params).In h)(T:TopRead p m mg mb h)(a c:aq)(o n:bL)(x:(L,a)∈(o_ w).fs)(i:vO (o_ w) a)(b:(hK w.params).lookup a=D o)
  (e:o.data=.func {docDef L (gw (fL 19 t)) (dD (fL 19 t)) (eg (fL 19 t)) y (.ref c) r with qualname:=q})(j:(hK w.params).lookup c=D n)(O:n.data=.fields z)(s:z[1]?=D (.str q A))(Q:oR (eg (fL 19 t)) l):lR ((lY G T).r2 (pq w h)).B (o_ w) L t l:=
 ⟨a,o,_,x,i,⟨⟨λk=>gz G k _ _ b,e,λk=>q7 c n z A C (gz G k _ _ j) O s,C,C,Q,C,C⟩,C,C,C,C⟩⟩
end
section
variable{w:bX}
theorem t_(w:bX):∀x∈(o_ w).fs,vO (o_ w) x.2:=by
 intro x j;have h:((o_ w).fs.all λx=>specialIn (hK w.params) (.ref x.2) "__get__"==D (D (.builtin "function.__get__"))&&takesIn (hK w.params) (.ref x.2)==D ay&&fnIn (hK w.params) x.2)=Y:=C;have:=gK.mp h x j;simp only [oz,DO]at this;exact⟨this.1.1,this.1.2,this.2⟩
def yy(P:oJ):iR DictEntry:=match(Ol).data with|.dict Q _=>Q|_=>#[]
noncomputable def Mp(s:af):aB->bw
 |.str x _=>x==s
 |_=>ay
theorem YO(h:Mp s v=Y):∃y,v=.str s y:=by
 cases v with
 |str x y=>exact⟨y,by rw [iS h]⟩
 |_=>exact cY C h
theorem YN{v:aB}(h:v.isInt i=Y):∃y,v=.int i y:=by
 cases v with
 |int t y=>exact⟨y,by rw [iS (a:=t) h]⟩
 |_=>exact cY C h
def Kf(P:oJ)(a:J):bw:=bif aO (a∈u7)then(findBy SQ (yy P) (a:aS)).any (Mp (cj [92,a]))else(findBy SQ (yy P) a).isNone
theorem UD(P:oJ):(dz 256).all (Kf P)=Y:=by kernel_rfl
def YX(P:oJ):bw:=(yy P).toList.all λe=>e.key.isInt e.hash&&e.hash==hashInt e.hash
theorem YY(P:oJ):YX P=Y:=C
set_option tactic.hygienic true in
theorem sp3(G:(hK w.params).In h)(T:TopRead p b O A h):D6 ((lY G T).r2 (pq w h))where
 ex:=by
  refine l6 66 (findBy SQ (yy w.params)) (mg_of G T.g C) C (λ{f}k=>?_) (λa u=>?_)
  .refine FF _ (yy w.params) _ (gz G k _ _ C) (dI C C C) C (λe m=>?_) (λE=>C);have:=gK.mp (YY w.params) e (Array.mem_toList_iff.mpr m);exact bT (cQ.mp this) λi v=>(YN i).elim λx B=>aR e.hash (by rw [B];exact aL C) (iS v)
  .have:=gK.mp (UD w.params) a (fm.mpr u);unfold Kf at this
   by_cases R:a∈u7
   .rw [cL R]at this;refine ai ((I3 _ _).mp this) λs e q=>?_;obtain⟨y,rfl⟩:=YO q;exact .inr ⟨R,y,e⟩
   .rw [ef R]at this;exact .inl ⟨R,Option.isNone_iff_eq_none.mp this⟩
theorem pt3(G:(hK w.params).In h)(T:TopRead p m O A h):vX ((lY G T).r2 (pq w h))where
 ex:=aR 57 (mg_of G T.g C) (λk=>⟨Oh,_,_,_,_,56,Og,_,gz G k _ _ C,C,C,C,gz G k _ _ C,C⟩)
theorem J3(G:(hK w.params).In h)(T:TopRead p m O A h)(f:h.BuiltinsAt O 64)(s:P∈[212,78])(k:bF (rest h [212,78]) e):e.BuiltinsAt O P:=by
 refine KN f λx u a b c d i L=>?_;have R:=mg_of G T.g (n:="__builtins__") (v:=.ref 4) C;rw [R]at a;obtain rfl:=ku (bj a);exact L5 4 u R b c (AS (by decide) (wI C) P s) (k _ _ (n8 i (nofun))) L
theorem adJ(G:(hK w.params).In h)(T:TopRead p m O A h)(x:h.BuiltinsAt O 64)(l:∀{f},bF (rest h [212,78]) f->lQ f c 212):jK ((lB w h).re (BL w h)) O c 212 []where
 tab:=uN
 hd:=l
 at_:=λi=>ai i.1 λS e E=>⟨S,⟨e,E⟩,λb j=>bA j dQ⟩
 put:=λi E k e=>⟨ai e λS a _=>⟨S,a⟩,k 78 wF (wI C) _ i.2.1,i.2.2⟩
 ne:=wI C
 bm:=J3 G T x uN
theorem adK(G:(hK w.params).In h)(T:TopRead p m O A h)(e:h.BuiltinsAt O 64)(l:∀{f},bF (rest h [212,78]) f->lQ f c 78):jK ((lB w h).re (pq w h)) O c 78 m3 where
 tab:=wF
 hd:=l
 at_:=λi=>i.2
 put:=λi E k a=>⟨ai i.1 λS x r=>aR S (k 212 uN (wI C) _ x) r,a⟩
 ne:=wI C
 bm:=J3 G T e wF
theorem A5(G:(hK w.params).In e)(b:(hK w.params).lookup c=D o)(h:o.cls=.type "code")(j:o.data=.fields z)(O:z[11]?=D (.ref P))(i:z.getD 18 .none=.str L q)(x:z.getD 7 .none=.int a v)(p:z.getD 9 .none=.bool X)(s:z.getD 10 .none=.int l d)(k:c≠P)
  (n:bF (rest e [212,78]) f):lQ f c P:=
 ⟨o,z,L,q,a,v,X,l,d,gz G n _ _ b,h,j,O,by apply ae Array.getD_eq_getD_getElem?;rw [O];rfl,i,x,p,s,k⟩
theorem YJ(G:(hK w.params).In h)(T:TopRead p m e A h):∃a u S,(("__init__":af),a)∈(o_ w).fs/\j2 ((lY G T).r2 (pq w h)).B a u S (dD (fL 19 0)) tB/\S.scope=eg (fL 19 0)/\Binds ((lY G T).r2 (pq w h)).B ((lY G T).r2 (pq w h)).Z w S tB [] [.none]:=by
 apply o5 142 _ _ (.head _) ⟨λk=>gz G k _ _ C,C,λk=>q7 141 _ _ _ C (gz G k _ _ C) C C,C,C,mj (C),C,C⟩ C;intro L F y z g s Q H B O b R;obtain rfl:=b.ja C;refine BindsTo.of_defaults C (gz G O.base _ _ C) C C C _ _ _ _ (R s g [.none] (cg.refl O) (.cons .none .nil) (bF.refl _))
end
theorem sy3(G:(hK w.params).In h)(T:TopRead p m O A h):Sy ((lY G T).r2 (pq w h)) (o_ w) 124 [.type "ValueError",.type "Exception",.type "BaseException",.type "object"] "ValueError" "ValueError.__new__" "ValueError.__init__"where
 d6:=⟨C,λk=>gz G k,Ze w⟩
 OC:=own_of_in (gz G (bF.refl _)) (C3 T) C (by kernel_rfl)
 FB:=PySem.F.excBase_ValueError
 mR:=uO G T 168 167 _ _ (by exact cN (i:=4) C) (t_ w ("get_ready",168) (by exact cN (i:=4) C)) C C C C C (mj (by decide+kernel))
 mI:=uO G T 175 174 NQ NP (by exact cN (i:=5) C) (t_ w ("is_active",175) (by exact cN (i:=5) C)) C C C C C (mj (by decide+kernel))
 mD:=uO G T 189 188 NS NR (by exact cN (i:=6) C) (t_ w ("done",189) (by exact cN (i:=6) C)) C C C C C (mj (by decide+kernel))
 mP:=uO G T 161 160 NO NN (by exact cN (i:=3) C) (t_ w ("prepare",161) (by exact cN (i:=3) C)) C C C C C (mj (by decide+kernel))
 mF:=uO G T 196 195 NV NU (by exact cN (i:=7) C) (t_ w ("_find_cycle",196) (by exact cN (i:=7) C)) C C C C C (mj (by decide+kernel))
 nO:=⟨549,mg_of G T.g (by exact C)⟩
 nD:=⟨552,mg_of G T.g (by exact C)⟩
theorem Xl(G:(hK w.params).In h)(T:TopRead p m O A h)(f:h.BuiltinsAt O 64):Fx ((lY G T).r2 (pq w h)) (o_ w) 124 [.type "ValueError",.type "Exception",.type "BaseException",.type "object"] "ValueError" "ValueError.__new__" "ValueError.__init__"where
 S:=sy3 G T
 d3:=oW (gz G) T.g G 45 44 Od Oc (by kernel_rfl) C C C C C
 d4:=oW (gz G) T.g G 52 51 Of Oe (by kernel_rfl) C C C C C
 d7:=oW (gz G) T.g G 64 63 Oj Oi (by kernel_rfl) C C C C C
 Kw:=oW (gz G) T.g G 76 75 Oo Om (by kernel_rfl) C C C C C
 Kx:=(gg 82 78 (KI G T 83 82 Ot Oq (by exact C) C C C C C) (adK G T f (A5 G C C C C C C C C (by exact nofun))))
 Ky:=oW (gz G) T.g G 90 89 Ov Ou (by kernel_rfl) C C C C C
 Kz:=oW (gz G) T.g G 229 228 N2 N1 (by kernel_rfl) C C C C C
 KA:=oW (gz G) T.g G 234 233 N4 N3 (by kernel_rfl) C C C C C
 EK:=oW (gz G) T.g G 241 240 N6 N5 (by kernel_rfl) C C C C C
 KC:=oW (gz G) T.g G 248 247 N8 N7 (by kernel_rfl) C C C C C
 KD:=oW (gz G) T.g G 253 252 N_ N9 (by kernel_rfl) C C C C C
 sp:=sp3 G T
 pt:=pt3 G T
 mA:=uO G T 156 155 NM NL (by exact cN (i:=2) C) (t_ w ("add",156) (by exact cN (i:=2) C)) C C C C C (mj (by decide+kernel))
 mG:=uO G T 149 148 NK NJ (by exact cN (i:=1) C) (t_ w ("_get_nodeinfo",149) (by exact cN (i:=1) C)) C C C C C (mj (by decide+kernel))
 nI:=⟨NI,_,⟨λk=>gz G k _ _ C,C,λk=>(q7 104 NH _ _ C (gz G k _ _ C) C C),C,C,mj (by decide+kernel),C,C⟩,C,C,C,C⟩
 nN:=mg_of G T.g (by exact C)
 gQ:=YJ G T
 top:=mg_of G T.g (by kernel_rfl)
theorem aew{i:aS}(y:Well P h v (.int i)):Den F g v (.int i):=by cases y;exact .int _ _
theorem Vf{l:I aS}:∀{z:I aB},WellAll P h z (ofPys (l.map PyData.int))->bu F g z (l.map .int):=by
 induction l with
 |nil=>intro z y;cases y;exact .nil
 |cons i l n=>exactλy=>e5 (wellAll_cons_inv y) λv r e a b=>e▸.cons (aew a) (n b)
theorem Uo(G:(hK w.params).In h)(T:TopRead p g O A h)(f:h.BuiltinsAt O 64)(k:∀P∈[212,78],h.get? P=D t0)(B:s.heap=h){a:aq}{r:I aS}(y:Well w.params h (.ref a) (ofPy (.list (r.map .int))))(X:U r<=63)
  {Rs:pX->aU->Prop}(o:∀t,bP s t->(∀b,b∉[212,78]->∀l,s.heap.get? b=D l->t.heap.get? b=D l)->(∀P∈[212,78],∃S,TabAt t.heap P S)->Rs (.ok (.ret (.bool Y))) t):
  codeAny (aI GZ w) callerA (.call (.ref 258) ⟨[.ref a],[]⟩) Rs s:=by
 subst B;have y:∃z,s.heap.get? a=D (lo z 0)/\WellAll w.params s.heap z (ofPys (r.map .int)):=by
  have y:Well w.params s.heap (.ref a) (.list (ofPys (r.map .int))):=y;cases y with
  |list j v=>exact⟨_,j,v⟩
 refine ai y λz L n=>?_;have u:a∉([212,78]:I aq):=λq=>by
  have:=k a q;rw [L]at this;exact nomatch this
 refine Zu (y:=lY G T) (V1:=BL w s.heap) (V2:=pq w s.heap) (Xl G T f) (KI G T 217 216 NX NW (C) C C C C C) (adJ G T f (c:=216) (A5 G (c:=216) C C C C C C C C (by exact nofun))) (λi=>i) (λi=>VO i) (λi=>abg i)
  (oW (gz G) T.g G 222 221 NZ NY (by kernel_rfl) C C C C C)
  (gz G (bF.refl _) _ _ C) C (q7 257 Oa _ _ C (gz G (bF.refl _) _ _ C) C C)
  (ρ:=⟨0,0⟩) (fz:=(rest s.heap [212,78]).get?) (sc:=r) ⟨dK _ _,dK _ _,C⟩ C ?_ ?_ (aD X (az C)) λt d q H i=>o t q H (AS i.1 (ai i.2 λS x E=>⟨S,x⟩))
 .exact{bJ:=λb m x=>u3 _ b m x,base:=u3 _,inv:=k,jb:=λP e=>tP _ e,nu:=λP e=>tP _ e}
 .exact .list (n8 L u) (Vf n)
end Internal
set_option tactic.hygienic false
open PySem PySem.Calls PySem.SeqAt PyProof.Rows PySem.W
namespace Internal
section
variable{w:bX}
theorem aba(G:(hK w.params).In h)(l:∀P∈[212,78],h.get? P=D t0){f:cf}(B:∀b,b∉[212,78]->∀x,h.get? b=D x->f.get? b=D x)(t:∀P∈[212,78],∃S,TabAt f P S):OldK h f:=by
 have a:∀P∈([212,78]),isCodeTable h P:=λP s=>by
  have y:TabAt h P #[]:=⟨l P s,dj⟩;simp only [cD,dQ,or_false]at s;rcases s with rfl|rfl
  .exact((A5 G (c:=216) C C C C C C C C (nofun) (u3 _)).tab y).isCodeTable
  .exact((A5 G (c:=82) C C C C C C C C (nofun) (u3 _)).tab y).isCodeTable
 refine⟨λb o e=>?_,λb o e=>?_⟩
 .by_cases q:b∈[212,78]
  .refine ai (t b q) λS R E=>?_;have:=l b q;rw [e]at this;obtain rfl:=bj this;exact .inr (.inl ⟨a b q,C,#[],S,C,by apply ae R;simp [t0]⟩)
  .exact .inl (B b q o e)
 .by_cases q:b∈[212,78]
  .exact ai (t b q) λS R E=>⟨_,R⟩
  .exact⟨o,B b q o e⟩
end
end Internal
theorem Internal.acD:OpenLaw.wellSaid PySem.Challenge.rw_rx0064_02=Y:=by kernel_rfl
open Internal
set_option tactic.hygienic true in
theorem PySem.Challenge.cw_rx0064_02_holds : PySem.Challenge.rw_rx0064_02.Holds := by
 refine holds_law Internal.acD λ_=>holds_open (q:=q3) (loose:=BW) (XP:=XL q3 []) (Yf:=RH lH) (Ya:=RI lH) (YP:=Hook.says lH) (N:=5824) ?hl (Hook.of lH) (Hook.keeps lH) (λs e=>xl_of s (cQ.mp e).1) XL.keeps (by rfl) (by rfl) (by rfl) (λs e=>recFacts_of (cQ.mp e).2) (by rfl) (by first|assumption|decide+kernel) (by decide+kernel) ⟨C,C,C,C,C,by decide+kernel⟩ ?hw ?ak
 case hl=>exact ZC
 case hw=>w_witness2
 intro S B c O aN r i Q w aK aM aT ah aE aH P x f p L aj ao au m F b E v;clear P f x;apply Ground.open r;intro T aY a_ bl A
 wrow_args m F b E v
 rename_i X _ _ _ _ _ _ _ _ a _ _ _ _ k _ _ _ j _;refine bT (i) λG l=>?_;have g:=mg_of G T.g (n:="law") (v:=.ref 258) (by kernel_rfl);have p:O "law"=D (.ref Q):=p;rw [g]at p;cases p;have n:c.heap.BuiltinsAt O 64:=by
  refine KN (T.bmain) λaC u a aF t d e o=>?_;have R:=mg_of G T.g (n:="__builtins__") (v:=.ref 4) (by exact C);rw [R]at a;cases a;exact⟨4,u,R,by assumption,by exact nofun,by exact nofun,t,d,e,o⟩
 refine enter_call (Uo G (topRead_of T) n l C k (by exact(mE.mp ((Int.le_of_not_gt j)))) λaP q H y=>?_);obtain⟨bf,bh,q⟩:=q;obtain⟨q,z⟩:=mK q;refine⟨.inl ⟨.bool Y,.bool Y,[],C,λbx=>by rfl,.bool _,?_,λ_=>⟨xX,λa h=>nomatch h⟩⟩,aba G l H y,(aA Shared.os q:),z.symm▸.of_eq L⟩
 .first|rfl|exact postW_of (by wrow_shape) (by wtm_val) (by assumption)
