import PyProof.Rows.All
import Wide.All
import OpenK.KCell
import Open.Line
import Open.FastT9
import Open.TreeImp
import Wide.FinOn
import PyProof.Conv_bool
import PyProof.ListTruth
import PyProof.DictWalks
import PyProof.SetNew
import PyProof.SetRoads
import PyProof.MeetsDictList
import PyProof.LetGo
import PyProof.StationsW
import PyProof.RulesTry
import PyProof.RulesDelMore
import PyProof.MeetsSeq
import PyProof.ExcBaseAll.ValueError
import PyProof.FactsAll.str_8
import PyProof.CodeObjX
import PyProof.DefMake
import PyProof.SeqWrite
import KE.BytesMake
import KE.KxDecode
import KE.KStar
import KE.KBoundM
import PyProof.Rows.SortStr
import PyProof.Rows.SortWalk
import KE.KLam
import PyProof.GenQ
import PyProof.JoinWalk
import PyProof.StrLawsFrom
import OpenK.KOwn
import Lean
import PySem.Challenge.RW_rx0064_02
set_option Elab.async false
set_option linter.all false
set_option genInjectivity false
set_option genSizeOf false
set_option genCtorIdx false
set_option tactic.hygienic false
set_option backward.match.sparseCases false
open Array renaming replicate->H_,size_push->Q0,toList->Q1,getElem?_toList->afj,mem_of_getElem?->afk
open Bool renaming true->Y,false->ay,and_eq_true_iff->cR,and_eq_true->oq,and_self->ou,eq_false_iff->ow,eq_iff_iff->oz,not_eq_true'->tq,or_eq_true_iff->Dc,or_false->Dd,and_false->Ia,and_true->Ib,true_and->Ic,and_comm->Q3,false_ne_true->Q4,false_or->Q5,or_true->Q6,or_eq_true->afl
open Classical renaming byContradiction->oA,not_not->Q9,propDecidable->Q_,em->afr
open Decidable renaming decide->aO,em->vh
open Eq renaming trans->ae,symm->Df
open Exists renaming imp->Ie
open ForInStep renaming yield->vj
open Function renaming comp->zO
open Iff renaming trans->xC,rfl->Ii
open Int renaming ofNat_lt->jV,ofNat_le->my,natCast_nonneg->qA,lt_trans->rJ,le_trans->xD,not_lt->xE,add_comm->Dg,le_of_lt->Ij,lt_irrefl->Ik,lt_of_le_of_lt->Il,ofNat_inj->Im,toNat->Io,toNat_natCast->Ip,add_lt_add->Rj,max_eq_right->Rk,negSucc->Rl,not_le->Rm,add_lt_add_of_lt_of_le->afw,add_sub_cancel->afx,fmod_nonneg_of_pos->afy,lt_of_lt_of_le->afz,neg_lt_of_neg_lt->afA,toNat_of_nonneg->afB
open Int.ofNat renaming inj->Dh
open List renaming length->U,length_append->cC,mem_cons->cD,getElem?_eq_some_iff->cG,mem_of_getElem?->cN,mem_singleton->cO,length_map->dg,range->dm,getElem?_eq_getElem->dD,map_map->dH,not_mem_nil->dR,mem_map->dZ,map_append->eW,mem_range->fm,mem_append->fE,mem_cons_of_mem->fF,mem_map_of_mem->fM,mem_filter->f9,mem_append_left->gj,nodup_append->gk,length_cons->gB,mem_cons_self->gC,all_eq_true->gK,nodup_cons->gM,append_assoc->gX,map_cons->iK,mem_append_right->i0,append_nil->jq,getElem?_map->jr,getElem?_set_self->jt,length_filter_le->ki,map_congr_left->kj,getElem?_append_right->kR,getElem?_set_ne->lJ,any_eq_true->mz,getElem?_append_left->nC,replicate->nE,getElem?_of_mem->pO,length_set->pP,size_toArray->qB,getD_eq_getElem?_getD->tB,lookup_cons->tD,drop_of_length_le->vm,filter_congr->vn,mem_flatMap->vo,drop_eq_getElem_cons->xF,eq_nil_of_length_eq_zero->xG,length_drop->xH,length_range->xJ,nodup_nil->xK,sum->xM,toArray->xN,filter_cons_of_neg->zQ,filter_cons_of_pos->zR,isEmpty_iff->zS,length_take->zT,map_id->zU,range'->zV,take_left->zW,countP_cons->Di,find?_eq_none->Dj,mem_of_mem_take->Dk,any_cons->Iq,filterMap_cons_some->Ir,filter_map->Iu,find?_append->Iv,find?_cons_of_neg->Iw,find?_cons_of_pos->Iz,flatten_cons->IA,getElem?_zip_eq_some->IB,lookup_append->IC,mem_range'_1->ID,reverse_cons->IE,set_set->IF,sum_cons->IG,drop_left->Ro,drop_take->Rp,eq_nil_iff_forall_not_mem->Rq,ext_getElem?->Rr,filter_filter->Rt,find?_cons->Ru,flatten_append->Rv,foldl_cons->Rw,forIn_cons->Rx,getElem?_mapIdx->Ry,getElem?_replicate->Rz,getElem?_toArray->RA,length_replicate->RB,length_take_le'->RC,map_eq_nil_iff->RD,map_nil->RE,mem_singleton_self->RG,nil_append->RH,not_lt->RI,any_toArray->afC,countP_congr->afD,count_cons_of_ne->afE,count_cons_self->afF,drop_length->afG,extract_toArray->afH,filterMap_cons_none->afI,filter_eq_nil_iff->afJ,find?_isSome->afK,find?_some->afL,getElem?_concat_length->afM,getElem?_eq_none_iff->afN,getElem_mem->afO,getElem_of_mem->afP,length_nil->afQ,length_pos_iff->afR,length_zip->afS,map_flatMap->afT,map_toArray->afU,mem_of_find?_eq_some->afV,mem_of_mem_drop->afW,mem_toArray->afX,ne_nil_of_mem->afY,pairwise_cons->afZ,range'_succ->af0,reverse_reverse->af1,sum_append->af2,take_append_drop->af3,take_eq_take_min->af4,take_length->af5,take_sublist->af6
open List.cons renaming inj->zP
open Nat renaming le_trans->aD,le_refl->dz,le_add_left->dN,le_of_ble_eq_true->eA,lt_of_lt_of_le->eI,le_of_lt->e7,le_of_eq->fq,lt_succ_self->fG,ne_of_lt->fH,le_add_right->fO,le_antisymm->fS,succ_pos->gE,zero_le->gF,not_lt->h9,add_le_add->iB,add_le_add_left->iL,le_of_not_lt->iM,lt_irrefl->i3,succ_le_succ->ju,zero_add->jv,lt_succ_of_lt->jW,lt_of_le_of_lt->kS,add_sub_cancel'->pQ,add_comm->qD,lt_trans->qE,add_le_add_right->rK,le_of_lt_succ->rL,le_succ->rM,beq->tE,sub_add_cancel->tF,add_assoc->vp,add_zero->vq,min_eq_left->vt,mod_lt->vv,ne_of_gt->vy,add_sub_cancel_left->xO,mul_le_mul_left->xP,mul_zero->xQ,add_lt_add_left->zX,eq_zero_of_not_pos->zY,exists_eq_add_of_le->zZ,le_succ_of_le->z0,min_le_left->z4,one_pos->z5,add_add_add_comm->Dm,le_total->Dp,mul_add->Dq,sub_le->Dr,sub_pos_of_lt->Ds,succ_ne_zero->Du,zero_mul->Dv,mul_assoc->IH,mul_comm->II,mul_le_mul_right->IJ,ctorIdx->RJ,le_mul_of_pos_left->RK,lt_add_of_pos_right->RL,lt_or_eq_of_le->RN,lt_succ_of_le->RP,min_eq_right->RQ,mul_one->RS,not_lt_of_le->RT,one_mul->RU,sub_lt->RV,succ_lt_succ->RW,add_left_cancel->af8,add_right_comm->af9,add_sub_cancel->af_,le_mul_of_pos_right->af',le_of_succ_le->aga,le_of_succ_le_succ->agb,lt_of_not_le->agc,lt_of_succ_le->agd,ne_of_beq_eq_false->age,not_le_of_lt->agf,not_succ_le_self->agg,pos_of_mul_pos_left->agh,pos_of_mul_pos_right->agi,pow_lt_pow_right->agj,sub_eq_zero_of_le->agk,succ_add_eq_add_succ->agl,succ_ne_self->agm
open Nat.succ renaming inj->Dt
open Ne renaming symm->iC
open Option renaming some->D,none->aa,isSome_iff_exists->gG,isSome->mC,map_eq_some_iff->pR,map->qF,bind_some->z6,map_some->Dw,any_eq_true->IK,eq_some_of_isSome->ago,getD_some->agp,none_or->agq,or_none->agr
open Option.some renaming inj->bj
open PUnit renaming unit->R0
open Prod renaming snd->IL,ext->R1
open Prod.mk renaming inj->mE
open PyProof.Rows renaming tail_any->vz,Subscript_->xS,evalArgs_nil3->Ab,Attribute_any_->Q2,BoolOp_or->R2,join_list->R3,Assign_Tuple_swapped->ags,add_str->agt,callWith_type->agu,isTrue_plain->agv,mod_int'->agw
open PySem renaming Str->af,Addr->au,Value->aB,wpAny_bind->aG,model->aI,wpAny->aQ,Shared->aU,Obj->bM,wpAny_pure->bN,World->bZ,Heap->cf,Program->cy,Stmt->cz,Expr->cE,Around->c3,Env->c4,rawInt->c9,callEnvC->di,wpAny_Name->eO,NameKind->fc,Tok->fT,wpAny_holding->gH,wpAny_execs_cons->gN,swapsWith->gY,Pos->h_,wpAny_of_eq->iN,wpAny_call->i4,Scope->je,mainGlobals->jX,wpAny_Assign_Name->kr,wpAny_Call_Name_kw->ku,wpAny_mono->kT,wpAny_Call_method->lM,wpAny_standAt->oE,Params->oF,Result->pT,codeAny_call_builtin->qG,sizeLine_eq->rO,wpAny_execs_nil->rP,wpAny_newObj_type->rQ,FuncData->rR,strKind_is->tJ,typeIs_str->tK,wpAny_Expr_any->tL,wpAny_mkStr->tM,strKind->vA,wpAny_assign_Name->vE,wpAny_ite_false->vF,plainObj_wpAny_Assign_Attribute->xW,pushCells_keeps->xX,wpAny_rule->xY,wpAny_seqItems->xZ,wpAny_truthy_bool->x6,codeAny_builtin->z_,entryFor_of_tree->Aa,wpAny_If->Ac,wpAny_isTrue_Compare1->Ad,wpAny_mkText->Ae,wpAny_specialOf->Af,Arguments->Ag,call_meets->DA,wpAny_BinOp->DB,wpAny_field->DD,wpAny_newList->DE,storeName->DG,callWith_type->IP,codeAny_call_cells->IQ,wpAny_Return_some->IU,wpAny_bindName->IV,wpAny_list_append_plain->IW,wpAny_load->IX,wpAny_loadName_local->IY,wpAny_loadPart->IZ,wpAny_pyIter_list->I0,call_gives->Sm,name_of_addr->Sn,wpAny_Constant_int->So,wpAny_Try_except->Sp,wpAny_builtinsFor->Sq,wpAny_getItem_of->Ss,wpAny_isInstance->Su,wpAny_newTuple->Sv,wpAny_nsGet->Sw,wpAny_typeOf->Sx,wpAny_updatePart->Sz,codeAny_call_function->agK,codeAny_compStart_list->agL,wpAny_AugAssign_AttributeAny->agM,wpAny_AugAssign_Name->agN,wpAny_callSpecial?_slot->agO,wpAny_comprehension_free->agP,wpAny_letOwnedTupleGo_listiter->agQ,wpAny_listSubscript_int->agR,wpAny_newFunctionEnv->agS,wpAny_storeName_local->agT,wpAny_unpackItems_tuple->agU
open PySem.Around renaming frames_deeper->QZ,under_plainId->afi
open PySem.Builtin renaming divisionGoesByPylong->afq
open PySem.Builtin.Int renaming intBits->afm
open PySem.Builtin.List renaming listTooLong->Q7
open PySem.Builtin.Range renaming rangeSize->tu,rangeFitsLong->Q8,small->afn
open PySem.Builtin.Str renaming occurrences->afo,tableLookup->afp
open PySem.Calls renaming callWith_builtin->kq,spliced_nil->lK,spliced_cons->pS,Constant_str->rI,evalArgs_plain->tH,callWith_function->xU,Name_function_global->af7
open PySem.Code renaming quiet_builtin->zM
open PySem.Const renaming int->agx
open PySem.Data renaming ctorIdx->agy
open PySem.Data.cell renaming inj->afs
open PySem.DictEntry renaming val->aft
open PySem.Env renaming blockKind->De
open PySem.Expr renaming Name->zN,Attribute->Ra
open PySem.F renaming plainAttrs_str->Dx,slot_list_getattribute->Ig,type_list_append->Ih,plainAttrs_list->Rb,slot_list_append->Rc,slot_list_getitem->Rf,plainAttrs_list->R4,slot_list_pop->R5,slot_str_join->R6,slot_str_replace->R7,slot_str_translate->R8,type_str_join->R_,type_str_replace->Sa,slot_str_getitem->afu,args_object_getattribute_2->agz,entry_object_getattribute->agA,slot_dict_delitem->agB,slot_str_count->agC,slot_str_split->agD,store_object->agE,type_list_pop->agF
open PySem.Heap renaming get?_push_of_some->eH,get?_push_size->eS,lt_size->fk,SameBut->gW,ExtBut->jU,size_push->lI,get?_update_self->pN
open PySem.Heap.SameBut renaming update->oB
open PySem.NameKind renaming ctorIdx->nG,free->Dl
open PySem.Obj renaming mapSeq->nF,data->RX,data_mapFields->RY,putName->RZ,isFreed_of_fields->agn
open PySem.PyData renaming keyHash->rN
open PySem.ScopeKind renaming isAnnotationScope->agI
open PySem.SeqAt.RcAt renaming lists_lengths->agH
open PySem.Sre renaming forSearch->z8,M->Dy,Outcome->Sg
open PySem.Str renaming ofString->agG
open PySem.StrLaws renaming occ_eq->IM,At->Sd,occBody->Se,found_one->agJ
open PySem.Txt renaming replace->xT,join->z9
open PySem.Value renaming type->nH,type->tG,ref->vB,ctorIdx->z7,str->Dz,ref->Sf,int->Sh,isInt->Si
open PySem.Value.ref renaming inj->ko,inj->Sj
open PySem.W renaming hideAll_none->tI,plainGet_of->vD,looks_field->IS,typeIs_bytes->IT
open PySem.W.FB renaming slot_bytes_decode->Rg,entry_bytes_decode->afv
open PySem.W.Hook renaming obs->Rh,val->Ri
open PySem.W.KF renaming slot_mset->Rn
open PySem.Walks renaming list->Sl
open _root_ renaming rfl->C,List->I,Nat->J,congrArg->aA,if_neg->aJ,if_pos->aM,Int->aS,Option->bg,Bool->bw,absurd->bA,decide_eq_true->cM,of_decide_eq_true->dh,trivial->dj,decide_eq_false->ee,Array->iO,eq_of_beq->iP,decide_eq_true_eq->oG,decide_eq_true_iff->rS,beq_iff_eq->DF
set_option maxRecDepth 100000
set_option maxHeartbeats 0
noncomputable section
section
open PySem PySem.Calls PySem.SeqAt PyProof.Rows PySem.W
namespace Mine.Internal
noncomputable abbrev pw:cy:=PySem.Challenge.pw_rx0064_02
noncomputable def fV{R:Type}:J->I R->bg R
 |_,[]=>aa
 |0,x::_=>D x
 |u+1,_::r=>fV u r
noncomputable abbrev eD:cE:=.Constant .none 0 default
def nh:bg cz->cE×cE×I cz×I cz×je×Ag
 |D (.FunctionDef _ a b _ _ _ r _ _ _)=>(eD,eD,b,[],r,a)
 |D (.While A b o _)=>(A,A,b,o,default,default)
 |D (.For A i b o _)=>(A,i,b,o,default,default)
 |D (.If A b o _)=>(A,A,b,o,default,default)
 |D (.AugAssign _ _ e _)=>(e,e,[],[],default,default)
 |D (.Assign _ e _)=>(e,e,[],[],default,default)
 |D (.Expr e _)=>(e,e,[],[],default,default)
 |D (.Return e _)=>(e.getD eD,eD,[],[],default,default)
 |D (.ClassDef _ _ _ b _ _ _ _ _ _ _)=>(eD,eD,b,[],default,default)
 |_=>(eD,eD,[],[],default,default)
def dF(s:bg cz):I cz:=(nh s).2.2.1
def ef(s:bg cz):je:=(nh s).2.2.2.2.1
def gw(s:bg cz):Ag:=(nh s).2.2.2.2.2
def xV:cE->cE×cE×J
 |.Starred _ _=>(eD,eD,1)
 |.Slice ..=>(eD,eD,2)
 |.Set ..=>(eD,eD,3)
 |.Name ..=>(eD,eD,4)
 |.Tuple ..=>(eD,eD,5)
 |.ListComp e _ _ _=>(e,eD,0)
 |.BinOp a _ b _=>(a,b,0)
 |.Call _ Q _ _=>(Q.head?.getD eD,eD,0)
 |_=>(eD,eD,0)
def bB(u:J):bg cz:=fV u pw.main.body
def Ur(s:bg cz):I cz:=(nh s).2.2.1
def fL(i t:J):bg cz:=fV t (Ur (bB i))
end Mine.Internal
end
namespace Mine.Internal
section
variable{p q r s t u v w x y:Prop}{G:Prop}
theorem bT(h:p/\q)(f:p->q->G):G:=f h.1 h.2
theorem gv(h:p/\q/\r)(f:p->q->r->G):G:=f h.1 h.2.1 h.2.2
theorem sx(h:p/\q/\r/\s)(f:p->q->r->s->G):G:=f h.1 h.2.1 h.2.2.1 h.2.2.2
theorem t_(h:p/\q/\r/\s/\t)(f:p->q->r->s->t->G):G:=f h.1 h.2.1 h.2.2.1 h.2.2.2.1 h.2.2.2.2
theorem ua(h:p/\q/\r/\s/\t/\u)(f:p->q->r->s->t->u->G):G:=f h.1 h.2.1 h.2.2.1 h.2.2.2.1 h.2.2.2.2.1 h.2.2.2.2.2
end
section
variable{A:Sort _}{p q r s t u v w x y:A->Prop}{G:Prop}
theorem bG(h:∃a,p a)(f:∀a,p a->G):G:=h.elim λa h=>f a h
theorem ai(h:∃a,p a/\q a)(f:∀a,p a->q a->G):G:=h.elim λa h=>f a h.1 h.2
theorem dG(h:∃a,p a/\q a/\r a)(f:∀a,p a->q a->r a->G):G:=h.elim λa h=>f a h.1 h.2.1 h.2.2
theorem v3(h:∃a,p a/\q a/\r a/\s a)(f:∀a,p a->q a->r a->s a->G):G:=h.elim λa h=>f a h.1 h.2.1 h.2.2.1 h.2.2.2
end
section
variable{A B:Sort _}{p q r s t u v w x y:A->B->Prop}{G:Prop}
theorem jL(h:∃a b,p a b)(f:∀a b,p a b->G):G:=h.elim λa h=>h.elim λb h=>f a b h
theorem d5(h:∃a b,p a b/\q a b)(f:∀a b,p a b->q a b->G):G:=h.elim λa h=>h.elim λb h=>f a b h.1 h.2
theorem e5(h:∃a b,p a b/\q a b/\r a b)(f:∀a b,p a b->q a b->r a b->G):G:=h.elim λa h=>h.elim λb h=>f a b h.1 h.2.1 h.2.2
theorem A8(h:∃a b,p a b/\q a b/\r a b/\s a b)(f:∀a b,p a b->q a b->r a b->s a b->G):G:=h.elim λa h=>h.elim λb h=>f a b h.1 h.2.1 h.2.2.1 h.2.2.2
theorem uc(h:∃a b,p a b/\q a b/\r a b/\s a b/\t a b)(f:∀a b,p a b->q a b->r a b->s a b->t a b->G):G:=h.elim λa h=>h.elim λb h=>f a b h.1 h.2.1 h.2.2.1 h.2.2.2.1 h.2.2.2.2
theorem Kr(h:∃a b,p a b/\q a b/\r a b/\s a b/\t a b/\u a b)(f:∀a b,p a b->q a b->r a b->s a b->t a b->u a b->G):G:=h.elim λa h=>h.elim λb h=>f a b h.1 h.2.1 h.2.2.1 h.2.2.2.1 h.2.2.2.2.1 h.2.2.2.2.2
theorem Ks(h:∃a b,p a b/\q a b/\r a b/\s a b/\t a b/\u a b/\v a b/\w a b)(f:∀a b,p a b->q a b->r a b->s a b->t a b->u a b->v a b->w a b->G):G:=h.elim λa h=>h.elim λb h=>f a b h.1 h.2.1 h.2.2.1 h.2.2.2.1 h.2.2.2.2.1 h.2.2.2.2.2.1 h.2.2.2.2.2.2.1 h.2.2.2.2.2.2.2
end
section
variable{A B bq:Sort _}{p q r s t u v w x y:A->B->bq->Prop}{G:Prop}
theorem Ey(h:∃a b c,p a b c)(f:∀a b c,p a b c->G):G:=h.elim λa h=>h.elim λb h=>h.elim λc h=>f a b c h
theorem jz(h:∃a b c,p a b c/\q a b c)(f:∀a b c,p a b c->q a b c->G):G:=h.elim λa h=>h.elim λb h=>h.elim λc h=>f a b c h.1 h.2
theorem ji(h:∃a b c,p a b c/\q a b c/\r a b c)(f:∀a b c,p a b c->q a b c->r a b c->G):G:=h.elim λa h=>h.elim λb h=>h.elim λc h=>f a b c h.1 h.2.1 h.2.2
theorem mU(h:∃a b c,p a b c/\q a b c/\r a b c/\s a b c)(f:∀a b c,p a b c->q a b c->r a b c->s a b c->G):G:=h.elim λa h=>h.elim λb h=>h.elim λc h=>f a b c h.1 h.2.1 h.2.2.1 h.2.2.2
theorem v5(h:∃a b c,p a b c/\q a b c/\r a b c/\s a b c/\t a b c)(f:∀a b c,p a b c->q a b c->r a b c->s a b c->t a b c->G):G:=h.elim λa h=>h.elim λb h=>h.elim λc h=>f a b c h.1 h.2.1 h.2.2.1 h.2.2.2.1 h.2.2.2.2
theorem Ku(h:∃a b c,p a b c/\q a b c/\r a b c/\s a b c/\t a b c/\u a b c)(f:∀a b c,p a b c->q a b c->r a b c->s a b c->t a b c->u a b c->G):G:=h.elim λa h=>h.elim λb h=>h.elim λc h=>f a b c h.1 h.2.1 h.2.2.1 h.2.2.2.1 h.2.2.2.2.1 h.2.2.2.2.2
end
section
variable{A B bq aZ:Sort _}{p q r s t u v w x y:A->B->bq->aZ->Prop}{G:Prop}
theorem Kw(h:∃a b c d,p a b c d)(f:∀a b c d,p a b c d->G):G:=h.elim λa h=>h.elim λb h=>h.elim λc h=>h.elim λd h=>f a b c d h
theorem Kx(h:∃a b c d,p a b c d/\q a b c d)(f:∀a b c d,p a b c d->q a b c d->G):G:=h.elim λa h=>h.elim λb h=>h.elim λc h=>h.elim λd h=>f a b c d h.1 h.2
theorem ym(h:∃a b c d,p a b c d/\q a b c d/\r a b c d)(f:∀a b c d,p a b c d->q a b c d->r a b c d->G):G:=h.elim λa h=>h.elim λb h=>h.elim λc h=>h.elim λd h=>f a b c d h.1 h.2.1 h.2.2
theorem A9(h:∃a b c d,p a b c d/\q a b c d/\r a b c d/\s a b c d)(f:∀a b c d,p a b c d->q a b c d->r a b c d->s a b c d->G):G:=h.elim λa h=>h.elim λb h=>h.elim λc h=>h.elim λd h=>f a b c d h.1 h.2.1 h.2.2.1 h.2.2.2
theorem U8(h:∃a b c d,p a b c d/\q a b c d/\r a b c d/\s a b c d/\t a b c d/\u a b c d)(f:∀a b c d,p a b c d->q a b c d->r a b c d->s a b c d->t a b c d->u a b c d->G):G:=h.elim λa h=>h.elim λb h=>h.elim λc h=>h.elim λd h=>f a b c d h.1 h.2.1 h.2.2.1 h.2.2.2.1 h.2.2.2.2.1 h.2.2.2.2.2
theorem Ky(h:∃a b c d,p a b c d/\q a b c d/\r a b c d/\s a b c d/\t a b c d/\u a b c d/\v a b c d)(f:∀a b c d,p a b c d->q a b c d->r a b c d->s a b c d->t a b c d->u a b c d->v a b c d->G):G:=h.elim λa h=>h.elim λb h=>h.elim λc h=>h.elim λd h=>f a b c d h.1 h.2.1 h.2.2.1 h.2.2.2.1 h.2.2.2.2.1 h.2.2.2.2.2.1 h.2.2.2.2.2.2
end
section
variable{A B bq aZ E:Sort _}{p q r s t u v w x y:A->B->bq->aZ->E->Prop}{G:Prop}
theorem A_(h:∃a b c d e,p a b c d e/\q a b c d e)(f:∀a b c d e,p a b c d e->q a b c d e->G):G:=h.elim λa h=>h.elim λb h=>h.elim λc h=>h.elim λd h=>h.elim λe h=>f a b c d e h.1 h.2
theorem U9(h:∃a b c d e,p a b c d e/\q a b c d e/\r a b c d e)(f:∀a b c d e,p a b c d e->q a b c d e->r a b c d e->G):G:=h.elim λa h=>h.elim λb h=>h.elim λc h=>h.elim λd h=>h.elim λe h=>f a b c d e h.1 h.2.1 h.2.2
theorem Kz(h:∃a b c d e,p a b c d e/\q a b c d e/\r a b c d e/\s a b c d e)(f:∀a b c d e,p a b c d e->q a b c d e->r a b c d e->s a b c d e->G):G:=h.elim λa h=>h.elim λb h=>h.elim λc h=>h.elim λd h=>h.elim λe h=>f a b c d e h.1 h.2.1 h.2.2.1 h.2.2.2
theorem U_(h:∃a b c d e,p a b c d e/\q a b c d e/\r a b c d e/\s a b c d e/\t a b c d e/\u a b c d e/\v a b c d e/\w a b c d e/\x a b c d e)(f:∀a b c d e,p a b c d e->q a b c d e->r a b c d e->s a b c d e->t a b c d e->u a b c d e->v a b c d e->w a b c d e->x a b c d e->G):G:=h.elim λa h=>h.elim λb h=>h.elim λc h=>h.elim λd h=>h.elim λe h=>f a b c d e h.1 h.2.1 h.2.2.1 h.2.2.2.1 h.2.2.2.2.1 h.2.2.2.2.2.1 h.2.2.2.2.2.2.1 h.2.2.2.2.2.2.2.1 h.2.2.2.2.2.2.2.2
end
section
variable{p q r s t u v w x y:Prop}{G:Prop}
theorem dI(h0:p)(h1:q)(h2:r):p/\q/\r:=⟨h0,h1,h2⟩
theorem k8(h0:p)(h1:q)(h2:r)(h3:s):p/\q/\r/\s:=⟨h0,h1,h2,h3⟩
theorem k9(h0:p)(h1:q)(h2:r)(h3:s)(h4:t):p/\q/\r/\s/\t:=⟨h0,h1,h2,h3,h4⟩
theorem yz(h0:p)(h1:q)(h2:r)(h3:s)(h4:t)(h5:u):p/\q/\r/\s/\t/\u:=⟨h0,h1,h2,h3,h4,h5⟩
theorem XV(h0:p)(h1:q)(h2:r)(h3:s)(h4:t)(h5:u)(h6:v):p/\q/\r/\s/\t/\u/\v:=⟨h0,h1,h2,h3,h4,h5,h6⟩
theorem LJ(h0:p)(h1:q)(h2:r)(h3:s)(h4:t)(h5:u)(h6:v)(h7:w):p/\q/\r/\s/\t/\u/\v/\w:=⟨h0,h1,h2,h3,h4,h5,h6,h7⟩
end
section
variable{A:Sort _}{p q r s t u v w x y:A->Prop}{G:Prop}
theorem aR(a:A)(h0:p a)(h1:q a):∃a,p a/\q a:=⟨a,h0,h1⟩
theorem i12(a:A)(h0:p a)(h1:q a)(h2:r a):∃a,p a/\q a/\r a:=⟨a,h0,h1,h2⟩
theorem Fc(a:A)(h0:p a)(h1:q a)(h2:r a)(h3:s a):∃a,p a/\q a/\r a/\s a:=⟨a,h0,h1,h2,h3⟩
theorem Fd(a:A)(h0:p a)(h1:q a)(h2:r a)(h3:s a)(h4:t a)(h5:u a):∃a,p a/\q a/\r a/\s a/\t a/\u a:=⟨a,h0,h1,h2,h3,h4,h5⟩
end
section
variable{A B:Sort _}{p q r s t u v w x y:A->B->Prop}{G:Prop}
theorem cI(a:A)(b:B)(h0:p a b):∃a b,p a b:=⟨a,b,h0⟩
theorem gg(a:A)(b:B)(h0:p a b)(h1:q a b):∃a b,p a b/\q a b:=⟨a,b,h0,h1⟩
theorem gx(a:A)(b:B)(h0:p a b)(h1:q a b)(h2:r a b):∃a b,p a b/\q a b/\r a b:=⟨a,b,h0,h1,h2⟩
theorem lZ(a:A)(b:B)(h0:p a b)(h1:q a b)(h2:r a b)(h3:s a b):∃a b,p a b/\q a b/\r a b/\s a b:=⟨a,b,h0,h1,h2,h3⟩
theorem LK(a:A)(b:B)(h0:p a b)(h1:q a b)(h2:r a b)(h3:s a b)(h4:t a b):∃a b,p a b/\q a b/\r a b/\s a b/\t a b:=⟨a,b,h0,h1,h2,h3,h4⟩
theorem LL(a:A)(b:B)(h0:p a b)(h1:q a b)(h2:r a b)(h3:s a b)(h4:t a b)(h5:u a b):∃a b,p a b/\q a b/\r a b/\s a b/\t a b/\u a b:=⟨a,b,h0,h1,h2,h3,h4,h5⟩
end
section
variable{A B bq:Sort _}{p q r s t u v w x y:A->B->bq->Prop}{G:Prop}
theorem l0(a:A)(b:B)(c:bq)(h0:p a b c)(h1:q a b c):∃a b c,p a b c/\q a b c:=⟨a,b,c,h0,h1⟩
theorem Bs(a:A)(b:B)(c:bq)(h0:p a b c)(h1:q a b c)(h2:r a b c):∃a b c,p a b c/\q a b c/\r a b c:=⟨a,b,c,h0,h1,h2⟩
theorem oX(a:A)(b:B)(c:bq)(h0:p a b c)(h1:q a b c)(h2:r a b c)(h3:s a b c):∃a b c,p a b c/\q a b c/\r a b c/\s a b c:=⟨a,b,c,h0,h1,h2,h3⟩
theorem Fe(a:A)(b:B)(c:bq)(h0:p a b c)(h1:q a b c)(h2:r a b c)(h3:s a b c)(h4:t a b c):∃a b c,p a b c/\q a b c/\r a b c/\s a b c/\t a b c:=⟨a,b,c,h0,h1,h2,h3,h4⟩
theorem Bt(a:A)(b:B)(c:bq)(h0:p a b c)(h1:q a b c)(h2:r a b c)(h3:s a b c)(h4:t a b c)(h5:u a b c):∃a b c,p a b c/\q a b c/\r a b c/\s a b c/\t a b c/\u a b c:=⟨a,b,c,h0,h1,h2,h3,h4,h5⟩
end
section
variable{A B bq aZ:Sort _}{p q r s t u v w x y:A->B->bq->aZ->Prop}{G:Prop}
theorem XW(a:A)(b:B)(c:bq)(d:aZ)(h0:p a b c d)(h1:q a b c d):∃a b c d,p a b c d/\q a b c d:=⟨a,b,c,d,h0,h1⟩
theorem Ff(a:A)(b:B)(c:bq)(d:aZ)(h0:p a b c d)(h1:q a b c d)(h2:r a b c d):∃a b c d,p a b c d/\q a b c d/\r a b c d:=⟨a,b,c,d,h0,h1,h2⟩
theorem qX(a:A)(b:B)(c:bq)(d:aZ)(h0:p a b c d)(h1:q a b c d)(h2:r a b c d)(h3:s a b c d):∃a b c d,p a b c d/\q a b c d/\r a b c d/\s a b c d:=⟨a,b,c,d,h0,h1,h2,h3⟩
theorem XX(a:A)(b:B)(c:bq)(d:aZ)(h0:p a b c d)(h1:q a b c d)(h2:r a b c d)(h3:s a b c d)(h4:t a b c d)(h5:u a b c d):∃a b c d,p a b c d/\q a b c d/\r a b c d/\s a b c d/\t a b c d/\u a b c d:=⟨a,b,c,d,h0,h1,h2,h3,h4,h5⟩
theorem XY(a:A)(b:B)(c:bq)(d:aZ)(h0:p a b c d)(h1:q a b c d)(h2:r a b c d)(h3:s a b c d)(h4:t a b c d)(h5:u a b c d)(h6:v a b c d):∃a b c d,p a b c d/\q a b c d/\r a b c d/\s a b c d/\t a b c d/\u a b c d/\v a b c d:=⟨a,b,c,d,h0,h1,h2,h3,h4,h5,h6⟩
theorem XZ(a:A)(b:B)(c:bq)(d:aZ)(h0:p a b c d)(h1:q a b c d)(h2:r a b c d)(h3:s a b c d)(h4:t a b c d)(h5:u a b c d)(h6:v a b c d)(h7:w a b c d):∃a b c d,p a b c d/\q a b c d/\r a b c d/\s a b c d/\t a b c d/\u a b c d/\v a b c d/\w a b c d:=⟨a,b,c,d,h0,h1,h2,h3,h4,h5,h6,h7⟩
end
section
variable{A B bq aZ E:Sort _}{p q r s t u v w x y:A->B->bq->aZ->E->Prop}{G:Prop}
theorem X0(a:A)(b:B)(c:bq)(d:aZ)(e:E)(h0:p a b c d e)(h1:q a b c d e):∃a b c d e,p a b c d e/\q a b c d e:=⟨a,b,c,d,e,h0,h1⟩
theorem X3(a:A)(b:B)(c:bq)(d:aZ)(e:E)(h0:p a b c d e)(h1:q a b c d e)(h2:r a b c d e)(h3:s a b c d e):∃a b c d e,p a b c d e/\q a b c d e/\r a b c d e/\s a b c d e:=⟨a,b,c,d,e,h0,h1,h2,h3⟩
end
theorem nc{α:Type _}(f:α->J){a b:α}{P:Prop}(h:a=b)(e:tE (f a) (f b)=ay):P:=nomatch e.symm.trans (h▸Nat.beq_refl (f a):tE (f a) (f b)=Y)
end Mine.Internal
section
open PySem PySem.Calls PySem.SeqAt PyProof.Rows PySem.W
namespace Mine.Internal
noncomputable def de(P:oF)(k:af)(t:J)(v:aB):DictEntry:=⟨rN P k,.str k t,v⟩
noncomputable def co(n q:af)(t:J)(l a b c d:aS)(r r':au)(x y z u:aB)(m:aS)(t':J):bM:={cls:=.type "code",dict:=aa,data:=.fields #[.str n t,.str q (t+1),.str "/claim/cut.py" (t+2),.int l 0,.int a 0,.int b 0,.int c 0,.int d 0,.ref r,.bool Y,.int 276 0,.ref r',x,y,z,u,.int m 0,.int l 0,.str "/claim/cut.py" t'],slots:=#[]}
def fo(n q:af)(s:bg cz)(m:aB)(c:au)(d:aB):bM:={cls:=.type "function",dict:=aa,data:=.func {docDef n (gw s) (dF s) (ef s) m (.ref c) .none with qualname:=q,defaults:=d},slots:=#[]}
def o3(P:oF):bM:={cls:=.type "dict",dict:=aa,data:=.dict (xN (de P "__name__" 165 (.str "law_rx0064_02" 728)::de P "__doc__" 166 .none::de P "__package__" 167 .none::de P "__loader__" 168 (.builtin "__main__.__loader__#opaque")::de P "__spec__" 169 .none::de P "__annotations__" 170 (.ref 6)::de P "__builtins__" 171 (.ref 4)::de P "__file__" 173 (.str "/claim/cut.py" 172)::de P "__cached__" 174 .none::de P "_sre" 275 (.ref 12)::de P "_wall" 288 (.ref 38)::de P "read_uint1" 298 (.ref 45)::de P "read_string1" 307 (.ref 52)::de P "_twin_re_1" 347 (.ref 57)::de P "translate" 356 (.ref 64)::de P "_special_chars_map" 504 (.ref 66)::de P "escape" 511 (.ref 76)::de P "_translate" 532 (.ref 83)::de P "_join_translated_parts" 545 (.ref 90)::de P "_NODE_OUT" 550 (.int (-1) 549)::de P "_NODE_DONE" 553 (.int (-2) 552)::de P "_NodeInfo" 590 (.ref 109)::de P "CycleError" 608 (.ref 124)::de P "TopologicalSorter" 727 (.ref 206)::de P "_law_stream" 740 (.ref 217)::de P "_law_counted" 746 (.ref 222)::de P "_law_plain" 753 (.ref 229)::de P "_law_bracket" 759 (.ref 234)::de P "_law_takes" 774 (.ref 241)::de P "_law_rounds" 783 (.ref 248)::de P "_law_times" 789 (.ref 253)::de P "law" 795 (.ref 258)::[])) 32,slots:=#[]}
def NS:bM:=co "read_uint1" "read_uint1" 291 6 1 0 0 3 39 40 (.none) (.ref 41) (.ref 42) (.ref 43) 296 297
def NU:bM:=fo "read_uint1" "read_uint1" (bB 3) (.str "cpy313.pickletools" 289) 44 (.none)
def NV:bM:=co "read_string1" "read_string1" 299 11 1 0 0 3 46 47 (.none) (.ref 48) (.ref 49) (.ref 50) 305 306
def NW:bM:=fo "read_string1" "read_string1" (bB 4) (.str "cpy313.pickletools" 289) 51 (.none)
noncomputable def NX:bM:={cls:=.type "tuple",dict:=aa,data:=.seq (xN ((.int 14 0)::(.int 14 0)::(.int 4 0)::(.int 1 0)::(.int 1 0)::(.int 9 0)::(.int 0 0)::(.int 64 0)::(.int 0 0)::(.int 1342177280 0)::(.int 0 0)::(.int 0 0)::(.int 0 0)::(.int 0 0)::(.int 0 0)::(.int 17 0)::(.int 0 0)::(.int 13 0)::(.int 11 0)::(.int 9 0)::(.int 0 0)::(.int 64 0)::(.int 0 0)::(.int 1342177280 0)::(.int 0 0)::(.int 0 0)::(.int 0 0)::(.int 0 0)::(.int 0 0)::(.int 17 0)::(.int 1 0)::(.int 1 0)::[])) 0,slots:=#[]}
noncomputable def NY:bM:={cls:=.type "re.Pattern",dict:=aa,data:=.fields #[.str "([&~|])" 311,.int 32 346,.int 1 0,.none,.none,.ref 56,.int 0 0],slots:=#[]}
def NZ:bM:=co "translate" "translate" 348 20 1 0 0 3 58 59 (.none) (.ref 60) (.ref 61) (.ref 62) 354 355
def N1:bM:=fo "translate" "translate" (bB 7) (.str "cpy313.fnmatch" 308) 63 (.none)
noncomputable def N2:bM:={cls:=.type "dict",dict:=aa,data:=.dict (xN (⟨40,.int 40 360,.str "\\(" 364⟩::⟨41,.int 41 366,.str "\\)" 370⟩::⟨91,.int 91 372,.str "\\[" 376⟩::⟨93,.int 93 378,.str "\\]" 382⟩::⟨123,.int 123 384,.str "\\{" 388⟩::⟨125,.int 125 390,.str "\\}" 394⟩::⟨63,.int 63 396,.str "\\?" 400⟩::⟨42,.int 42 402,.str "\\*" 406⟩::⟨43,.int 43 408,.str "\\+" 412⟩::⟨45,.int 45 414,.str "\\-" 418⟩::⟨124,.int 124 420,.str "\\|" 424⟩::⟨94,.int 94 426,.str "\\^" 430⟩::⟨36,.int 36 432,.str "\\$" 436⟩::⟨92,.int 92 438,.str "\\\\" 442⟩::⟨46,.int 46 444,.str "\\." 448⟩::⟨38,.int 38 450,.str "\\&" 454⟩::⟨126,.int 126 456,.str "\\~" 460⟩::⟨35,.int 35 462,.str "\\#" 466⟩::⟨32,.int 32 468,.str "\\ " 472⟩::⟨9,.int 9 474,.str "\\\t" 478⟩::⟨10,.int 10 480,.str "\\\n" 484⟩::⟨13,.int 13 486,.str "\\\x0d" 490⟩::⟨11,.int 11 492,.str "\\\x0b" 496⟩::⟨12,.int 12 498,.str "\\\x0c" 502⟩::[])) 24,slots:=#[]}
def N3:bM:=co "escape" "escape" 505 26 1 0 0 3 70 71 (.none) (.ref 72) (.ref 73) (.ref 74) 509 510
def N4:bM:=fo "escape" "escape" (bB 10) (.str "re" 357) 75 (.none)
def N5:bM:=co "_translate" "_translate" 514 33 3 0 0 3 77 78 (.none) (.ref 79) (.ref 80) (.ref 81) 530 531
def N6:bM:=fo "_translate" "_translate" (bB 12) (.str "cpy313.fnmatch" 512) 82 (.none)
def N7:bM:=co "_join_translated_parts" "_join_translated_parts" 533 95 2 0 0 3 84 85 (.none) (.ref 86) (.ref 87) (.ref 88) 543 544
def N8:bM:=fo "_join_translated_parts" "_join_translated_parts" (bB 13) (.str "cpy313.fnmatch" 512) 89 (.none)
def Nk:bM:=co "__init__" "_NodeInfo.__init__" 570 128 2 0 0 3 99 100 (.none) (.ref 101) (.ref 102) (.ref 103) 575 576
def Nl:bM:=fo "__init__" "_NodeInfo.__init__" (fL 17 1) (.str "cpy313.graphlib" 546) 104 (.none)
def aam(P:oF):bM:={cls:=.type "dict",dict:=aa,data:=.dict #[de P "__module__" 561 (.str "cpy313.graphlib" 546),de P "__firstlineno__" 565 (.int 125 564),de P "__slots__" 569 (.ref 98),de P "__init__" 577 (.ref 105),de P "__static_attributes__" 581 (.ref 106),de P "node" 583 (.ref 110),de P "npredecessors" 585 (.ref 111),de P "successors" 587 (.ref 112),de P "__doc__" 588 .none] 5,slots:=#[]}
noncomputable def aan:bM:={cls:=.type "type",dict:=aa,data:=.cls {name:={cps:=#[95,78,111,100,101,73,110,102,111]},bases:=[tG "object"],mro:=[Sf 109,tG "object"],ns:=108,qualname:={cps:=#[95,78,111,100,101,73,110,102,111]},hasDict:=ay,slotNames:=[{cps:=#[110,111,100,101]},{cps:=#[110,112,114,101,100,101,99,101,115,115,111,114,115]},{cps:=#[115,117,99,99,101,115,115,111,114,115]}],subclasses:=[],abstract:=ay,collection:=aa,hasDel:=ay},slots:=#[aa,aa,(D (.str "_NodeInfo" 554)),(D (.str "_NodeInfo" 562)),(D (.builtin "object.__new__")),(D (.bool ay))]}
noncomputable def aao:bM:={cls:=.type "member_descriptor",dict:=aa,data:=.fields #[.str "node" 582,.ref 109,.builtin "proto.slot",.builtin "proto.slot#set",.int 2 0],slots:=#[]}
noncomputable def aap:bM:={cls:=.type "member_descriptor",dict:=aa,data:=.fields #[.str "npredecessors" 584,.ref 109,.builtin "proto.slot",.builtin "proto.slot#set",.int 1 0],slots:=#[]}
noncomputable def aaq:bM:={cls:=.type "member_descriptor",dict:=aa,data:=.fields #[.str "successors" 586,.ref 109,.builtin "proto.slot",.builtin "proto.slot#set",.int 0 0],slots:=#[]}
noncomputable def aar:bM:={cls:=.type "tuple",dict:=aa,data:=.seq #[.type "ValueError"] 0,slots:=#[]}
def aas(P:oF):bM:={cls:=.type "dict",dict:=aa,data:=.dict #[de P "__module__" 598 (.str "cpy313.graphlib" 546),de P "__firstlineno__" 602 (.int 132 601),de P "__static_attributes__" 603 (.ref 122),de P "__weakref__" 605 (.ref 125),de P "__doc__" 606 .none] 3,slots:=#[]}
noncomputable def aat:bM:={cls:=.type "type",dict:=aa,data:=.cls {name:={cps:=#[67,121,99,108,101,69,114,114,111,114]},bases:=[tG "ValueError"],mro:=[Sf 124,tG "ValueError",tG "Exception",tG "BaseException",tG "object"],ns:=123,qualname:={cps:=#[67,121,99,108,101,69,114,114,111,114]},hasDict:=Y,slotNames:=[],subclasses:=[],abstract:=ay,collection:=aa,hasDel:=ay},slots:=#[(D (.ref 115)),aa,(D (.str "CycleError" 591)),(D (.str "CycleError" 599)),(D (.builtin "ValueError.__new__")),(D (.bool Y))]}
noncomputable def aau:bM:={cls:=.type "tuple",dict:=aa,data:=.seq #[.none] 0,slots:=#[]}
def aav:bM:=co "__init__" "TopologicalSorter.__init__" 621 136 2 0 0 3 136 137 (.none) (.ref 138) (.ref 139) (.ref 140) 628 629
def aaw:bM:=fo "__init__" "TopologicalSorter.__init__" (fL 19 0) (.str "cpy313.graphlib" 546) 141 (.ref 135)
def Nm:bM:=co "_get_nodeinfo" "TopologicalSorter._get_nodeinfo" 631 145 2 0 0 3 143 144 (.none) (.ref 145) (.ref 146) (.ref 147) 637 638
def Nn:bM:=fo "_get_nodeinfo" "TopologicalSorter._get_nodeinfo" (fL 19 1) (.str "cpy313.graphlib" 546) 148 (.none)
def Np:bM:=co "add" "TopologicalSorter.add" 640 150 2 0 0 7 150 151 (.none) (.ref 152) (.ref 153) (.ref 154) 649 650
def Nq:bM:=fo "add" "TopologicalSorter.add" (fL 19 2) (.str "cpy313.graphlib" 546) 155 (.none)
def Nr:bM:=co "prepare" "TopologicalSorter.prepare" 652 159 1 0 0 3 157 158 (.none) (.none) (.none) (.ref 159) 655 656
def Nt:bM:=fo "prepare" "TopologicalSorter.prepare" (fL 19 3) (.str "cpy313.graphlib" 546) 160 (.none)
def aax:bM:=co "get_ready" "TopologicalSorter.get_ready" 658 167 1 0 0 3 162 163 (.none) (.ref 164) (.ref 165) (.ref 166) 665 666
def aay:bM:=fo "get_ready" "TopologicalSorter.get_ready" (fL 19 4) (.str "cpy313.graphlib" 546) 167 (.none)
def Nu:bM:=co "is_active" "TopologicalSorter.is_active" 668 178 1 0 0 3 169 170 (.none) (.ref 171) (.ref 172) (.ref 173) 672 673
def Nv:bM:=fo "is_active" "TopologicalSorter.is_active" (fL 19 5) (.str "cpy313.graphlib" 546) 174 (.none)
def Nx:bM:=co "done" "TopologicalSorter.done" 682 186 1 0 0 7 183 184 (.none) (.ref 185) (.ref 186) (.ref 187) 693 694
def Ny:bM:=fo "done" "TopologicalSorter.done" (fL 19 7) (.str "cpy313.graphlib" 546) 188 (.none)
def Nz:bM:=co "_find_cycle" "TopologicalSorter._find_cycle" 696 209 1 0 0 3 190 191 (.none) (.ref 192) (.ref 193) (.ref 194) 706 707
def NB:bM:=fo "_find_cycle" "TopologicalSorter._find_cycle" (fL 19 8) (.str "cpy313.graphlib" 546) 195 (.none)
def aaz(P:oF):bM:={cls:=.type "dict",dict:=aa,data:=.dict #[de P "__module__" 616 (.str "cpy313.graphlib" 546),de P "__firstlineno__" 620 (.int 134 619),de P "__init__" 630 (.ref 142),de P "_get_nodeinfo" 639 (.ref 149),de P "add" 651 (.ref 156),de P "prepare" 657 (.ref 161),de P "get_ready" 667 (.ref 168),de P "is_active" 674 (.ref 175),de P "__bool__" 681 (.ref 182),de P "done" 695 (.ref 189),de P "_find_cycle" 708 (.ref 196),de P "static_order" 715 (.ref 203),de P "__static_attributes__" 720 (.ref 204),de P "__dict__" 722 (.ref 207),de P "__weakref__" 724 (.ref 208),de P "__doc__" 725 .none] 4,slots:=#[]}
noncomputable def aaA:bM:={cls:=.type "type",dict:=aa,data:=.cls {name:={cps:=#[84,111,112,111,108,111,103,105,99,97,108,83,111,114,116,101,114]},bases:=[tG "object"],mro:=[Sf 206,tG "object"],ns:=205,qualname:={cps:=#[84,111,112,111,108,111,103,105,99,97,108,83,111,114,116,101,114]},hasDict:=Y,slotNames:=[],subclasses:=[],abstract:=ay,collection:=aa,hasDel:=ay},slots:=#[aa,aa,(D (.str "TopologicalSorter" 609)),(D (.str "TopologicalSorter" 617)),(D (.builtin "object.__new__")),(D (.bool Y))]}
def NC:bM:=co "_law_stream" "_law_stream" 730 241 1 0 0 3 211 212 (.none) (.ref 213) (.ref 214) (.ref 215) 738 739
def ND:bM:=fo "_law_stream" "_law_stream" (bB 21) (.str "law_rx0064_02" 728) 216 (.none)
def NF:bM:=co "_law_counted" "_law_counted" 741 250 1 0 0 3 218 219 (.none) (.none) (.none) (.ref 220) 744 745
def NG:bM:=fo "_law_counted" "_law_counted" (bB 22) (.str "law_rx0064_02" 728) 221 (.none)
def NH:bM:=co "_law_plain" "_law_plain" 747 252 1 0 0 3 223 224 (.none) (.ref 225) (.ref 226) (.ref 227) 751 752
def NI:bM:=fo "_law_plain" "_law_plain" (bB 23) (.str "law_rx0064_02" 728) 228 (.none)
def NJ:bM:=co "_law_bracket" "_law_bracket" 754 254 1 0 0 3 230 231 (.none) (.none) (.none) (.ref 232) 757 758
def NK:bM:=fo "_law_bracket" "_law_bracket" (bB 24) (.str "law_rx0064_02" 728) 233 (.none)
def NL:bM:=co "_law_takes" "_law_takes" 760 258 2 0 0 3 235 236 (.none) (.ref 237) (.ref 238) (.ref 239) 772 773
def NM:bM:=fo "_law_takes" "_law_takes" (bB 25) (.str "law_rx0064_02" 728) 240 (.none)
def NN:bM:=co "_law_rounds" "_law_rounds" 775 279 1 0 0 3 242 243 (.none) (.ref 244) (.ref 245) (.ref 246) 781 782
def NO:bM:=fo "_law_rounds" "_law_rounds" (bB 26) (.str "law_rx0064_02" 728) 247 (.none)
def NP:bM:=co "_law_times" "_law_times" 784 289 2 0 0 3 249 250 (.none) (.none) (.none) (.ref 251) 787 788
def NQ:bM:=fo "_law_times" "_law_times" (bB 27) (.str "law_rx0064_02" 728) 252 (.none)
def NR:bM:=co "law" "law" 790 291 1 0 0 3 254 255 (.none) (.none) (.none) (.ref 256) 793 794
def aaB:bM:=fo "law" "law" (bB 28) (.str "law_rx0064_02" 728) 257 (.none)
def hK(P:oF):Frag:=(3,o3 P)::(44,NS)::(45,NU)::(51,NV)::(52,NW)::(56,NX)::(57,NY)::(63,NZ)::(64,N1)::(66,N2)::(75,N3)::(76,N4)::(82,N5)::(83,N6)::(89,N7)::(90,N8)::(104,Nk)::(105,Nl)::(108,aam P)::(109,aan)::(110,aao)::(111,aap)::(112,aaq)::(115,aar)::(123,aas P)::(124,aat)::(135,aau)::(141,aav)::(142,aaw)::(148,Nm)::(149,Nn)::(155,Np)::(156,Nq)::(160,Nr)::(161,Nt)::(167,aax)::(168,aay)::(174,Nu)::(175,Nv)::(188,Nx)::(189,Ny)::(195,Nz)::(196,NB)::(205,aaz P)::(206,aaA)::(216,NC)::(217,ND)::(221,NF)::(222,NG)::(228,NH)::(229,NI)::(233,NJ)::(234,NK)::(240,NL)::(241,NM)::(247,NN)::(248,NO)::(252,NP)::(253,NQ)::(257,NR)::(258,aaB)::[]
noncomputable def hA:I au:=3::44::45::51::52::56::57::63::64::66::75::76::82::83::89::90::104::105::108::109::110::111::112::115::123::124::135::141::142::148::149::155::156::160::161::167::168::174::175::188::189::195::196::205::206::216::217::221::222::228::229::233::234::240::241::247::248::252::253::257::258::[]
theorem Xm(P:oF):hA=(hK P).map (·.1):=C
end Mine.Internal
end
section
open PySem PySem.W PyProof.Rows
namespace Mine.Internal
noncomputable def PJ:bM:=⟨.none,aa,.fields #[],#[]⟩
def ZK(K:oF->Frag)(as:I au)(e:∀P,as=(K P).map (·.1))(ts:I au):Hook where
 α:=I (bg bM)×I (bg bM)
 obs:=λs=>(as.map s.heap.get?,ts.map s.heap.get?)
 val:=λw=>((K w.params).map λp=>D p.2,ts.map λ_=>D PJ)
 says:=λw h=>InK K w h/\∀P∈ts,h.get? P=D PJ
 of:=λw s x=>⟨InK.of e w s (mE x).1,List.map_inj_left.mp (mE x).2⟩
 keeps:=λw h h' x k=>⟨InK.keeps w h h' x.1 k,λP hP=>k _ _ (x.2 P hP)⟩
def lH:Hook:=ZK hK hA Xm [212,78]
noncomputable def P3:cy:=PySem.Challenge.rw_rx0064_02.row.prog
noncomputable def Ys:I J:=[0,1,3,4,6,7,9,10,12,13,15,16,17,18,19,21,22,23,24,25,26,27,28]
def q3:cy:=view P3 Ys
noncomputable def BL:I PySem.Str:=["_twin_re_1","_special_chars_map","_NodeInfo"]
abbrev tO(w:bZ):Prop:=(openEnds treeTable PySem.Challenge.rw_rx0064_02.row.prog w 5824).map (λs=>(openSeen q3 BL (importedModules PySem.Challenge.rw_rx0064_02.row.prog.main.body) (λs=>xlAt q3 [] s&&recOk (RowW.records PySem.Challenge.rw_rx0064_02.row.toRowW) s) Y s,Rh lH s))=D (openGood q3 BL,Ri lH w)
theorem YC:∀w:bZ,tO ((w.withFollow "special-get-raises" ay).withFollow "comprehension-iter-twice" ay):=by intro w;kernel_rfl
theorem YD:∀w:bZ,tO ((w.withFollow "special-get-raises" Y).withFollow "comprehension-iter-twice" ay):=by intro w;kernel_rfl
theorem YE:∀w:bZ,tO ((w.withFollow "special-get-raises" ay).withFollow "comprehension-iter-twice" Y):=by intro w;kernel_rfl
theorem YF:∀w:bZ,tO ((w.withFollow "special-get-raises" Y).withFollow "comprehension-iter-twice" Y):=by intro w;kernel_rfl
theorem Y7:LeftO PySem.Challenge.rw_rx0064_02.row.prog q3 BL (λs=>xlAt q3 [] s&&recOk (RowW.records PySem.Challenge.rw_rx0064_02.row.toRowW) s) (Rh lH) (Ri lH) 5824:=
 byRow2 (P:=tO) "comprehension-iter-twice" (byRow2 (P:=λw=>tO (w.withFollow "comprehension-iter-twice" ay)) "special-get-raises" YC YD) (byRow2 (P:=λw=>tO (w.withFollow "comprehension-iter-twice" Y)) "special-get-raises" YE YF)
end Mine.Internal
end
namespace Mine.Internal
inductive Lx where
 |v(i:J)|n(k:J)|a(x y:Lx)|m(k:J)(x:Lx)|r(x:Lx)(k:J)
noncomputable def yS:I J->J->J
 |[],_=>0
 |x::_,0=>x
 |_::r,i+1=>yS r i
noncomputable def Lx.d(c:I J):Lx->J
 |.v i=>yS c i
 |.n k=>k
 |.a x H=>x.d c+H.d c
 |.m k x=>k*x.d c
 |.r x k=>x.d c*k
noncomputable def BZ:I J->I J->I J
 |[],m=>m
 |l,[]=>l
 |x::l,H::m=>(x+H)::BZ l m
noncomputable def Lx.p:Lx->I J
 |.v i=>0::(nE i 0++[1])
 |.n k=>[k]
 |.a x H=>BZ x.p H.p
 |.m k x=>x.p.map (k*·)
 |.r x k=>x.p.map (k*·)
noncomputable def gI:I J->I J->J
 |[],_=>0
 |k::l,[]=>k*0+gI l []
 |k::l,x::c=>k*x+gI l c
noncomputable def B3:I J->I J->bw
 |[],_=>Y
 |x::l,[]=>tE x 0&&B3 l []
 |x::l,H::m=>Nat.ble x H&&B3 l m
theorem Gm:∀(l m c:I J),gI (BZ l m) c=gI l c+gI m c
 |[],m,c=>(jv _).symm
 |x::l,[],c=>C
 |x::l,H::m,[]=>by
  show(x+H)*0+gI _ []=(x*0+gI l [])+(H*0+gI m []);simp only [Gm];exact Dm 0 0 _ _
 |x::l,H::m,E::c=>by
  show(x+H)*E+gI _ c=(x*E+gI l c)+(H*E+gI m c);simp only [Gm,Nat.add_mul];exact Dm _ _ _ _
theorem B0(k:J):∀(l c:I J),gI (l.map (k*·)) c=k*gI l c
 |[],_=>C
 |x::l,[]=>by
  show k*x*0+gI _ []=k*(x*0+gI l []);simp only [B0,Dq,IH]
 |x::l,E::c=>by
  show k*x*E+gI _ c=k*(x*E+gI l c);simp only [B0,Dq,IH]
theorem Gn:∀(i:J)(c:I J),gI (nE i 0++[1]) c=yS c i
 |0,[]=>C
 |0,x::c=>RU x
 |i+1,[]=>by
  show 0*0+gI (nE i 0++[1]) []=0;rw [Gn];exact C
 |i+1,x::c=>by
  show 0*x+gI (nE i 0++[1]) c=yS c i;simp only [Gn,Dv,jv]
theorem wA(c:I J):∀x:Lx,x.d c=gI x.p (1::c)
 |.v i=>by
  show yS c i=0*1+gI _ c;rw [Gn];exact(jv _).symm
 |.n k=>(RS k).symm
 |.a x H=>by
  show x.d c+H.d c=gI (BZ x.p H.p) _;simp only [Gm,wA c x,wA c H]
 |.m k x=>by
  show k*x.d c=gI (x.p.map _) _;simp only [B0,wA c x]
 |.r x k=>by
  show x.d c*k=gI (x.p.map (k*·)) _;simp only [B0,wA c x,II]
theorem yR:∀{l m:I J}(c:I J),B3 l m=Y->gI l c<=gI m c
 |[],_,_,_=>gF _
 |x::l,[],c,h=>by
  have h:=cR.mp h;have e:=Nat.eq_of_beq_eq_true h.1;cases c with
  |nil=>exact aD (fq (jv _)) (yR [] h.2)
  |cons E c=>subst e;exact aD (fq (by show 0*E+_=_;rw [Dv,jv])) (yR c h.2)
 |x::l,H::m,c,h=>by
  have h:=cR.mp h;cases c with
  |nil=>exact iL (yR [] h.2) 0
  |cons E c=>exact iB (IJ E (eA h.1)) (yR c h.2)
def yQ(k:J)(L X H i:Lx):bw:=B3 (Lx.a (.m (k+1) L) i).p (Lx.a (.a (.m (k+1) X) H) (.n k)).p
theorem cT(k:J)(L X H i:Lx)(e:yQ k L X H i=Y)(c:I J)(h:H.d c<=i.d c):L.d c<=X.d c:=by
 have q:=yR (1::c) e;rw [<-wA,<-wA]at q;have q:(k+1)*L.d c+i.d c<=((k+1)*X.d c+H.d c)+k:=q;refine rL (Nat.lt_of_mul_lt_mul_left (a:=k+1) ?_);exact RP (Nat.le_of_add_le_add_right (aD q (by simp only [af9];exact iL h _)))
theorem eF(L X:Lx)(e:yQ 0 L X (.n 0) (.n 0)=Y)(c:I J):L.d c<=X.d c:=cT 0 L X _ _ e c (dz 0)
theorem d_(k:J)(L X H i v x:Lx)(e:yQ k L X (.a H v) (.a i x)=Y)(c:I J)(h:H.d c<=i.d c)(O:v.d c<=x.d c):L.d c<=X.d c:=
 cT k L X _ _ e c (iB h O)
theorem jP(k:J)(L X H i v x b s:Lx)(e:yQ k L X (.a (.a H v) b) (.a (.a i x) s)=Y)(c:I J)(h:H.d c<=i.d c)(O:v.d c<=x.d c)(a:b.d c<=s.d c):L.d c<=X.d c:=
 cT k L X _ _ e c (iB (iB h O) a)
theorem m5(k:J)(L X H i v x b s l n:Lx)(e:yQ k L X (.a (.a H v) (.a b l)) (.a (.a i x) (.a s n))=Y)(c:I J)(h:H.d c<=i.d c)(O:v.d c<=x.d c)(a:b.d c<=s.d c)(B:l.d c<=n.d c):L.d c<=X.d c:=
 cT k L X _ _ e c (iB (iB h O) (iB a B))
theorem wq{a b:J}(h:tE a b=ay):a≠b:=age h
theorem az{a b:J}(h:Nat.ble a b=Y):a<=b:=eA h
theorem q5(h:1<=0):False:=nomatch h
theorem B4{a b:J}:a-b<=a:=Dr a b
theorem m6{a b:J}:a<=a-b+b:=Nat.sub_le_iff_le_add.mp (dz _)
theorem lq{a b:J}(h:b<=a):a-b+b<=a:=fq (tF h)
theorem iU{a b:J}(h:a=b):a<=b:=fq h
theorem o9{a b:J}(h:a=b):b<=a:=fq h.symm
theorem Z4{a b:J}:min a b<=a:=z4 a b
theorem Go{a b:J}:min a b<=b:=Nat.min_le_right a b
theorem wB(z:u+i=l+1)(h:i<l):u-1<u/\u-1+(i+1)=l+1:=by
 cases u with
 |zero=>exact bA (ae z.symm (jv i)) (vy (jW h))
 |succ u=>exact⟨fG u,(agl u i).symm.trans z⟩
open PySem PySem.Calls PyProof.Rows
theorem cps{G:Prop}(h:∀P:Prop,(G->P)->P):G:=h G id
theorem aV{R:Type}{o:bg R}{x:R}{P:Prop}(h:o=aa)(e:o=D x):P:=nomatch ae h.symm e
theorem cY{P:Prop}(h:b=ay)(e:b=Y):P:=nomatch ae h.symm e
theorem mj{R:Type}{a b:Sem R}{Q:R->aU->Prop}(h:a=b)(q:aQ T L b Q H s):aQ T L a Q H s:=h▸q
theorem cW{R:Type}{o:bg R}{x:R}(h:o=D x):o.isSome=Y:=h▸C
abbrev Fz:=au->bg bM
set_option genCtorIdx true in
inductive T where
 |none
 |bool(b:bw)
 |int(i:aS)
 |str(s:I J)
 |list(l:I T)
 |tup(l:I T)
 |atom
 |bW(v:aB)
noncomputable abbrev lo(n:I aB)(u:J):bM:={cls:=.type "list",data:=.seq n.toArray u}
noncomputable abbrev sT(n:I aB)(u:J):bM:={cls:=.type "tuple",data:=.seq n.toArray u}
structure Mk where
 star:au
 mark:au
mutual
inductive Den(ρ:Mk)(fz:Fz):aB->T->Prop
 |none:Den ρ fz .none .none
 |bool(b:bw):Den ρ fz (.bool b) (.bool b)
 |int(i:aS)(t:fT):Den ρ fz (.int i t) (.int i)
 |str(l:I J)(t:fT):Den ρ fz (.str ⟨l.toArray⟩ t) (.str l)
 |atom:Den ρ fz (.ref ρ.star) .atom
 |bW(v:aB):Den ρ fz v (.bW v)
 |list{a vs n ts}:fz a=D (lo vs n)->bu ρ fz vs ts->Den ρ fz (.ref a) (.list ts)
 |tup{a vs n ts}:fz a=D (sT vs n)->bu ρ fz vs ts->Den ρ fz (.ref a) (.tup ts)
inductive bu(ρ:Mk)(fz:Fz):I aB->I T->Prop
 |nil:bu ρ fz [] []
 |cons{v vs t ts}:Den ρ fz v t->bu ρ fz vs ts->bu ρ fz (v::vs) (t::ts)
end
def Le(L f:Fz):Prop:=∀b o,L b=D o->f b=D o
def Aw(L f:Fz):Prop:=∀b o z,o.data=.fields z->L b=D o->f b=D o
theorem Le.refl(L:Fz):Le L L:=λ_ _ e=>e
theorem Le.trans(x:Le L f)(H:Le f h):Le L h:=λb o e=>H b o (x b o e)
theorem Den.re(p:ρ.star=ρ'.star)(h:Le L f){v:aB}{A:T}(d:Den ρ L v A):Den ρ' f v A:=
 Den.rec .none .bool .int .str (p▸.atom) .bW (λe _ i=>.list (h _ _ e) i) (λe _ i=>.tup (h _ _ e) i) .nil (λ_ _ i t=>.cons i t) d
theorem bu.re(a:ρ.star=ρ'.star)(h:Le L f){z:I aB}{p:I T}(d:bu ρ L z p):bu ρ' f z p:=
 bu.rec .none .bool .int .str (a▸.atom) .bW (λe _ i=>.list (h _ _ e) i) (λe _ i=>.tup (h _ _ e) i) .nil (λ_ _ i t=>.cons i t) d
theorem Den.mono(h:Le L f)(d:Den F L v A):Den F f v A:=d.re C h
theorem bu.mono(h:Le L f)(d:bu F L z p):bu F f z p:=d.re C h
section
variable{ρ:Mk}{fz:Fz}
section
variable{P:I aB->Prop}
theorem bu.i9(d:bu ρ fz z [])(h:P []):P z:=by cases d;exact h
theorem bu.jx(d:bu ρ fz z (A::p))(h:∀v G,Den ρ fz v A->bu ρ fz G p->P (v::G)):P z:=by cases d with|cons a b=>exact h _ _ a b
end
theorem bu.ind{P:I aB->I T->Prop}(u:P [] [])(c:∀{v z A p},Den ρ fz v A->bu ρ fz z p->P z p->P (v::z) (A::p)):∀{p:I T}{z:I aB},bu ρ fz z p->P z p
 |[],_,d=>d.i9 (P:=λz=>P z []) u
 |_::_,_,d=>d.jx (P:=λz=>P z _) λ_ _ a b=>c a b (bu.ind u c b)
theorem bu.length(d:bu ρ fz z p):U z=U p:=d.ind (P:=λz p=>U z=U p) C λ_ _ i=>aA Nat.succ i
theorem bu.get(d:bu ρ fz z p):∀{i:J}{t:T},p[i]?=D t->∃v,z[i]?=D v/\Den ρ fz v t:=
 d.ind (P:=λz p=>∀{i:J}{t:T},p[i]?=D t->∃v,z[i]?=D v/\Den ρ fz v t) (λh=>aV C h) λ{v _ _ _}a _ n{i _}h=>match i,h with
  |0,h=>aR v C (bj h▸a)
  |_+1,h=>n h
theorem bu.append(d:bu ρ fz z p)(h:bu ρ fz G j):bu ρ fz (z++G) (p++j):=d.ind (P:=λz p=>bu ρ fz (z++G) (p++j)) h λa _ i=>.cons a i
theorem bu.drop(d:bu ρ fz z p):∀(k:J),bu ρ fz (z.drop k) (p.drop k):=
 d.ind (P:=λz p=>∀(k:J),bu ρ fz (z.drop k) (p.drop k)) (λk=>k.casesOn .nil λ_=>.nil) λa b i k=>k.casesOn (.cons a b) i
theorem bu.take(d:bu ρ fz z p):∀(k:J),bu ρ fz (z.take k) (p.take k):=
 d.ind (P:=λz p=>∀(k:J),bu ρ fz (z.take k) (p.take k)) (λk=>k.casesOn .nil λ_=>.nil) λa _ i k=>k.casesOn .nil λk=>.cons a (i k)
theorem bu.reverse(d:bu ρ fz z p):bu ρ fz z.reverse p.reverse:=
 d.ind (P:=λz p=>bu ρ fz z.reverse p.reverse) .nil λa _ i=>IE.symm▸IE.symm▸i.append (.cons a .nil)
def SJ(ρ:Mk)(fz:Fz)(v:aB):T->Prop
 |.none=>v=.none
 |.bool b=>v=.bool b
 |.int i=>∃A,v=.int i A
 |.str l=>∃A,v=.str ⟨l.toArray⟩ A
 |.atom=>v=.ref ρ.star
 |.bW w=>v=w
 |.list p=>∃a z u,fz a=D (lo z u)/\bu ρ fz z p/\v=.ref a
 |.tup p=>∃a z u,fz a=D (sT z u)/\bu ρ fz z p/\v=.ref a
theorem Den.inv(d:Den ρ fz v A):SJ ρ fz v A:=by
 cases d with
 |none=>rfl
 |bool=>rfl
 |int i A=>exact⟨A,C⟩
 |str l A=>exact⟨A,C⟩
 |atom=>rfl
 |bW=>rfl
 |list e d=>exact Bs _ _ _ e d C
 |tup e d=>exact Bs _ _ _ e d C
section
variable{P:aB->Prop}
theorem Den.qo(d:Den ρ fz v .none)(h:P .none):P v:=d.inv.symm▸h
theorem Den.tZ(d:Den ρ fz v (.bool b))(h:P (.bool b)):P v:=d.inv.symm▸h
theorem Den.gR(d:Den ρ fz v (.int i))(h:∀A,P (.int i A)):P v:=bG d.inv λA e=>e.symm▸h A
theorem Den.iY(d:Den ρ fz v (.str l))(h:∀A,P (.str ⟨l.toArray⟩ A)):P v:=bG d.inv λA e=>e.symm▸h A
theorem Den.AP(d:Den ρ fz v .atom)(h:P (.ref ρ.star)):P v:=d.inv.symm▸h
theorem Den.Oh(d:Den ρ fz v (.bW w))(h:P w):P v:=d.inv.symm▸h
theorem Den.listE(d:Den ρ fz v (.list p))(h:∀a z u,fz a=D (lo z u)->bu ρ fz z p->P (.ref a)):P v:=ji d.inv λa z u e d q=>q.symm▸h a z u e d
theorem Den.Hp(d:Den ρ fz v (.tup p))(h:∀a z u,fz a=D (sT z u)->bu ρ fz z p->P (.ref a)):P v:=ji d.inv λa z u e d q=>q.symm▸h a z u e d
end
theorem bu.ja(d:bu ρ fz z [a]):∃E,z=[E]/\Den ρ fz E a:=
 d.jx (P:=λz=>∃E,z=[E]/\Den ρ fz E a) λv G d b=>b.i9 (P:=λG=>∃E,v::G=[E]/\Den ρ fz E a) (aR v C d)
theorem bu.Hr(d:bu ρ fz z [a,b]):∃E u,z=[E,u]/\Den ρ fz E a/\Den ρ fz u b:=
 d.jx (P:=λz=>∃E u,z=[E,u]/\Den ρ fz E a/\Den ρ fz u b) λv G d h=>ai h.ja λw e B=>gx v w (aA _ e) d B
theorem qq{R:Type}{x H:R}(h:(if c=Y then D x else aa)=D H):c=Y/\x=H:=by
 cases c with
 |true=>exact⟨C,bj h⟩
 |false=>exact aV C h
theorem bu.one(d:Den ρ fz v A):bu ρ fz [v] [A]:=.cons d .nil
end
inductive AV(O:Type)where
 |un
 |t(x:T)
 |own(l:I T)
 |obj(o:O)
 |gT(l:I T)
 |lg
structure OB(O:Type)where
 at_:O->aB->cf->I au->Prop
 live:∀{o v h fp},at_ o v h fp->∀b∈fp,(h.get? b).isSome=Y
structure HB where
 b:Fz
 it:I au
 f0:Fz
 lk:I (J×aB)
def bF(h O:cf):Prop:=∀b o,h.get? b=D o->O.get? b=D o
theorem bF.refl(h:cf):bF h h:=λ_ _ e=>e
theorem bF.trans(x:bF a b)(H:bF b c):bF a c:=λd o e=>H d o (x d o e)
theorem bF.push(h:cf)(o:bM):bF h (h.push o):=λ_ _ e=>eH _ e
structure bD(O:Type)where
 ob:OB O
 ok:cf->Prop
 h₀:cf
 base:∀{h},bF h₀ h->ok h
 frame:∀{o v h h' fp},ob.at_ o v h fp->bF h₀ h'->(∀b∈fp,∀x,h.get? b=D x->h'.get? b=D x)->ob.at_ o v h' fp
 tabs:I au
 inv:Fz->cf->Prop
 live:∀{f h},inv f h->∀P∈tabs,(h.get? P).isSome=Y
 uB:∀{f f' h h'},inv f h->Aw f f'->(∀P∈tabs,∀o,h.get? P=D o->h'.get? P=D o)->inv f' h'
theorem bD.uC{X:bD q}{L u:Fz}{h O:cf}(l:Le L u)(i:X.inv L h)(k:∀P∈X.tabs,∀o,h.get? P=D o->O.get? P=D o):X.inv u O:=X.uB i (λb o _ _ e=>l b o e) k
theorem bD.ir{B:bD q}{L:Fz}{h O:cf}(i:B.inv L h)(k:∀P∈B.tabs,∀o,h.get? P=D o->O.get? P=D o):B.inv L O:=B.uC (Le.refl L) i k
def kW(X:bD q)(h O:cf):Prop:=∀b,b∉X.tabs->∀o,h.get? b=D o->O.get? b=D o
theorem bF.t{h O:cf}(x:bF h O):kW X h O:=λb _ o e=>x b o e
theorem kW.trans(x:kW X a b)(H:kW X b c):kW X a c:=λd P o e=>H d P o (x d P o e)
theorem kW.refl(h:cf):kW X h h:=λ_ _ _ e=>e
noncomputable abbrev p8(a:au):bM:={cls:=.type "builtin_function_or_method",data:=.fields #[.builtin "list.append",.ref a]}
inductive SW(ρ:Mk)(fz:Fz)(x:T)(ov:bg aB)(fp:I au):Prop
 |mk(e:fp=[])(v:aB)(ev:ov=D v)(d:Den ρ fz v x)
inductive SS(ρ:Mk)(fz:Fz)(h:cf)(l:I T)(ov:bg aB)(fp:I au):Prop
 |mk(a:au)(vs:I aB)(n:J)(ev:ov=D (.ref a))(ha:h.get? a=D (lo vs n))(d:bu ρ fz vs l)(e:fp=[a])
inductive SV(ob:OB O)(h:cf)(o:O)(ov:bg aB)(fp:I au):Prop
 |mk(v:aB)(ev:ov=D v)(hv:ob.at_ o v h fp)
inductive SU(ρ:Mk)(fz:Fz)(h:cf)(l:I T)(ov:bg aB)(fp:I au):Prop
 |mk(vs:I aB)(n:J)(ev:ov=D (.ref ρ.mark))(ha:h.get? ρ.mark=D (lo vs n))(d:bu ρ fz vs l)(e:fp=[ρ.mark])
inductive SQ(a:au)(h:cf)(ov:bg aB)(fp:I au):Prop
 |mk(b:au)(ev:ov=D (.ref b))(ha:h.get? b=D (p8 a))(e:fp=[b])
def Holds(X:bD q)(F:Mk)(g:Fz)(h:cf):AV q->bg aB->I au->Prop
 |.un,_,R=>R=[]
 |.t x,Q,R=>SW F g x Q R
 |.own l,Q,R=>SS F g h l Q R
 |.obj o,Q,R=>SV X.ob h o Q R
 |.gT l,Q,R=>SU F g h l Q R
 |.lg,Q,R=>SQ F.mark h Q R
theorem Holds.live(x:Holds X F g h E Q R):∀b∈R,(h.get? b).isSome=Y:=by
 cases E with
 |un=>intro b f;cases x;exact bA f dR
 |t _=>obtain⟨rfl,_⟩:=x;intro b f;exact bA f dR
 |own l=>
  obtain⟨a,z,e,_,u,_,rfl⟩:=x;intro b f;cases cO.mp f;rw [u];rfl
 |obj o=>obtain⟨v,_,d⟩:=x;exact X.ob.live d
 |gT l=>
  obtain⟨z,e,_,u,_,rfl⟩:=x;intro b f;cases cO.mp f;rw [u];rfl
 |lg=>
  obtain⟨a,_,u,rfl⟩:=x;intro b f;cases cO.mp f;rw [u];rfl
theorem Holds.mono{F e O}(x:Holds X F k e E Q R)(g:Le k j)(f:bF X.h₀ O)(B:∀b∈R,∀x,e.get? b=D x->O.get? b=D x):
  Holds X F j O E Q R:=by
 cases E with
 |un=>exact x
 |t _=>obtain⟨n,v,s,d⟩:=x;exact⟨n,v,s,d.mono g⟩
 |own l=>
  obtain⟨a,z,h,s,u,d,rfl⟩:=x;exact⟨a,z,h,s,B a (.head _) _ u,d.mono g,C⟩
 |obj o=>obtain⟨v,s,i⟩:=x;exact⟨v,s,X.frame i f B⟩
 |gT l=>
  obtain⟨z,h,s,u,d,rfl⟩:=x;exact⟨z,h,s,B _ (.head _) _ u,d.mono g,C⟩
 |lg=>
  obtain⟨a,s,u,rfl⟩:=x;exact⟨a,s,B a (.head _) _ u,C⟩
def eE(G:c4)(m:af->bg aB)(h:cf)(x:af)(Q:bg aB):Prop:=
 (G.kindOf x=D .local/\Q=m x)\/
 ((G.kindOf x=D .cell\/(G.kindOf x=D .free/\(x==("__classdict__":af))=ay))/\∃c,G.cells.lookup x=D c/\h.IsCell c Q)
inductive Jg(B:bD O)(ρ:Mk)(fz:Fz)(h:cf)(V:c4)(m:af->bg aB)(x:af)(av:AV O)(fp:I au):Prop
 |mk(ov:bg aB)(a:eE V m h x ov)(hh:Holds B ρ fz h av ov fp)
structure gm(V:c4):Prop where
 kind:V.scope.kind=.function
 globals:V.globals=jX
 builtins:V.builtins=builtinsNs
structure aW(B:bD O)(ρ:Mk)(hB:HB)(fz:Fz)(V:c4)(xs:I af)(k:J)(lv:I (AV O))(m:af->bg aB)(cK:J->I au)(h:cf):Prop where
 len:lv.length=xs.length
 base:bF B.h₀ h
 kept:∀b o,hB.b b=D o->h.get? b=D o
 bJ:∀b o,fz b=D o->h.get? b=D o
 ns:h.Ns V.locals m
 nL:hB.b V.locals=aa/\fz V.locals=aa
 f_:∀b o,B.h₀.get? b=D o->hB.b b=D o
 vars:∀(i:J)(x:af)(av:AV O),xs[i]?=D x->lv[i]?=D av->Jg B ρ fz h V m x av (cK i)
 own:∀(i:J)(x:af)(c:au),i<k->xs[i]?=D x->V.kindOf x≠D .local->V.cells.lookup x=D c->hB.b c=aa
 jw:∀(i:J)(x:af)(c:au),k<=i->xs[i]?=D x->V.cells.lookup x=D c->V.kindOf x≠D .local->∃o,hB.b c=D o
 cell:∀(i:J)(x:af)(c:au),xs[i]?=D x->V.kindOf x≠D .local->V.cells.lookup x=D c->c≠V.locals/\fz c=aa
 qM:∀(i:J)(x:af),k<=i->xs[i]?=D x->V.kindOf x≠D .local
 inj:∀(i j:J)(x y:af)(c:au),xs[i]?=D x->xs[j]?=D y->V.kindOf x≠D .local->V.kindOf y≠D .local->V.cells.lookup x=D c->V.cells.lookup y=D c->i=j
 nodup:∀(i j:J)(x:af),xs[i]?=D x->xs[j]?=D x->i=j
 fp:∀(i:J),i<xs.length->∀b∈cK i,hB.b b=aa/\fz b=aa/\b≠V.locals/\∀(j:J)(x:af),xs[j]?=D x->V.kindOf x≠D .local->V.cells.lookup x≠D b
 inv:B.inv fz h
 tab:∀P∈B.tabs,hB.b P=aa/\fz P=aa/\P≠V.locals/\(∀(j:J)(x:af),xs[j]?=D x->V.kindOf x≠D .local->V.cells.lookup x≠D P)/\∀i,i<xs.length->P∉cK i
 dJ:∀b∈hB.it,(hB.b b).isSome=Y/\fz b=aa/\(∀(j:J)(x:af),xs[j]?=D x->V.kindOf x≠D .local->V.cells.lookup x≠D b)/\B.h₀.get? b=aa
 new:∀b o,fz b=D o->hB.f0 b=D o\/hB.b b=aa
 lock:∀p∈hB.lk,∀x,xs[p.1]?=D x->eE V m h x (D p.2)
 apart:∀(i j:J),i<xs.length->j<xs.length->i≠j->∀b∈cK i,b∉cK j
inductive SR(B:bD O)(ρ:Mk)(hB:HB)(fz:Fz)(V:c4)(xs:I af)(k:J)(lv:I (AV O))(h:cf):Prop
 |mk(eo:gm V)(m:af->bg aB)(cK:J->I au)(S:aW B ρ hB fz V xs k lv m cK h)
section
variable{B:bD O}{ρ:Mk}{hB:HB}{fz:Fz}{V:c4}{xs:I af}{k:J}{lv:I (AV O)}{m:af->bg aB}{h h':cf}
theorem eE.keep(a:eE V m h x Q)(B:∀c,V.kindOf x≠D .local->V.cells.lookup x=D c->∀o,h.get? c=D o->h'.get? c=D o):eE V m h' x Q:=by
 rcases a with a|⟨l,c,X,n,O,P⟩
 .exact .inl a
 .refine .inr ⟨l,c,X,n,B c (λq=>?_) X _ O,P⟩;rw [q]at l;rcases l with l|⟨l,_⟩<;>exact nc nG (bj l) C
theorem Ca(u:h.Ns a m)(B:∀o,h.get? a=D o->h'.get? a=D o):h'.Ns a m:=jz u λo Q L T r=>l0 o Q L (B o T) r
theorem B_(u:h.Ns a m):(h.get? a).isSome=Y:=jz u λE E E T E=>T▸C
theorem aW.i_(S:aW B ρ hB fz V xs k lv m r h)(e:hB.b b=D o):b∉B.tabs:=λq=>aV ((S.tab b q).1) e
theorem aW.nk(S:aW B ρ hB fz V xs k lv m r h)(e:fz b=D o):b∉B.tabs:=λq=>aV ((S.tab b q).2.1) e
theorem aW.fresh(S:aW B ρ hB fz V xs k lv m r h)(f:h.get? b=aa):
  hB.b b=aa/\fz b=aa/\b≠V.locals/\(∀(t:J)(x:af),xs[t]?=D x->V.kindOf x≠D .local->V.cells.lookup x≠D b)/\(∀t,t<U xs->b∉r t)/\b∉B.tabs:=by
 refine yz ?_ ?_ ?_ (λt H L w l=>?_) (λt O R=>?_) (λR=>?_)
 .cases e:hB.b b with
  |none=>rfl
  |some o=>have:=S.kept b o e;exact aV f this
 .cases e:fz b with
  |none=>rfl
  |some o=>have:=S.bJ b o e;exact aV f this
 .rintro rfl;have:=B_ S.ns;rw [f]at this;exact cY C this
 .have O:t<U lv:=by rw [S.len];exact(cG.mp L).1
  obtain⟨Q,u,_⟩:=S.vars t H _ L (dD O);rcases u with⟨e,_⟩|⟨_,s,X,n,i,_⟩
  .exact w e
  .rw [l]at X;obtain rfl:=bj X;exact aV f i
 .have j:t<U lv:=by rw [S.len];exact O
  refine cps λ_ v=>?_;obtain⟨Q,_,a⟩:=S.vars t _ _ (dD O) (dD j);apply v;have:=a.live b R;rw [f]at this;exact cY C this
 .have:=B.live S.inv b R;rw [f]at this;exact cY C this
theorem aW.grow(S:aW B ρ hB fz V xs k lv m r h)(a:kW B h h')(A:B.inv g4 h')(H:Le fz g4)(z:∀b o,g4 b=D o->fz b=D o\/h.get? b=aa/\h'.get? b=D o):
  aW B ρ hB g4 V xs k lv m r h':=by
 have s:∀b,fz b=aa->(h.get? b).isSome=Y->g4 b=aa:=λb O v=>by
  cases e:g4 b with
  |none=>rfl
  |some o=>
   rcases z b o e with R|⟨R,_⟩
   .exact aV O R
   .rw [R]at v;exact cY C v
 have g:bF B.h₀ h':=λb o e=>a b (S.i_ (S.f_ b o e)) o (S.base b o e);refine{S with base:=g,kept:=λb o e=>a _ (S.i_ e) _ (S.kept b o e),bJ:=λb o e=>?_,ns:=?_,nL:=⟨S.nL.1,?_⟩,vars:=λi x E j y=>?_,cell:=λi x c j t l=>?_,fp:=λi A b f=>?_,inv:=A,tab:=λP d=>?_,dJ:=λb f=>?_,new:=λb o e=>?_,lock:=λp L x j=>(S.lock p L x j).keep λc w l o e=>a c (λq=>(S.tab c q).2.2.2.1 p.1 x j w l) o e}
 .rcases z b o e with R|⟨_,R⟩
  .exact a _ (S.nk R) _ (S.bJ b o R)
  .exact R
 .exact Ca S.ns (a _ (λq=>(S.tab _ q).2.2.1 C))
 .exact s _ S.nL.2 (B_ S.ns)
 .obtain⟨Q,u,n⟩:=S.vars i x E j y;exact⟨Q,u.keep λc w l o e=>a c (λq=>(S.tab c q).2.2.2.1 i x j w l) o e,n.mono H g λb f o e=>a b (λq=>(S.tab b q).2.2.2.2 i (cG.mp j).1 f) o e⟩
 .have:=S.cell i x c j t l;refine⟨this.1,s _ this.2 ?_⟩;have A:i<U lv:=by rw [S.len];exact(cG.mp j).1
  obtain⟨Q,u,_⟩:=S.vars i x _ j (dD A);rcases u with⟨e,_⟩|⟨_,G,X,ah,F,_⟩
  .exact bA e t
  .rw [l]at X;obtain rfl:=bj X;exact cW F
 .have:=S.fp i A b f;refine dI this.1 (s _ this.2.1 ?_) this.2.2;obtain⟨Q,_,n⟩:=S.vars i _ _ (dD A) (dD (by rw [S.len];exact A));exact n.live b f
 .have:=S.tab P d;exact dI this.1 (s _ this.2.1 (B.live S.inv P d)) this.2.2
 .have:=S.dJ b f;refine dI this.1 (s _ this.2.1 ?_) this.2.2;obtain⟨o,T⟩:=gG.mp this.1;exact cW (S.kept b o T)
 .rcases z b o e with q|⟨q,_⟩
  .exact S.new b o q
  .exact .inr (S.fresh q).1
theorem aW.um(S:aW B ρ hB fz V xs k lv m r h)(e:bF h h')(g:Le fz j)(z:∀b o,j b=D o->fz b=D o\/h.get? b=aa/\h'.get? b=D o):
  aW B ρ hB j V xs k lv m r h':=S.grow e.t (bD.uC ‹_› S.inv λP _ o a=>e P o a) g z
end
theorem d9{R:Type}{l:I R}{a:R}(i:J)(h:l[i]?=D a):a∈l:=cN h
theorem eK{R:Type}{P:R->Prop}:∀b∈[],P b:=λ_ h=>nomatch h
theorem bO{R:Type}{P:R->Prop}{a:R}{l:I R}(h:P a)(A:∀b∈l,P b):∀b∈a::l,P b:=λb f=>(cD.mp f).elim (λe=>e▸h) (A b)
noncomputable def k7(L:Fz)(a:au)(o:bM):Fz:=λb=>if b=a then D o else L b
theorem qR:k7 L a o a=D o:=aM C
theorem qT(h:b≠a)(e:L b=aa):k7 L a o b=aa:=ae (aJ h) e
theorem ug(h:b≠a)(e:L b=D x):k7 L a o b=D x:=ae (aJ h) e
theorem eZ{L:au->bg bM}(h:L a=aa)(e:L b=D x):b≠a:=λq=>aV h (q▸e)
theorem yr(h:L a=aa):Le L (k7 L a o):=λ_ _ e=>ug (eZ h e) e
theorem qS{P:Prop}(e:k7 L a o b=D x)(w:b=a->o=x->P)(v:L b=D x->P):P:=
 (vh _).elim (λq=>w q (bj ((aM q).symm.trans e))) λq=>v ((aJ q).symm.trans e)
noncomputable def uo(A:I au)(a:au)(h:cf):Fz:=λb=>if b∈A\/b=a then aa else h.get? b
theorem uq(e:h.get? b=D o)(w:b∉A)(v:b≠a):uo A a h b=D o:=ae (aJ (λq=>q.elim w v)) e
theorem Lz(e:uo A a h b=D o):h.get? b=D o:=
 (vh _).elim (λq=>aV (aM q) e) λq=>(aJ q).symm.trans e
theorem XC(e:h.get? b=aa):uo A a h b=aa:=by
 cases q:uo A a h b with
 |none=>rfl
 |some o=>exact aV e (Lz q)
theorem XD(q:b∈A):uo A a h b=aa:=aM (.inl q)
theorem XB:uo A a h a=aa:=aM (.inr C)
theorem iV{o:bg bM}(h:∀x,o=D x->False):o=aa:=by
 cases o with
 |none=>rfl
 |some x=>exact(h x C).elim
def bQ(s t:aU):Prop:=∃h n,(t,AllBare t.gens)=({s with heap:=h,toks:=n,gens:=t.gens},AllBare s.gens)
theorem bQ.refl(s:aU):bQ s s:=cI s.heap s.toks C
theorem bQ.trans(x:bQ a b)(H:bQ b c):bQ a c:=
 jL x λh A e=>jL H λO P R=>cI O P (R1 ((mE R).1.trans (aA (λE:aU=>{E with heap:=O,toks:=P,gens:=c.gens}) (mE e).1)) ((mE R).2.trans (mE e).2))
theorem bQ.of(e:t={s with heap:=h,toks:=A}):bQ s t:=by subst e;exact cI h A C
noncomputable def bV(L:J->I au)(i:J)(l:I au):J->I au:=λt=>if t=i then l else L t
theorem IsCell.ext(l:h.IsCell c Q)(B:gW a h O)(e:c≠a):O.IsCell c Q:=ai l λo T P=>aR o (ae (B.2 c e) T) P
theorem aW.L0(S:aW X F hB g G n k y m r h)(u:a∉X.tabs)(B:gW a h O):X.inv g O:=
 bD.ir S.inv λP s o e=>ae (B.2 P (λq=>u (q▸s))) e
structure oJ(B:bD O)(hB:HB)(fz:Fz)(V:c4)(xs:I af)(cK:J->I au)(i:J)(fp:I au):Prop where
 a:∀b∈fp,hB.b b=aa/\fz b=aa/\b≠V.locals/\∀(j:J)(x:af),xs[j]?=D x->V.kindOf x≠D .local->V.cells.lookup x≠D b
 b:∀j,j≠i->j<xs.length->∀b∈fp,b∉cK j
 c:∀P∈B.tabs,P∉fp
theorem oJ.nil:oJ X hB g G n r i []:=⟨λE h=>bA h dR,λE E E E h=>bA h dR,λE E h=>bA h dR⟩
theorem aW.OE(S:aW X F hB g G n aj aq w r y){fp:I au}(aE:hB.lk=[])(m:n[i]?=D x)(aL:G.kindOf x=D .local)
  (aP:j.Ns G.locals (λH=>if H=x then D v else w H))(hs:gW G.locals y j)(ao:Holds X F g y av (D v) fp)(A:oJ X hB g G n r i fp):
  aW X F hB g G n aj (aq.set i av) (λH=>if H=x then D v else w H) (bV r i fp) j:=by
 have k:∀{T:Fz}{b o},T G.locals=aa->T b=D o->b≠G.locals:=λQ ah e=>aV (ae (aA _ e) Q) ah;have h:=λb o e=>ae (hs.2 b (k S.nL.1 (S.f_ b o e))) (S.base b o e)
 refine{S with len:=by simp [S.len],base:=h,kept:=λb o e=>ae (hs.2 b (k S.nL.1 e)) (S.kept b o e),bJ:=λb o e=>ae (hs.2 b (k S.nL.2 e)) (S.bJ b o e),ns:=aP,lock:=(by rw [aE];intro aX aF;cases aF),vars:=λt H ak L d=>?_,fp:=λt O b f=>?_,inv:=S.L0 (λq=>(S.tab _ q).2.2.1 C) hs,tab:=λP s=>k9 ((S.tab P s).1) ((S.tab P s).2.1) ((S.tab P s).2.2.1) ((S.tab P s).2.2.2.1) (λt O f=>by
   by_cases p:t=i
   .subst p
    rw [show bV r t fp t=fp from aM C]at f
    exact A.c P s f
   .rw [show bV r i fp t=r t from aJ ‹_›]at f
    exact(S.tab P s).2.2.2.2 t O f),apart:=λa b u f R c l=>?_}
 .by_cases p:t=i
  .subst p;rw [m]at L;obtain rfl:=bj L;have O:=by
    have:=(cG.mp d).1;simpa using this
   obtain rfl:=bj ((jt O)▸d);refine⟨D v,.inl ⟨aL,by simp⟩,?_⟩;simp only [show bV r t fp t=fp from aM C];exact ao.mono (Le.refl _) h λb f o e=>ae (hs.2 b (A.a b f).2.2.1) e
  .rw [lJ (iC p)]at d;refine cps λa_ aK=>?_;obtain⟨aC,u,aN⟩:=S.vars t H ak L d;have aH:H≠x:=λe=>p (S.nodup t i x (e▸L) m);apply aK;refine⟨aC,?_,?_⟩
   .rcases u with⟨e,q⟩|⟨l,c,B,aT⟩
    .exact .inl ⟨e,by simp [aH,q]⟩
    .refine .inr ⟨l,c,B,IsCell.ext aT hs (S.cell t H c L (λq=>by rw [q]at l;rcases l with l|⟨l,_⟩<;>exact nc nG (bj l) C) B).1⟩
   .exact(show bV r i fp t=r t from aJ ‹_›)▸aN.mono (Le.refl _) h λb f o e=>ae (hs.2 b ((λt O b f=>(S.fp t O b f).2.2.1) t (cG.mp L).1 b f)) e
 .by_cases p:t=i
  .subst p;rw [show bV r t fp t=fp from aM C]at f;exact A.a b f
  .rw [show bV r i fp t=r t from aJ ‹_›]at f;exact S.fp t O b f
 .by_cases E:a=i<;>by_cases z:b=i
  .exact bA (ae E z.symm) R
  .subst E;have l:=((by simp [bV]:bV r a fp a=fp))▸l;exact((by simp [bV,z]:bV r a fp b=r b))▸A.b b z f c l
  .subst z;rw [(by simp [bV,E]:bV r b fp a=r a)]at l;rw [(by simp [bV]:bV r b fp b=fp)];exactλq=>A.b a E u c q l
  .rw [show bV r i fp a=r a from by simp [bV,E]]at l;exact(show bV r i fp b=r b from by simp [bV,z])▸(S.apart a b u f R c l)
theorem aW.abo(S:aW B ρ hB fz V xs k lv m cK h){fp:I au}(yy:hB.lk=[])(hx:xs[i]?=D x)(Fa:i<k)(hl:V.kindOf x=D .cell)(hc:V.cells.lookup x=D c)
  (hn:h'.IsCell c (D v))(hs:gW c h h')(hv:Holds B ρ fz h av (D v) fp)(ok:oJ B hB fz V xs cK i fp):
  aW B ρ hB fz V xs k (lv.set i av) m (bV cK i fp) h':=by
 have sD:V.kindOf x≠D .local:=by rw [hl];decide
 have Ls:=S.own i x c Fa hx sD hc;refine bT (S.cell i x c hx sD hc) λXu XA=>?_;have ne:∀{f:Fz}{b o},f c=aa->f b=D o->b≠c:=λh1 h2 e=>aV (ae (aA _ e) h1) h2;have kB:=λb o e=>ae (hs.2 b (ne Ls (S.f_ b o e))) (S.base b o e);have WR:∀j,j<U xs->∀b∈cK j,b≠c:=λj hj b hb e=>(S.fp j hj b hb).2.2.2 i x hx sD (e▸hc)
 refine{S with len:=by simp [S.len],base:=kB,kept:=λb o e=>ae (hs.2 b (ne Ls e)) (S.kept b o e),bJ:=λb o e=>ae (hs.2 b (ne XA e)) (S.bJ b o e),ns:=S.ns.sameBut hs (iC Xu),lock:=(by rw [yy];intro p hp;cases hp),vars:=λj y TB hy Bm=>?_,fp:=λj hj b hb=>?_,inv:=S.L0 (λq=>(S.tab _ q).2.2.2.1 i x hx sD hc) hs,tab:=λP hP=>k9 ((S.tab P hP).1) ((S.tab P hP).2.1) ((S.tab P hP).2.2.1) ((S.tab P hP).2.2.2.1) (λj hj hb=>by
   by_cases uu:j=i
   .subst uu
    rw [show bV cK j fp j=fp from aM C]at hb
    exact ok.c P hP hb
   .rw [show bV cK i fp j=cK j from aJ ‹_›]at hb
    exact(S.tab P hP).2.2.2.2 j hj hb),apart:=λa b ha hb Lv c' v8=>?_}
 .by_cases uu:j=i
  .subst uu;rw [hx]at hy;obtain rfl:=bj hy;have hj:=by
    have:=(cG.mp Bm).1;simpa using this
   obtain rfl:=bj ((jt hj)▸Bm);refine⟨D v,.inr ⟨.inl hl,c,hc,hn⟩,?_⟩;simp only [show bV cK j fp j=fp from aM C];exact hv.mono (Le.refl _) kB λb hb o e=>ae (hs.2 b (λq=>(ok.a b hb).2.2.2 j x hx sD (q▸hc))) e
  .rw [lJ (iC uu)]at Bm;obtain⟨ov,ha,hh⟩:=S.vars j y TB hy Bm;refine⟨ov,?_,?_⟩
   .rcases ha with⟨e,q⟩|⟨wc,c',LC,Xv⟩
    .exact .inl ⟨e,q⟩
    .have XH:V.kindOf y≠D .local:=λq=>by rw [q]at wc;rcases wc with wc|⟨wc,_⟩<;>exact nc nG (bj wc) C
     refine .inr ⟨wc,c',LC,IsCell.ext Xv hs λe=>uu (S.inj j i y x c hy hx XH sD (e▸LC) hc)⟩
   .exact(show bV cK i fp j=cK j from aJ ‹_›)▸hh.mono (Le.refl _) kB λb hb o e=>ae (hs.2 b (WR j (cG.mp hy).1 b hb)) e
 .by_cases uu:j=i
  .subst uu;rw [show bV cK j fp j=fp from aM C]at hb;exact ok.a b hb
  .rw [show bV cK i fp j=cK j from aJ ‹_›]at hb;exact S.fp j hj b hb
 .by_cases yv:a=i<;>by_cases yw:b=i
  .exact bA (ae yv yw.symm) Lv
  .subst yv;rw [(by simp [bV]:bV cK a fp a=fp)]at v8;exact((by simp [bV,yw]:bV cK a fp b=cK b))▸ok.b b yw hb c' v8
  .subst yw;rw [(by simp [bV,yv]:bV cK b fp a=cK a)]at v8;rw [(by simp [bV]:bV cK b fp b=fp)];exactλq=>ok.b a yv ha c' q v8
  .rw [show bV cK i fp a=cK a from by simp [bV,yv]]at v8;exact(show bV cK i fp b=cK b from by simp [bV,yw])▸(S.apart a b ha hb Lv c' v8)
theorem aW.PW(S:aW X ak ao v G j aP aL m r h){fp:I au}(w:j[i]?=D aF)
  (B:∀b,b∉r i->∀o,h.get? b=D o->x.get? b=D o)(aT:eE G m h aF Q)(aN:Holds X ak v x bh Q fp)
  (A:∀b∈fp,b∈r i\/h.get? b=aa):
  aW X ak ao v G j aP (aL.set i bh) m (bV r i fp) x:=by
 have l:=(cG.mp w).1;have F:=S.fp i l;have aq:∀{aC:Fz}{b o},(∀b∈r i,aC b=aa)->aC b=D o->b∉r i:=λa_ bf e=>aV (a_ _ e) bf;have ah:=λ{b o}(e:ao.b b=D o)=>aq (λb f=>(F b f).1) e;have aj:bF X.h₀ x:=λb o e=>B b (ah (S.f_ b o e)) o (S.base b o e);have n:∀{t H Q},j[t]?=D H->eE G m h H Q->eE G m x H Q:=λ{t H Q}L u=>by
  rcases u with⟨e,q⟩|⟨g,k,aE,o,T,aX⟩
  .exact .inl ⟨e,q⟩
  .exact .inr ⟨g,k,aE,o,B k (λq=>(F k q).2.2.2 t H L (λq=>by rw [q]at g;rcases g with g|⟨g,_⟩<;>exact nc nG (bj g) C) aE) o T,aX⟩
 have c:=λb(f:h.get? b=aa)=>S.fresh f
 refine{S with len:=by simp [S.len],base:=aj,kept:=λb o e=>B b (ah e) o (S.kept b o e),bJ:=λb o e=>B b ((λ{b o}(e:v b=D o)=>aq (λb f=>(F b f).2.1) e) e) o (S.bJ b o e),lock:=λbH aH H L=>n L (S.lock bH aH H L),ns:=?_,vars:=λt H aK L d=>?_,fp:=λt O b f=>?_,inv:=bD.ir S.inv λP s o e=>B P ((S.tab P s).2.2.2.2 i l) o e,tab:=λP s=>k9 ((S.tab P s).1) ((S.tab P s).2.1) ((S.tab P s).2.2.1) ((S.tab P s).2.2.2.1) (λt O f=>by
   by_cases p:t=i
   .subst p
    rw [show bV r t fp t=fp from aM C]at f
    rcases A P f with q|q
    .exact(S.tab P s).2.2.2.2 t O q
    .exact(c P q).2.2.2.2.2 s
   .rw [show bV r i fp t=r t from aJ ‹_›]at f
    exact(S.tab P s).2.2.2.2 t O f),apart:=λa b u f R k y=>?_}
 .exact jz S.ns λo bl bx T bz=>l0 o bl bx (B _ (λq=>(F _ q).2.2.1 C) o T) bz
 .by_cases p:t=i
  .subst p;rw [w]at L;obtain rfl:=bj L;have O:=by
    have:=(cG.mp d).1;simpa using this
   rw [jt O]at d;obtain rfl:=bj d;simp only [show bV r t fp t=fp from aM C];exact⟨Q,n w aT,aN⟩
  .rw [lJ (iC p)]at d;obtain⟨bC,u,bE⟩:=S.vars t H aK L d;exact(show bV r i fp t=r t from aJ ‹_›)▸(⟨bC,n L u,bE.mono (Le.refl _) aj λb f o e=>B b (S.apart t i ((cG.mp L).1) l p b f) o e⟩)
 .by_cases p:t=i
  .subst p;rw [show bV r t fp t=fp from aM C]at f;rcases A b f with q|q
   .exact F b q
   .have:=c b q;exact k8 this.1 this.2.1 this.2.2.1 this.2.2.2.1
  .rw [show bV r i fp t=r t from aJ ‹_›]at f;exact S.fp t O b f
 .by_cases E:a=i<;>by_cases z:b=i
  .exact bA (ae E z.symm) R
  .subst E;have y:=(show bV r a fp a=fp from aM C)▸y;refine(show bV r a fp b=r b from aJ ‹_›)▸?_;rcases A k y with q|q
   .exact S.apart a b u f R k q
   .exact(c k q).2.2.2.2.1 b f
  .subst z;rw [show bV r b fp a=r a from aJ ‹_›]at y;rw [show bV r b fp b=fp from aM C];intro q;rcases A k q with q|q
   .exact S.apart a b u f R k y q
   .exact(c k q).2.2.2.2.1 a u y
  .rw [show bV r i fp a=r a from by simp [bV,E]]at y;exact(show bV r i fp b=r b from by simp [bV,z])▸(S.apart a b u f R k y)
theorem aW.freeze(S:aW aL aq aF g ao n aN v G r m){i:J}{l:I T}(Q:v[i]?=D (.own l)):
  ∃j,Le g j/\(∃a z u x,n[i]?=D x/\eE ao G m x (D (.ref a))/\j a=D (lo z u)/\bu aq j z l/\g a=aa/\r i=[a]/\j=λb=>if b=a then D (lo z u)else g b)/\
   aW aL aq aF j ao n aN (v.set i (.t (.list l))) G (bV r i []) m:=by
 have w:=(cG.mp Q).1;have A:=by exact(S.len)▸(w)
 obtain⟨bx,R,a,z,u,rfl,aK,ah,E⟩:=S.vars i _ _ (dD A) Q;have F:=S.fp i A a (by exact(E)▸(.head _));have B:Le g (λb=>if b=a then D (lo z u)else g b):=λb o e=>by
  by_cases f:b=a
  .subst f;exact aV F.2.1 e
  .simp [f,e]
 refine i12 _ B (XY a z u _ (dD A) R (aM C) (ah.mono B) F.2.1 E C) ?_;have h:∀b,b≠a->g b=aa->(if b=a then D (lo z u)else g b)=aa:=λb aH aC=>by simp [aH,aC]
 refine{S with len:=by simp [S.len],inv:=bD.uC B S.inv (λP k o e=>e),bJ:=λb o e=>?_,nL:=⟨S.nL.1,h _ (iC F.2.2.1) S.nL.2⟩,vars:=λt H aE L d=>?_,cell:=λt H X L ak c=>?_,fp:=λt O b f=>?_,new:=λb o e=>(by
   by_cases aj:b=a
   .exact aj▸.inr F.1
   .simp only [aj]at e;exact S.new b o e),dJ:=λb f=>dI ((S.dJ b f).1) (h b (λe=>by have:=(S.dJ b f).1;rw [e,F.1]at this;exact cY C this) (S.dJ b f).2.1) ((S.dJ b f).2.2),tab:=λP s=>k9 ((S.tab P s).1) (h P (λe=>(S.tab P s).2.2.2.2 i A (by exact(E)▸(e)▸(.head _))) (S.tab P s).2.1) ((S.tab P s).2.2.1) ((S.tab P s).2.2.2.1) (λt O f=>by
   by_cases p:t=i
   .subst p;rw [show bV r t [] t=[]from aM C]at f;exact nomatch f
   .rw [show bV r i [] t=r t from aJ ‹_›]at f
    exact(S.tab P s).2.2.2.2 t O f),apart:=λx b aP f aT aX y=>?_}
 .by_cases f:b=a
  .subst f;simp at e;subst e;exact aK
  .simp only [f]at e;exact S.bJ b o e
 .by_cases p:t=i
  .subst p;rw [jt w]at d;obtain rfl:=bj d;rw [dD A]at L;obtain rfl:=bj L;refine⟨_,R,?_⟩;simp only [show bV r t [] t=[]from aM C];exact⟨C,_,C,Den.list (aM C) (ah.mono B)⟩
  .rw [lJ (iC p)]at d;obtain⟨bf,a_,bh⟩:=S.vars t H aE L d;exact(show bV r i [] t=r t from aJ ‹_›)▸⟨bf,a_,bh.mono B S.base λk k k e=>e⟩
 .have:=S.cell t H X L ak c;exact⟨this.1,h X (λe=>F.2.2.2 t H L ak (e▸c)) this.2⟩
 .by_cases p:t=i
  .subst p;rw [show bV r t [] t=[]from aM C]at f;exact nomatch f
  .have f:=(show bV r i [] t=r t from aJ ‹_›)▸f;have:=S.fp t O b f;refine dI this.1 (h b (λe=>?_) this.2.1) this.2.2;subst e;exact S.apart t i O A p b f (by rw [E];exact .head _)
 .by_cases bl:x=i
  .subst bl;rw [show bV r x [] x=[]from by simp [bV]]at y;cases y
  .rw [show bV r i [] x=r x from aJ ‹_›]at y
   by_cases q:b=i
   .subst q;rw [show bV r b [] b=[]from by simp [bV]];simp
   .exact((by simp [bV,q]:bV r i [] b=r b))▸(S.apart x b aP f aT aX y)
open PySem.SeqAt
structure cj(B:bD O)(fz:Fz)(s:aU)(g4:Fz)(s':aU):Prop where
 same:bQ s s'
 keep:kW B s.heap s'.heap
 inv:B.inv g4 s'.heap
 le:Le fz g4
 bJ:Le g4 s'.heap.get?
 new:∀b o,g4 b=D o->fz b=D o\/s.heap.get? b=aa
structure Ready(B:bD O)(fz:Fz)(s:aU):Prop where
 bJ:Le fz s.heap.get?
 base:bF B.h₀ s.heap
 inv:B.inv fz s.heap
 i_:∀P∈B.tabs,B.h₀.get? P=aa
 nk:∀P∈B.tabs,fz P=aa
section
variable{B:bD O}{fz g4 La:Fz}
theorem cj.ready(f:cj B fz s g4 t)(r:Ready B fz s):Ready B g4 t where
 bJ:=f.bJ
 base:=λb o e=>f.keep b (λq=>aV (r.i_ b q) e) o (r.base b o e)
 inv:=f.inv
 i_:=r.i_
 nk:=λP h=>iV λo e=>(f.new P o e).elim (aV (r.nk P h)) λq=>cY (aA mC q) (B.live r.inv P h)
theorem cj.refl(r:Ready B fz s):cj B fz s fz s:=⟨bQ.refl _,kW.refl _,r.inv,Le.refl _,r.bJ,λE E e=>.inl e⟩
theorem cj.trans(r:Ready B fz s)(a:cj B fz s g4 t)(b:cj B g4 t La k):cj B fz s La k where
 same:=a.same.trans b.same
 keep:=a.keep.trans b.keep
 inv:=b.inv
 le:=a.le.trans b.le
 bJ:=b.bJ
 new:=λx o e=>(b.new x o e).elim (a.new x o) λq=>.inr (iV λX h=>aV q (a.keep x (λl=>cY (aA mC q) (B.live a.inv x l)) X h))
theorem cj.tok(r:Ready B fz s)(A:fT):cj B fz s fz {s with toks:=A}:=⟨(cI s.heap A C),kW.refl _,r.inv,Le.refl _,r.bJ,λE E e=>.inl e⟩
theorem cj.push(r:Ready B fz s)(o:bM)(A:fT)(T:o.isFreed=ay):cj B fz s (k7 fz s.heap.objs.size o) {s with heap:=s.heap.push o,toks:=A}where
 same:=(cI _ _ C)
 keep:=(bF.push _ o).t
 inv:=bD.uC (λb x e=>ug (fH (fk (r.bJ b x e))) e) r.inv λP E x e=>eH _ e
 le:=λb x e=>ug (fH (fk (r.bJ b x e))) e
 bJ:=λb x e=>qS e (λq w=>q▸w▸eS _ T) λe=>eH _ (r.bJ b x e)
 new:=λb x e=>qS e (λq E=>.inr (iV λX h=>bA (q▸fk h) (i3 _))) .inl
theorem cj.iE(r:Ready B fz s)(o:bM)(A:fT):cj B fz s fz {s with heap:=s.heap.push o,toks:=A}where
 same:=(cI _ _ C)
 keep:=(bF.push _ o).t
 inv:=bD.ir r.inv λP E x e=>eH _ e
 le:=Le.refl _
 bJ:=λb x e=>eH _ (r.bJ b x e)
 new:=λE E e=>.inl e
theorem cj.keeps(r:Ready B fz s){t:fT}(h:bF s.heap a):cj B fz s fz {s with heap:=a,toks:=t}where
 same:=(cI _ _ C)
 keep:=h.t
 inv:=bD.ir r.inv λP E x e=>h _ _ e
 le:=Le.refl _
 bJ:=λb x e=>h _ _ (r.bJ b x e)
 new:=λE E e=>.inl e
end
def PO(X:bD q)(h:Model)(L:c3)(F:Mk)(A:Sem aB)(g:Fz)(z:T):Prop:=
 ∀(s:aU)(Q:aB->aU->Prop)(H:aB->aU->Prop),Ready X g s->(∀t j v,cj X g s j t->Den F j v z->Q v t)->aQ h L A Q H s
def PB(X:bD q)(T:Model)(L:c3)(A:Sem bw)(g:Fz)(b:bw):Prop:=
 ∀(s:aU)(Q:bw->aU->Prop)(H:aB->aU->Prop),Ready X g s->(∀t j,cj X g s j t->Q b t)->aQ T L A Q H s
structure dW(A:c3)(n:J):Prop where
 depth:A.depth+4*n+16<recursionLimit
 units:A.units+8*n+64<cLine
 handled:A.handled=aa
theorem dW.deeper(r:dW L (n+1)):dW (L.deeper G) n:=⟨by have:=r.depth;exact cT 0 (.a (.a (.a (.a (.v 0) (.n 1)) (.m 4 (.v 1))) (.n 16)) (.n 1)) (.v 2) (.a (.a (.a (.v 0) (.m 4 (.a (.v 1) (.n 1)))) (.n 16)) (.n 1)) (.v 2) C [_,_,_] this,by have:=r.units;exact cT 0 (.a (.a (.a (.a (.v 0) (.n 3)) (.m 8 (.v 1))) (.n 64)) (.n 1)) (.v 2) (.a (.a (.a (.v 0) (.m 8 (.a (.v 1) (.n 1)))) (.n 64)) (.n 1)) (.v 2) C [_,_,_] this,r.handled⟩
theorem dW.less(r:dW L u)(h:m<=u):dW L m:=⟨kS (rK (iL (xP 4 h) _) 16) r.depth,kS (rK (iL (xP 8 h) _) 64) r.units,r.handled⟩
theorem dW.d(r:dW L n):L.depth<recursionLimit:=by have:=r.depth;exact cT 0 (.a (.v 0) (.n 1)) (.v 2) (.a (.a (.a (.v 0) (.m 4 (.v 1))) (.n 16)) (.n 1)) (.v 2) C [_,_,_] this
noncomputable def ig(i:aS):bw:=aO (i.natAbs<2^9000)
noncomputable def eg(u:J):bw:=aO (u<=1000000)
noncomputable def sH(L:aS->aS->bg T):T->T->bg T
 |.int a,.int b=>L a b
 |_,_=>aa
def Jq:T->T->bg T
 |.int a,.int b=>D (.int (a+b))
 |.str a,.str b=>if eg (a.length+b.length)then D (.str (a++b))else aa
 |.list a,.list b=>if eg (a.length+b.length)then D (.list (a++b))else aa
 |_,_=>aa
def kE(n:Operator)(x H:T):bg T:=match n with
 |.Add=>Jq x H
 |.Sub=>sH (λa b=>D (.int (a-b))) x H
 |.Mult=>sH (λa b=>if ig a&&ig b then D (.int (a*b))else aa) x H
 |.FloorDiv=>sH (λa b=>if b !=0&&ig a then D (.int (a.fdiv b))else aa) x H
 |.Mod=>sH (λa b=>if b !=0&&ig a then D (.int (a.fmod b))else aa) x H
 |.Pow=>sH (λa u=>if aO (0<=u)&&ig a&&aO (u<=1000)then D (.int (a^u.toNat))else aa) x H
 |_=>aa
section
variable{B:bD O}{Z:cy}{w:bZ}{A:c3}{ρ:Mk}{fz:Fz}
theorem kK(h:eg u=Y):u<=sizeLine:=by
 have:=dh h;exact aD this (az C)
theorem JK(h:ig i=Y):i.natAbs.log2<9000\/i=0:=
 (vh _).elim (λe=>.inr (Int.natAbs_eq_zero.mp e)) λe=>.inl ((Nat.log2_lt e).mpr (dh h))
theorem Eh(h:ig i=Y):afm i<=9000:=by
 delta afm
 rcases JK h with h|h
 .split<;>(first|exact az C|exact h|omega)
 .subst h;exact gF _
theorem TH(h:ig i=Y):afq i t=ay:=by
 delta afq
 have:(if(i==0)=Y then 0 else i.natAbs.log2/30+1)<=300:=by
  rcases(JK h)with h|h
  .split
   .exact az C
   .have:i.natAbs.log2/30<300:=Nat.div_lt_of_lt_mul (by assumption);exact this
  .subst h;exact gF _
 simp only [Bool.and_eq_false_iff,decide_eq_false_iff_not];omega
theorem CK(a b:I J):(⟨(a++b).toArray⟩:af)=⟨a.toArray⟩++⟨b.toArray⟩:=by
 show _=Str.append _ _
 first|rfl|(delta Str.append;simp)
theorem str_len(a:I J):(⟨a.toArray⟩:af).length=U a:=C
theorem MJ(a b:I aB):({cls:=.type "list",data:=.seq (a.toArray++b.toArray)})=lo (a++b) 0:=by simp [lo]
theorem Ready.list(r:Ready B fz s){tk:fT}(d:bu ρ fz z p){Q:aB->aU->Prop}(R:∀t j v,cj B fz s j t->Den ρ j v (.list p)->Q v t):
  Q (.ref s.heap.objs.size) {s with heap:=s.heap.push (lo z n),toks:=tk}:=by
 have f:=cj.push r (lo z n) tk C;exact R _ _ _ f (.list (aM C) (d.mono f.le))
theorem Ready.tup(r:Ready B fz s){n:fT}(d:bu ρ fz z p){Q:aB->aU->Prop}(R:∀t j v,cj B fz s j t->Den ρ j v (.tup p)->Q v t):
  Q (.ref s.heap.objs.size) {s with heap:=s.heap.push (sT z u),toks:=n}:=by
 have f:=cj.push r (sT z u) n C;exact R _ _ _ f (.tup (aM C) (d.mono f.le))
variable{vb:aB}
theorem PO.give(e:∀(s:aU)(Q:aB->aU->Prop)(H:aB->aU->Prop),Ready B fz s->(∀v n,Den ρ fz v z->Q v {s with toks:=n})->aQ M A h Q H s):PO B M A ρ h fz z:=
 λs Q H r R=>e s Q H r λv n d=>R _ _ _ (cj.tok r n) d
theorem uA{g:aB->aB->Sem aB}(O:Den ρ fz E y)(L:Den ρ fz vb m)(e:sH i y m=D z)
  (x:∀a b h P,i a b=D z->PO B M A ρ (g (.int a h) (.int b P)) fz z):PO B M A ρ (g E vb) fz z:=by
 cases y with
 |int a=>cases m with
  |int b=>exact O.gR (P:=λv=>PO B M A ρ (g v vb) fz z) λh=>L.gR (P:=λv=>PO B M A ρ (g _ v) fz z) λP=>x a b h P e
  |_=>exact aV C e
 |_=>exact aV C e
theorem MU(w:ig a=Y)(v:ig b=Y):IntMulOk a b:=λB=>bA (afz (dh (cR.mp B).2) (Int.add_le_add (my.mpr (Eh w)) (my.mpr (Eh v)))) (nofun)
theorem JO{b:aS}(h:(b !=0)=Y):b≠0:=λe=>by subst e;exact cY C h
theorem S9(O:Den ρ fz E y)(L:Den ρ fz vb m)(h:Jq y m=D z):PO B (aI Z w) A ρ (binaryOp .Add E vb) fz z:=by
 cases y with
 |int a=>cases m with
  |int b=>
   obtain rfl:=bj h;exact O.gR (P:=λv=>PO B _ A ρ (binaryOp .Add v vb) fz _) λx=>L.gR (P:=λv=>PO B (aI Z w) A ρ _ fz _) λi=>PO.give λs Q H r R=>P.add_int (R _ _ (.int _ _))
  |_=>exact aV C h
 |str a=>cases m with
  |str b=>
   refine bT (qq h) λe j=>?_;subst j;exact O.iY (P:=λv=>PO B _ A ρ (binaryOp .Add v vb) fz _) λx=>L.iY (P:=λv=>PO B (aI Z w) A ρ _ fz _) λi=>
    PO.give λs Q H r R=>agt (λi t=>CK a b▸R _ _ (.str _ _)) ((str_len a).symm▸(str_len b).symm▸kK e)
  |_=>exact aV C h
 |list a=>cases m with
  |list b=>
   refine bT (qq h) λe j=>?_;subst j;exact O.listE (P:=λv=>PO B (aI Z w) A ρ (binaryOp .Add v vb) fz _) λl k u S O=>L.listE (P:=λv=>PO B (aI Z w) A ρ (binaryOp .Add (.ref l) v) fz _) λn G o T L s Q H r R=>
    P.add_list (r.bJ _ _ S) (r.bJ _ _ T) (MJ k G▸r.list (O.append L) R) (by rw [<-O.length,<-L.length]at e;exact kK e)
  |_=>exact aV C h
 |_=>exact aV C h
theorem TL(j:dW A u)(O:Den ρ fz E y)(L:Den ρ fz vb m)(h:kE n y m=D z):PO B (aI Z w) A ρ (binaryOp n E vb) fz z:=by
 cases n with
 |Add=>exact S9 O L h
 |Sub=>
  exact uA O L h λx b i a h=>by obtain rfl:=bj h;exact PO.give λs Q H r R=>P.sub_int (R _ _ (.int _ _))
 |Mult=>
  exact uA O L h λx b i a h=>by
   obtain⟨e,rfl⟩:=qq h;have e:=cR.mp e;exact PO.give λs Q H r R=>P.mul_int (R _ _ (.int _ _)) (MU e.1 e.2)
 |FloorDiv=>
  exact uA O L h λx b i a h=>by
   obtain⟨e,rfl⟩:=qq h;have e:=cR.mp e;exact PO.give λs Q H r R=>PyProof.Rows.floordiv_int (JO e.1) (R _ _ (.int _ _)) (.inl (TH e.2))
 |Mod=>
  exact uA O L h λx b i a h=>by
   obtain⟨e,rfl⟩:=qq h;exact PO.give λs Q H r R=>agw (JO (cR.mp e).1) (R _ _ (.int _ _))
 |Pow=>
  exact uA O L h λx b i a h=>by
   obtain⟨e,rfl⟩:=qq h;have e:=cR.mp e;have k:=cR.mp e.1;have l:=dh k.1;exact PO.give λs Q H r R=>PyProof.Rows.pow_int l (xD (Int.mul_le_mul (my.mpr (Eh k.2)) (dh e.2) l (by decide)) (by decide)) (R _ _ (.int _ _))
 |_=>exact aV C h
noncomputable def j9(L:T->T->bg bw):I T->I T->bg bw
 |[],[]=>D Y
 |x::n,H::S=>match L x H,j9 L n S with
  |D a,D b=>D (a&&b)
  |_,_=>aa
 |_,_=>D ay
theorem adk{L:T->T->bg bw}(h:L x H=D a)(O:j9 L n S=D b):j9 L (x::n) (H::S)=D (a&&b):=
 (congr (aA (λo p=>j9.match_1 (λE A=>bg bw) o p _ λE A=>aa) h) O)
def CS(L:T->T->bg bw):T->T->bg bw
 |.none,.none=>D Y
 |.bool a,.bool b=>D (a==b)
 |.int a,.int b=>D (a==b)
 |.str a,.str b=>D (a==b)
 |.list a,.list b=>if a.length==b.length then j9 L a b else D ay
 |_,_=>aa
noncomputable def gA:J->T->T->bg bw
 |0,_,_=>aa
 |u+1,a,b=>CS (gA u) a b
inductive TQ(f:T->T->bg bw):T->T->bw->Prop
 |none:TQ f .none .none Y
 |bool(a b:bw):TQ f (.bool a) (.bool b) (a==b)
 |int(a b:aS):TQ f (.int a) (.int b) (a==b)
 |str(a b:I J):TQ f (.str a) (.str b) (a==b)
 |list{a b:I T}{c:bw}(hl:a.length=b.length)(h:j9 f a b=D c):TQ f (.list a) (.list b) c
 |yG{a b:I T}(hl:a.length≠b.length):TQ f (.list a) (.list b) ay
theorem CT(h:CS L x H=D b):TQ L x H b:=by
 cases x with
 |none=>cases H with
  |none=>exact bj h▸.none
  |_=>exact aV C h
 |bool a=>cases H with
  |bool b=>exact bj h▸(.bool _ _)
  |_=>exact aV C h
 |int a=>cases H with
  |int b=>exact bj h▸(.int _ _)
  |_=>exact aV C h
 |str a=>cases H with
  |str b=>exact bj h▸(.str _ _)
  |_=>exact aV C h
 |list a=>cases H with
  |list c=>
   have h:(if(U a==U c)=Y then j9 L a c else D ay)=D b:=h
   by_cases e:U a=U c
   .rw [aM (beq_iff_eq.mpr e)]at h;exact .list e h
   .rw [aJ λq=>e (beq_iff_eq.mp q)]at h;exact bj h▸(.yG e)
  |_=>exact aV C h
 |_=>exact aV C h
theorem PN{n S:I T}{b:bw}(h:j9 L (x::n) (H::S)=D b):∃p q,L x H=D p/\j9 L n S=D q/\b=(p&&q):=by
 have h:(match L x H,j9 L n S with|D a,D b=>D (a&&b)|_,_=>aa)=D b:=h;cases w:L x H with
 |none=>rw [w]at h;exact aV C h
 |some p=>cases v:j9 L n S with
  |none=>rw [w,v]at h;exact aV C h
  |some q=>rw [w,v]at h;exact bj h▸((gx p q C C C))
theorem PM:∀{n S:I T}{b:bw},U n=U S->j9 L n S=D b->
  ∃e,b=(dm (U n)).all e/\∀t x H,n[t]?=D x->S[t]?=D H->L x H=D (e t)
 |[],S,b,X,h=>by
  rw [xG X.symm]at h;exact(aR (λE=>Y) ((bj h).symm) (λt x H h=>aV C h))
 |x::n,S,b,X,h=>by
  cases S with
  |nil=>exact nc RJ X C
  |cons H S=>
   refine e5 (PN h) λp q w v s=>?_;subst s;refine ai (PM (Dt X) v) λe j m=>?_;subst j;refine(aR (λt=>Nat.casesOn t p e) ?_ (λt a b u f=>?_))
   .simp only [gB,List.range_succ_eq_map,List.all_cons,List.all_map];rfl
   .cases t with
    |zero=>exact bj u▸bj f▸w
    |succ t=>exact m t a b u f
theorem gy{s:aU}(g:Le fz s.heap.get?)(e:fz a=D (lo z u)):s.heap.IsList a z.toArray:=(i12 _ (g _ _ e) C ⟨u,C⟩)
theorem yD{s:aU}(g:Le fz s.heap.get?)(e:fz a=D (sT z u)):s.heap.IsTuple a z.toArray:=(i12 _ (g _ _ e) C ⟨u,C⟩)
theorem G8(a b:I J):((⟨a.toArray⟩:af)==⟨b.toArray⟩)=(a==b):=by
 rw [<-str_beq]
theorem acp{z G:I aB}(h:({cls:=c,data:=.seq z.toArray u}:bM)={cls:=c,data:=.seq G.toArray m}):z=G/\u=m:=
 (Data.seq.inj (aA RX h)).imp (aA Q1) id
theorem Ze(h:lo z u=lo G m):z=G/\u=m:=acp h
theorem bu.UA(d:bu ρ fz (v::z) p):∃A r,p=A::r/\Den ρ fz v A/\bu ρ fz z r:=by cases d with|cons a b=>exact(gx _ _ C a b)
theorem MI(O:Den ρ fz v (.list a))(P:Den ρ fz v (.list c)):∃z,bu ρ fz z a/\bu ρ fz z c:=by
 refine ji O.inv λx z u S t h=>?_;subst h;exact ji P.inv λH G m T L e=>(aR z t ((Ze (bj (ae T.symm ((aA fz (Sj e)).symm.trans S)))).1▸L))
theorem adl(g:∀v x H b,Den ρ fz v x->Den ρ fz v H->L x H=D b->b=Y)(d:bu ρ fz z n):∀{S:I T}{b:bw},bu ρ fz z S->j9 L n S=D b->b=Y:=
 d.ind (P:=λz n=>∀{S:I T}{b:bw},bu ρ fz z S->j9 L n S=D b->b=Y)
  (λ{S b}B h=>by rw [xG B.length.symm]at h;exact(bj h).symm)
  λd E a=>@λE E B h=>by
   obtain⟨P,r,rfl,B,i⟩:=B.UA;obtain⟨p,q,w,e,rfl⟩:=PN h;rw [g _ _ _ p d B w,a i e];rfl
theorem LW(e:Sh a t=.int b P):a=b:=by refine bT (PySem.Value.int.inj e) λn j=>?_;subst n j;rfl
theorem Ps{a b:I J}(e:Dz ⟨a.toArray⟩ t=.str ⟨b.toArray⟩ P):a=b:=by cases e;rfl
theorem Hg:∀{u:J}{v:aB}{x H:T}{b:bw},Den ρ fz v x->Den ρ fz v H->gA u x H=D b->b=Y
 |0,_,_,_,_,_,_,h=>aV C h
 |u+1,v,x,H,b,o,n,h=>by
  cases CT h with
  |none=>rfl
  |bool a c=>obtain rfl:=PySem.Value.bool.inj (ae o.inv.symm n.inv);exact aM C
  |int a c=>
   refine bG o.inv λA j=>?_;subst j;exact bG n.inv λP e=>beq_iff_eq.mpr (LW e)
  |str a c=>
   refine bG o.inv λA j=>?_;subst j;exact bG n.inv λP e=>beq_iff_eq.mpr (Ps e)
  |list X h=>exact ai (MI o n) λz d B=>adl (λv x H b=>Hg) d B h
  |yG X=>exact ai (MI o n) λz d B=>bA (ae d.length.symm B.length) X
theorem JG{z:I aB}(e:z[t]?=D v)(h:t<z.toArray.size):z.toArray[t]=v:=(cG.mp e).2
theorem F9{R:aB->aB->bw->Prop}{S:I T}{r:bw}(O:bu ρ fz z n)(L:bu ρ fz G S)(X:U n=U S)(l:j9 k n S=D r)
  (s:∀v w x H b,Den ρ fz v x->Den ρ fz w H->k x H=D b->R v w b):
  ∃e,r=(dm z.toArray.size).all e/\∀t(h:t<z.toArray.size)(a:t<G.toArray.size),R z.toArray[t] G.toArray[t] (e t):=by
 refine ai (PM X l) λe j m=>?_;subst j;refine(aR e (aA (λu=>(dm u).all e) O.length.symm) (λt h a=>?_));have i:=dD ((O.length▸h:t<U n));have b:=dD (show t<U S from L.length▸a);exact ai (O.get i) λv q f=>ai (L.get b) λw g o=>(JG q h).symm▸(JG g a).symm▸(s _ _ _ _ _ f o (m t _ _ i b))
theorem up1(i:a+(u+1)<cLine):a+1+u<cLine:=by simp only [vp,qD 1 u];exact i
theorem w6(i:a+u<cLine):a<cLine:=kS (fO a u) i
theorem GX{n S:I T}(O:bu ρ fz z n)(L:bu ρ fz G S)(X:U n=U S):z.toArray.size=G.toArray.size:=(ae O.length X).trans L.length.symm
theorem GY{n S:I T}(O:bu ρ fz z n)(L:bu ρ fz G S)(X:U n≠U S):(z.toArray.size !=G.toArray.size)=Y:=
 bne_iff_ne.mpr λe=>X (ae (O.length.symm.trans e) L.length)
theorem Ba(g:Le fz s.heap.get?):∀{u:J}{A:c3}{E vb:aB}{y m:T}{b:bw},A.units+u<cLine->Den ρ fz E y->Den ρ fz vb m->gA u y m=D b->EqAt A s E vb b
 |0,_,_,_,_,_,_,_,_,_,h=>aV C h
 |u+1,A,E,vb,y,m,b,i,O,L,h=>by
  cases CT h with
  |none=>exact O.qo (P:=λv=>EqAt A s v vb Y) (L.qo (P:=λv=>EqAt A s _ v Y) (EqAt.same _))
  |bool x H=>exact O.tZ (P:=λv=>EqAt A s v vb _) (L.tZ (P:=λv=>EqAt A s _ v _) (EqAt.bool_bool _ _))
  |int x H=>exact O.gR (P:=λv=>EqAt A s v vb _) λk=>L.gR (P:=λv=>EqAt A s _ v _) λP=>EqAt.int_int _ _ _ _
  |str x H=>exact O.iY (P:=λv=>EqAt A s v vb _) λk=>L.iY (P:=λv=>EqAt A s _ v _) λP=>G8 x H▸EqAt.str_str _ _ _ _
  |list X j=>
   exact O.listE (P:=λv=>EqAt A s v vb _) λx z o S t=>L.listE (P:=λv=>EqAt A s _ v _) λH G n e a=>by
    by_cases R:x=H
    .subst R;exact(Hg (Den.list S t) (Den.list e a) h)▸(EqAt.same _)
    .refine ai (F9 (R:=EqAt A.in1 s) t a X j λv w x H b=>Ba g (up1 i)) λf q l=>?_;subst q;exact EqAt.of_refs R (RcAt.lists (gy g S) (gy g e) (GX t a X) (w6 i) l)
  |yG X=>
   exact O.listE (P:=λv=>EqAt A s v vb _) λx z o S t=>L.listE (P:=λv=>EqAt A s _ v _) λH G n e a=>by
    by_cases R:x=H
    .subst R;exact cY C (Hg (Den.list S t) (Den.list e a) h)
    .exact EqAt.of_refs R (agH (gy g S) (gy g e) (GY t a X) (w6 i))
end
section
variable{B:bD O}{Z:cy}{w:bZ}{A:c3}{ρ:Mk}{fz:Fz}{va vb:aB}{ta tb:T}
noncomputable def zk:T->bw
 |.str _=>Y
 |.int _=>Y
 |_=>ay
theorem PY(h:CS L t (.str l)=D b):∃a,t=.str a/\b=(a==l):=by
 cases t<;>first|exact aV C h|exact⟨_,C,(bj h).symm⟩
theorem PX(h:CS L t (.int l)=D b):∃a,t=.int a/\b=(a==l):=by
 cases t<;>first|exact aV C h|exact⟨_,C,(bj h).symm⟩
theorem adh(j:zk x=Y)(d:Den ρ fz v t)(B:Den ρ fz v P)(h:gA (u+1) t x=D b)(O:gA (u+1) P x=D z):b=z:=by
 cases x with
 |str l=>
  refine ai (PY h) λa e q=>ai (PY O) λT R w=>?_;subst e R q w;exact bG d.inv λt e=>bG B.inv λP R=>aA (·==l) (Ps (ae e.symm R))
 |int l=>
  refine ai (PX h) λa e q=>ai (PX O) λT R w=>?_;subst e R q w;exact bG d.inv λt e=>bG B.inv λP R=>aA (·==l) (LW (ae e.symm R))
 |_=>exact cY C j
theorem aby(g:Le fz s.heap.get?)(i:A.units+u<cLine)(O:Den ρ fz va ta)(L:Den ρ fz vb tb)(h:gA u ta tb=D b):RcAt A s va vb b:=by
 cases u with
 |zero=>exact aV C (h)
 |succ u=>
  cases CT h with
  |none=>exact O.qo (P:=λv=>RcAt A s v vb Y) (L.qo (P:=λv=>RcAt A s _ v Y) RcAt.none_none)
  |bool x H=>exact O.tZ (P:=λv=>RcAt A s v vb _) (L.tZ (P:=λv=>RcAt A s _ v _) (RcAt.bool_bool _ _))
  |int x H=>exact O.gR (P:=λv=>RcAt A s v vb _) λl=>L.gR (P:=λv=>RcAt A s _ v _) λP=>RcAt.int_int _ _ _ _
  |str x H=>exact O.iY (P:=λv=>RcAt A s v vb _) λl=>L.iY (P:=λv=>RcAt A s _ v _) λP=>G8 x H▸RcAt.str_str _ _ _ _
  |list X n=>
   exact O.listE (P:=λv=>RcAt A s v vb _) λx z e S t=>L.listE (P:=λv=>RcAt A s _ v _) λH G k T a=>by
    refine ai (F9 (R:=EqAt A.in1 s) t a X n λv w x H b=>Ba g (up1 i)) λo j m=>?_;subst j;exact RcAt.lists (gy g S) (gy g T) (GX t a X) (w6 i) m
  |yG X=>
   exact O.listE (P:=λv=>RcAt A s v vb _) λx z e S t=>L.listE (P:=λv=>RcAt A s _ v _) λH G k T a=>
    agH (gy g S) (gy g T) (GY t a X) (w6 i)
theorem abz(g:Le fz s.heap.get?)(i:A.units+u<cLine)(O:Den ρ fz va ta)(L:Den ρ fz vb tb)(h:gA u ta tb=D b):RcNeAt A s va vb (!b):=by
 cases u with
 |zero=>exact nomatch h
 |succ u=>
  cases CT h with
  |none=>exact O.qo (P:=λv=>RcNeAt A s v vb ay) (L.qo (P:=λv=>RcNeAt A s _ v ay) RcNeAt.none_none)
  |bool x H=>exact O.tZ (P:=λv=>RcNeAt A s v vb _) (L.tZ (P:=λv=>RcNeAt A s _ v _) (RcNeAt.bool_bool _ _))
  |int x H=>exact O.gR (P:=λv=>RcNeAt A s v vb _) λl=>L.gR (P:=λv=>RcNeAt A s _ v _) λP=>RcNeAt.int_int _ _ _ _
  |str x H=>exact O.iY (P:=λv=>RcNeAt A s v vb _) λl=>L.iY (P:=λv=>RcNeAt A s _ v _) λP=>G8 x H▸RcNeAt.str_str _ _ _ _
  |list X n=>
   exact O.listE (P:=λv=>RcNeAt A s v vb _) λx z e S t=>L.listE (P:=λv=>RcNeAt A s _ v _) λH G k T a=>by
    refine ai (F9 (R:=EqAt A.in1 s) t a X n λv w x H b=>Ba g (up1 i)) λo j m=>?_;subst j;exact RcNeAt.lists (gy g S) (gy g T) (GX t a X) (w6 i) m
  |yG X=>
   exact O.listE (P:=λv=>RcNeAt A s v vb _) λx z e S t=>L.listE (P:=λv=>RcNeAt A s _ v _) λH G k T a=>
    RcNeAt.lists_lengths (gy g S) (gy g T) (GY t a X) (w6 i)
noncomputable def jO(x:T):I T->bg bw
 |[]=>D ay
 |H::S=>match gA 6 H x,jO x S with
  |D a,D b=>D (a||b)
  |_,_=>aa
theorem X9(h:jO x (H::S)=D b):∃p q,gA 6 H x=D p/\jO x S=D q/\b=(p||q):=by
 have h:(match gA 6 H x,jO x S with|D a,D b=>D _|_,_=>aa)=D b:=h;cases w:gA 6 H x with
 |none=>rw [w]at h;exact aV C h
 |some p=>cases v:jO x S with
  |none=>rw [w,v]at h;exact aV C h
  |some q=>rw [w,v]at h;exact bj h▸((gx p q C C C))
theorem X8(d:bu ρ fz z S):∀{b:bw},jO x S=D b->
  (∀v∈z,∃A c,Den ρ fz v A/\gA 6 A x=D c)/\∀e,(∀v A c,v∈z->Den ρ fz v A->gA 6 A x=D c->e v=c)->z.any e=b:=
 d.ind (P:=λz S=>∀{b:bw},jO x S=D b->(∀v∈z,∃A c,Den ρ fz v A/\gA 6 A x=D c)/\∀e,(∀v A c,v∈z->Den ρ fz v A->gA 6 A x=D c->e v=c)->z.any e=b)
  (λh=>⟨λv a=>(bA (a) dR),λe m=>bj h⟩) λ{v z _ _}d E n E h=>by
  refine e5 (X9 h) λp q w l s=>?_;subst s;refine bT (n l) λf X=>⟨λy i=>(cD.mp i).elim (λq=>q▸(gg _ _ d w)) (f y),λe m=>?_⟩;apply ae (Iq);simp only [m _ _ _ gC d w,X e λv A c a=>m v A c (fF _ a)]
theorem Gz{R:Type}{x:bg R}{H:R}(h:(if c=Y then x else aa)=D H):c=Y/\x=D H:=by cases c;exact aV C h;exact⟨C,h⟩
open Classical in
theorem Fs(j:zk x=Y)(g:Le fz s.heap.get?)(i:A.units+8<cLine)(o:Den ρ fz l x){z:I aB}{b:bw}(n:bu ρ fz z S)(a:jO x S=D b):
  ∃e,(∀H,H∈z.toArray->EqAt A.in1 s H l (e H))/\z.toArray.any e=b:=by
 refine bT (X8 n a) λf X=>?_
 let e:=λv=>aO (∃h,Den ρ fz v h/\gA 6 h x=D Y)
 have m:∀v h c,v∈z->Den ρ fz v h->gA 6 h x=D c->e v=c:=λv h c E d q=>by
  cases c with
  |true=>exact cM (aR h d q)
  |false=>exact ee λG=>ai G λP B w=>cY C (adh j d B q w)
 refine(aR e (λH L=>?_) (ae afC (X e m)));have L:=afX.mp L;exact d5 (f H L) λh c d q=>(m H h c L d q)▸(Ba g (kS (rM _) i) d o q)
noncomputable def L2:T->bg bw
 |.none=>D ay
 |_=>aa
noncomputable def L1(a b:bg bw):T->bg bw
 |.atom=>a
 |.str _=>b
 |_=>aa
def FG:T->T->bg bw
 |.atom=>L1 (D Y) (D ay)
 |.str _=>L1 (D ay) aa
 |.none=>λA=>(L2 A).map (!·)
 |.bW (.ref _)=>L2
 |_=>λE=>aa
def nK(Z:cy)(w:bZ)(A:c3)(Q H:aB->aU->Prop)(s:aU)(va vb:aB)(b:bw):Prop:=
 (Q (.bool b) s->aQ (aI Z w) A (compareOp .Is va vb) Q H s)/\(Q (.bool (!b)) s->aQ (aI Z w) A (compareOp .IsNot va vb) Q H s)
theorem L8(O:Den ρ fz va ta)(L:Den ρ fz vb tb)(h:FG ta tb=D b):nK Z w A Q H s va vb b:=by
 have i:∀{va vb:aB}{b:bw},D ay=D b->plainIs va vb=Y->va≠vb->nK Z w A Q H s va vb b:=
  λe p u=>bj e▸⟨(wpAny_is_other p u),(wpAny_isNot_other p u)⟩
 cases ta with
 |atom=>cases tb with
  |atom=>exact bj h▸O.AP (P:=λv=>nK Z w A Q H s v vb _) (L.AP (P:=λv=>nK Z w A Q H s _ v _) ⟨(wpAny_is_ref_self),(wpAny_isNot_ref_self)⟩)
  |str l=>exact O.AP (P:=λv=>nK Z w A Q H s v vb _) (L.iY (P:=λv=>nK Z w A Q H s _ v _) λa=>i h C nofun)
  |_=>exact aV C h
 |str l=>cases tb with
  |atom=>exact O.iY (P:=λv=>nK Z w A Q H s v vb _) λa=>L.AP (P:=λv=>nK Z w A Q H s _ v _) (i h C nofun)
  |_=>exact aV C h
 |none=>cases tb with
  |none=>exact bj h▸O.qo (P:=λv=>nK Z w A Q H s v vb _) (L.qo (P:=λv=>nK Z w A Q H s _ v _) ⟨(wpAny_is_self C),(wpAny_isNot_self C)⟩)
  |_=>exact aV C h
 |bW v=>cases v with
  |ref x=>cases tb with
   |none=>exact O.Oh (P:=λv=>nK Z w A Q H s v vb _) (L.qo (P:=λv=>nK Z w A Q H s _ v _) (i h C nofun))
   |_=>exact aV C h
  |_=>exact aV C h
 |_=>exact aV C h
noncomputable def AY(L:aS->aS->bw):T->T->bg bw
 |.int a,.int b=>D (L a b)
 |_,_=>aa
noncomputable def Xk:T->T->bg bw
 |.int a,.int b=>D (aO (a>b))
 |.str a,.str b=>D (aO (b<a))
 |_,_=>aa
noncomputable def Fp:T->I J->bg bw
 |.str [c],b=>D (aO (c∈b))
 |_,_=>aa
def Ul(x:T):T->bg bw
 |.str b=>Fp x b
 |.list l=>if zk x=Y then jO x l else aa
 |.tup l=>if zk x=Y then jO x l else aa
 |_=>aa
def Uv(x:T):T->bg bw
 |.str b=>(Fp x b).map (!·)
 |.list l=>if zk x=Y then(jO x l).map (!·)else aa
 |_=>aa
def gb(n:CmpOp)(a b:T):bg bw:=match n with
 |.Eq=>gA 6 a b
 |.NotEq=>(gA 6 a b).map (!·)
 |.Lt=>AY (λa b=>aO (a<b)) a b
 |.LtE=>AY (λa b=>aO (a<=b)) a b
 |.Gt=>Xk a b
 |.GtE=>AY (λa b=>aO (a>=b)) a b
 |.In=>Ul a b
 |.NotIn=>Uv a b
 |.Is=>FG a b
 |.IsNot=>(FG a b).map (!·)
theorem PO.same(e:∀(s:aU)(Q:aB->aU->Prop)(H:aB->aU->Prop),Ready B fz s->Q (.bool b) s->aQ M A h Q H s):PO B M A ρ h fz (.bool b):=
 λs Q H r R=>e s Q H r (R _ _ _ (cj.refl r) (.bool b))
theorem AZ{g:aB->aB->Sem aB}(O:Den ρ fz va ta)(L:Den ρ fz vb tb)(h:AY x ta tb=D b)
  (i:∀a b e P s(Q E:aB->aU->Prop),Q (.bool (x a b)) s->aQ M A (g (.int a e) (.int b P)) Q E s):PO B M A ρ (g va vb) fz (.bool b):=by
 cases ta with
 |int l=>cases tb with
  |int H=>
   exact bj h▸(O.gR (P:=λv=>PO B M A ρ (g v vb) fz _) λe=>L.gR (P:=λv=>PO B M A ρ _ fz _) λP=>PO.same λs Q E r R=>i l H e P s Q E R)
  |_=>exact aV C h
 |_=>exact aV C h
theorem LQ(O:Den ρ fz va ta)(h:Fp ta l=D b):∃c A,va=.str ⟨#[c]⟩ A/\b=aO (c∈l):=by
 cases ta with
 |str x=>match x,O,h with
  |[c],O,h=>exact bG O.inv λA e=>(gg c A e ((bj h).symm))
 |_=>exact aV C h
theorem A0(E:dW A n)(O:Den ρ fz va ta)(L:Den ρ fz vb tb)(h:gb y ta tb=D b):PO B (aI Z w) A ρ (compareOp y va vb) fz (.bool b):=by
 have q:A.units+8<cLine:=cT 0 (.a (.a (.v 0) (.n 8)) (.n 1)) (.v 2) (.a (.a (.a (.v 0) (.m 8 (.v 1))) (.n 64)) (.n 1)) (.v 2) C [_,_,_] E.units;have p:A.units+6<cLine:=kS (iL (az C) _) q;cases y with
 |Eq=>exact PO.same λs Q H r R=>aby r.bJ p O L h Z w H Q R
 |NotEq=>
  refine ai (pR.mp h) λc k d=>?_;subst d;exact PO.same λs Q H r R=>abz r.bJ p O L k Z w H Q R
 |Lt=>exact AZ O L h λa b e i s Q H R=>P.lt_int R
 |LtE=>exact AZ O L h λa b e i s Q H R=>P.le_int R
 |GtE=>exact AZ O L h λa b e i s Q H R=>P.ge_int R
 |Gt=>
  cases ta with
  |int l=>exact AZ O L (by cases tb<;>first|exact h|cases h) λa b e i s Q H R=>P.gt_int R
  |str l=>cases tb with
   |str X=>
    obtain rfl:=bj h;exact O.iY (P:=λv=>PO B (aI Z w) A ρ (compareOp .Gt v vb) fz _) λe=>L.iY (P:=λv=>PO B (aI Z w) A ρ (compareOp .Gt (.str ⟨l.toArray⟩ e) v) fz _) λi=>PO.same λs Q H r R=>P.gt_str (R)
   |_=>exact aV C h
  |_=>exact aV C h
 |In=>
  cases tb with
  |str g=>
   refine d5 (LQ O h) λc e d u=>?_;subst d u;exact L.iY (P:=λv=>PO B (aI Z w) A ρ (compareOp .In _ v) fz _) λi=>PO.same λs Q H r R=>P.in_str (by rw [agJ];exact R)
  |list g=>
   exact L.listE (P:=λv=>PO B (aI Z w) A ρ (compareOp .In va v) fz _) λl z m T x=>PO.same λs Q H r R=>bT (Gz h) λj h=>ai (Fs (A:=A) j r.bJ q O x h) λt o f=>in_listAt t (gy r.bJ T) o (f▸R)
  |tup g=>
   exact L.Hp (P:=λv=>PO B (aI Z w) A ρ (compareOp .In va v) fz _) λl z m T x=>PO.same λs Q H r R=>bT (Gz h) λj h=>ai (Fs (A:=A) j r.bJ q O x h) λt o f=>in_tupleAt t (yD r.bJ T) o (f▸R)
  |_=>exact aV C h
 |NotIn=>
  cases tb with
  |str g=>
   refine ai (pR.mp h) λb k d=>?_;subst d;refine d5 (LQ O k) λc e d u=>?_;subst d u;exact L.iY (P:=λv=>PO B (aI Z w) A ρ (compareOp .NotIn _ v) fz _) λi=>PO.same λs Q H r R=>P.notIn_str (by rw [agJ];exact R)
  |list g=>
   refine bT (Gz h) λj h=>ai (pR.mp h) λb k d=>?_;subst d;exact L.listE (P:=λv=>PO B (aI Z w) A ρ (compareOp .NotIn va v) fz _) λl z m T x=>PO.same λs Q H r R=>ai (Fs (A:=A) j r.bJ q O x k) λt o f=>notIn_listAt t (gy r.bJ T) o (f▸R)
  |_=>exact aV C h
 |Is=>exact PO.same λs Q H r R=>(L8 O L h).1 R
 |IsNot=>
  refine ai (pR.mp h) λc k d=>?_;subst d;exact PO.same λs Q H r R=>(L8 O L k).2 R
end
theorem aW.ready(S:aW X F hB g G n k y m r s.heap):Ready X g s where
 bJ:=S.bJ
 base:=S.base
 inv:=S.inv
 i_:=λP h=>by
  cases e:X.h₀.get? P with
  |none=>rfl
  |some o=>have:=S.f_ P o e;exact aV ((S.tab P h).1) this
 nk:=λP h=>(S.tab P h).2.1
theorem SR.ready(S:SR X F hB g G n k y s.heap):Ready X g s:=let⟨_,_,_,S⟩:=S;S.ready
theorem aW.step(S:aW X F hB g G n k y m r s.heap)(f:cj X g s j t):aW X F hB j G n k y m r t.heap:=
 S.grow f.keep f.inv f.le λb o e=>(f.new b o e).imp id λq=>⟨q,f.bJ b o e⟩
theorem SR.step(S:SR X F hB g G n k y s.heap)(f:cj X g s j t):SR X F hB j G n k y t.heap:=let⟨a,m,L,S⟩:=S;⟨a,m,L,S.step f⟩
def cP(X:bD q)(m:cy)(w:bZ)(L:c3)(F:Mk)(G:c4)(n:I af)(k:J)(y:I (AV q))(e:cE)(x:I (AV q))(z:T):Prop:=
 ∀(h:HB)(g:Fz)(s:aU)(Q:aB->aU->Prop)(H:aB->aU->Prop),SR X F h g G n k y s.heap->
  (∀t j v,bQ s t->Le g j->SR X F h j G n k x t.heap->Den F j v z->Q v t)->aQ (aI m w) L (eval e G) Q H s
def gn(X:bD q)(m:cy)(w:bZ)(L:c3)(F:Mk)(G:c4)(n:I af)(k:J)(y:I (AV q))(e:cE)(x:I (AV q))(b:bw):Prop:=
 ∀(T:HB)(g:Fz)(s:aU)(Q:bw->aU->Prop)(H:aB->aU->Prop),SR X F T g G n k y s.heap->
  (∀t j,bQ s t->Le g j->SR X F T j G n k x t.heap->Q b t)->aQ (aI m w) L (isTrue e G (eval e G)) Q H s
def kA(X:bD q)(m:cy)(w:bZ)(L:c3)(F:Mk)(G:c4)(n:I af)(k:J)(y:I (AV q))(u:h_)(e:I cE)(x:I (AV q))(p:I T):Prop:=
 ∀(h:HB)(g:Fz)(s:aU)(Q:I aB->aU->Prop)(H:aB->aU->Prop),SR X F h g G n k y s.heap->
  (∀t j z,bQ s t->Le g j->SR X F h j G n k x t.heap->bu F j z p->Q z t)->aQ (aI m w) L (spliced (backTo u (starEach e G))) Q H s
def sU:T->bg bw
 |.none=>D ay
 |.bool b=>D b
 |.int i=>D (i !=0)
 |.str l=>if eg l.length then D (!l.isEmpty)else aa
 |.list l=>if eg l.length then D (!l.isEmpty)else aa
 |_=>aa
section
variable{B:bD O}{Z:cy}{w:bZ}{A:c3}{ρ:Mk}{V:c4}{xs:I af}
theorem zh(h:eg u=Y):(u:aS)<2^63:=Il (my.mpr (dh h)) (by decide)
theorem CV(k:dW A u){b:bw}(d:Den ρ g i y)(h:sU y=D b):PB B (aI Z w) A (truthy i) g b:=by
 intro s Q H r R;cases y with
 |none=>obtain rfl:=bj h;exact d.qo (P:=λv=>aQ (aI Z w) A _ Q H s) (λE E E=>R _ _ (cj.refl r))
 |bool b=>obtain rfl:=bj h;exact d.tZ (P:=λv=>aQ (aI Z w) A _ Q H s) (x6 (R _ _ (cj.refl r)))
 |int x=>obtain rfl:=bj h;exact d.gR (P:=λv=>aQ (aI Z w) A _ Q H s) λa=>P.truthy_int (R _ _ (cj.refl r))
 |str l=>
  refine bT (qq h) λe j=>?_;subst j;refine d.iY (P:=λv=>aQ (aI Z w) A (truthy v) Q H s) λa=>P.truthy_str (by simp only [str_len];exact Rm.mpr (zh e)) ?_;simp only [str_len,show(((U l):aS)!=0)=!l.isEmpty from by cases l<;>rfl];exact R _ _ (cj.tok r _)
 |list l=>
  refine bT (qq h) λe j=>?_;subst j;exact d.listE (P:=λv=>aQ (aI Z w) A (truthy v) Q H s) λn z u S O=>wpAny_truthy_list (gy r.bJ S) (qB.symm▸O.length.symm▸(zh e)) ((show z.toArray.isEmpty=l.isEmpty from by cases O<;>rfl)▸(R _ _ (cj.tok r _)))
 |_=>exact aV C h
theorem eL(e:gm V)(z:s.heap.Ns V.locals m)(u:eE V m s.heap x (D v))(h:Q v s):
  aQ (aI Z w) A (loadName V x) Q H s:=by
 rcases u with⟨X,d⟩|⟨X|⟨X,l⟩,c,i,o⟩
 .exact IY e.kind X z d.symm h
 .exact wpAny_loadName_cell e.kind X i o h
 .exact wpAny_loadName_free e.kind X i o h l
theorem Wa{i:J}(j:xs[i]?=D x)(X:y[i]?=D (.t z))(P:(x==("__debug__"))=ay):cP B Z w A ρ V xs k y (.Name x p) y z:=by
 rintro T g s a H⟨h,m,L,S⟩R;obtain⟨Q,u,e,v,rfl,d⟩:=S.vars i x _ j X;exact eO (eL h S.ns u (R s g v (bQ.refl s) (Le.refl _) ⟨h,m,L,S⟩ d)) P
theorem Wb{x:af}(e:xs[i]?=D x)(X:y[i]?=D (.own l))(P:(x==("__debug__"))=ay):
  cP B Z w A ρ V xs r y (.Name x p) (y.set i (.t (.list l))) (.list l):=by
 rintro T g s Q H⟨h,m,n,S⟩R;refine cps λE v=>dG (S.freeze X) λj b k a=>?_;refine Ky (k) λo z q f L u t d E E E=>?_;apply v;obtain rfl:=bj (e▸L);exact eO (eL h S.ns u (R s j _ (bQ.refl s) b ⟨h,m,_,a⟩ (.list t d))) P
def Zd(c:Const):T->Prop
 |.int b=>c=.int b
 |.str b=>c=.str ⟨b.toArray⟩
 |.bool b=>c=.bool b
 |.none=>c=.none
 |_=>False
theorem yo(h:Zd c τ):cP B Z w A ρ V xs k y (.Constant c v p) y τ:=by
 intro T g s Q H S R;cases τ with
 |int b=>exact h▸(So (R _ g _ (cI _ _ C) (Le.refl _) S (.int _ _)))
 |str b=>exact h▸(rI (R _ g _ (cI _ _ C) (Le.refl _) S (.str _ _)))
 |bool b=>exact h▸(λE E E=>R _ g _ (bQ.refl s) (Le.refl _) S (.bool _))
 |none=>exact h▸(λE E E=>R _ g _ (bQ.refl s) (Le.refl _) S .none)
 |_=>exact h.elim
theorem cP.to(p:PO B (aI Z w) A ρ h g z)(S:SR B ρ hB g V xs k y s.heap)
  (R:∀t j v,bQ s t->Le g j->SR B ρ hB j V xs k y t.heap->Den ρ j v z->Q v t):aQ (aI Z w) A h Q H s:=
 p s Q H S.ready λt j v f d=>R t j v f.same f.le (S.step f) d
theorem V0(i:dW A G)(t:cP B Z w A ρ V xs k y e P a)(v:cP B Z w A ρ V xs k P x X m)(b:kE n a m=D z):
  cP B Z w A ρ V xs k y (.BinOp e n x ah) X z:=by
 intro T g l aq aC S R;exact DB (t T g l _ _ S λc j aE q o E O=>v T j c _ _ E λaj ak ao s h f L=>(cP.to (TL i (O.mono h) L b) f λr u H p Q F d=>R r u H ((q.trans s).trans p) ((o.trans h).trans Q) F d))
theorem V4(i:dW A ah)(a:cP B Z w A ρ V xs k s u P y)(v:cP B Z w A ρ V xs k P x X m)(e:gb n y m=D b)(R:behindInMarks n x=ay):
  cP B Z w A ρ V xs k s (.Compare u [n] [x] aC) X (.bool b):=by
 intro T g l ao aq S j;exact wpAny_Compare1 (a T g l _ _ S λc t aE q o E O=>v T t c _ _ E λaj ak b f h r L=>(cP.to (A0 i (O.mono h) L e) r λz H p F Q G d=>j z H p ((q.trans f).trans F) ((o.trans h).trans Q) G d)) R
theorem Vb(s:dW A G)(i:cP B Z w A ρ V xs k l r P y)(v:cP B Z w A ρ V xs k P x X m)(e:gb n y m=D b)(R:behindInMarks n x=ay):
  gn B Z w A ρ V xs k l (.Compare r [n] [x] aE) X b:=by
 intro T g j aq aC S t;refine Ad (i T g j _ _ S λc a ah q o E O=>v T a c _ _ E λaj ak b u h f L=>(cP.to (A0 s (O.mono h) L e) f λz p ao Q H F d=>?_)) R;obtain rfl:=d.inv;exact x6 (t z p ((q.trans u).trans Q) ((o.trans h).trans H) F)
theorem Vf(i:dW A n)(a:cP B Z w A ρ V xs k l e P y)(h:sU y=D b)(m:∀x,isTrue e V x=(do let v<-x;standAt e.pos;holding [v] (truthy v))):
  gn B Z w A ρ V xs k l e P b:=by
 intro T g s Q H S R;exact agv (a T g s _ _ S λc j d q o E O=>(CV i O h c _ _ E.ready λt u f=>R t u (q.trans f.same) (o.trans f.le) (E.step f))) (m _)
theorem Vd{b:bw}(h:gn B Z w A ρ V xs k y e P b):gn B Z w A ρ V xs k y (.UnaryOp .Not e p) P (!b):=by
 intro T g s Q H S R;exact PyProof.Rows.isTrue_not (h T g s _ _ S λc a q o E=>R c a q o E)
theorem Wc(h:cP B Z w A ρ V xs k y e a (.int i)):cP B Z w A ρ V xs k y (.UnaryOp .USub e p) a (.int (-i)):=by
 intro T g s Q H S R;refine wpAny_UnaryOp (h T g s _ _ S λc x l q o E O=>?_);obtain⟨b,rfl⟩:=O.inv;exact P.neg_int (R _ x _ (q.trans (cI _ _ C)) o E (.int _ _))
theorem V_(h:gn B Z w A ρ V xs k y e P b)(v:cP B Z w A ρ V xs k P (if b then x else m) X z):cP B Z w A ρ V xs k y (.IfExp e x m p) X z:=by
 intro T g s Q H S R;refine wpAny_IfExp (h T g s _ _ S λc a q o E=>?_);have:=v T a c Q H E λt u l i n j d=>R t u l (q.trans i) (o.trans n) j d;cases b<;>exact this
theorem lU:kA B Z w A ρ V xs k y u [] y []:=λT g s Q H S R=>lK (R s g [] (bQ.refl s) (Le.refl _) S .nil)
theorem Pk(h:∀x p,e≠.Starred x p):starEach (e::Q) V=(ay,eval e V)::starEach Q V:=by cases e<;>first|rfl|exact bA C (h _ _)
theorem mS(h:∀x p,e≠.Starred x p):backTo pos (starEach (e::es) V)=(ay,eval e V)::backTo pos (starEach es V):=ae (aA _ (Pk h)) C
theorem qO(j:cP B Z w A ρ V xs k y e P z)(v:kA B Z w A ρ V xs k P u Q X p)(a:∀x i,e≠.Starred x i):
  kA B Z w A ρ V xs k y u (e::Q) X (z::p):=by
 intro T g s m H S R;exact mS a▸(pS (j T g s _ _ S λc l t q o E O=>v T l c _ _ E λF r d n h f b=>(R F r _ (q.trans n) (o.trans h) f (.cons (O.mono h) b))))
theorem V'(h:kA B Z w A ρ V xs k y a Q P p)(e:eg (U p)=Y):cP B Z w A ρ V xs k y (.List Q a) P (.list p):=by
 intro T g s i H S R;refine wpAny_List (h T g s _ _ S λc x z q o E b=>⟨?_,?_⟩)
 .exact(b.length)▸(kK e)
 .exact(E.ready).list b λt u v f d=>R t u v (q.trans f.same) (o.trans f.le) (E.step f) d
theorem Bc(h:kA B Z w A ρ V xs k y a Q P p)(e:eg (U p)=Y):cP B Z w A ρ V xs k y (.Tuple Q i a) P (.tup p):=by
 intro T g s l H S R;refine wpAny_Tuple (h T g s _ _ S λc x z q o E b=>⟨?_,?_⟩)
 .exact(b.length)▸(kK e)
 .exact(E.ready).tup b λt u v f d=>R t u v (q.trans f.same) (o.trans f.le) (E.step f) d
end
noncomputable def jN(i:aS):bw:=aO (-(2^62)<i)&&aO (i<2^62)
def Bu(l:I T)(i:aS):bg T:=if jN i then(seqIndex? i l.length).bind (l[·]?)else aa
def Fi:T->aS->bg T
 |.list l,i=>Bu l i
 |.tup l,i=>Bu l i
 |.str l,i=>if jN i then((seqIndex? i l.length).bind (l[·]?)).map λc=>.str [c]else aa
 |_,_=>aa
def qi(x:T):T->bg T
 |.int i=>Fi x i
 |_=>aa
noncomputable def cut{R:Type}(lo A:bg aS)(l:I R):I R:=(l.drop (lo.elim 0 (clipAt l.length))).take (A.elim l.length (clipAt l.length)-lo.elim 0 (clipAt l.length))
def CD:T->bg aS->bg aS->bg T
 |.list l,lo,A=>if eg l.length then D (.list (cut lo A l))else aa
 |.str l,lo,A=>if eg l.length then D (.str (cut lo A l))else aa
 |_,_,_=>aa
section
variable{B:bD O}{Z:cy}{w:bZ}{A:c3}{ρ:Mk}{V:c4}{xs:I af}{k:J}{lv:I (AV O)}{τ:T}
theorem GA{R:Type} [Decidable c]{x H:R}(h:(if c then D x else aa)=D H):c/\x=H:=by
 by_cases q:c
 .rw [aM q]at h;exact⟨q,bj h⟩
 .exact aV (aJ q) h
theorem aaU{x H:J}(h:(if(c&&d)=Y then D x else aa)=D H):c=Y/\d=Y/\x=H:=
 have q:=GA h;have r:=cR.mp q.1
 (dI r.1 r.2 q.2)
theorem OX(h:seqIndex? i u=D t):(0<=i/\t=i.toNat/\t<u)\/(i<0/\-(u)<=i/\t=(i+u).toNat/\t<u):=by
 refine gv (aaU (h)) λw v d=>?_;subst d;have R:=(Int.toNat_lt (dh w)).mpr (dh v)
 by_cases q:i<0
 .rw [aM q]at w R⊢;exact .inr (k8 q (Int.neg_le_of_neg_le (Int.sub_nonneg.mp (by simp only [Int.sub_neg,Dg];exact dh w))) C R)
 .rw [aJ q]at R⊢;exact .inl (dI (xE.mp q) C R)
theorem Fl(h:jN i=Y):-(2^63)<=i:=xD (by decide) (Ij (dh (cR.mp h).1))
theorem Fj(h:jN i=Y):i<2^63:=rJ (dh (cR.mp h).2) (by decide)
theorem O0(h:Bu l i=D τ):jN i=Y/\∃t,seqIndex? i (U l)=D t/\l[t]?=D τ:=by
 by_cases q:jN i=Y
 .have h:(if jN i=Y then(seqIndex? i (U l)).bind (l[·]?)else aa)=D τ:=h;rw [aM q]at h;exact⟨q,Option.bind_eq_some_iff.mp h⟩
 .exact aV (aJ q) h
theorem list_item(d:bu ρ g z l)(h:Bu l x=D τ)(il:s.heap.IsList a z.toArray)(R:∀v,Den ρ g v τ->Q v s):aQ (aI Z w) A (getItem (.ref a) (.int x n)) Q H s:=by
 refine cps λE b=>bT (O0 h) λi j=>?_;refine ai (j) λk O h=>?_;refine ai (d.get h) λv t F=>b ?_;rcases OX O with⟨T,rfl,_⟩|⟨T,e,rfl,_⟩
 .exact wpAny_getItem_list il T (Fj i) (ae RA t) (R v F)
 .rw [(d.length.symm)]at e t;exact wpAny_getItem_list_neg il T e (Fl i) (ae RA t) (R v F)
theorem W3(O:Den ρ g E y)(h:Fi y i=D τ)(r:Ready B g s)(R:∀v n,Den ρ g v τ->Q v {s with toks:=n}):aQ (aI Z w) A (getItem E (.int i p)) Q H s:=by
 cases y with
 |list l=>exact O.listE (P:=λv=>aQ _ A (getItem v _) Q H s) λa z u S O=>list_item O h (gy r.bJ S) λv x=>R v _ x
 |tup l=>
  refine O.Hp (P:=λv=>aQ _ A (getItem v _) Q H s) λa z u S O=>cps λX b=>bT (O0 h) λe j=>?_;refine ai (j) λm k h=>?_;exact ai (O.get h) λv t F=>b (P.getItem_tuple (r.bJ _ _ S) (Fl e) (Fj e) (qB.symm▸O.length.symm▸k) (ae RA t) (R v _ F))
 |str l=>
  refine O.iY (P:=λv=>aQ _ A (getItem v _) Q H s) λL=>?_;refine cps λT f=>?_;obtain⟨e,h⟩:jN i=Y/\((seqIndex? i (U l)).bind (l[·]?)).map _=D τ:=by
   by_cases q:jN i=Y
   .exact⟨q,(aM q).symm.trans h⟩
   .exact aV C ((aJ q).symm.trans h)
  refine ai (pR.mp h) λc o d=>?_;subst d;apply f;refine P.getItem_str ?_ ?_ (R _ _ (.str [c] _))
  .exact Bool.or_eq_false_iff.mpr ⟨ee (xE.mpr (Fl e)),ee (Rm.mpr (Fj e))⟩
  .simp only [str_len];simpa using o
 |_=>exact aV C h
theorem Zh(d:Den ρ e E y)(h:Fi y i=D τ){s:aU}(g:Le e s.heap.get?):∃T id,s.TypeIs E T/\typeLookup (.type T) "__getitem__"=pure (D (.builtin id)):=by
 cases y with
 |list l=>exact d.listE (P:=λv=>∃T id,s.TypeIs v T/\typeLookup (.type T) "__getitem__"=pure (D (.builtin id))) λa z u S O=>(gg _ _ ((gy g S).typeIs) Rf.lookup)
 |tup l=>exact d.Hp (P:=λv=>∃T id,s.TypeIs v T/\typeLookup (.type T) "__getitem__"=pure (D (.builtin id))) λa z u S O=>(gg _ _ (aR _ (g _ _ S) C) F.slot_tuple_getitem.lookup)
 |str l=>exact d.iY (P:=λv=>∃T id,s.TypeIs v T/\typeLookup (.type T) "__getitem__"=pure (D (.builtin id))) λA=>(gg _ _ (tK _ _ _) afu.lookup)
 |_=>exact aV C h
theorem wV(h:∀a b c p,e≠.Slice a b c p):subscripted e ay o i=operate [o,i] (getItem o i):=by
 cases e with
 |Slice=>exact bA C (h _ _ _ _)
 |_=>rfl
theorem V8(s:cP B Z w A ρ V xs k lv t P ah)(G:cP B Z w A ρ V xs k P x X m)(e:qi ah m=D τ)(z:∀i b c p,x≠.Slice i b c p):
  cP B Z w A ρ V xs k lv (.Subscript t x p) X τ:=by
 intro a g l Q H S R;refine xS (s a g l _ _ S λn j i q o E O=>G a j n _ _ E λF u b y h f L=>?_);cases m with
 |int aC=>
  refine L.gR (P:=λv=>aQ (aI Z w) A _ Q H F) λaq=>?_;have r:=f.ready;exact d5 (Zh (O.mono h) e r.bJ) λT id aj ao=>vz aj ao (W3 (O.mono h) e r λv ak d=>R _ u v ((q.trans y).trans (cI _ _ C)) (o.trans h) (f.step (cj.tok r ak)) d) (wV z)
 |_=>exact aV C e
def pX(B:bD O)(Z:cy)(w:bZ)(A:c3)(ρ:Mk)(V:c4)(xs:I af)(k:J)(lv:I (AV O))(e:cE)(τ:T):Prop:=
 ∀(h:HB)(g:Fz)(s:aU)(Q:aB->aU->Prop)(H:aB->aU->Prop),SR B ρ h g V xs k lv s.heap->
  (∀n v,Den ρ g v τ->Q v {s with toks:=n})->aQ (aI Z w) A (eval e V) Q H s
theorem EG{i:J}(j:xs[i]?=D x)(X:lv[i]?=D (.t τ))(P:(x==("__debug__"))=ay):pX B Z w A ρ V xs k lv (.Name x p) τ:=by
 rintro T g s Q H⟨h,m,L,S⟩R;obtain⟨e,u,a,v,rfl,d⟩:=S.vars i x _ j X;exact eO (eL h S.ns u (R s.toks v d)) P
theorem VD:pX B Z w A ρ V xs k lv (.Constant (.int i) v p) (.int i):=
 λT g s Q H S R=>So (R _ _ (.int _ _))
theorem VE{i:aS}(h:pX B Z w A ρ V xs k lv e (.int i)):pX B Z w A ρ V xs k lv (.UnaryOp .USub e p) (.int (-i)):=by
 intro T g s Q H S R;refine wpAny_UnaryOp (h T g s _ _ S λn v d=>?_);obtain⟨a,rfl⟩:=d.inv;exact P.neg_int (R _ _ (.int _ _))
theorem V9{t:J}(j:xs[t]?=D x)(X:lv[t]?=D (.own o))(P:(x==("__debug__"))=ay)(O:pX B Z w A ρ V xs k lv i (.int G))(b:qi (.list o) (.int G)=D τ)
  (E:∀a q c p,i≠.Slice a q c p):cP B Z w A ρ V xs k lv (.Subscript (.Name x ak) i p) lv τ:=by
 rintro T g s l H⟨h,m,L,S⟩R;refine cps λaj f=>?_;obtain⟨ah,y,a,z,d,rfl,u,r,ao⟩:=S.vars t x _ j X;apply f;refine xS (eO (eL h S.ns y (O T g s _ _ ⟨h,m,L,S⟩ λn v e=>e.gR (P:=λv=>aQ (aI Z w) A _ l H {s with toks:=n}) λaq=>?_)) P);have Q:({s with toks:=n}).heap.IsList a z.toArray:=(i12 _ u C ⟨d,C⟩);exact vz Q.typeIs Rf.lookup (list_item r b Q λv e=>R {s with toks:=n} g v (cI _ _ C) (Le.refl _) ⟨h,m,L,S⟩ e) (wV E)
theorem aW.lend(S:aW B ρ hB g V xs k lv m cK s.heap){v:J}{l:I T}(r:xs[v]?=D c)(X:lv[v]?=D (.own l)):
  ∃a j,eE V m s.heap c (D (.ref a))/\Ready B j s/\Le g j/\Den ρ j (.ref a) (.list l)/\
   ∀t P,cj B j s P t->∃n,Le g n/\aW B ρ hB n V xs k lv m cK t.heap:=by
 refine cps λE H=>dG (S.freeze X) λj i F A=>?_;refine Ky (F) λa R u ah L p x y Q E z=>?_;apply H;rw [r]at L;obtain rfl:=bj L;refine LK a j p A.ready i (.list x y) λt h f=>?_;have O:∀{b o},(if b=a then aa else h b)=D o->b≠a/\h b=D o:=λ{b o}e=>by
  by_cases q:b=a
  .rw [aM q]at e;exact aV C (e)
  .rw [aJ q]at e;exact⟨q,e⟩
 have d:Le g λb=>if b=a then aa else h b:=λb o e=>(aJ (eZ Q e)).trans (f.le _ _ (i _ _ e))
 refine aR _ d (S.grow f.keep (B.uB f.inv (λb o w G e=>ae (aJ λq=>?_) e) λaj E o e=>e) d λb o e=>bT (O e) λu e=>(f.new b o e).elim (λq=>.inl ?_) λq=>.inr ⟨q,f.bJ _ _ e⟩)
 .subst q;have:=bj ((f.le _ _ x).symm.trans e);subst this;exact nomatch G
 .rw [z]at q;exact(aJ u).symm.trans q
end
section
variable{dc:I (AV O)}
def yb(X:bD O)(m:cy)(w:bZ)(L:c3)(F:Mk)(G:c4)(n:I af)(k:J)(y:I (AV O))(e:bg cE)(x:I (AV O))(i:bg aS):Prop:=
 ∀(T:HB)(g:Fz)(s:aU)(Q:aB->aU->Prop)(H:aB->aU->Prop),SR X F T g G n k y s.heap->
  (∀t j(p:bg (aS×fT)),p.map (·.1)=i->bQ s t->Le g j->SR X F T j G n k x t.heap->Q (partValue p) t)->aQ (aI m w) L (evalPart e G) Q H s
theorem VA:yb X m w L F G n k y aa y aa:=λT g s Q H S R=>by
 exact bN (R s g aa C (bQ.refl s) (Le.refl _) S)
theorem VB(h:cP X m w L F G n k y e P (.int i)):yb X m w L F G n k y (D e) P (D i):=λT g s Q H S R=>by
 refine h T g s Q H S λt u v q l a d=>?_;cases d with
 |int i A=>exact R t u (D (i,A)) C q l a
theorem L3:∀(p:bg _),IsPart (partValue p) (p.map (·.1))
 |aa=>.none
 |D (i,A)=>.int i A
theorem acA(x:af)(l y:bg _):
  (slicePicked x l y aa).filterMap (x.cps[·]?)=(x.cps.toList.drop ((l.map (·.1)).elim 0 (clipAt x.length))).take ((y.map (·.1)).elim x.length (clipAt x.length)-(l.map (·.1)).elim 0 (clipAt x.length)):=by
 have e:slicePicked x l y aa=sliceRange (sliceBounds (l.map _) (y.map (·.1)) aa x.length).1 (sliceBounds (l.map (·.1)) _ aa x.length).2.1 1:=C;rw [e,sliceBounds_plain];rw [sliceRange_one,pick_run]
theorem OZ(m:J):seqIndex? (-1) (m+1)=D m:=by
 show(if(aO (0<=(-1)+((m+1:J):aS))&&aO ((-1)+((m+1:J))<((m+1:J):aS)))=Y then D ((-1)+((m+1:J):aS)).toNat else aa)=_;rw [(ae (Dg _ _) (afx (m) 1))];exact aM (cR.mpr ⟨cM (qA m),cM (jV.mpr (fG m))⟩)
theorem Un(u:J)(i:aS):clipAt u i<=u:=Int.toNat_le.mpr (Int.max_le.mpr ⟨qA u,Int.min_le_right _ _⟩)
theorem acY{x H u:J}(h:x-H=u+1)(w:x<=u+1):H=0:=zY λL=>bA (RV (eI (gE u) (h▸Dr x H)) L) (h9.mpr (h.symm▸w))
set_option tactic.hygienic true in
theorem Wg{lo A:bg cE}(i:cP X m w a h t n k bf bU aF y)(aH:yb X m w a h t n k aF lo dc S)(aT:yb X m w a h t n k dc A aq aX)(e:CD y S aX=D bh):
  cP X m w a h t n k bf (.Subscript bU (.Slice lo A aa cL) cV) aq bh:=by
 intro T cu cB cF cH aE R;refine xS (i T cu cB _ _ aE λaN a_ cZ bx bC bE O=>(wpAny_Slice (aH T a_ aN _ _ bE λP ah x ak ao d aC=>aT T ah P _ _ aC λc p b aK aL z G=>(bN ?_))));subst ak aK;have r:=G.ready;have f:=cj.iE r {cls:=.type "slice",data:=.fields #[partValue x,partValue b,.none]} c.toks;have s:=f.ready r;have u:=(O.mono d).mono z;have L:=(bx.trans ao).trans aL;have g:=(bC.trans d).trans z;cases y with
 |list l=>
  obtain⟨B,rfl⟩:=GA e
  .
   cases u with
   |list bl E=>
    rename_i bz cQ;have H:=E.length;have Q:=gy s.bJ bl;refine vz Q.typeIs Rf.lookup (wpAny_getItem_list_slice Q (Heap.IsSliceOf.new ..) (L3 x) (L3 b) .none (nofun) ?_ (by simp only [qB,H];exact kK B)) C;rw [slicePick_plain];have aP:bu h p (cut (x.map (·.1)) (b.map (·.1)) bz) (cut (x.map (·.1)) (b.map (·.1)) l):=by
     unfold cut;exact(H)▸((E.drop _).take _)
    have:=s.list (n:=0) (tk:=c.toks) aP λbP bR v o bY=>R bP bR v (L.trans (f.same.trans o.same)) (g.trans o.le) ((G.step f).step o) bY;simpa [cut]using this
 |str l=>
  obtain⟨B,rfl⟩:=GA (c:=eg (U l)=Y) e
  .
   obtain⟨dB,rfl⟩:=u.inv;refine vz (tK _ _ _) afu.lookup (wpAny_getItem_str_slice (st:=aa) (i12 _ (eS _ C) C C) C ?_) C;have bH:(slicePicked ⟨l.toArray⟩ x b aa).filterMap ((⟨l.toArray⟩:af).cps[·]?)=cut (x.map (·.1)) (b.map (·.1)) l:=by
    rw [acA,str_len];exact C
   unfold sliceMade
   split
   .rename_i cg;have j:=by simpa [str_len]using cg
    have b_:slicePicked ⟨l.toArray⟩ x b aa=sliceRange (sliceBounds (x.map (·.1)) (b.map (·.1)) aa (U l)).1 (sliceBounds (x.map (·.1)) (b.map (·.1)) aa (U l)).2.1 1:=by
     delta slicePicked Builtin.Str.strSliceIndices sliceBounds
     exact C
    rw [b_,sliceBounds_plain]at j;simp only [sliceRange_one,dg,xJ]at j;have cA:∀q:bg aS,q.elim (U l) (clipAt (U l))<=U l:=λq=>by
     cases q with
     |none=>exact dz _
     |some dK=>exact Un _ _
    have i:=cA (b.map (·.1));have:cut (x.map (·.1)) (b.map (·.1)) l=l:=by
     unfold cut;rw [j];cases l with
     |nil=>simp
     |cons aj r=>
      have:(x.map (·.1)).elim 0 (clipAt (U (aj::r)))=0:=acY j i;rw [this];simp
    exact(this▸R) _ p _ (L.trans f.same) g (G.step f) (.str _ _)
   .refine bH▸(⟨?_,R _ p _ ((L.trans f.same).trans (cI _ _ C)) g (G.step (cj.trans r f (cj.tok s _))) (.str _ _)⟩);simp only [str_len];have:=kK B;unfold cut;simp only [zT,xH];exact jP 0 (.v 3) (.v 1) (.v 0) (.v 1) (.v 3) (.v 2) (.v 2) (.v 0) C [_,_,_,_] this Go B4
 |_=>exact aV C e
theorem VZ(h:cP X m w L F G n k y e P z):cP X m w L F G n k y (.BoolOp a [e] p) P z:=
 λT g s Q H S R=>PyProof.Rows.BoolOp_one (h T g s Q H S R)
theorem Wf(i:dW L x)(h:cP X m w L F G n k y e P z)(l:sU z=D Y):cP X m w L F G n k y (.BoolOp .Or (e::b::r) p) P z:=by
 intro T g s Q H S R;exact R2 (h T g s _ _ S λc j a q o E O=>(CV i O l c _ _ E.ready λt u f=>R t u a (q.trans f.same) (o.trans f.le) (E.step f) (O.mono f.le)))
theorem We(i:dW L aq)(b:cP X m w L F G n k y e P h)(l:sU h=D ay)(v:cP X m w L F G n k P (.BoolOp .Or (x::r) p) dc z):cP X m w L F G n k y (.BoolOp .Or (e::x::r) p) dc z:=by
 intro T g s Q H S R;exact R2 (b T g s _ _ S λc ao ak q o E O=>(CV i O l c _ _ E.ready λt u f=>(v T u t Q H (E.step f) λa B A j ah aj d=>R a B A ((q.trans f.same).trans j) ((o.trans f.le).trans ah) aj d)))
theorem Va:gn X m w L F G n k y (.BoolOp .And [] p) y Y:=λT g s Q H S R=>PyProof.Rows.isTrue_and_nil (R s g (bQ.refl s) (Le.refl _) S)
theorem Ve:gn X m w L F G n k y (.BoolOp .Or [] p) y ay:=λT g s Q H S R=>PyProof.Rows.isTrue_or_nil (R s g (bQ.refl s) (Le.refl _) S)
theorem L7(n:BoolOp)(Q:I cE)(p:h_)(G:c4)(h e:Sem aB):isTrue (.BoolOp n Q p) G h=isTrue (.BoolOp n Q p) G e:=C
theorem Ez{b c:bw}(e:gn X m w L F G n k y i P b)(v:if b then gn X m w L F G n k P (.BoolOp .And r p) dc c else(dc=P/\c=ay)):
  gn X m w L F G n k y (.BoolOp .And (i::r) p) dc c:=by
 intro T g s Q H S R;refine PyProof.Rows.isTrue_and (e T g s _ _ S λh a q o E=>?_);cases b with
 |true=>
  exact(L7 _ _ _ _ _ _).symm▸(v T a h Q H E λx l j B f=>R x l (q.trans j) (o.trans B) f)
 |false=>
  obtain⟨rfl,rfl⟩:=v;exact R h a q o E
theorem KD{b c:bw}(e:gn X m w L F G n k y i P b)(v:if b then(dc=P/\c=Y)else gn X m w L F G n k P (.BoolOp .Or r p) dc c):
  gn X m w L F G n k y (.BoolOp .Or (i::r) p) dc c:=by
 intro T g s Q H S R;refine PyProof.Rows.isTrue_or (e T g s _ _ S λh a q o E=>?_);cases b with
 |false=>
  exact(L7 _ _ _ _ _ _).symm▸(v T a h Q H E λx l j B f=>R x l (q.trans j) (o.trans B) f)
 |true=>
  obtain⟨rfl,rfl⟩:=v;exact R h a q o E
end
structure fe(B:bD O)(mg mb:af->bg aB):Prop where
 g:∀{h},bF B.h₀ h->h.Ns jX mg
 b:∀{h},bF B.h₀ h->h.Ns builtinsNs mb
 nolimit:∀{h},bF B.h₀ h->h.NoLimit
def DI(X:bD q)(m:cy)(w:bZ)(u:J)(h:aB)(e:I T)(r:T):Prop:=
 ∀(L:c3)(F:Mk)(g:Fz)(z:I aB)(i:pT->aU->Prop)(s:aU),dW L u->Ready X g s->bu F g z e->
  (∀t j v,cj X g s j t->Den F j v r->i (.ok (.ret v)) t)->codeAny (aI m w) L (.call h ⟨z,[]⟩) i s
theorem kI:∀(Q:I cE),(∀e∈Q,∀x p,e≠.Starred x p)->(backTo pos (starEach Q V)).any (·.1)=ay:=λT=>T.rec
 (λE=>C)
 (λe Q n h=>mS (h e gC)▸n λe m=>h e (fF _ m))
theorem jJ{es:I cE}(L:∀e∈es,∀x p,e≠.Starred x p)(h:kA X m w i F G a k y u es P b)(S:SR X F hB g G a k y s.heap)
  (R:∀t j z,bQ s t->Le g j->SR X F hB j G a k P t.heap->bu F j z b->Q ⟨z,[]⟩ t):aQ (aI m w) i (evalArgs l Y (backTo u (starEach es G)) []) Q H s:=by
 cases es with
 |nil=>
  exact aG (kT (h hB g s _ H S R) (λz t O=>(gH (aG (bN (aG (bN (bN O))))))) λE E x=>x)
 |cons e es=>
  have n:=h hB g s _ H S R;rw [(mS (L e gC))]at n⊢;exact tH n
theorem nW(h:fe X O A)(w:gm G)(f:bF X.h₀ s.heap)(j:G.kindOf x=D .globalImplicit)(d:O x=D v)(P:(x==("__debug__"))=ay)(e:Q v s):
  aQ (aI m a) L (eval (.Name x p) G) Q H s:=af7 w.kind j (loadGlobal_global (w.globals▸h.g f) d e) P
theorem nV(h:fe X O A)(w:gm G)(f:bF X.h₀ s.heap)(j:G.kindOf x=D .globalImplicit)(R:O x=aa)(d:A x=D v)(P:(x==("__debug__"))=ay)(e:Q v s):
  aQ (aI m a) L (eval (.Name x p) G) Q H s:=af7 w.kind j (loadGlobal_builtin (w.globals▸h.g f) R (w.builtins▸h.b f) d e) P
theorem cP.wH{s c:aU}(q:bQ s c)(o:Le g a)(E:SR X F hB a G n k y c.heap)(p:PO X (aI m w) L F A a z)
  (R:∀t j v,bQ s t->Le g j->SR X F hB j G n k y t.heap->Den F j v z->Q v t):aQ (aI m w) L A Q H c:=
 cP.to p E λt u v h l e d=>R t u v (q.trans h) (o.trans l) e d
theorem KT(e:fe X O A){id:String}(f:G.kindOf x=D .globalImplicit)(R:O x=aa)(d:A x=D (.builtin id))(P:(x==("__debug__"))=ay)
  (h:∀l∈Q,∀x p,l≠.Starred x p)(a:kA X m w L F G n k y u Q i s)(t:∀g z,bu F g z s->PO X (aI m w) L F (call (.builtin id) z) g j):
  cP X m w L F G n k y (.Call (.Name x p) Q [] u) i j:=by
 intro T g c B H S o;exact ku (nV e S.1 S.ready.base f R d P (kq (kI Q h) (jJ h a S λah v z q r E b=>(cP.wH q r E (t v z b) o))))
theorem V3(e:fe X O aN)(r:dW L u)(j:G.kindOf x=D .globalImplicit)(s:O x=D (.ref a))(ah:(x==("__debug__"))=ay)
  (aq:∀{h},bF X.h₀ h->h.get? a=D o)(g:o.data=.func aC)(i:∀b∈Q,∀x p,b≠.Starred x p)(h:kA X m w L F G n k y l Q P t)(q:DI X m w u (.ref a) t z):
  cP X m w L F G n k y (.Call (.Name x p) Q [] l) P z:=by
 intro aE aF aH aK aL S R;exact ku (nW e S.1 S.ready.base j s ah (xU (jJ i h S λc H A B v E aj=>⟨⟨aq E.ready.base,g⟩,(i4 (q L F H A _ c r E.ready aj λT ao ak f d=>R T ao ak (B.trans f.same) (v.trans f.le) (E.step f) d))⟩)))
theorem yM(k:(backTo u (starEach Q G)).any (·.1)=ay)(j:U Q<30):methodCallForm (U Q+U ([]:I Keyword)) (backTo u (starEach Q G)) (backToKw u (keywordEach [] G))=Y:=
 cR.mpr ⟨cR.mpr ⟨(by simpa using k),C⟩,cM j⟩
theorem MT{e:cE}{A:h_}(E:(A.endLine==u.line)=Y):methodCallPos Y e G A u=pure u:=by delta methodCallPos;simp [E]
theorem KV{T id:String}(O:attributeBase o R G (eval o G)=eval o G)(h:∀aH∈Q,∀r A,aH≠.Starred r A)
  (P:U Q<30)(aE:(aF.endLine==u.line)=Y)(aP:PlainAttrs T)(H:Slot T R id)(t:typeOf (.builtin id)=pure (.type "method_descriptor"))
  (f:cP X m w L F G n k aL o aN y)(l:kA X m w L F G n k aN u Q j p)
  (q:∀g v(s:aU),Ready X g s->Den F g v y->s.TypeIs v T/\(∀a,v=.ref a->∃e,s.heap.get? a=D e/\e.dict=aa))
  (S:∀g v z,Den F g v y->bu F g z p->PO X (aI m w) L F (call (.builtin id) (v::z)) g ah):
  cP X m w L F G n k aL (.Call (.Attribute o R aF) Q [] u) j ah:=by
 intro aj g s bf a_ aq aC;have i:=kI (pos:=u) (V:=G) Q h;exact lM O (yM i P) aE aP H t (f aj g s _ _ aq λc x v ak ao E d=>((dI ((q x v c E.ready d).1) ((q x v c E.ready d).2) (kq i (jJ h l E λbh aK z aT B aX b=>cP.wH (ak.trans aT) (ao.trans B) aX (S aK v z (d.mono B) b) aC)))))
section
set_option tactic.hygienic true
variable{B:bD O}{k:J}{lv:I (AV O)}{hB:HB}
theorem gh(eo:gm G)(e:hB.lk=[])(S:aW B F hB g G n k lv m r s.heap)(j:n[i]?=D x)(a:i<k)
  (o:G.kindOf x=D .local\/G.kindOf x=D .cell)(d:Holds B F g s.heap av (D v) fp)(ok:oJ B hB g G n r i fp)
  (R:∀t b,bQ s t->aW B F hB g G n k (lv.set i av) b (bV r i fp) t.heap->Q () t):aQ (aI Z w) L (DG G x v) Q H s:=by
 rcases o with X|X
 .exact agT X S.ns (λO z h=>R _ _ (cI _ _ C) (S.OE e j X z h d ok)) (eo.kind.symm▸C)
 .have A:=by exact(S.len)▸((cG.mp j).1)
  obtain⟨p,u,_⟩:=S.vars i x _ j (dD A);rcases u with⟨q,_⟩|⟨_,c,l,f⟩
  .rw [X]at q;exact nc nG (bj q) C
  .exact wpAny_storeName_cell eo.kind X l f λO z h=>R _ _ (cI _ s.toks C) (S.abo e j a X l z h d ok)
def pW(B:bD O)(m:cy)(w:bZ)(L:c3)(F:Mk)(G:c4)(n:I af)(k:J)(lv:I (AV O))(h:cE)(z:T)(x:I (AV O)):Prop:=
 ∀(hB:HB)(g:Fz)(s:aU)(v:aB)(Q:Unit->aU->Prop)(H:aB->aU->Prop),hB.lk=[]->SR B F hB g G n k lv s.heap->Den F g v z->
  (∀t,bQ s t->SR B F hB g G n k x t.heap->Q () t)->aQ (aI m w) L (assign h G v) Q H s
theorem U'(j:n[i]?=D x)(l:i<k)(h:G.kindOf x=D .local\/G.kindOf x=D .cell):pW B m s f F G n k lv (.Name x p) z (lv.set i (.t z)):=by
 rintro hB g o v Q H e⟨w,a,L,S⟩d R;exact vE (gh (av:=.t z) w e S j l h ⟨C,v,C,d⟩ .nil λt b q A=>R t q ⟨w,b,_,A⟩)
theorem KA{x H:af}{q o:T}(A:L.handled=aa)(m:n[i]?=D x)(j:i<k)(v:G.kindOf x=D .local\/G.kindOf x=D .cell)(y:n[t]?=D H)(F:t<k)(aj:G.kindOf H=D .local\/G.kindOf H=D .cell):
  pW B aX aE L bz G n k lv (.Tuple [.Name x bH,.Name H aF] bC bE) (.tup [q,o]) ((lv.set i (.t q)).set t (.t o)):=by
 rintro hB g s aK aT bx e S u R;refine cps λaH p=>?_;obtain⟨aL,aN,aP,c,b,rfl⟩:=u.inv;apply p;cases b with
 |cons d b=>cases b with
  |cons O b=>cases b with
   |nil=>
    rename_i z l;have r:=S.ready;refine wpAny_assign_Tuple A (yD r.bJ c) C C λX Q=>?_;have f:cj B g s g {s with heap:=X}:=cj.keeps r λP E h=>Q P E (fH (fk h)) h;obtain⟨w,a_,bf,S⟩:=S.step f;refine aG (gH (vE (gh (av:=.t q) w e S m j v ⟨C,z,C,d⟩ .nil λbh bl ak ah=>?_)));exact aG (gH (vE (gh (av:=.t o) w e ah y F aj ⟨C,l,C,O⟩ .nil λaq ao aC a=>(bN (R aq ((f.same.trans ak).trans aC) ⟨w,ao,_,a⟩)))))
noncomputable def HB.add(hB:HB)(z:I au)(h:cf):HB:=⟨λb=>if b∈z then h.get? b else hB.b b,z++hB.it,hB.f0,hB.lk⟩
structure e9(B:bD O)(hB:HB)(fz:Fz)(V:c4)(xs:I af)(cK:J->I au)(b:au):Prop where
 hb:hB.b b=aa
 fz:fz b=aa
 loc:b≠V.locals
 cell:∀(j:J)(x:af),xs[j]?=D x->V.kindOf x≠D .local->V.cells.lookup x≠D b
 fp:∀j,j<xs.length->b∉cK j
 tab:b∉B.tabs
 h0:B.h₀.get? b=aa
theorem aW.b0(S:aW B F hB g G n k lv m r h)(e:hB.b b=aa):B.h₀.get? b=aa:=iV λo q=>aV e (S.f_ b o q)
theorem aW.free(S:aW B F hB g G n k lv m r h)(f:h.get? b=aa):e9 B hB g G n r b:=
 ua (S.fresh f) λa z c d e L=>⟨a,z,c,d,e,L,S.b0 a⟩
theorem aW.uf(S:aW B F hB g G n k lv m r h)(A:i<U n):∀b∈r i,g b=aa/\B.h₀.get? b=aa/\b∉B.tabs:=
 λb f=>(dI ((S.fp i A b f).2.1) (S.b0 (S.fp i A b f).1) (λq=>(S.tab b q).2.2.2.2 i A f))
theorem j4{R:Type}{l:I R}{x:R}(h:l[i]?=D x):i<U l:=(cG.mp h).1
theorem r8(f:b∈z):(hB.add z h).b b=h.get? b:=aM ‹_›
theorem lQ(f:b∉z):(hB.add z h).b b=hB.b b:=aJ ‹_›
theorem aW.enter(S:aW B F hB g G n k lv m r h)(y:∀b∈z,e9 B hB g G n r b)(a:∀b∈z,(h.get? b).isSome=Y):
  aW B F (hB.add z h) g G n k lv m r h:=by
 refine{S with kept:=λb o e=>?_,nL:=⟨?_,S.nL.2⟩,f_:=λb o e=>ae (lQ ((λe q=>aV ((y _ q).h0) e) e)) (S.f_ b o e),own:=λi x c A j H l=>?_,jw:=λi x c A j l H=>?_,fp:=λi A b f=>?_,tab:=λP s=>?_,dJ:=λb f=>?_,new:=λb o e=>by rw [lQ λq=>aV ((y b q).fz) e];exact S.new b o e}
 .by_cases f:b∈z
  .exact(r8 f).symm.trans e
  .rw [lQ f]at e;exact S.kept b o e
 .exact ae (lQ λq=>(y _ q).loc C) S.nL.1
 .exact ae (lQ λq=>(y c q).cell i x j H l) (S.own i x c A j H l)
 .exact(lQ λq=>(y c q).cell i x j H l).symm▸(S.jw i x c A j l H)
 .exact(lQ λq=>(y b q).fp i A f).symm▸(S.fp i A b f)
 .exact(lQ λq=>(y P q).tab s).symm▸(S.tab P s)
 .by_cases q:b∈z
  .exact(r8 q).symm▸((k8 (a b q) ((y b q).fz) ((y b q).cell) ((y b q).h0)))
  .rw [lQ q];rcases fE.mp f with w|w
   .exact bA w q
   .exact S.dJ b w
theorem aW.turn(S:aW B F (hB.add z v) g G t k lv u p h)(s:∀b,b∉z->∀o,h.get? b=D o->h'.get? b=D o)(d:∀b∈z,(h'.get? b).isSome=Y):
  aW B F (hB.add z h') g G t k lv u p h':=by
 have A:∀b∈z,b∈(hB.add z v).it:=λb f=>gj _ f;have X:∀{b},(hB.add z v).b b=aa->b∉z:=λe q=>by have:=(S.dJ _ (A _ q)).1;rw [e]at this;exact cY C this
 have y:∀{b o},g b=D o->b∉z:=λe q=>aV ((S.dJ _ (A _ q)).2.1) e;have R:∀{b o},B.h₀.get? b=D o->b∉z:=λe q=>aV ((S.dJ _ (A _ q)).2.2.2) e;have nc:∀{c i x},t[i]?=D x->G.kindOf x≠D .local->G.cells.lookup x=D c->c∉z:=λj H l q=>(S.dJ _ (A _ q)).2.2.1 _ _ j H l;have a:∀{b},b∉z->(hB.add z h').b b=(hB.add z v).b b:=λq=>by apply ae (lQ q);rw [lQ q]
 have m:bF B.h₀ h':=λb o e=>s b (R e) o (S.base b o e);refine{S with base:=m,kept:=λb o e=>?_,bJ:=λb o e=>s b (y e) o (S.bJ b o e),ns:=?_,nL:=⟨?_,S.nL.2⟩,f_:=λb o e=>ae (a (R e)) (S.f_ b o e),vars:=λi x E j r=>?_,own:=λi x c A j H l=>?_,jw:=λi x c A j l H=>?_,fp:=λi A b f=>?_,inv:=bD.ir S.inv λP n o e=>s P (X (S.tab P n).1) o e,lock:=λT O x j=>(S.lock T O x j).keep λc w l o e=>s c (nc j w l) o e,tab:=λP n=>?_,dJ:=λb f=>?_,new:=λb o e=>(a (y e)).symm▸(S.new b o e)}
 .by_cases f:b∈z
  .exact(r8 f).symm.trans e
  .exact s b f o (S.kept b o ((a f)▸e))
 .exact jz S.ns λo Q ah aj ak=>(l0 o Q ah (s _ (X S.nL.1) o aj) ak)
 .exact ae (a (X S.nL.1)) S.nL.1
 .obtain⟨ao,aq,L⟩:=S.vars i x E j r;exact⟨ao,aq.keep λc w l o e=>s c (nc j w l) o e,L.mono (Le.refl _) m λb f o e=>s b (X (S.fp i (cG.mp j).1 b f).1) o e⟩
 .exact ae (a (nc j H l)) (S.own i x c A j H l)
 .exact(a (nc j H l)).symm▸(S.jw i x c A j l H)
 .have:=S.fp i A b f;exact(a (X this.1)).symm▸this
 .have:=S.tab P n;exact(a (X this.1)).symm▸this
 .have:=S.dJ b f;refine⟨?_,this.2⟩
  by_cases q:b∈z
  .exact ae (aA _ (r8 q)) (d b q)
  .exact ae (aA _ (a q)) this.1
theorem aW.leave{v:cf}{z:I au}(S:aW B F (hB.add z v) g G t k lv m r d)(h:∀b,b∉z->∀o,d.get? b=D o->h'.get? b=D o)(L:∀b∈z,hB.b b=aa)(Q:∀b∈hB.it,(hB.b b).isSome=Y):
  aW B F hB g G t k lv m r h':=by
 have A:∀b∈z,b∈(hB.add z v).it:=λb f=>gj _ f;have X:∀{b},(hB.add z v).b b=aa->b∉z:=λe q=>by have:=(S.dJ _ (A _ q)).1;rw [e]at this;exact cY C (this)
 have y:∀{b o},g b=D o->b∉z:=λe q=>aV ((S.dJ _ (A _ q)).2.1) e;have R:∀{b o},B.h₀.get? b=D o->b∉z:=λe q=>aV ((S.dJ _ (A _ q)).2.2.2) e;have nc:∀{c i x},t[i]?=D x->G.kindOf x≠D .local->G.cells.lookup x=D c->c∉z:=λj H l q=>(S.dJ _ (A _ q)).2.2.1 _ _ j H l;have a:∀{b},b∉z->(hB.add z v).b b=hB.b b:=(lQ);have n:bF B.h₀ h':=λb o e=>h b (R e) o (S.base b o e);refine{S with base:=n,kept:=λb o e=>?_,bJ:=λb o e=>h b (y e) o (S.bJ b o e),ns:=?_,nL:=⟨?_,S.nL.2⟩,f_:=λb o e=>(a (R e)).symm.trans (S.f_ b o e),vars:=λi x E j p=>?_,own:=λi x c A j H l=>?_,jw:=λi x c A j l H=>?_,fp:=λi A b f=>?_,inv:=bD.ir S.inv λP s o e=>h P (X (S.tab P s).1) o e,lock:=λT O x j=>(S.lock T O x j).keep λc w l o e=>h c (nc j w l) o e,tab:=λP s=>?_,dJ:=λb f=>?_,new:=λb o e=>(a (y e))▸(S.new b o e)}
 .have u:b∉z:=λq=>aV (L b q) e;exact h b u o (S.kept b o (ae (a u) e))
 .exact jz S.ns λo aj ak ao aq=>(l0 o aj ak (h _ (X S.nL.1) o ao) aq)
 .exact(a (X S.nL.1)).symm.trans S.nL.1
 .obtain⟨aC,aE,ah⟩:=S.vars i x E j p;exact⟨aC,aE.keep λc w l o e=>h c (nc j w l) o e,ah.mono (Le.refl _) n λb f o e=>h b (X (S.fp i (cG.mp j).1 b f).1) o e⟩
 .exact(a (nc j H l)).symm.trans (S.own i x c A j H l)
 .exact(a (nc j H l))▸(S.jw i x c A j l H)
 .have:=S.fp i A b f;exact(a (X this.1))▸this
 .have:=S.tab P s;exact(a (X this.1))▸this
 .exact⟨Q b f,(S.dJ b (i0 _ f)).2⟩
theorem aW.Mc(S:aW B F hB g G n k lv m r h):∀b∈hB.it,(hB.b b).isSome=Y:=λb f=>(S.dJ b f).1
theorem aW.alive(S:aW B F (hB.add z v) g G n k lv m r h):∀b∈z,(h.get? b).isSome=Y:=λb f=>bG (gG.mp (S.dJ b (gj _ f)).1) λo T=>cW (S.kept b o T)
end
set_option genCtorIdx true in
inductive fP where
 |next|brk|cont|ret(t:T)
def FD(F:Mk)(g:Fz):Flow->fP->Prop
 |.next,.next=>True
 |.brk,.brk=>True
 |.cont,.cont=>True
 |.ret v,.ret A=>Den F g v A
 |_,_=>False
theorem FD.bk(d:FD F g L .brk):L=.brk:=by cases L<;>first|rfl|exact d.elim
theorem FD.cn(d:FD F g L .cont):L=.cont:=by cases L<;>first|rfl|exact d.elim
theorem FD.rt(d:FD F g L (.ret A)):∃v,L=.ret v/\Den F g v A:=by cases L<;>first|exact⟨_,C,d⟩|exact d.elim
theorem FD.nx(d:FD F g L .next):L=.next:=by cases L<;>first|rfl|exact d.elim
theorem FD.ne(d:FD F g L A)(h:A≠.next):L≠.next:=λq=>by subst q;cases A<;>first|exact h C|exact d.elim
theorem FD.map{g j:Fz}{L:Flow}{A:fP}(d:FD F g L A)(a:∀{v h},Den F g v h->Den e j v h):FD e j L A:=by cases L<;>cases A<;>first|exact d|exact a d
def ic(X:bD q)(m:cy)(w:bZ)(h:c3)(F:Mk)(G:c4)(n:I af)(k:J)(y:I (AV q))(O:cz)(x:I (AV q))(A:fP):Prop:=
 ∀(T:HB)(g:Fz)(s:aU)(Q:Flow->aU->Prop)(H:aB->aU->Prop),T.lk=[]->SR X F T g G n k y s.heap->
  (∀t j L,bQ s t->Le g j->SR X F T j G n k x t.heap->FD F j L A->Q L t)->aQ (aI m w) h (exec O G) Q H s
def eX(X:bD q)(m:cy)(w:bZ)(h:c3)(F:Mk)(G:c4)(n:I af)(k:J)(y:I (AV q))(O:I cz)(x:I (AV q))(A:fP):Prop:=
 ∀(T:HB)(g:Fz)(s:aU)(Q:Flow->aU->Prop)(H:aB->aU->Prop),T.lk=[]->SR X F T g G n k y s.heap->
  (∀t j L,bQ s t->Le g j->SR X F T j G n k x t.heap->FD F j L A->Q L t)->aQ (aI m w) h (execs O G) Q H s
def qI(u:bw)(X:bD q)(m:cy)(w:bZ)(L:c3)(F:Mk)(G:c4)(n:I af)(k:J)(l:I (AV q))(o:cE)(x:I (AV q))(p:I T):Prop:=
 ∀(h:HB)(g:Fz)(s:aU)(Q:aB->aU->Prop)(H:aB->aU->Prop),SR X F h g G n k l s.heap->
  (∀t j a R z P y f r,bQ s t->Le g j->gm G->aW X F h j G n k x f r t.heap->Walks m w L a R z p.length P y->(∀i v,P i v->∃A,p[i]?=D A/\Den F j v A)->
   y 0 t.heap->(∀b∈z,e9 X h j G n r b/\(t.heap.get? b).isSome=Y)->(∀b∈R,b∈z\/(j b).isSome=Y\/(X.h₀.get? b).isSome=Y)->(∀b∈R,b<t.heap.objs.size)->(∀i e,y i e->∀b∈z,(e.get? b).isSome=Y)->
   (u=Y->∀i(s:aU)(d:I cE)(E:J)(B:h_)(v:aB)(Q:Unit->aU->Prop)(H:aB->aU->Prop),y i s.heap->Q () s->aQ (aI m w) L (letOwnedTupleGo (.Tuple d E B) (.ref a) v) Q H s)->Q (.ref a) t)->
  aQ (aI m w) L (eval o G) (λS c=>aQ (aI m w) L (pyIter S) Q H c) H s
section
variable{B:bD O}{Z:cy}{w:bZ}{A:c3}{ρ:Mk}{ts:I T}
theorem i7:eX B Z w A ρ G n k y [] y .next:=λT g s Q H e S R=>rP (R s g .next (bQ.refl s) (Le.refl _) S dj)
theorem Wi(a:ic B Z w A ρ G n k y u P .next)(v:eX B Z w A ρ G n k P z X h):eX B Z w A ρ G n k y (u::z) X h:=by
 intro T g s Q H e S R;refine gN (a T g s _ _ e S λc i L q o E d=>?_);cases d.nx;exact v T i c Q H e E λF r L x b f d=>R F r L (q.trans x) (o.trans b) f d
theorem ue(a:ic B Z w A ρ G n k e u P h)(g:h≠.next):eX B Z w A ρ G n k e (u::z) P h:=by
 intro T i s Q H b S R;refine gN (a T i s _ _ b S λc x L q o E d=>?_);have y:=R c x L q o E d;cases L<;>first|exact bA C (d.ne g)|exact y
theorem gS(s:aU):s.heap.get? s.heap.objs.size=aa:=iV λE q=>bA (fk q) (i3 _)
theorem Vk(g:A.handled=aa)(h:cP B Z w A ρ G ah o y e aq (.list ts)):qI Y B Z w A ρ G ah o y e aq ts:=by
 intro aE p s t ao q R;refine h aE p s _ _ q λc P v aj m E ak=>ji ak.inv λa z aN S b u=>?_;subst u;have r:=E.ready;have Q:=gy r.bJ S;apply I0 Q;have f:=cj.iE r {cls:=.type "list_iterator",data:=.fields #[.ref a,.int 0 0]} c.toks;obtain⟨X,L,F,l⟩:=E;have x:=fk (r.bJ _ _ S);have H:=Sl (prog:=Z) (w:=w) g c.heap.objs.size a (fH x) z.toArray;simp only [show z.toArray.size=U ts from b.length]at H;have i:(c.heap.push {cls:=.type "list_iterator",data:=.fields #[.ref a,.int 0 0]}).objs.size=c.heap.objs.size+1:=lI _ _;refine R _ P _ _ _ _ _ L F (aj.trans f.same) m X (l.step f) H (λn v d=>?_) ⟨⟨_,eS _ C,C,C⟩,Q.at λaL e=>eH _ e⟩ (bO ⟨l.free (gS c),cW (eS _ C)⟩ eK) (bO (.inl (.head _)) (bO (.inr (.inl (cW S))) eK)) (bO (i.symm▸fG _) (bO (i.symm▸jW x) eK)) (λn h O=>bO (match O with|⟨⟨_,aF,_⟩,_⟩=>cW aF) eK) ?_
 .have d:=by simpa using d
  have j:=b.length▸(cG.mp d).1;exact ai (b.get (dD j)) λaK aC aH=>bj (ae aC.symm d)▸⟨_,dD j,aH⟩
 .intro _ n s aP aT aX v t ao O k;cases v with
  |ref T=>exact agQ O.1 k
  |_=>exact bN k
theorem EB{eJ:au}{s c:aU}{Q:aB->aU->Prop}{y:J->cf->Prop}{n:fT}
  (X:bQ s c)(k:Le g a)(E:SR B ρ hB a G x p u c.heap)(T:o.isFreed=ay)
  (H:Walks Z w A c.heap.objs.size [c.heap.objs.size] [c.heap.objs.size] (U ts) P y)(d:∀i v,P i v->∃e,ts[i]?=D e/\Den ρ a v e)(aj:y 0 (c.heap.push o))(ao:∀i h,y i h->(h.get? c.heap.objs.size).isSome=Y)
  (q:∀t j eJ R z P y m r,bQ s t->Le g j->gm G->aW B ρ hB j G x p u m r t.heap->Walks Z w A eJ R z (U ts) P y->(∀i v,P i v->∃e,ts[i]?=D e/\Den ρ j v e)->
   y 0 t.heap->(∀b∈z,e9 B hB j G x r b/\(t.heap.get? b).isSome=Y)->(∀b∈R,b∈z\/(j b).isSome=Y\/(B.h₀.get? b).isSome=Y)->(∀b∈R,b<t.heap.objs.size)->(∀i h,y i h->∀b∈z,(h.get? b).isSome=Y)->
   (ay=Y->∀i(s:aU)(S:I cE)(F:J)(L:h_)(v:aB)(Q:Unit->aU->Prop)(ah:aB->aU->Prop),y i s.heap->Q () s->aQ (aI Z w) A (letOwnedTupleGo (.Tuple S F L) (.ref eJ) v) Q ah s)->Q (.ref eJ) t):
  Q (.ref c.heap.objs.size) {c with heap:=c.heap.push o,toks:=n}:=by
 have f:=cj.iE (E.ready) o n;obtain⟨ak,m,r,l⟩:=E;exact q _ a _ _ _ _ _ m r (X.trans f.same) k ak (l.step f) H d aj (bO ⟨l.free (gS c),cW (eS _ T)⟩ eK) (λb aq=>.inl aq) (bO ((lI c.heap o).symm▸fG _) eK) (λi h O=>bO (ao i h O) eK) nofun
set_option tactic.hygienic true in
theorem Vm(k:A.handled=aa)(e:cP B Z w A ρ G t p S j P (.str l)):qI ay B Z w A ρ G t p S j P (l.map λc=>.str [c]):=by
 intro f g m aj ah L R;refine e f g m _ _ L λb Q v q o E d=>?_;obtain⟨h,rfl⟩:=d.inv;have s:∀i v,SignAt ⟨l.toArray⟩ i v->∃h,(l.map λc=>T.str [c])[i]?=D h/\Den ρ Q v h:=λi v r=>by
  refine d5 r λc y a z=>?_;subst z;have a:=by simpa using a
  exact aR _ (by simp [a]) (.str [c] y)
 have X:(⟨l.toArray⟩:af).cps.size=U (l.map λc=>T.str [c]):=by simp
 cases u:(⟨l.toArray⟩:af).cps.all _
 .apply wpAny_pyIter_wide u;have H:=Walks.strWide (prog:=Z) (w:=w) k b.heap.objs.size ⟨l.toArray⟩ h;rw [X]at H;exact EB (eJ:=0) q o E C H s (i12 _ (eS _ C) C C) (λi e O=>ai O λF x n=>cW x) R
 .apply wpAny_pyIter_ascii u;have H:=Walks.strAscii (prog:=Z) (w:=w) k b.heap.objs.size ⟨l.toArray⟩ h;rw [X]at H;exact EB (eJ:=0) q o E C H s (i12 _ (eS _ C) C C) (λi e O=>ai O λF x n=>cW x) R
inductive Out:fP->fP->Prop
 |brk:Out .brk .next
 |ret{r:T}:Out (.ret r) (.ret r)
theorem Out.fin{G P:Flow->Prop}(o:Out fl R)(d:FD ρ g L fl)(w:P .next->G .brk)(e:∀v,P (.ret v)->G (.ret v))(h:∀u,FD ρ g u R->P u):G L:=by
 cases o with
 |brk=>exact d.bk▸w (h _ dj)
 |ret=>refine ai d.rt λv j d=>?_;subst j;exact e v (h _ d)
theorem FD.go{G:Flow->Prop}(d:FD ρ g L fl)(o:fl=.next\/fl=.cont)(w:G .next)(v:G .cont):G L:=by
 rcases o with rfl|rfl
 .exact d.nx▸w
 .exact d.cn▸v
inductive DW(B:bD O)(Z:cy)(w:bZ)(A:c3)(ρ:Mk)(V:c4)(xs:I af)(k:J)(iz:cE)(body:I cz)(t:T)(lv lv':I (AV O))(Bf:fP)(X:I (AV O)->Prop):Prop
 |go{aY dc:I (AV O)}{fl:fP}(ha:pW B Z w A ρ V xs k lv iz t aY)(hb:eX B Z w A ρ V xs k aY body dc fl)(hf:fl=.next\/fl=.cont)(h:X dc)
 |out{aY:I (AV O)}{fl:fP}(ha:pW B Z w A ρ V xs k lv iz t aY)(hb:eX B Z w A ρ V xs k aY body lv' fl)(o:Out fl Bf)
def oH(B:bD O)(Z:cy)(w:bZ)(A:c3)(ρ:Mk)(G:c4)(n:I af)(k:J)(e:cE)(t:I cz):I T->I (AV O)->I (AV O)->fP->Prop
 |[],y,x,h=>y=x/\h=.next
 |a::ts,y,x,h=>DW B Z w A ρ G n k e t a y x h λl=>oH B Z w A ρ G n k e t ts l x h
theorem oH.nil:oH B Z w A ρ G n k h t [] y y .next:=⟨C,C⟩
theorem oH.go(u:pW B Z w A ρ G n k y iz e aY)(f:eX B Z w A ρ G n k aY body X h)(g:h=.next\/h=.cont)(a:oH B Z w A ρ G n k iz body ts X m4 R):oH B Z w A ρ G n k iz body (e::ts) y m4 R:=DW.go u f g a
theorem oH.ret(u:pW B Z w A ρ G n k y h e P)(f:eX B Z w A ρ G n k P t X (.ret r)):oH B Z w A ρ G n k h t (e::ts) y X (.ret r):=DW.out u f .ret
inductive SN(B:bD O)(Z:cy)(w:bZ)(A:c3)(ρ:Mk)(V:c4)(xs:I af)(k:J)(iz:cE)(body:I cz)(hB:HB)(wr:I au)(St:J->cf->Prop)(ts:I T)(dc:I (AV O))(fl:fP)(s₁:aU)(eT:Fz)(n:J)(s₂:aU):Prop
 |mk(i:J)(lv':I (AV O))(qU:Fz)(m₂:af->bg aB)(EY:J->I au)(hn:n+i=ts.length+1)(y9:bQ s₁ s₂)(l₂:Le eT qU)(AE:aW B ρ (hB.add wr s₂.heap) qU V xs k lv' m₂ EY s₂.heap)(acX:St i s₂.heap)(hi:i<=ts.length)
  (F:oH B Z w A ρ V xs k iz body (ts.drop i) lv' dc fl)
theorem VT(e6:qI dO B Z w A ρ G n k eG bU bx ts)(gU:oH B Z w A ρ G n k h t ts bx bH cA)(d8:∀s,foldedSetIterable bU G s=pure s)
  (h8:(∃s p,h=.Name s p)\/dO=Y/\∃aL aP p,h=.Tuple aL aP p):ic B Z w A ρ G n k eG (.For h bU t [] p) bH cA:=by
 intro T fj fZ rG pL bP kh cu;refine wpAny_For (e6 T fj fZ _ _ kh λbh aE ej rH z pM a_ fy fB bf bz aK bE aF kO gc aN lF rF kQ dK=>?_) d8;have bR:=λb f=>(aN b f).1.hb;have cg:=bE.Mc;refine codeAny_forLoop_any (SN B Z w A ρ G n k h t T z a_ ts bH cA bh aE) ?_ _ ⟨0,bx,aE,fy,fB,C,bQ.refl _,Le.refl _,bE.enter (λb f=>(aN b f).1) (λb f=>(aN b f).2),gc,gF _,gU⟩;rintro ez F⟨x,eR,R,cH,cF,cL,aT,i,bl,bC,eN,j⟩
 by_cases c:x<U ts
 .refine aF.item x F _ _ c bC λv O ak jm ao aq=>ai (kO x v jm) λmw cZ dB=>?_;have j:=by
   rw [xF c,bj ((dD c).symm.trans cZ)]at j;exact j
  have aC:=bl.turn (λb f o e=>aq b o f e) (kQ _ _ ao);have aX:∀(y:Flow->aU->Prop)(a:aB->aU->Prop)(ah:I _)(aH:fP)(aj:I _),pW B Z w A ρ G n k eR h mw aj->eX B Z w A ρ G n k aj t ah aH->
    (∀d m S Q L,bQ bh d->Le aE m->aW B ρ (T.add z d.heap) m G n k ah S Q d.heap->a_ (x+1) d.heap->FD ρ m L aH->y L d)->
    aQ (aI Z w) A (letOwnedTupleGo h (.ref ej) v) (λE gi=>aQ (aI Z w) A (assign h G v) (λE F=>aQ (aI Z w) A (execs t G) y a F) a gi) a {F with heap:=O,toks:=ak}:=by
   intro y a ah aH aj u f gV;have bY:aQ (aI Z w) A (assign h G v) (λE F=>aQ (aI Z w) A (execs t G) y a F) a {F with heap:=O,toks:=ak}:=by
    refine u (T.add z O) R _ v _ _ bP ⟨aK,cH,cF,aC⟩ (dB.mono i) λjd eu jn=>f (T.add z O) R jd _ _ bP jn λd m L l H P q=>?_;obtain⟨_,S,Q,P⟩:=P;refine gV d m S Q L (((aT.trans (cI _ _ C)).trans eu).trans l) (i.trans H) (P.turn (λE E E e=>e) P.alive) (aF.frame _ O _ ao λb f o cB=>?_) q;have b_:∀{X},O.get? b=D X->d.heap.get? b=D X->d.heap.get? b=D o:=λe jo=>ae jo (ae e.symm cB);rcases lF b f with g|g|g
    .exact P.kept b o (ae (r8 g) cB)
    .exact bG (gG.mp g) λX r=>b_ (aC.bJ b X (i b X r)) (P.bJ b X (H _ _ (i _ _ r)))
    .exact bG (gG.mp g) λX r=>b_ (aC.base b X r) (P.base b X r)
   rcases h8 with⟨s,p,rfl⟩|⟨rfl,aL,aP,p,rfl⟩
   .exact bN bY
   .exact dK C _ _ aL aP p v _ _ ao bY
  cases j with
  |go u f lG kP=>
   refine aX _ _ _ _ _ u f λd m S Q L l H P cQ q=>?_;apply q.go lG<;>exact⟨ez-1,(wB cL c).1,x+1,_,m,S,Q,(wB cL c).2,l,H,P,cQ,c,kP⟩
  |out u f o=>
   refine aX _ _ _ _ _ u f λd m S Q L l H P cQ q=>?_;apply o.fin q ?_ ?_ (λmu=>cu d m mu (bf.trans l) (bz.trans H) ⟨aK,S,Q,P.leave (λE E E e=>e) bR cg⟩)
   .exact id
   .exactλE=>id
 .have:=fS eN (iM c);subst this;refine aF.done F _ _ bC λO ak aq=>bT ((afG▸j)) λnB cV=>?_;subst nB cV;exact rP (cu _ R .next ((bf.trans aT).trans (cI _ _ C)) (bz.trans i) ⟨aK,cH,cF,bl.leave (λb f o e=>aq b o f e) bR cg⟩ dj)
end
structure oN(scope:je)(xs:I af):Prop where
 kind:scope.kind=.function
 co:scope.isCoroutine=ay
 gen:scope.isGenerator=ay
 names:∀x∈xs,scope.names.lookup x=D .local\/scope.names.lookup x=D .cell
 nodup:xs.Nodup
theorem t6(l:I _):∀(u:J)(o:I _),l.lookup x=D .cell\/(o.lookup x).isSome=Y->((cellsFrom u l o).lookup x).isSome=Y:=by
 induction l with
 |nil=>exactλu o h=>h.elim ((aV C)) id
 |cons p l n=>
  obtain⟨H,c⟩:=p;intro u o h;rw [tD]at h;unfold cellsFrom;cases e:x==H with
  |true=>
   rw [e]at h
   split
   .exact n _ _ (.inr (by simp only [tD,e];rfl))
   .rename_i a;refine n _ _ (.inr ?_);rcases h with h|h
    .obtain rfl:=bj h;exact bA C a
    .exact h
  |false=>
   rw [e]at h
   split
   .refine n _ _ (h.imp id λh=>?_);simp only [tD,e];exact h
   .exact n _ _ h
theorem qn{R:Type}:∀{l:I R},l.Nodup->∀{i t:J}{x:R},l[i]?=D x->l[t]?=D x->i=t:=@λT=>T.rec
 (@λE i t x A E=>by simp at A)
 (@λH l n h i t x A O=>by
  have z:=gM.mp h;cases i with
  |zero=>cases t with
   |zero=>rfl
   |succ t=>simp at A O;subst A;exact bA (cN O) z.1
  |succ i=>cases t with
   |zero=>simp at A O;subst O;exact bA (cN A) z.1
   |succ t=>exact aA _ (n z.2 A O))
theorem qm{R:Type}{l:I R}(u:l.Nodup)(i t:J){a b:R}(h:l[i]?=D a)(O:l[t]?=D b)(q:tE i t=ay):a≠b:=λe=>age q (qn u h (e▸O))
theorem xg{R z:Type}:∀(n:I R)(S:I z),(n.zip S).map (·.1)=n.take (U S)
 |[],_=>by simp
 |_::_,[]=>C
 |x::n,H::S=>by simp [xg n S]
theorem TP(a:af->bg fc)(x:af):∀(r:I _)(m:af->bg aB),x∉r.map (·.1)->bindL a r m x=m x:=λT=>T.rec
 (λm E=>C)
 (λ(F,P)r n m g=>by
  have w:x≠F:=λe=>g (by simp [e]);apply ae (n _ (λq=>g (fF _ q)))
  split<;>simp [w])
theorem TN(a:af->bg fc)(x:af):∀(r:I _)(m:af->bg aB),x∉r.map (·.1)->bindC a r m x=m x:=λT=>T.rec
 (λm E=>C)
 (λ(F,P)r n m g=>by
  have w:x≠F:=λe=>g (by simp [e]);apply ae (n _ (λq=>g (fF _ q)))
  split<;>simp [w])
noncomputable def e0(n:I af)(z:I aB):I (af×aB):=n.zip z
noncomputable def q4(n:I af)(p:I T):I (AV q):=p.map .t++nE (n.length-p.length) .un
theorem JM(a:af->bg fc)(l:I _):∀(m:af->bg aB)(x:af)(v:aB),(l.map (·.1)).Nodup->(x,v)∈l->a x=D .local->bindL a l m x=D v:=by
 induction l with
 |nil=>exactλm x v E h=>bA (h) dR
 |cons p r n=>
  obtain⟨H,y⟩:=p;intro m x v z R B;have X:=gM.mp z;rcases cD.mp R with e|R
  .refine bT (mE e) λi j=>?_;subst i j;exact(TP a _ _ _ X.1).trans (ae (congrFun (aM B) x) (aM C))
  .exact n _ x v X.2 R B
theorem JL(a:af->bg fc)(l:I _):∀(m:af->bg aB)(x:af)(v:aB),(l.map (·.1)).Nodup->(x,v)∈l->a x=D .cell->bindC a l m x=D v:=by
 induction l with
 |nil=>exactλm x v E h=>bA (h) dR
 |cons p r n=>
  obtain⟨H,y⟩:=p;intro m x v z R B;have X:=gM.mp z;rcases cD.mp R with e|R
  .refine bT (mE e) λi j=>?_;subst i j;exact(TN a _ _ _ X.1).trans (ae (congrFun (aJ λq=>nc nG (bj (B.symm.trans q)) C) x) (aM C))
  .exact n _ x v X.2 R B
theorem bu.Lj(d:bu F g z p):∀{i:J}{v:aB},z[i]?=D v->∃A,p[i]?=D A/\Den F g v A:=
 d.ind (P:=λz p=>∀{i:J}{v:aB},z[i]?=D v->∃A,p[i]?=D A/\Den F g v A) ((aV C)) λ{_ _ A _}a E n{i _}h=>match i,h with
  |0,h=>(aR A C (bj h▸a))
  |_+1,h=>n h
theorem CH{s s₁:aU}(Q:oN fd.scope xs)(L:fd.globals=jX)(f:fd.builtins=builtinsNs)(r:Ready B fz s)(z:bu ρ fz vs tn)(aC:U tn<=U xs)
  (G:InCallC s (di fd s.heap.objs.size a).locals (bindL (di fd s.heap.objs.size a).kindOf (e0 xs vs) λE=>aa) (di fd s.heap.objs.size a).cells (bindC (di fd s.heap.objs.size a).kindOf (e0 xs vs) λE=>aa) s₁):
  SR B ρ ⟨λb=>if b∈B.tabs then aa else s.heap.get? b,[],fz,[]⟩ fz (di fd s.heap.objs.size a) xs (U xs) (q4 xs tn) s₁.heap:=by
 have X:=G.toInCall.keep;have m:=λaH c l=>G.above aH c (mem_of_lookup l);have u:∀c,s.heap.objs.size<=c->s.heap.get? c=aa:=λc l=>by
  cases q:s.heap.get? c with
  |none=>rfl
  |some o=>exact bA (fk q) (h9.mpr l)
 have p:∀c,s.heap.objs.size<=c->fz c=aa:=λc l=>by
  cases q:fz c with
  |none=>rfl
  |some o=>have:=r.bJ c o q;exact aV (u c l) this
 have F:=λP k=>bG (gG.mp (B.live r.inv P k)) λo aE=>fk aE;have w:((e0 xs vs).map (·.1)).Nodup:=by
  have:(e0 xs vs).map (·.1)=xs.take (U vs):=by
   delta e0;rw [xg]
  simp only [this];exact Q.nodup.sublist (af6 _ _)
 refine⟨⟨Q.kind,L,f⟩,(bindL (di fd s.heap.objs.size a).kindOf _ λE=>aa),λE=>[],({
  len:=by delta q4;simp;exact fS (cT 0 (.a (.v 0) (.v 2)) (.v 1) (.a (.v 2) (.v 0)) (.v 1) C [_,_,_] ((lq aC))) (cT 0 (.v 1) (.a (.v 0) (.v 2)) (.v 1) (.a (.v 2) (.v 0)) C [_,_,_] m6)
  base:=λb o e=>X b o (r.base b o e)
  kept:=λb o e=>?_
  bJ:=λb o e=>X b o (r.bJ b o e)
  ns:=G.toInCall.ns
  nL:=⟨?_,p _ (dz _)⟩
  f_:=λb o e=>?_
  vars:=λi x aN j d=>?_
  own:=λi x c A j H l=>?_
  jw:=λi x c A j E E=>bA (cG.mp j).1 (h9.mpr A)
  cell:=λi x c j H l=>⟨vy (m x c l),p c (e7 (m x c l))⟩
  qM:=λi x A j=>bA (cG.mp j).1 (h9.mpr A)
  inj:=λi t x aT c j T E E O ah=>?_
  nodup:=λi t x A aj=>qn Q.nodup A aj
  fp:=λi E b f=>bA (f) dR
  inv:=bD.ir r.inv λP E o e=>X P o e
  tab:=λP k=>(k9 (aM ‹_›) (r.nk P k) (fH (F P k)) (λt x j H l=>bA (m x P l) (h9.mpr (e7 (F P k)))) (λE E ak=>nomatch ak))
  apart:=λi t E E E b f=>nomatch f
  dJ:=λb f=>bA (f) dR
  new:=λb o e=>.inl e
  lock:=λaP ao=>bA ao dR})⟩
 .by_cases q:b∈B.tabs
  .simp [q]at e
  .simp [q]at e;exact X b o e
 .show(if s.heap.objs.size∈B.tabs then aa else s.heap.get? s.heap.objs.size)=aa
  split<;>first|rfl|exact(gS s)
 .have:b∉B.tabs:=λq=>aV (r.i_ b q) e;simp [this,r.base b o e]
 .have h:=Q.names x (cN j);have S:∃n,eE (di fd s.heap.objs.size a) (bindL (di fd s.heap.objs.size a).kindOf (e0 xs vs) λE=>aa) s₁.heap x n/\∀v,(x,v)∈e0 xs vs->n=D v:=by
   rcases h with h|h
   .exact(aR _ (.inl ⟨h,C⟩) (λv R=>JM _ _ _ x v w R h))
   .exact bG (gG.mp (t6 fd.scope.names (s.heap.objs.size+1) [] (.inl h))) λc l=>(aR _ (.inr ⟨.inl h,c,l,G.cell x c l⟩) (λv R=>JL _ _ _ x v w R h))
  refine ai S λn aF aq=>⟨n,aF,?_⟩;unfold q4 at d
  by_cases g:i<U tn
  .rw [nC (by simpa using g)]at d;have y:=dD g;simp only [jr,y,Dw]at d;obtain rfl:=bj d;refine ai (z.get y) λv aL aK=>⟨C,v,aq v ?_,aK⟩;have:(e0 xs vs)[i]?=D (x,v):=by
    delta e0
    rw [IB];exact⟨j,aL⟩
   exact cN this
  .rw [kR (by simpa using g)]at d;have:=by
    rw [Rz]at d
    split at d
    .exact(bj d).symm
    .exact aV C d
   subst this
   rfl
 .show(if c∈B.tabs then aa else s.heap.get? c)=aa
  split<;>first|rfl|exact u c (e7 (m x c l))
 .have:=Sn G.apart (mem_of_lookup O) (mem_of_lookup ah);subst this;exact qn Q.nodup j T
theorem JT(s:fe X bl aT)(T:∀{h},bF X.h₀ h->h.get? a=D o)(P:o.data=.func S)(aF:∀{h},bF X.h₀ h->h.CodeRec S.code S.qualname)
  (aK:S.body=.stmts t)(k:S.closure=[])(Q:oN S.scope n)(y:S.globals=jX)(f:S.builtins=builtinsNs)(j:p.length<=U n)
  (ak:∀z,U z=p.length->bindArgs S ⟨z,[]⟩=pure (e0 n z))
  (B:∀H L F,dW L u->∃x,eX X m w L F (di S H a) n (U n) (q4 n p) t x (.ret r)):DI X m w (u+1) (.ref a) p r:=by
 intro L F g z aL v l O i E;refine IQ l.d (T O.base) P (s.nolimit O.base) (aF O.base) aK (ak z i.length) k ?_ ?_ Q.co Q.gen Q.kind
 .intro R ah;have aj:=by
   have:R.1∈(e0 n z).map (·.1):=fM ah
   delta e0 at this
   rw [xg]at this;exact Dk this
  rcases Q.names _ aj with h|h
  .exact .inl h
  .exact .inr ⟨h,t6 S.scope.names _ [] (.inl h)⟩
 .intro c G;obtain⟨x,B⟩:=B v.heap.objs.size _ F l.deeper;refine B _ g c _ _ C (CH Q y f O i j G) λao aq bf q aC A d=>?_;obtain⟨_,aN,aP,A⟩:=A;obtain⟨aE,rfl,d⟩:=d.rt;refine d5 (G.done) λaX a_ aH bh=>?_;refine E ao aq aE ⟨(bQ.trans (bQ.of aH) q),λb f o e=>A.kept b o (by simp [f,e]),A.inv,aC,A.bJ,λb o e=>?_⟩ d;rcases A.new b o e with q|q
  .exact .inl q
  .right
   dsimp only at q
   split at q
   .rename_i f;exact aV ((A.tab b f).2.1) e
   .exact q
theorem AS:∀(F:I _)(u:J)(o:I _),cellsFrom u F o=cellsFrom u F []++o:=λT=>T.rec
 (λE E=>C)
 (λ(x,i)r n u o=>by
  unfold cellsFrom
  split
  .apply ae (n (u+1) _);simp only [n (u+1) [(x,u)]];simp
  .exact n u o)
theorem JZ:∀(F:I _)(u:J),(∀p∈F,p.1=H->p.2≠.cell)->(cellsFrom u F []).lookup H=aa
 |[],_,_=>C
 |(x,i)::r,u,h=>by
  unfold cellsFrom;have n:=λu=>JZ r u λp t=>h p (fF _ t)
  split
  .rename_i l;rw [AS,IC,n];have:x≠H:=λe=>h (x,i) gC e (dh l);have f:(H==x)=ay:=by simpa using iC this
   simp [tD,f]
  .exact n u
noncomputable def nP(a:I (af×au)):I (af×fc)->I (af×au)->I (af×au)
 |[],o=>o
 |(u,i)::r,o=>if i==.free then nP a r ((u,(a.lookup u).getD 0)::o)else nP a r o
theorem En:nP a ((u,i)::r) o=if i==.free then nP a r ((u,(a.lookup u).getD 0)::o)else nP a r o:=C
theorem Eo(h:∀p∈v.names,p.2=.free->(G.cells.lookup p.1).isSome=Y):closureFor v G=pure (nP G.cells v.names []):=by
 delta closureFor
 suffices∀(F:I _)(o:I _),(∀p∈F,p.2=.free->(G.cells.lookup p.1).isSome=Y)->
   (forIn F o λx r=>if(x.2==.free)=Y then(do let c<-cellOf G x.1;pure (vj ((x.1,c)::r)):Sem _)else pure (vj r))=pure (nP G.cells F o)by
  have:=this v.names [] h
  first|exact this|simpa using this
 intro F
 induction F with
 |nil=>intro o _;rfl
 |cons p r n=>
  intro o h;obtain⟨u,i⟩:=p;simp only [Rx];simp only [En]
  by_cases B:(i==Dl)=Y
  .have:=h (u,i) gC (dh B);refine bG (gG.mp this) λc l=>?_;simp only [B,cellOf,l,bind_assoc];exact n _ λp t=>h p (fF _ t)
  .simp only [B,pure_bind];exact n _ λp t=>h p (fF _ t)
theorem Uo(l:a.lookup H=D c):∀(F:I _)(o:I _),((H,Dl)∈F\/o.lookup H=D c)->(∀d,o.lookup H=D d->d=c)->(nP a F o).lookup H=D c:=λT=>T.rec
 (λo h E=>h.elim (λh=>bA (h) dR) id)
 (λ(u,i)r n o h P=>by
  simp only [En]
  by_cases B:(i==Dl)=Y
  .rw [aM B]
   by_cases z:H=u
   .subst z;refine n _ (.inr ?_) λd q=>?_
    .simp [l]
    .simp [l]at q;exact q.symm
   .have f:(H==u)=ay:=by simpa using z
    refine n _ ?_ λd q=>?_
    .rcases h with h|h
     .rcases cD.mp h with e|h
      .exact bA (mE e).1 z
      .exact .inl h
     .right;apply ae (tD);exact(f)▸(h)
    .simp only [tD,f]at q;exact P d q
  .rw [aJ B];refine n o ?_ P;rcases h with h|h
   .rcases cD.mp h with e|h
    .have:=(mE e).2;subst this;exact bA C B
    .exact .inl h
   .exact .inr h)
def i6(scope:je)(d:au)(G:c4):c4:=
 {scope:=relabel scope G,locals:=d,globals:=G.globals,cells:=cellsFrom (d+1) scope.names (nP G.cells scope.names []),qual:=G.qual,func:=aa,code:=G.code,frame:=G.frame,builtins:=G.builtins}
theorem M4(B:scope.kind=.function)
  (R:Q {scope,locals:=s.heap.objs.size,globals:=G.globals,cells:=cellsFrom (s.heap.objs.size+1) scope.names O,qual:=G.qual,func:=aa,code:=G.code,frame:=G.frame,builtins:=G.builtins}
   {s with heap:=pushCells (s.heap.push {cls:=.type "dict",data:=.dict #[]}) scope.names}):
  aQ M L (newFunctionEnv scope G.globals O [] G.qual aa .none (D G)) Q H s:=by
 exact aG (wpAny_alloc (aG (wpAny_layCells _ (λh e cells=>C) _ _ _ _ ((lI ..)▸(aG (bN (bN R)))))))
theorem F_{R:Type}{L:af×R->af×R}(g:∀p,(L p).1=p.1){k:R}:∀{l:I _},l.lookup x=D k->(l.map L).lookup x=D (L (x,k)).2
 |(u,q)::r,h=>by
  rw [tD]at h;have e:L (u,q)=(u,(L (u,q)).2):=R1 (g (u,q)) C;rw [iK,e,tD];cases f:x==u with
  |true=>
   rw [f]at h;have h:=bj h;subst h;have:=dh f;subst this
   rfl
  |false=>
   rw [f]at h;exact F_ g h
theorem OL(v:je)(G:c4):(relabel v G).names=v.names.map λp=>(if(p.2==.free&&G.scope.kind==.function&&G.kindOf p.1==D .cell)then(p.1,.cell)else(p.1,p.2)):=C
theorem za(B:i≠.free)(h:v.names.lookup x=D i):(relabel v G).names.lookup x=D i:=by
 rw [OL,F_ (λp=>by split<;>rfl) h];have:(i==Dl)=ay:=by simpa using B
 simp [this]
theorem OK(h:v.names.lookup x=D .free):(relabel v G).names.lookup x=D .free\/(relabel v G).names.lookup x=D .cell:=by
 rw [OL,F_ (λp=>by split<;>rfl) h]
 split
 .exact .inr C
 .exact .inl C
structure nJ(scope:je)(os cs:I af):Prop where
 kind:scope.kind=.function
 own:∀x∈os,scope.names.lookup x=D .local\/scope.names.lookup x=D .cell
 jw:∀y∈cs,scope.names.lookup y=D .free/\(∀p∈scope.names,p.1=y->p.2=.free)/\(y==("__classdict__":af))=ay
 free:∀p∈scope.names,p.2=.free->p.1∈cs
 nodup:(os++cs).Nodup
 names:∀x∈scope.names,x.2=.local->scope.names.lookup x.1=D .local
structure jf(V:c4)(xs:I af)(cs:I af)(ci:I J):Prop where
 len:ci.length=cs.length
 at_:∀(j i:J)(y:af),ci[j]?=D i->cs[j]?=D y->xs[i]?=D y
 nl:∀y∈cs,V.kindOf y≠D .local
noncomputable def nS(os:I af)(a:I J)(y:I (AV q)):I (AV q):=nE os.length .un++a.map λi=>(y[i]?).getD .un
noncomputable def uz(os:I af)(a:I J)(r:J->I au):J->I au:=λi=>if i<os.length then []else((a[i-os.length]?).map r).getD []
noncomputable def sG(x z:I au)(a:I J)(r:J->I au)(h:cf)(g:Fz):HB:=
 ⟨λb=>if b∈x\/b∈z\/(∃i∈a,b∈r i)then aa else h.get? b,[],g,[]⟩
noncomputable def m9(os:I af)(a:I J)(y H:I (AV q)):I (AV q):=y.mapIdx λi E=>if i∈a then(H[os.length+a.idxOf i]?).getD .un else E
noncomputable def nY(os:I af)(a:I J)(r v:J->I au):J->I au:=λi=>if i∈a then v (os.length+a.idxOf i)else r i
open Classical in
theorem Bv{b:au}(f:b∈x\/b∈z\/∃i∈a,b∈r i):(sG x z a r h g).b b=aa:=aM ‹_›
theorem FA(f:h.get? b=aa):(sG x z a r h g).b b=aa:=by
 delta sG;simp only;split<;>first|rfl|exact f
theorem Bw{b:au}(w:b∉x)(v:b∉z)(R:∀i∈a,b∉r i):(sG x z a r h g).b b=h.get? b:=by
 delta sG;simp only
 rw [aJ];rintro(q|q|⟨i,A,q⟩)
 .exact w q
 .exact v q
 .exact R i A q
theorem yt{l:I J}(h:i∈l):l[l.idxOf i]?=D i:=by
 apply ae (dD (List.idxOf_lt_length_iff.mpr h));simp
section
variable{V:c4}{xs os cs:I af}{ci:I J}{cK:J->I au}
theorem Em(r:nJ v os cs)(L:H∈cs)(l:V.cells.lookup H=D c):(i6 v d V).cells.lookup H=D c:=by
 show(cellsFrom _ v.names _).lookup H=D c;refine gv (r.jw H L) λw h E=>?_;rw [AS,IC,JZ _ _ λp t e=>by rw [h p t e];decide];have R:=by
  have:=mem_of_lookup w;exact this
 apply ae (Uo l v.names [] (.inl R) λa q=>aV C q)
 rfl
theorem aa4(r:nJ v os cs){d:au}(j:v.names.lookup x=D .cell):∃c,(cellsFrom (d+1) v.names []).lookup x=D c/\(i6 v d V).cells.lookup x=D c:=by
 refine bG (gG.mp (t6 v.names (d+1) [] (.inl j))) λc l=>⟨c,l,?_⟩;show(cellsFrom _ v.names _).lookup x=D c;rw [AS,IC,l];rfl
inductive SD(B:bD O)(ρ:Mk)(fz:Fz)(V:c4)(xs:I af)(ci:I J)(lv:I (AV O))(cK:J->I au)(h:cf)(j:J)(y:af):Prop
 |mk(i:J)(c:au)(ov:bg aB)(av:AV O)(hi:ci[j]?=D i)(hm:i∈ci)(hx:xs[i]?=D y)(hl:lv[i]?=D av)(hc:V.cells.lookup y=D c)(cell:h.IsCell c ov)(hh:Holds B ρ fz h av ov (cK i))(sD:V.kindOf y≠D .local)
inductive I3(V:c4)(xs os cs:I af)(ci:I J)(scope:je)(bq:J)(h:cf)(i:J)(x:af)(c:J):Prop
 |inl(hi:i<os.length)(hm:(x,c)∈cellsFrom (bq+1) scope.names [])(hc:bq+1<=c)
 |inr(hi:os.length<=i)(i':J)(hx:cs[i-os.length]?=D x)(Xw:ci[i-os.length]?=D i')(hm:i'∈ci)(hxi:xs[i']?=D x)(Bp:V.cells.lookup x=D c)(hal:(h.get? c).isSome=Y)(sD:V.kindOf x≠D .local)
theorem Lq{h:cf}(l:h.objs.size<=c):h.get? c=aa:=iV λE q=>bA (fk q) (h9.mpr l)
theorem JA{h:cf}(e:(h.get? b).isSome=Y):b<h.objs.size:=(gG.mp e).elim λE T=>fk T
theorem aW.Jz(S:aW X F hB g V xs k y m cK h)(w:i<U xs):∀b∈cK i,(h.get? b).isSome=Y:=
 match S.vars i _ _ (dD w) (dD (S.len▸w))with|⟨_,_,B⟩=>B.live
theorem jf.ix(h:jf V xs cs ci){t i:J}(e:ci[t]?=D i):∃H,cs[t]?=D H/\xs[i]?=D H:=
 ⟨_,dD _,h.at_ t i _ e (dD (h.len▸j4 e))⟩
theorem jf.lt(e:jf V xs cs ci)(A:i∈ci):i<U xs:=bG (pO A) λE a=>ai (e.ix a) λE E h=>j4 h
theorem jf.inj(h:jf V xs cs ci)(Q:cs.Nodup){t m:J}(e:ci[t]?=D i)(O:ci[m]?=D i):t=m:=match h.ix e,h.ix O with
 |⟨_,a,b⟩,⟨_,T,z⟩=>qn Q a (ae T (ae z.symm b))
theorem Up(j:x∉cs):∀(F:I _)(o:I _),(∀p∈F,p.2=.free->p.1∈cs)->o.lookup x=aa->(nP V.cells F o).lookup x=aa:=λT=>T.rec
 (λE E h=>h)
 (λ(X,i)r n o g u=>by
  have l:=λp t=>g p (fF _ t);simp only [En]
  split
  .rename_i B;have:(x==X)=ay:=beq_false_of_ne λe=>j (e▸g (X,i) (.head _) (dh B));exact n _ l (by apply ae (tD);exact(this)▸(u))
  .exact n _ l u)
theorem JY(co:jf V xs cs ci)(S:aW e F hB g V xs k h m cK a)(L:cs[t]?=D H):SD e F g V xs ci h cK a t H:=by
 have A:=dD (co.len.symm▸j4 L);have j:=co.at_ t _ H A L;have X:=dD (S.len.symm▸j4 j);obtain⟨Q,u,B⟩:=S.vars _ H _ j X;have y:=co.nl H (cN L);rcases u with⟨q,_⟩|⟨_,c,l,o⟩
 .exact bA q y
 .exact⟨_,c,Q,_,A,cN A,j,X,l,o,B,y⟩
theorem Ud(r:nJ v os cs)(h:jf V xs cs ci)(S:aW X F hB g V xs n y f cK b)(s:∀{u c},(u,c)∈cellsFrom (d+1) v.names []->d+1<=c){c:J}(j:(os++cs)[i]?=D x)(l:(i6 v d V).cells.lookup x=D c):
  I3 V xs os cs ci v d b i x c:=by
 by_cases A:i<U os
 .have l:(cellsFrom (d+1) v.names _).lookup x=D c:=l;rw [AS,IC,Up (λq=>(gk.mp r.nodup).2.2 x (cN ((nC A).symm.trans j)) x q C) v.names [] r.free C,agr]at l;have a:=mem_of_lookup l;exact .inl A a (s a)
 .have A:=iM A;have j:=(kR A).symm.trans j;obtain⟨z,B,Q,E,w,k,R,o,H,m,p,G⟩:=JY h S j;have e:=bj (ae l.symm (Em r (cN j) H));exact ai m λL O t=>.inr A z j w k R (e.symm▸H) (e.symm▸cW O) G
inductive SO(os:I af)(ci:I J)(cK:J->I au)(i:J)(b:au):Prop
 |mk(i':J)(hle:os.length<=i)(Xw:ci[i-os.length]?=D i')(hm:i'∈ci)(hb:b∈cK i')
theorem Bj(f:b∈uz os ci cK i):SO os ci cK i b:=by
 delta uz at f
 split at f
 .exact bA (f) dR
 .cases q:ci[i-U os]? with
  |none=>exact bA ((q▸f)) dR
  |some z=>exact⟨z,iM ‹_›,q,cN q,(q▸f:b∈((D z).map cK).getD [])⟩
theorem Zm(A:i<U os):(nS os ci y)[i]?=D .un:=by
 refine ae (nC (RB.symm▸A)) ?_;apply ae (Rz);rw [aM A]
theorem Zl(A:U os<=i)(w:ci[i-U os]?=D z)(v:y[z]?=D E):(nS os ci y)[i]?=D E:=by
 refine ae (kR (RB.symm▸A)) ?_;simp only [RB,jr,w,Dw,v];rfl
theorem WQ(A:i<U os):uz os ci cK i=[]:=aM A
theorem WO(A:U os<=i)(w:ci[i-U os]?=D z):uz os ci cK i=cK z:=ae (aJ (h9.mpr A)) (w▸C)
theorem Pb(r:nJ v os cs)(a:jf V xs cs ci){s:aU}(bU:gm V)(S:aW X bR eu ao V xs mw bE kP cK s.heap)(aF:∀b∈a_,e9 X eu ao V xs cK b/\(s.heap.get? b).isSome=Y)
  (kQ:∀i∈ci,∀ez,bE[i]?≠D (.own ez))(h8:ol.isFreed=ay)(dK:dB={cls:=.type "dict",data:=.dict #[]}){d:J}(aL:d=(s.heap.push ol).objs.size){y:cf}(aq:y=pushCells ((s.heap.push ol).push dB) v.names):
  gm (i6 v d V)/\aW X bR ((sG X.tabs a_ ci cK s.heap ao).add (s.heap.objs.size::a_) y) ao (i6 v d V) (os++cs) (U os) (nS os ci bE) (λaj=>aa) (uz os ci cK) y:=by
 have O:=eI (fG _) (fq (by apply ae (aL);simp only [lI]:d=s.heap.objs.size+1).symm);have bz:∀{c:J},d+1<=c->s.heap.objs.size<=c:=(aD (e7 (jW O)));have cu:∀{c:J}{P:Prop},d+1<=c->c<s.heap.objs.size->P:=λq h=>bA h (h9.mpr (bz q));have G:bF s.heap y:=λb o e=>aq.symm▸xX _ _ b o (eH _ (eH _ e));have aX:∀c:J,s.heap.objs.size<=c->s.heap.get? c=aa:=λc l=>Lq l;have fresh:=λc l=>S.free (aX c l);have aH:=cellsFrom_ok v.names ((s.heap.push ol).push dB) _ [] ⟨λaj aj R=>(bA (R) dR),List.Pairwise.nil⟩ (by simp only [lI,<-aL];exact dz _);simp only [lI,<-aL,<-aq]at aH;have u:∀(i:J)(x:af)(c:J),(os++cs)[i]?=D x->(i6 v d V).cells.lookup x=D c->I3 V xs os cs ci v d s.heap i x c:=λi x c j l=>Ud r a S (λh=>(aH.empty _ _ h).2) j l;have cF:∀(i:J)(x:af),U os<=i->(os++cs)[i]?=D x->(i6 v d V).kindOf x=D .free\/(i6 v d V).kindOf x=D .cell:=λi x A j=>by
  rw [kR A]at j;exact OK (r.jw x (cN j)).1
 have g:∀i∈ci,i<U xs:=λi A=>a.lt A;have E:∀{b:J},(s.heap.get? b).isSome=Y->b<s.heap.objs.size:=JA;have aC:∀{b:J},b<s.heap.objs.size->b<d:=λh=>qE h O;have ak:∀{b:J},b<d->(∀i x,xs[i]?=D x->V.kindOf x≠D .local->V.cells.lookup x≠D b)->∀(i:J)(x:af),(os++cs)[i]?=D x->(i6 v d V).kindOf x≠D .local->(i6 v d V).cells.lookup x≠D b:=λf aT i x j aj l=>by
  rcases u i x _ j l with⟨_,_,q⟩|⟨_,aK,bH,lF,bP,n,L,m,p⟩
  .exact h9.mpr q (jW f)
  .exact aT aK x n p L
 have bC:∀{b:J},(∀i,i<U xs->b∉cK i)->∀t,t<U (os++cs)->b∉uz os ci cK t:=λaT t aj R=>match Bj R with|⟨z,_,_,R,k⟩=>aT z (a.lt R) k
 refine⟨⟨r.kind,bU.globals,bU.builtins⟩,?_⟩
 have base:aW X bR _ ao (i6 v d V) _ (U os) (nS os ci bE) _ (uz os ci cK) y:={
  lock:=λnB fj=>(dR fj).elim
  len:=by delta nS;simp [a.len]
  base:=λb o e=>G b o (S.base b o e)
  kept:=λb o e=>by
   by_cases q:b∈X.tabs\/b∈a_\/∃i∈ci,b∈cK i
   .exact aV (Bv q) e
   .rw [Bw (λh=>q (.inl h)) (λh=>q (.inr (.inl h))) (λi A h=>q (.inr (.inr ⟨i,A,h⟩)))]at e
    exact G b o e
  bJ:=λb o e=>G b o (S.bJ b o e)
  ns:=by
   have:=by exact(aL)▸(dK)▸(Heap.Ns.new _ _)
   exact aq.symm▸this.keeps (xX _ _)
  nL:=⟨FA (aX d (e7 O)),(fresh d (e7 O)).fz⟩
  f_:=λb o e=>ae (Bw (S.i_ (S.f_ b o e)) (λq=>aV (aF b q).1.hb (S.f_ b o e)) λi A q=>aV (S.fp i (g i A) b q).1 (S.f_ b o e)) (S.base b o e)
  vars:=λi x lG j cg=>by
   by_cases A:i<U os
   .rw [nC A]at j
    obtain rfl:=bj ((Zm A).symm.trans cg)
    rw [WQ A]
    rcases r.own x (cN j)with q|q
    .exact⟨aa,.inl ⟨za (nofun) q,C⟩,C⟩
    .exact ai (aa4 r q) λc aE cB=>⟨aa,.inr ⟨.inl (za (nofun) q),c,cB,(aH.empty x c (mem_of_lookup aE)).1⟩,C⟩
   .have A:=iM A
    have B:=cF i x A j
    rw [kR A]at j
    obtain⟨z,c,gc,pL,aE,cB,pM,gi,gU,e6,jd,mu⟩:=JY a S j
    cases bj ((Zl A aE gi).symm.trans cg)
    rw [WO A aE]
    refine ai e6 λdO d8 ej=>⟨gc,.inr ⟨?_,c,Em r (cN j) gU,dO,G _ _ d8,ej⟩,jd.mono (Le.refl _) (λb o e=>G b o (S.base b o e)) λb aj o e=>G b o e⟩
    rcases B with B|B
    .exact .inr ⟨B,(r.jw x (cN j)).2.2⟩
    .exact .inl B
  own:=λi x c A j cV l=>by
   rcases u i x c j l with⟨_,_,q⟩|⟨q,_⟩
   .exact FA (aX c (bz q))
   .exact bA A (h9.mpr q)
  jw:=λi x c A j l cV=>by
   rcases u i x c j l with⟨q,_⟩|⟨_,z,bH,H,R,n,L,m,p⟩
   .exact bA q (h9.mpr A)
   .exact bG (gG.mp m) λo bf=>⟨o,ae (Bw (λq=>(S.tab c q).2.2.2.1 z x n p L) (λq=>(aF c q).1.cell z x n p L) (λaK eN q=>(S.fp aK (g aK eN) c q).2.2.2 z x n p L)) bf⟩
  cell:=λi x c j cV l=>by
   rcases u i x c j l with⟨_,_,q⟩|⟨_,z,bH,H,R,n,L,m,p⟩
   .exact⟨vy q,(fresh c (bz q)).fz⟩
   .exact⟨fH (qE (E m) O),(S.cell z x c n p L).2⟩
  qM:=λi x A j=>by
   rcases cF i x A j with q|q<;>rw [q]<;>decide
  inj:=λi t x bh c j bl kh kO fy b_=>by
   rcases u i x c j fy with⟨_,bx,fB⟩|⟨bx,z,bH,H,R,n,L,m,p⟩
   .rcases u t bh c bl b_ with⟨_,w,cA⟩|⟨w,ah,fZ,aN,eR,bY,cL,cQ,cH⟩
    .have:=Sn aH.apart bx w
     subst this
     exact qn r.nodup j bl
    .exact cu fB (E cQ)
   .rcases u t bh c bl b_ with⟨_,w,cA⟩|⟨w,ah,fZ,aN,eR,bY,cL,cQ,cH⟩
    .exact cu cA (E m)
    .have e:=S.inj z ah x bh c n bY p cH L cL
     subst e
     exact(tF bx).symm.trans (ae (aA (·+os.length) (a.inj (gk.mp r.nodup).2.1 H aN)) (tF w))
  nodup:=λi t x A cZ=>qn r.nodup A cZ
  fp:=λi A b f=>by
   obtain⟨z,_,_,R,k⟩:=Bj f
   have F:=S.fp z (g z R) b k
   have Q:=aC (E (S.Jz (a.lt R) b k))
   exact⟨Bv (.inr (.inr ⟨z,R,k⟩)),F.2.1,fH Q,ak Q F.2.2.2⟩
  inv:=bD.ir S.inv λP aP o e=>G P o e
  tab:=λP aP=>by
   have T:=S.tab P aP
   have Q:=aC (E (X.live S.inv P aP))
   exact⟨Bv (.inl aP),T.2.1,fH Q,ak Q T.2.2.2.1,bC T.2.2.2.2⟩
  apart:=λi t A cZ gV b f jn=>by
   obtain⟨z,jm,H,R,k⟩:=Bj f
   obtain⟨ah,jo,aN,bP,eG⟩:=Bj jn
   refine S.apart z ah (g z R) (g ah bP) (λe=>?_) b k eG
   subst e
   exact gV ((tF jm).symm.trans (ae (aA (·+os.length) (a.inj (gk.mp r.nodup).2.1 H aN)) (tF jo)))
  dJ:=λb f=>(dR f).elim
  new:=λb o e=>.inl e}
 refine base.enter (λb f=>?_) (λb f=>?_)
 .rcases cD.mp f with rfl|f
  .have F:=fresh _ (dz _);exact⟨FA (gS s),F.fz,fH O,ak O F.cell,bC F.fp,F.tab,F.h0⟩
  .exact bT (aF b f) λF Q=>⟨Bv (.inr (.inl f)),F.fz,fH (aC (E Q)),ak (aC (E Q)) F.cell,bC F.fp,F.tab,F.h0⟩
 .rcases cD.mp f with rfl|f
  .rw [aq,xX _ _ _ _ (eH _ (eS _ h8))];rfl
  .exact bG (gG.mp (aF b f).2) λo bf=>cW (G b o bf)
end
section
variable{B:bD O}{os:I af}
theorem uI{R:Type}{o:bg R}{P:Prop}(h:o=aa)(e:o.isSome=Y):P:=cY C ((h▸e:(aa).isSome=Y))
structure Off(tabs wr:I au)(ci:I J)(cK:J->I au)(b:au):Prop where
 t:b∉tabs
 w:b∉wr
 f:∀i∈ci,b∉cK i
theorem Off.b{b:au}(p:Off B.tabs z a r b)(e:(h.get? b).isSome=Y):((sG B.tabs z a r h g).add (h.objs.size::z) v).b b=h.get? b:=
 ae (lQ λq=>(cD.mp q).elim (λq=>bA (q▸JA e) (i3 _)) p.w) (Bw p.t p.w p.f)
theorem aaX(h:y[i]?=D e):(m9 os a y H)[i]?=D (if i∈a then(H[U os+a.idxOf i]?).getD .un else e):=ae Ry (aA _ h)
theorem aaZ(h:i∈a):nY os a r v i=v (U os+a.idxOf i):=aM h
theorem aa1(h:i∉a):nY os a r v i=r i:=aJ h
theorem uO(h:i∈a)(f:b∈nY os a r v i):b∈v (U os+a.idxOf i):=(aM h:nY os a r v i=_)▸f
theorem uP(h:i∉a)(f:b∈nY os a r v i):b∈r i:=(aJ h:nY os a r v i=_)▸f
theorem jf.FE(e:jf G n h a)(A:i∈a):(os++h)[U os+a.idxOf i]?=n[i]?:=ai (e.ix (yt A)) λE x b=>ae ((kR (fO _ _)).trans ((aA _ (xO _ _)).trans x)) b.symm
theorem jf.sF(h:jf G n b a)(A:i∈a):U os+a.idxOf i<U (os++b):=match dD (h.lt A)with
 |e=>j4 (ae (h.FE A) e)
theorem aW.Jy{i:J}(S:aW B F hB g G n k y m r h)(j:n[i]?=D x)(H:G.kindOf x≠D .local)(l:G.cells.lookup x=D c):(h.get? c).isSome=Y:=by
 obtain⟨Q,u,_⟩:=S.vars i x _ j (dD (S.len▸j4 j));rcases u with⟨e,_⟩|⟨_,a,X,b,O,_⟩
 .exact bA e H
 .exact bj (ae X.symm l)▸cW O
theorem Pa(fj:nJ fB os cg)(h:jf G n cg a){s:aU}(S:aW B aH k E G n b_ bf cA r s.heap)(w:∀b∈z,e9 B k E G n r b/\(s.heap.get? b).isSome=Y)
  (gi:∀i∈a,∀cL,bf[i]?≠D (.own cL))(ez:s.heap.objs.size<bH)(ej:Le E p)
  (m:aW B aH ((sG B.tabs z a r s.heap E).add (s.heap.objs.size::z) gV) p (i6 fB bH G) (os++cg) os.length aE fZ v aL):
  aW B aH k p G n b_ (m9 os a bf aE) cA (nY os a r v) aL/\e9 B k p G n (nY os a r v) s.heap.objs.size/\e9 B k p G n (nY os a r v) bH/\(∀b,b∈z->e9 B k p G n (nY os a r v) b):=by
 have aX:=λ{i}cZ=>S.Jz (i:=i) cZ;have Q:∀{b o},s.heap.get? b=D o->Off B.tabs z a r b->aL.get? b=D o:=λe aN=>m.kept _ _ ((aN.b (cW e)).trans e);have ak:∀{b},(s.heap.get? b).isSome=Y->Off B.tabs z a r b->E b=aa->p b=aa:=λg aN aT=>iV λo e=>by
  rcases m.new _ o e with q|q
  .exact aV aT q
  .exact uI ((aN.b g).symm.trans q) g
 have aC:∀{b},(k.b b).isSome=Y->Off B.tabs z a r b:=λf=>⟨λq=>uI (S.tab _ q).1 f,λq=>uI (w _ q).1.hb f,λi A q=>uI (S.fp i (h.lt A) _ q).1 f⟩;have aP:Off B.tabs z a r G.locals:=⟨λq=>(S.tab _ q).2.2.1 C,λq=>(w _ q).1.loc C,λi A q=>(S.fp i (h.lt A) _ q).2.2.1 C⟩;have aq:∀{i x c},n[i]?=D x->G.kindOf x≠D .local->G.cells.lookup x=D c->Off B.tabs z a r c:=λj H l=>
  ⟨λq=>(S.tab _ q).2.2.2.1 _ _ j H l,λq=>(w _ q).1.cell _ _ j H l,λt O q=>(S.fp t (h.lt O) _ q).2.2.2 _ _ j H l⟩
 have cB:=jz S.ns λao ao ao y ao=>cW y;have aj:∀{i b},i<n.length->i∉a->b∈r i->Off B.tabs z a r b:=λA aF f=>
  ⟨λq=>(S.tab _ q).2.2.2.2 _ A f,λq=>(w _ q).1.fp _ A f,λt O q=>S.apart _ t A (h.lt O) (λe=>aF (e▸O)) _ f q⟩
 have X:∀{i b},i∈a->b∈v _->(s.heap.get? b).isSome=Y->¬Off B.tabs z a r b:=λA f g q=>uI ((q.b g).symm.trans (m.fp _ (h.sF A) _ f).1) g
 have dK:aW B aH k p G n b_ (m9 os a bf aE) cA (nY os a r v) aL:={
  len:=List.length_mapIdx.trans S.len
  base:=m.base
  kept:=λb o e=>Q (S.kept b o e) (aC (cW e))
  bJ:=m.bJ
  ns:=jz S.ns λo eu cQ y eG=>(l0 o eu cQ (Q y aP) eG)
  nL:=⟨S.nL.1,ak cB aP S.nL.2⟩
  f_:=S.f_
  lock:=λeN eR x j=>(S.lock eN eR x j).keep λc aK l o e=>Q e (aq j aK l)
  vars:=λi x gc j d=>by
   have bx:=S.len▸j4 j
   obtain⟨fy,bz,cH⟩:=S.vars i x _ j (dD bx)
   have d:=bj (d.symm.trans (aaX (dD bx)))
   by_cases l:i∈a
   .have bC:os.length+a.idxOf i<aE.length:=m.len▸h.sF l
    rw [aM l,dD bC]at d
    subst d
    obtain⟨cF,e6,cV⟩:=m.vars _ x _ ((h.FE l).trans j) (dD bC)
    have bE:=(h.ix (yt l)).elim λao q=>bj (q.2.symm.trans j)▸d9 _ q.1
    rcases bz with⟨q,_⟩|⟨dB,c,L,_⟩
    .exact bA q (h.nl x bE)
    .rcases e6 with⟨q,_⟩|⟨_,gU,dO,d8⟩
     .exact bA q (m.qM _ x (fO _ _) ((h.FE l).trans j))
     .exact⟨cF,.inr ⟨dB,c,L,bj ((Em fj bE L).symm.trans dO)▸d8⟩,aaZ l▸cV⟩
   .rw [aJ l]at d
    subst d
    exact⟨fy,bz.keep λc aK l o e=>Q e (aq j aK l),aa1 l▸cH.mono ej m.base λb f o e=>Q e (aj (j4 j) l f)⟩
  own:=S.own
  jw:=S.jw
  cell:=λi x c j H l=>by
   have F:=S.cell i x c j H l
   exact⟨F.1,ak (S.Jy j H l) (aq j H l) F.2⟩
  qM:=S.qM
  inj:=S.inj
  nodup:=S.nodup
  fp:=λi A b f=>by
   by_cases l:i∈a
   .replace f:=uO l f
    refine(k8 (iV λo e=>X l f (cW (S.kept b o e)) (aC (cW e))) (m.fp _ (h.sF l) b f).2.1 (λe=>X l (e▸f) cB aP) (λt x j H L=>X l f (S.Jy j H L) (aq j H L)))
   .replace f:=uP l f
    have F:=S.fp i A b f
    exact(dI F.1 (ak (aX A b f) (aj A l f) F.2.1) F.2.2)
  inv:=m.inv
  tab:=λbP bR=>by
   have T:=S.tab bP bR
   have bl:=m.tab bP bR
   refine(k9 T.1 bl.2.1 T.2.2.1 T.2.2.2.1 (λi A f=>?_))
   by_cases l:i∈a
   .exact bl.2.2.2.2 _ (h.sF l) (uO l f)
   .exact T.2.2.2.2 i A (uP l f)
  apart:=λi t A O bY b f u=>by
   by_cases l:i∈a<;>by_cases P:t∈a
   .exact m.apart _ _ (h.sF l) (h.sF P) (λe=>bY (bj ((yt l).symm.trans ((aA _ (af8 e)).trans (yt P))))) b (uO l f) (uO P u)
   .replace u:=uP P u
    exact X l (uO l f) (aX O b u) (aj O P u)
   .replace f:=uP l f
    exact X P (uO P u) (aX A b f) (aj A l f)
   .exact S.apart i t A O bY b (uP l f) (uP P u)
  dJ:=λb f=>by
   have ah:=S.dJ b f
   exact bG (gG.mp ah.1) λo y=>(dI ah.1 (ak (cW (S.kept b o y)) (aC ah.1) ah.2.1) ah.2.2)
  new:=λb o e=>(m.new b o e).elim (S.new b o) λq=>.inr (iV λbU a_=>aV q (((aC (cW a_)).b (cW (S.kept b bU a_))).trans (S.kept b bU a_)))}
 have cu:∀{b},e9 B k E G n r b->p b=aa->(∀i∈a,b∉v (os.length+a.idxOf i))->e9 B k p G n (nY os a r v) b:=λF aT aF=>⟨F.hb,aT,F.loc,F.cell,λi A R=>by
  by_cases l:i∈a
  .exact aF i l (uO l R)
  .exact F.fp i A (uP l R),F.tab,F.h0⟩
 have dJ:=λ{b}f=>m.dJ b (gj _ f);have bh:=λ{b}f F=>cu (b:=b) F (dJ f).2.1 λi l R=>uI (m.fp _ (h.sF l) _ R).1 (dJ f).1;exact(k8 dK (bh gC (S.free (gS s))) (cu (S.free (Lq (e7 ez))) m.nL.2 λi l R=>(m.fp _ (h.sF l) _ R).2.2.1 C) (λb f=>bh (fF _ f) (w b f).1))
theorem aW.iE{h O:cf}(S:aW B ρ hB g G n E y m r h)(F:e9 B hB g G n r s)(a:gW s h O):aW B ρ hB g G n E y m r O:=by
 have t:∀{L:Fz}{b o},L s=aa->L b=D o->b≠s:=λH v e=>aV (ae (aA _ e) H) v;have k:=λb o e=>ae (a.2 b (λq=>aV ((aA _ q).trans F.h0) e)) (S.base b o e)
 exact{S with
  base:=k
  kept:=λb o e=>ae (a.2 b (t F.hb e)) (S.kept b o e)
  bJ:=λb o e=>ae (a.2 b (t F.fz e)) (S.bJ b o e)
  ns:=S.ns.sameBut a (iC F.loc)
  vars:=λi x X j d=>by
   obtain⟨Q,u,f⟩:=S.vars i x X j d
   refine⟨Q,u.keep λc w l o e=>ae (a.2 c (λq=>F.cell i x j w (q▸l))) e,f.mono (Le.refl _) k λb A o e=>ae (a.2 b (λq=>F.fp i (cG.mp j).1 (q▸A))) e⟩
  lock:=λp T x j=>(S.lock p T x j).keep λc w l o e=>ae (a.2 c (λq=>F.cell p.1 x j w (q▸l))) e
  inv:=bD.ir S.inv λP z o e=>ae (a.2 P (λq=>F.tab (q▸z))) e}
theorem aW.WW(S:aW B w hB g G n d y m r l)(F:e9 B hB g G n r a)(T:l.get? a=D (lo z X)):
  Le g (k7 g a (lo z X))/\aW B w hB (k7 g a (lo z X)) G n d y m r l:=
 have h:=yr F.fz
 ⟨h,{S with
  bJ:=λb o e=>qS e (λp v=>p▸v▸T) (S.bJ b o)
  nL:=⟨S.nL.1,qT (iC F.loc) S.nL.2⟩
  vars:=λi x L j O=>match S.vars i x L j O with|⟨Q,u,q⟩=>⟨Q,u,q.mono h S.base λE E E e=>e⟩
  cell:=λi x c j H t=>have A:=S.cell i x c j H t;⟨A.1,qT (λe=>F.cell i x j H (e▸t)) A.2⟩
  fp:=λi k b f=>have A:=S.fp i k b f;(dI A.1 (qT (λe=>F.fp i k (e▸f)) A.2.1) A.2.2)
  tab:=λP s=>have A:=S.tab P s;(dI A.1 (qT (λe=>F.tab (e▸s)) A.2.1) A.2.2)
  dJ:=λb f=>have A:=S.dJ b f;(dI A.1 (qT (λe=>uI F.hb (e▸A.1)) A.2.1) A.2.2)
  inv:=bD.uC h S.inv λP E o e=>e
  new:=λb o e=>qS e (λp E=>p▸.inr F.hb) (S.new b o)}⟩
end
def qH(X:bD q)(m:cy)(w:bZ)(L:c3)(F:Mk)(G:c4)(n:I af)(k:J)(y:I (AV q))(e:cE)(x:I (AV q))(p:I T):Prop:=
 ∀(h:HB)(g:Fz)(s:aU)(Q:aB->aU->Prop)(H:aB->aU->Prop),SR X F h g G n k y s.heap->
  (∀t j a z i b r,bQ s t->Le g j->gm G->aW X F h j G n k x b r t.heap->e9 X h j G n r a->t.heap.get? a=D (lo z i)->bu F j z p->Q (.ref a) t)->
  aQ (aI m w) L (eval e G) Q H s
def vK(X:bD q)(m:cy)(w:bZ)(L:c3)(F:Mk)(G:c4)(n:I af)(k:J)(y:I (AV q))(e:I cE)(x:I (AV q))(b:bw):Prop:=
 ∀(T:HB)(g:Fz)(s:aU)(Q:bw->aU->Prop)(H:aB->aU->Prop),SR X F T g G n k y s.heap->
  (∀t j,bQ s t->Le g j->SR X F T j G n k x t.heap->Q b t)->
  aQ (aI m w) L (forIn e Y λc r=>if r=Y then do let A<-isTrue c G (eval c G);pure (vj A)else pure (vj r)) Q H s
inductive DJ(B:bD O)(Z:cy)(w:bZ)(A:c3)(ρ:Mk)(V:c4)(xs:I af)(k:J)(ifs:I cE)(elt:cE)(EA:I (AV O)->I (AV O)->Prop)(lv:I (AV O))(ys:I T)(X:I (AV O)->I T->Prop):Prop
 |go{y:T}{Qg:I T}{aY dc m4:I (AV O)}(ha:EA lv aY)(ht:vK B Z w A ρ V xs k aY ifs dc Y)(he:cP B Z w A ρ V xs k dc elt m4 y)(h:X m4 Qg)(e:ys=y::Qg)
 |skip{aY dc:I (AV O)}(ha:EA lv aY)(ht:vK B Z w A ρ V xs k aY ifs dc ay)(h:X dc ys)
def mJ(X:bD q)(m:cy)(w:bZ)(L:c3)(F:Mk)(G:c4)(n:I af)(k:J)(e:I cE)(o:cE){z:Type}(a:I (AV q)->z->I (AV q)->Prop):I z->I (AV q)->I T->I (AV q)->Prop
 |[],y,S,x=>S=[]/\y=x
 |A::p,y,S,x=>DJ X m w L F G n k e o (λl=>a l A) y S λl S=>mJ X m w L F G n k e o a p l S x
def x_(X:bD q)(m:cy)(w:bZ)(L:c3)(F:Mk)(G:c4)(n:I af)(k:J)(h:cE)(e:I cE)(o:cE)(p:I T)(y:I (AV q))(S:I T)(x:I (AV q)):Prop:=
 mJ X m w L F G n k e o (λy A x=>pW X m w L F G n k y h A x) p y S x
section
variable{B:bD O}{Z:cy}{w:bZ}{A:c3}{ρ:Mk}{V:c4}{xs:I af}{k:J}{lv aY:I (AV O)}{wr:I au}{iz:cE}{ifs:I cE}
theorem mJ.nil:mJ B Z w A ρ V xs k ifs o a [] lv [] lv:=⟨C,C⟩
theorem mJ.go{p:I z}(u:a lv t aY)(l:vK B Z w A ρ V xs k aY ifs X Y)(m:cP B Z w A ρ V xs k X o m4 e)(h:mJ B Z w A ρ V xs k ifs o a p m4 S H):mJ B Z w A ρ V xs k ifs o a (t::p) lv (e::S) H:=DJ.go u l m h C
theorem mJ.skip{p:I z}(u:a lv h aY)(l:vK B Z w A ρ V xs k aY ifs X ay)(e:mJ B Z w A ρ V xs k ifs o a p X S H):mJ B Z w A ρ V xs k ifs o a (h::p) lv S H:=DJ.skip u l e
theorem qH.ev(x:qH B Z w A ρ V xs k lv e aY p):cP B Z w A ρ V xs k lv e aY (.list p):=by
 intro T g s Q H S R;exact x T g s Q H S λt u b z X m r q l i a F L d=>bT (a.WW F L) λh j=>R t _ _ q (l.trans h) ⟨i,m,r,j⟩ (.list (aM C) (d.mono h))
theorem KS:vK B Z w A ρ V xs k lv [] lv Y:=λT g s Q H S R=>wpAny_tests_nil (R s g (bQ.refl s) (Le.refl _) S)
theorem Bb(h:gn B Z w A ρ V xs k lv c aY b):vK B Z w A ρ V xs k lv [c] aY b:=λT g s Q H S R=>wpAny_tests_one (h T g s Q H S R)
theorem Uw(S:H=notedBy (aI Z w) A V λl g=>i (.error l) g)(a:J->aU->Prop)
  (z:∀u s,a u s->aQ (aI Z w) A (pyNext n) (λr c=>match r with
   |aa=>i (.ok .next) c
   |D v=>aQ (aI Z w) A (letOwnedTupleGo iz n v) (λE t=>aQ (aI Z w) A (assign iz V v) (λE F=>
     aQ (aI Z w) A (forIn ifs Y λh r=>if r=Y then do let ok<-isTrue h V (eval h V);pure (vj ok)else pure (vj r)) (λok j=>
      if ok=Y then aQ (aI Z w) A (eval f V) (λx d=>
       aQ (aI Z w) A (call (.builtin "list.append") [o,x]) (λE B=>∃m,m<u/\a m B) H d) H j
      else∃m,m<u/\a m j) H F) H t) H c) H s)
  (u:J)(k:a u s):
  codeAny (aI Z w) A (.compLoop (.ListComp f [⟨iz,iter,ifs,0⟩] scope pos) 0 n o V) i s:=by
 refine codeAny_loop C a (λu s q=>?_) u k;show aQ _ A _ _ _ s;apply wpAny_noted;rw [<-S,compTurn_list];refine aG (oE (aG (kT (z u s q) (λr c e=>?_) λE E O=>O)));cases r with
 |none=>exact bN e
 |some v=>
  refine aG (kT e (λE t p=>(aG (kT p (λE F y=>aG (kT y (λok j b=>?_) λE E O=>O)) λE E O=>O))) λE E O=>O);cases ok with
  |false=>exact bN ⟨C,b⟩
  |true=>
   exact aG (aG (kT b (λx d X=>aG (kT X (λE B L=>bN (bN ⟨C,L⟩)) λE E O=>O)) λE E O=>O))
inductive SH(B:bD O)(ρ:Mk)(V:c4)(xs:I af)(k:J)(hI:HB)(aZ:au)(wr:I au)(St:J->cf->Prop)(ys:I T)(s:aU)(fz:Fz){τ:Type}(Cm:I τ->I (AV O)->I T->Prop)(ts:I τ)(n:J)(s₂:aU):Prop
 |mk(i:J)(lv':I (AV O))(qU:Fz)(m₂:af->bg aB)(EY:J->I au)(vs:I aB)(nn:J)(HC Qh:I T)(hn:n+i=ts.length+1)(y9:bQ s s₂)(l₂:Le fz qU)(AE:aW B ρ (hI.add (aZ::wr) s₂.heap) qU V xs k lv' m₂ EY s₂.heap)(acX:St i s₂.heap)(hi:i<=ts.length)
  (ag1:s₂.heap.get? aZ=D (lo vs nn))(dv:bu ρ qU vs HC)(hy:ys=HC++Qh)(hyl:HC.length<=i)(bq:Cm (ts.drop i) lv' Qh)
abbrev vN(wr:I au)(h O:cf):Prop:=∀b o,b∉wr->h.get? b=D o->O.get? b=D o
theorem J9{p:I jm}{c:HB}{aq e:au}{aP wr:I au}{y:J->cf->Prop}(kh:gm V)
  (bY:∀i l h,y i l->(∀b∈aP,∀o,l.get? b=D o->h.get? b=D o)->y i h)
  (h8:∀(s:aU)(cF:bg aB->aU->Prop)(ak:aB->aU->Prop),y (U p) s.heap->(∀h Q,vN wr s.heap h->cF aa {s with heap:=h,toks:=Q})->aQ (aI Z w) A (pyNext (.ref aq)) cF ak s)
  (cQ:∀{i:J}{dK:jm}(F:aU)(r:Fz)(u cL:I _)(mw:aU->Prop)(eR:Unit->aU->Prop)(aK:aB->aU->Prop),p[i]?=D dK->y i F.heap->Le S r->cH u dK cL->(∀h,vN wr F.heap h->y (i+1) h->SR B ρ (c.add (e::wr) h) r V xs k u h)->
   (∀h g,vN wr F.heap h->y (i+1) h->bQ F g->SR B ρ (c.add (e::wr) h) r V xs k cL g.heap->eR () g)->
   aQ (aI Z w) A (pyNext (.ref aq)) (λgU cV=>match gU with|aa=>mw cV|D dB=>aQ (aI Z w) A (letOwnedTupleGo iz (.ref aq) dB) (λbf pL=>aQ (aI Z w) A (assign iz V dB) eR aK pL) aK cV) aK F)
  (pM:y 0 s.heap)(xy:∀b∈aP,b∈wr\/(S b).isSome=Y\/(B.h₀.get? b).isSome=Y)(kQ:e∉aP)(d8:e∉wr)(jo:∀i l,y i l->∀b∈wr,(l.get? b).isSome=Y)(xr:eg (U p)=Y)
  (xq:aW B ρ (c.add (e::wr) s.heap) S V xs k lv xx xA s.heap)(gV:s.heap.get? e=D (lo [] 0))
  (f:mJ B Z w A ρ V xs k ifs ez cH p lv L aY)
  (jn:∀t bP lF lG z E h Q,bQ s t->Le S bP->aW B ρ (c.add (e::wr) t.heap) bP V xs k aY lF lG t.heap->t.heap.get? e=D (lo z E)->bu ρ bP z L->vN wr t.heap h->e6 (.ok .next) {t with heap:=h,toks:=Q}):
  codeAny (aI Z w) A (.compLoop (.ListComp ez [⟨iz,zK,ifs,0⟩] zJ zH) 0 (.ref aq) (.ref e) V) e6 s:=by
 obtain⟨ak,xw⟩:∃ak,ak=notedBy (aI Z w) A V λn t=>e6 (.error n) t:=⟨_,C⟩;refine Uw xw (SH B ρ V xs k c e wr y L s S (λp lv L=>mJ B Z w A ρ V xs k ifs ez cH p lv L aY) p) ?_ _
  ⟨0,lv,S,xx,xA,[],0,[],L,C,bQ.refl _,Le.refl _,xq,pM,gF _,gV,.nil,C,dz _,f⟩
 rintro b_ F⟨i,u,r,cg,cu,z,E,cA,zI,R,aN,j,aE,aX,cZ,bh,aj,aH,aT,f⟩;have a_:∀{l:cf}{o xB},l.get? e=D o->y xB l->∀b∈e::wr,(l.get? b).isSome=Y:=λjd kP=>bO (cW jd) (jo _ _ kP)
 by_cases x:i<U p
 .have dO:∀h,vN wr F.heap h->y (i+1) h->SR B ρ (c.add (e::wr) h) r V xs k u h:=λh a T=>⟨kh,cg,cu,aE.turn (λb v o n=>a b o (λq=>v (fF _ q)) n) (a_ (a e _ d8 bh) T)⟩;have ej:∀{h:cf}{d:aU}{m:Fz}{eu:I (AV O)}{ao ah},vN wr F.heap h->y (i+1) h->Le r m->aW B ρ (c.add (e::wr) h) m V xs k eu ao ah d.heap->y (i+1) d.heap/\d.heap.get? e=D (lo z E):=λ{h d m eu ao ah}a T H P=>by
   refine⟨bY _ h _ T λb v o aC=>?_,P.kept e _ (ae (r8 (.head _)) (a e _ d8 bh))⟩
   by_cases q:b∈wr
   .exact P.kept b o (ae (r8 (fF _ q)) aC)
   .have cB:∀{X},F.heap.get? b=D X->d.heap.get? b=D X->d.heap.get? b=D o:=λn kO=>ae kO ((a b _ q n).symm.trans aC);rcases(xy b v).resolve_left q with q|q
    .obtain⟨X,G⟩:=gG.mp q;exact cB (aE.bJ b X (j b X G)) (P.bJ b X (H _ _ (j _ _ G)))
    .obtain⟨X,G⟩:=gG.mp q;exact cB (aE.base b X G) (P.base b X G)
  have f:=by
   rw [xF x]at f;exact f
  have eN:=dD x;cases f with
  |go aL bx mu bz nB=>
   refine cQ F r u _ _ _ _ eN aX j aL dO λh g a T bC bl=>bx _ r g _ _ bl λd m bH H P=>?_;rw [aM C];refine mu _ m d _ _ P λzL rH fj xo bE aF xt=>?_;obtain⟨_,xu,rF,aF⟩:=aF;obtain⟨rG,xn⟩:=ej a T (H.trans bE) aF;refine IW (hsz:=ae (qB) aj.length▸aD (aD aT cZ) (kK xr)) ⟨E,xn⟩ λeG bR fB=>?_;obtain⟨fZ,bR⟩:=bR;have fy:eG.get? e=D (lo (z++[fj]) fZ):=by rw [bR];simp [lo]
   have gc:=bY _ _ _ rG λb v o aC=>ae (fB.2 b λq=>kQ (q▸v)) aC;exact⟨b_-1,(wB R x).1,i+1,_,rH,xu,rF,z++[fj],fZ,cA++[_],_,(wB R x).2,(((aN.trans bC).trans bH).trans xo).trans (cI _ _ C),(j.trans H).trans bE,aF.turn (h':=eG) (λb v o n=>ae (fB.2 b λq=>v (q▸.head _)) n) (a_ fy gc),gc,x,fy,(aj.mono (H.trans bE)).append (.one xt),ae (aH.trans (aA _ nB)) (List.append_cons _ _ _),cC▸ju aT,bz⟩
  |skip aL bx bz=>
   refine cQ F r u _ _ _ _ eN aX j aL dO λh g a T bC bl=>bx _ r g _ _ bl λd m bH H P=>?_;rw [aJ Q4];obtain⟨_,ao,ah,P⟩:=P;obtain⟨gi,bU⟩:=ej a T H P;exact⟨b_-1,(wB R x).1,i+1,_,m,ao,ah,z,E,cA,_,(wB R x).2,(aN.trans bC).trans bH,j.trans H,P.turn (λbf bf bf n=>n) (a_ bU gi),gi,x,bU,aj.mono H,aH,z0 aT,bz⟩
 .refine h8 F _ _ ((fS cZ (iM x))▸aX) λh Q a=>?_;obtain⟨rfl,rfl⟩:=(List.drop_eq_nil_of_le (iM x)▸f);exact jn F r cg cu z E h Q aN j aE bh (ae aH (jq _)▸aj) a
theorem Uz{c:HB}{x h:au}{R wr:I au}{P:J->aB->Prop}{y:J->cf->Prop}(aT:gm V)
  (H:Walks Z w A x R wr (U e) P y)(ah:∀i v,P i v->∃a,e[i]?=D a/\Den ρ g v a)(aE:y 0 s.heap)
  (aX:∀b∈R,b∈wr\/(g b).isSome=Y\/(B.h₀.get? b).isSome=Y)(bY:h∉R)(b_:h∉wr)(E:∀i l,y i l->∀b∈wr,(l.get? b).isSome=Y)
  (aF:aL=Y->∀i(s:aU)(aP:I cE)(F:J)(p:h_)(v:aB)(q:Unit->aU->Prop)(bz:aB->aU->Prop),y i s.heap->q () s->aQ (aI Z w) A (letOwnedTupleGo (.Tuple aP F p) (.ref x) v) q bz s)
  (bU:(∃d p,iz=.Name d p)\/aL=Y/\∃Q F p,iz=.Tuple Q F p)(r:eg (U e)=Y)
  (S:aW B ρ (c.add (h::wr) s.heap) g V xs k lv cH cB s.heap)(aj:s.heap.get? h=D (lo [] 0))
  (ak:x_ B Z w A ρ V xs k iz ifs ao e lv aq aY)
  (aC:∀t j aH aK z aN O n,bQ s t->Le g j->aW B ρ (c.add (h::wr) t.heap) j V xs k aY aH aK t.heap->t.heap.get? h=D (lo z aN)->bu ρ j z aq->
   (∀b f,b∉wr->t.heap.get? b=D f->O.get? b=D f)->a_ (.ok .next) {t with heap:=O,toks:=n})(X:c.lk=[]):
  codeAny (aI Z w) A (.compLoop (.ListComp ao [⟨iz,cQ,ifs,0⟩] dK cF) 0 (.ref x) (.ref h) V) a_ s:=
 J9 aT H.frame H.done (λ{i a}m bh cV cZ dB bl bx o bC bE bH S bf=>H.item i m _ _ (cG.mp o).1 bC λv O n bR T u=>by
  refine ai (ah i v bR) λcL bP cg=>?_;have L:=bH (c.add _ O) bh {m with heap:=O,toks:=n} v bl bx X (S O u T) ((bj (ae o.symm bP)).symm▸cg.mono bE) λcu cA G=>bf O cu u T (bQ.trans (cI O n C) cA) G;rcases bU with⟨d,p,rfl⟩|⟨rfl,Q,F,p,rfl⟩
  .exact bN L
  .exact aF C _ _ Q F p v _ _ T L) aE aX bY b_ E r S aj ak aC
theorem aW.Mf(S:aW B ρ hB g V xs k lv m r s)(F:∀b∈wr,e9 B hB g V xs r b)(h:∀b o,b∉wr->s.get? b=D o->h'.get? b=D o):aW B ρ hB g V xs k lv m r h':=by
 have X:∀{b},(∀q:e9 B hB g V xs r b,False)->b∉wr:=λL hb=>L (F _ hb);have a:bF B.h₀ h':=λb o e=>h b o (X λq=>aV q.h0 e) (S.base b o e)
 exact{S with
  base:=a
  kept:=λb o e=>h b o ((λe=>X λq=>aV q.hb e) e) (S.kept b o e)
  bJ:=λb o e=>h b o ((λe=>X λq=>aV q.fz e) e) (S.bJ b o e)
  ns:=Ca S.ns λo=>h _ o (X λq=>q.loc C)
  vars:=λi x E j d=>by
   obtain⟨Q,u,n⟩:=S.vars i x E j d
   refine⟨Q,u.keep λc w l o e=>h c o (X λq=>q.cell i x j w l) e,n.mono (Le.refl _) a λb hb o e=>h b o (X λq=>q.fp i (cG.mp j).1 hb) e⟩
  lock:=λp f x j=>(S.lock p f x j).keep λc w l o e=>h c o (X λq=>q.cell p.1 x j w l) e
  inv:=B.ir S.inv λP t o e=>h P o (X λq=>q.tab t) e}
end
section
variable{os:I af}
theorem J8(sc:nJ scope os cs)(co:jf V xs cs ci)
  (hI:qI tup B Z w A ρ V xs k lv iter aY ts)(Br:∀i∈ci,∀l,aY[i]?≠D (.own l))
  (hC:∀bq,x_ B Z w A ρ (i6 scope bq V) (os++cs) (U os) iz ifs elt ts (nS os ci aY) ys MO)
  (hs:∀x,foldedSetIterable iter V x=pure x)(ht:(∃x p,iz=.Name x p)\/(tup=Y/\∃es x1 p,iz=.Tuple es x1 p))(hsz:eg (U ts)=Y)
  (S:SR B ρ hB fz V xs k lv s.heap)
  (hQ:∀s' g4(aZ bq:au)vs nn m cK mc,bQ s s'->Le fz g4->gm V->aW B ρ hB g4 V xs k (m9 os ci aY MO) m cK s'.heap->e9 B hB g4 V xs cK aZ->e9 B hB g4 V xs cK bq->aZ≠bq->
   s'.heap.get? aZ=D (lo vs nn)->bu ρ g4 vs ys->s'.heap.Ns bq mc->compPost (aI Z w) A E use Q (.ref aZ) bq (.ok .next) s'):
  aQ (aI Z w) A (comprehension (.ListComp elt [⟨iz,iter,ifs,0⟩] scope O_) scope V pos (newList []) ay (eval iter V) use) Q E s:=by
 have Bp:∀p∈scope.names,p.2=.free->(V.cells.lookup p.1).isSome=Y:=by
  intro p hp hf;refine cps λdX kk=>?_;obtain⟨eo,m,cK,S⟩:=S;have hm:=sc.free p hp hf;obtain⟨j,hj,e⟩:=afP hm;have XF:j<U ci:=by simp only [co.len];exact hj
  have hx:=co.at_ j _ p.1 (dD XF) (by apply ae (dD hj);rw [e]);have hi:ci[j]<U lv:=by simp only [S.len];exact(cG.mp hx).1
  obtain⟨ov,ha,_⟩:=S.vars _ _ _ hx (dD hi);apply kk;rcases ha with⟨q,_⟩|⟨_,c,hc,_⟩
  .exact bA q (co.nl _ hm)
  .exact cW hc
 refine agP C hs (Eo Bp) sc.kind sc.names (hI hB fz s _ _ S λs₁ eT eJ fp wr P St m cK yZ l₁ eo lP W hP uv hw qW LD Xn own=>(DE (M4 sc.kind ?_)));have E8:s₁.heap.objs.size<(s₁.heap.push (lo [] 0)).objs.size:=by simp only [lI];exact fG _
 obtain⟨Vz,S3⟩:=Pb (ol:=lo [] 0) sc co eo lP hw Br C C C C;have k4:bF s₁.heap (pushCells ((s₁.heap.push (lo [] 0)).push {cls:=.type "dict",data:=.dict #[]}) scope.names):=λb o e=>xX _ _ b o (eH _ (eH _ e));have Hv:=λb hb=>LD b (W.sub b hb);have Ph:=W.frame 0 _ _ uv λb dX o e=>k4 b o e;have loop:codeAny (aI Z w) A (.compLoop (.ListComp elt [⟨iz,iter,ifs,0⟩] scope O_) 0 (.ref eJ) (.ref s₁.heap.objs.size) (i6 scope (s₁.heap.push (lo [] 0)).objs.size V))
   (compPost (aI Z w) A E use Q (.ref s₁.heap.objs.size) (s₁.heap.push (lo [] 0)).objs.size) {s₁ with heap:=pushCells ((s₁.heap.push (lo [] 0)).push {cls:=.type "dict",data:=.dict #[]}) scope.names}:=by
  refine Uz Vz W hP Ph qW (λq=>(λb hb=>fH (LD b hb)) _ q C) (λq=>i3 _ (Hv _ q)) Xn own ht hsz S3 ?_ (hC _) ?_ C
  .exact xX _ _ _ _ (eH _ (eS _ C))
  .intro s' g4 m' WS vs nn h' tk q l S' Xo d hk;refine sx (Pa sc co lP hw Br E8 l S') λSb fD fC fw=>?_;refine hQ _ g4 _ _ vs nn _ _ m' ((yZ.trans q).trans (cI h' tk C)) (l₁.trans l) eo (Sb.Mf fw hk) fD fC (fH E8) (hk _ _ (λq=>i3 _ (Hv _ q)) Xo) d (cps λdX kk=>?_);refine jz (S'.ns) λo es ep ho r=>?_;exact kk ((l0 o es ep (hk _ o (λq=>i3 _ (qE E8 (Hv _ q))) ho) r))
 exact agL loop (W.self 0 _ _ _ Ph loop)
theorem Vi(r:nJ v os b)(t:jf G n b a)
  (c:qI s X m w L F G n g y O P e)(aC:∀bl∈a,∀l,P[bl]?≠D (.own l))
  (f:∀d,x_ X m w L F (i6 v d G) (os++b) (U os) h o q e (nS os a P) S H)
  (B:∀x,foldedSetIterable O G x=pure x)(u:(∃x p,h=.Name x p)\/(s=Y/\∃Q z p,h=.Tuple Q z p))(E:eg (U e)=Y)(T:m9 os a P H=A):
  qH X m w L F G n g y (.ListComp q [⟨h,O,o,0⟩] v bP) A S:=by
 intro bR bx bC bE bz ak ao;refine J8 r t c aC f B u E ak λbH aq k d aE aF R aj aH aK l ah aN aP aT aX aL bf a_=>(aR aH a_ (λbh i=>?_));have j:=aN.iE aT i;rw [T]at j;exact ao _ aq k aE aF R aj (aK.trans (cI bh _ C)) l ah j aP ((i.2 k aX).trans aL) bf
end
section
variable{B:bD O}{Z:cy}{w:bZ}{A:c3}{ρ:Mk}{V:c4}{xs os:I af}{k n:J}{lv dc:I (AV O)}{hB:HB}
theorem eE.det(a:eE V m e x Q)(T:eE V m e x q):Q=q:=by
 rcases a with⟨w,v⟩|⟨w,c,v,R⟩
 .rcases T with⟨P,h⟩|⟨P,d,h,y⟩
  .apply ae (v);rw [h]
  .rw [w]at P;rcases P with f|⟨f,_⟩<;>exact nc nG (bj f) C
 .rcases T with⟨P,h⟩|⟨P,d,h,y⟩
  .rw [P]at w;rcases w with f|⟨f,_⟩<;>exact nc nG (bj f) C
  .rw [v]at h;obtain rfl:=bj h;refine ai R λo g H=>ai y λX n u=>?_;rw [g]at n;obtain rfl:=bj n;rw [H]at u;exact afs u
noncomputable def HB.lock(hB:HB)(i:J)(v:aB):HB:={hB with lk:=(i,v)::hB.lk}
theorem aW.uD(S:aW B ρ hB g V xs k lv m r h)(j:xs[i]?=D x)(u:eE V m h x (D v)):aW B ρ (hB.lock i v) g V xs k lv m r h:=by
 have X:∀p∈(hB.lock i v).lk,∀H,xs[p.1]?=D H->eE V m h H (D p.2):=λp t H L=>by
  rcases cD.mp t with rfl|t
  .rw [j]at L;exact bj L▸u
  .exact S.lock p t H L
 exact{S with lock:=X}
theorem aW.unlock(S:aW B ρ (hB.lock i v) g V xs k lv m r h):aW B ρ hB g V xs k lv m r h:=
 {S with lock:=λp t H L=>S.lock p (fF _ t) H L}
theorem aW.locked(S:aW B ρ (hB.lock i v) g V xs k lv m r h)(j:xs[i]?=D x):eE V m h x (D v):=S.lock (i,v) gC x j
theorem aW.Cq(S:aW B ρ hB g V xs k lv m r h)(j:xs[i]?=D x)(u:eE V m h x (D (.ref a)))(hf:r i=[a])
  (e:gW a h h')(L:h'.get? a=D (lo z X))(d:bu ρ g z l):aW B ρ hB g V xs k (lv.set i (.own l)) m (bV r i [a]) h':=by
 refine S.PW j (λb f o s=>?_) u ⟨a,z,X,C,L,d,C⟩ λb f=>.inl (by rw [hf];exact f);rw [hf]at f;exact ae (e.2 b λq=>f (by simp [q])) s
theorem oJ.sM{a:au}(F:e9 B hB g V xs r a):oJ B hB g V xs r i [a]where
 a:=λb f=>(cO.mp f).symm▸((k8 F.hb F.fz F.loc F.cell))
 b:=λt E O b f=>by exact(cO.mp f)▸(F.fp t O)
 c:=λP s q=>F.tab ((cO.mp q)▸s)
theorem KO(j:xs[i]?=D x)(l:i<k)(m:V.kindOf x=D .local\/V.kindOf x=D .cell)(f:cP B Z w A ρ V xs k lv e P z)
  (b:gY e (D (.Name x c)) p.line V=pure ay):ic B Z w A ρ V xs k lv (.Assign [.Name x c] e p) (P.set i (.t z)) .next:=by
 intro hB g s Q H n S R;refine kr (f hB g s _ _ S λL t v q o E d=>?_) b;obtain⟨h,T,X,E⟩:=E;exact gh (av:=.t z) h n E j l m ⟨C,v,C,d⟩ .nil λr u y a=>R r t .next (q.trans y) o ⟨h,u,_,a⟩ dj
theorem VW(j:xs[i]?=D x)(v:i<k)(b:V.kindOf x=D .local\/V.kindOf x=D .cell)(s:qH B Z w A ρ V xs k lv e P ts)
  (hs:gY e (D (.Name x c)) p.line V=pure ay):ic B Z w A ρ V xs k lv (.Assign [.Name x c] e p) (P.set i (.own ts)) .next:=by
 intro hB g l Q T n S R;exact kr (s hB g l _ _ S λO t q z X y H f o h E F L d=>(gh (av:=.own ts) h n E j v b ⟨q,z,X,C,L,d,C⟩ (.sM F) λm u r a=>R m t .next (f.trans r) o ⟨h,u,_,a⟩ dj)) hs
theorem KP(ak:nJ v os j)(bl:jf V xs j s)
  (aN:qI aT B Z w A ρ V xs k lv iter P c)(aq:∀i∈s,∀l,P[i]?≠D (.own l))
  (F:∀bq,x_ B Z w A ρ (i6 v bq V) (os++j) (U os) a H f c (nS os s P) ys aF)
  (aL:∀x,foldedSetIterable iter V x=pure x)(aP:(∃x p,a=.Name x p)\/(aT=Y/\∃Q a_ p,a=.Tuple Q a_ p))(bh:eg (U c)=Y)(T:m9 os s P aF=bx)
  (bz:xs[i]?=D x)(bP:i<k)(b_:V.kindOf x=D .local)
  (bR:gY (.ListComp f [⟨a,iter,H,0⟩] v S) (D (.Name x px)) p.line V=pure Y):
  ic B Z w A ρ V xs k lv (.Assign [.Name x px] (.ListComp f [⟨a,iter,H,0⟩] v S) p) (bx.set i (.own ys)) .next:=by
 intro hB cV cZ cH cL G ah aj;apply mj (exec_Assign_Name_used _ _ _ _ bR);refine aG (oE (aG ?_));refine aG (kT (J8 ak bl aN aq F aL aP bh ah λe ao h bq aC aE cQ r aH aK l m n fD g q aX L z=>?_) (λE e O=>bN (bN O)) λE E b=>b);rw [T]at n;have y:(e.heap.get? bq).isSome=Y:=by refine jz z λo E E T E=>?_;rw [T];rfl
 refine vE (gh (hB:=hB.add [bq] e.heap) (av:=.own ys) m G (n.enter (λd hb=>by exact(cO.mp hb)▸(g)) (λd hb=>(cO.mp hb).symm▸y)) bz bP (.inl b_) ⟨h,aC,aE,C,aX,L,C⟩ (.sM ({fD with hb:=by apply ae (lQ (by simpa using q));exact fD.hb})) λbC bE bH u=>?_);have bf:bC.heap.get? bq=e.heap.get? bq:=by
  refine bG (gG.mp y) λo T=>?_;exact(T)▸(u.kept bq o (by apply ae (r8 (.head _));exact T))
 have bU:=u.leave (λE E E b=>b) (λd hb=>ae (aA _ (cO.mp hb)) g.hb) n.Mc;have bY:∀t,t<U xs->bq∉bV r i [h] t:=λt cg R=>by
  by_cases cA:t=i
  .subst cA;rw [show bV r t [h] t=[h]from aM C]at R;exact q (cO.mp R).symm
  .rw [show bV r i [h] t=r t from aJ ‹_›]at R;exact g.fp t cg R
 refine(aR aH ?_ (λcu cB=>?_))
 .exact jz z λo Q cF T X=>(l0 o Q cF (ae bf T) X)
 .exact aj _ ao .next ((aK.trans bH).trans (cI cu _ C)) l ⟨m,bE,_,bU.iE ({g with fp:=bY}) cB⟩ dj
theorem VU(h:gn B Z w A ρ V xs k lv c P b)(v:eX B Z w A ρ V xs k P (if b then t else z) dc e):ic B Z w A ρ V xs k lv (.If c t z p) dc e:=by
 intro hB g s Q H i S R;refine Ac (h hB g s _ _ S λx a q o E=>?_);have:=v hB a x Q H i E λF r L l n f d=>R F r L (q.trans l) (o.trans n) f d;cases b
 .exact this
 .exact this
theorem VX(h:cP B Z w A ρ V xs k lv e P z):ic B Z w A ρ V xs k lv (.Return (D e) p) P (.ret z):=by
 intro hB g s Q H i S R;exact IU (h hB g s _ _ S λc a v q o E d=>R c a _ q o E d)
theorem VN(h:gn B Z w A ρ V xs k lv c P Y):ic B Z w A ρ V xs k lv (.Assert c i p) P .next:=by
 intro hB g s Q H x S R;exact wpAny_Assert_holds (h hB g s _ _ S λe a q o E=>⟨C,R e a .next q o E dj⟩)
theorem VR:ic B Z w A ρ V xs k lv (.Break p) lv .brk:=λhB g s Q H e S R=>wpAny_Break (R s g .brk (bQ.refl s) (Le.refl _) S dj)
theorem VS:ic B Z w A ρ V xs k lv (.Continue p) lv .cont:=λhB g s Q H e S R=>wpAny_Continue (R s g .cont (bQ.refl s) (Le.refl _) S dj)
inductive kX(B:bD O)(Z:cy)(w:bZ)(A:c3)(ρ:Mk)(V:c4)(xs:I af)(k:J)(c:cE)(body orelse:I cz)(lv lv':I (AV O))(Bf:fP)(X:I (AV O)->Prop):Prop
 |stop{aY:I (AV O)}(hc:gn B Z w A ρ V xs k lv c aY ay)(ho:eX B Z w A ρ V xs k aY orelse lv' Bf)
 |go{aY dc:I (AV O)}{fl:fP}(hc:gn B Z w A ρ V xs k lv c aY Y)(hb:eX B Z w A ρ V xs k aY body dc fl)(hf:fl=.next\/fl=.cont)(h:X dc)
 |out{aY:I (AV O)}{fl:fP}(hc:gn B Z w A ρ V xs k lv c aY Y)(hb:eX B Z w A ρ V xs k aY body lv' fl)(o:Out fl Bf)
def kD(B:bD O)(Z:cy)(w:bZ)(A:c3)(ρ:Mk)(V:c4)(xs:I af)(k:J)(c:cE)(t z:I cz):J->I (AV O)->I (AV O)->fP->Prop
 |0,lv,x,h=>kX B Z w A ρ V xs k c t z lv x h λE=>False
 |n+1,lv,x,h=>kX B Z w A ρ V xs k c t z lv x h λl=>kD B Z w A ρ V xs k c t z n l x h
theorem kD.stop(l:gn B Z w A ρ V xs k lv c P ay)(T:eX B Z w A ρ V xs k P z dc h):kD B Z w A ρ V xs k c t z n lv dc h:=match n with|0=>kX.stop l T|n+1=>kX.stop l T
theorem kD.go(l:gn B Z w A ρ V xs k lv c aY Y)(f:eX B Z w A ρ V xs k aY t dc h)(g:h=.next\/h=.cont)(e:kD B Z w A ρ V xs k c t z n dc m4 R):kD B Z w A ρ V xs k c t z (n+1) lv m4 R:=kX.go l f g e
theorem kD.brk(l:gn B Z w A ρ V xs k lv c P Y)(f:eX B Z w A ρ V xs k P t dc .brk):kD B Z w A ρ V xs k c t z n lv dc .next:=match n with|0=>kX.out l f .brk|n+1=>kX.out l f .brk
theorem kD.ret(l:gn B Z w A ρ V xs k lv c P Y)(f:eX B Z w A ρ V xs k P t dc (.ret r)):kD B Z w A ρ V xs k c t z n lv dc (.ret r):=match n with|0=>kX.out l f .ret|n+1=>kX.out l f .ret
theorem KW(b:hB.lk=[])(S:SR B ρ hB g V xs k lv s.heap)(l:gn B Z w A ρ V xs k lv c P Y)(f:eX B Z w A ρ V xs k P h dc e)
  (a:∀s,aQ (aI Z w) A (execs h V) Q y s->i Y s)(x:∀t j L,bQ s t->Le g j->SR B ρ hB j V xs k dc t.heap->FD ρ j L e->Q L t):aQ (aI Z w) A (PySem.isTrue c V (eval c V)) i H s:=
 l hB g s _ _ S λF r q v n=>a _ (f hB r F _ _ b n λo p L m u G d=>x o p L (q.trans m) (v.trans u) G d)
inductive Jh(B:bD O)(Z:cy)(w:bZ)(A:c3)(ρ:Mk)(V:c4)(xs:I af)(k:J)(c:cE)(body orelse:I cz)(dc:I (AV O))(fl:fP)(hB:HB)(fz:Fz)(s:aU)(n:J)(s₁:aU):Prop
 |mk(lv':I (AV O))(eT:Fz)(q:bQ s s₁)(l:Le fz eT)(S:SR B ρ hB eT V xs k lv' s₁.heap)(W:kD B Z w A ρ V xs k c body orelse n lv' dc fl)
theorem kX.imp(h:kX B Z w A ρ V xs k c t z lv dc e G)(L:∀l,G l->qK l):kX B Z w A ρ V xs k c t z lv dc e qK:=by
 cases h with
 |stop a b=>exact .stop a b
 |go a b i h=>exact .go a b i (L _ h)
 |out a b o=>exact .out a b o
theorem kD.inv(e:kD B Z w A ρ V xs k c t z n lv dc h):kX B Z w A ρ V xs k c t z lv dc h λl=>∃m,m<n/\kD B Z w A ρ V xs k c t z m l dc h:=by
 cases n with
 |zero=>exact kX.imp e λE=>False.elim
 |succ n=>exact kX.imp e λE q=>(aR n (fG _) q)
theorem VY(h:kD B Z w A ρ V xs k c t z n lv dc i):ic B Z w A ρ V xs k lv (.While c t z ak) dc i:=by
 intro hB g H aq aj e P R;refine wpAny_While (codeAny_whileLoop (Jh B Z w A ρ V xs k c t z dc i hB g H) ?_ n ⟨lv,g,bQ.refl _,Le.refl _,P,h⟩);rintro n X⟨ao,T,q,o,E,S⟩;cases S.inv with
 |stop l O=>
  exact l hB T X _ _ E λF r s m y=>O hB r F _ _ e y λj p L v u G d=>R j p L ((q.trans s).trans v) ((o.trans m).trans u) G d
 |go l f Q b=>
  refine KW e E l f (λa h=>h) λj p L v u G d=>?_;apply d.go Q<;>exact(b.imp λa b=>b.imp_right (Jh.mk _ p (q.trans v) (o.trans u) G))
 |out l f ah=>
  refine KW e E l f (λa h=>h) λj p L v u G d=>?_;apply ah.fin d ?_ ?_ (λx=>R j p x (q.trans v) (o.trans u) G)
  .exact id
  .exactλa=>id
end
section
set_option tactic.hygienic true
section
variable{Z:cy}{w:bZ}
theorem Zf(z:I aB)(u t:J)(v:aB):∃k,nF (·.setIfInBounds t v) (lo z u)=lo (z.set t v) k:=⟨_,by simp [nF];rfl⟩
theorem set_list(X:s.heap.get? l=D (lo z u))(e:-(2^62)<i)(h:i<2^62)(a:seqIndex? i (U z)=D t)
  (R:∀O k,O.get? l=D (lo (z.set t v) k)->gW l s.heap O->b () {s with heap:=O}):aQ (aI Z w) L (setItem (.ref l) (.int i A) v) b H s:=by
 refine bG (Zf z u t v) λk x=>?_;have Q:s.heap.IsList l z.toArray:=(i12 _ X C ⟨u,C⟩);have P:(lo z u).data=.seq z.toArray u:=C;have y:=R (s.heap.update l (nF (·.setIfInBounds t v))) k (by apply ae (pN _ X (C));rw [x]) (oB ..);unfold setItem
 try with_reducible apply gH
 refine aG (wpAny_sequenceKey Q.typeIs (C) (aG (agO Q.typeIs slot_list_setitem
  (wpAny_call_entry slot_list_setitem Q.typeIs entry_list_setitem ?_ (args_list_setitem _ _ _)))))
 show aQ _ _ (Builtin.List.listSubscript? (.int i A)>>=_) _ _ s;rcases OX a with⟨T,rfl,B⟩|⟨T,n,rfl,B⟩
 .refine aG (agR (fitsIndex_of T (rJ h (by decide))) ?_);clear e h;obtain⟨t,rfl⟩:=Int.eq_ofNat_of_zero_le T;have p:z.toArray[t]?=D z[t]:=by simp
  refine aG (aG (wpAny_seqItemAt X P (bN (p▸(aG (wpAny_setSeqItemAt X P ?_))))))
  first
   |exact aG (bN (bN (aR (.none) C (bN y))))
   |exact bN ⟨.none,C,bN y⟩
 .refine aG (agR (fitsIndex_neg T (xD (by decide) (Ij e))) ?_);clear e h;obtain⟨t,rfl⟩:∃t:J,i=Rl t:=by
   cases i with
   |ofNat u=>exact bA T (xE.mpr (qA u))
   |negSucc u=>exact⟨u,C⟩
  refine aG (aG (aG (xZ X P (bN (bN ?_)))));have j:=by simpa using a
  have p:z.toArray[(Rl t+↑z.length).toNat]?=D z[(Rl t+↑z.length).toNat]:=by simp
  refine j▸?_;simp only [z6,p,Dw];refine aG (wpAny_setSeqItemAt X P ?_)
  first
   |exact aG (bN (bN (aR (.none) C (bN y))))
   |exact bN ⟨.none,C,bN y⟩
theorem X5:typeLookup (.type "list") (dunderI "add")=pure (D (.builtin "list.__iadd__")):=F.slot_list_iadd.lookup
theorem X4{z G:I aB}{n h:J}(X:s.heap.get? l=D (lo z n))(f:s.heap.get? b=D (lo G h))(m:U z+U G<=2000000)
  (R:∀O k,O.get? l=D (lo (z++G) k)->gW l s.heap O->Q (.ref l) {s with heap:=O}):aQ (aI Z w) L (inplaceOp .Add (.ref l) (.ref b)) Q H s:=by
 apply gH;have a:=by
  show(typeLookup (.type "list") (dunderI "add")>>=λB=>pure (B.isSome&&!isSeqSlot B))=pure ay;show(pure (Y&&!isSeqSlot (D (.builtin "list.__iadd__"))):Sem bw)=_;exact(show isSeqSlot (D (.builtin "list.__iadd__"))=Y from by decide)▸C
 have y:s.TypeIs (.ref l) "list":=(aR _ X C);refine aG (Sx y (aG (iN a (aG (wpAny_binaryOp1_none y ((aR _ f C)) noFill_list_add (aG (iN (PySem.seqSlot_of X5 (C)) ?_)))))));have v:(2000000:J)<=sizeLine:=by decide
 have u:z.toArray.size=U z:=by simp
 have e:G.toArray.size=U G:=by simp
 have i:¬(!z.toArray.isEmpty&&Q7 (z.toArray.size+G.toArray.size))=Y:=by
  have:Q7 (z.toArray.size+G.toArray.size)=ay:=by
   unfold Q7;simp only [decide_eq_false_iff_not];exactλr=>q5 (jP 0 (.n 1) (.n 0) (.a (.v 0) (.v 1)) (.n 2000000) (.n 2000000) (.v 2) (.a (.v 2) (.n 1)) (.a (.v 0) (.v 1)) C [_,_,_] m v r)
  refine this▸?_;simp
 have j:nF (λx=>x++G.toArray) (lo z n)=lo (z++G) (if(z.toArray++G.toArray).size==z.toArray.size then n else n+1):=by simp [nF,lo]
 refine aG (xY (DA F.slot_list_iadd y F.entry_list_iadd (F.args_list_iadd_2 _ _) (AutoSeq1.list___iadd___list_list_0 l z.toArray n b G.toArray h i (by exact(u)▸(d_ 0 (.v 0) (.v 2) (.a (.v 0) (.v 1)) (.n 2000000) (.n 2000000) (.v 2) C [_,_,_] m v)) (by exact u.symm▸e.symm▸(d_ 0 (.a (.v 0) (.v 1)) (.a (.v 2) (.n 1)) (.a (.v 0) (.v 1)) (.n 2000000) (.n 2000000) (.v 2) C [_,_,_] m v))) (dI X f (R _ (if(z.toArray++G.toArray).size==z.toArray.size then n else n+1) ?_ (oB ..)))));apply ae (pN _ X (by exact C));rw [j]
end
def JJ:T->T->bg T
 |.int a,.int b=>D (.int (a+b))
 |.str a,.str b=>if eg (a.length+b.length)then D (.str (a++b))else aa
 |_,_=>aa
def p9(n:Operator)(x H:T):bg T:=match n with
 |.Add=>JJ x H
 |.Sub=>sH (λa b=>D (.int (a-b))) x H
 |.Mult=>sH (λa b=>if ig a&&ig b then D (.int (a*b))else aa) x H
 |_=>aa
variable{Z:cy}{w:bZ}
theorem Tw(O:Den F g E y)(e:Den F g u m)(h:JJ y m=D z):PO X (aI Z w) L F (inplaceOp .Add E u) g z:=by
 cases y with
 |int a=>cases m with
  |int b=>
   obtain rfl:=bj h;exact O.gR (P:=λv=>PO X _ L F (inplaceOp .Add v u) g _) λA=>e.gR (P:=λv=>PO X (aI Z w) L F _ g _) λi=>PO.give λs Q H r R=>P.iadd_int (R _ _ (.int _ _))
  |_=>exact aV C h
 |str a=>cases m with
  |str b=>
   refine bT (qq h) λB j=>?_;subst j;exact O.iY (P:=λv=>PO X _ L F (inplaceOp .Add v u) g _) λA=>e.iY (P:=λv=>PO X (aI Z w) L F _ g _) λi=>
    PO.give λs Q H r R=>SB.iadd (λi n=>CK a b▸R _ _ (.str _ _)) ((str_len a).symm▸(str_len b).symm▸kK B)
  |_=>exact aV C h
 |_=>exact aV C h
theorem AQ(O:Den F g E y)(L:Den F g u m)(h:p9 n y m=D z):PO X (aI Z w) i F (inplaceOp n E u) g z:=by
 cases n with
 |Add=>exact Tw O L h
 |Sub=>exact uA O L h λa b A e h=>by obtain rfl:=bj h;exact PO.give λs Q H r R=>P.isub_int (R _ _ (.int _ _))
 |Mult=>
  exact uA O L h λa b A e h=>by
   refine bT (qq h) λB j=>?_;subst j;have B:=cR.mp B;exact PO.give λs Q H r R=>P.imul_int (R _ _ (.int _ _)) (MU B.1 B.2)
 |_=>exact aV C h
theorem VO(j:n[i]?=D x)(s:i<k)(B:G.kindOf x=D .local\/G.kindOf x=D .cell)(X:y[i]?=D (.t r))(E:cP aq Z w L F G n k y e P m)
  (a:p9 b r m=D z):ic aq Z w L F G n k y (.AugAssign (.Name x aH) b e aN) (P.set i (.t z)) .next:=by
 intro T g t bh bH v S R;have u:=S;refine cps λaX d=>?_;obtain⟨h,aK,aL,l⟩:=S;obtain⟨aT,p,a_,bf,rfl,c⟩:=l.vars i x _ j X;apply d;refine agN (eL h l.ns p (E T g t _ _ u λbl bC bE q o O Q=>(cP.wH q o O (AQ (c.mono o) Q a) λaP ah aj H ao f ak=>?_)));obtain⟨_,bx,bz,f⟩:=f;exact gh (av:=.t z) h v f j s B ⟨C,aj,C,ak⟩ .nil λaE aC aF A=>R aE ah .next (H.trans aF) ao ⟨h,aC,_,A⟩ dj
theorem oJ.self(S:aW X F hB fz G n k y m r h)(A:i<U n)(g:r i=R):oJ X hB fz G n r i R where
 a:=λb f=>S.fp i A b (by rw [g];exact f)
 b:=λt p O b f e=>S.apart i t A O (iC p) b (by rw [g];exact f) e
 c:=λP s q=>(S.tab P s).2.2.2.2 i A (by rw [g];exact q)
theorem VP(j:n[i]?=D x)(ao:i<k)(B:G.kindOf x=D .local\/G.kindOf x=D .cell)(X:y[i]?=D (.own bH))(aN:cP c Z w O ah G n k y aj P (.list p))
  (aH:P[i]?=D (.own H))(aL:eg (U H)=Y)(t:eg (U p)=Y):ic c Z w O ah G n k y (.AugAssign (.Name x cB) .Add aj cF) (P.set i (.own (H++p))) .next:=by
 intro T g v cL bf m S R;refine cps λr f=>?_;obtain⟨h,Q,F,l⟩:=S;obtain⟨cu,u,a,cH,bl,rfl,bE,bP,b_⟩:=l.vars i x _ j X;apply f;refine agN (eL h l.ns u (aN (T.lock i _) g v _ _ ⟨h,Q,F,l.uD j u⟩ λcg ak cA q o E d=>?_));refine cps λr f=>?_;obtain⟨_,cQ,cV,E⟩:=E;obtain⟨bh,z,bx,bz,bC,rfl,aC,e,aE⟩:=E.vars i x _ j aH;obtain rfl:=ko (bj ((E.locked j).det z));have E:=E.unlock;obtain⟨bR,bU,bY,aF,L,rfl⟩:=d.inv;apply f;refine X4 aC (E.bJ _ _ aF) (m5 0 (.a (.v 0) (.v 2)) (.n 2000000) (.v 0) (.v 1) (.v 2) (.v 3) (.v 1) (.n 1000000) (.v 3) (.n 1000000) C [_,_,_,_] ((iU (e.length))) ((iU (L.length))) (dh aL) (dh t)) λaK aq s aP=>?_;have b:=E.Cq j z aE aP s (e.append L);refine gh (av:=.own _) h m b j ao B ⟨a,_,aq,C,s,e.append L,C⟩ (oJ.self b ((cG.mp j).1) (by simp [bV])) λaX aT a_ A=>?_;rw [IF]at A;exact R aX ak .next ((q.trans (cI aK _ C)).trans a_) o ⟨h,aT,_,A⟩ dj
end
section
variable{B:bD O}{Z:cy}{w:bZ}{A:c3}{ρ:Mk}{V:c4}{xs:I af}{lv dc:I (AV O)}{e:cE}{l':I T}{i:J}{τ ta:T}
theorem VM(j:xs[i]?=D x)(aL:lv[i]?=D (.own cZ))(X:(x==("__debug__"))=ay)(ak:cP B Z w A ρ V xs ao lv e P τ)(r:P[i]?=D (.own l'))(s:∀x p,e≠.Starred x p)
  (aj:(a.endLine==u.line)=Y)(aC:attributeBase (.Name x c) "append" V (eval (.Name x c) V)=eval (.Name x c) V)(aN:eg (U l')=Y)
  (aT:gY (.Call (.Attribute (.Name x c) "append" a) [e] [] u) aa aX.line V=pure ay):
  ic B Z w A ρ V xs ao lv (.Expr (.Call (.Attribute (.Name x c) "append" a) [e] [] u) aX) (P.set i (.own (l'++[τ]))) .next:=by
 intro cu cB cQ cV bE cH S m;refine cps λ_ g=>?_;refine cps λcL d=>?_;obtain⟨h,y,H,l⟩:=S;obtain⟨bY,o,T,ah,dB,rfl,L,cg,cF⟩:=l.vars i x _ j aL;apply d;apply g;have Q:∀R∈[e],∀x p,R≠.Starred x p:=λR aq=>by exact(cO.mp aq)▸(s)
 have k:=kI (pos:=u) (V:=V) [e] Q;refine tL (lM aC ?_ aj Rb Rc Ih (eO (eL h l.ns o ?_) X)) (by delta interactive;exact h.kind.symm▸C) aT
 .simp only [oq,oq];refine⟨⟨?_,C⟩,C⟩;simpa using k
 refine(dI (aR _ L C) (λbR aE=>by obtain rfl:=ko aE;exact(aR _ L C)) (kq k (jJ Q (qO ak lU s) ⟨h,y,H,l.uD j o⟩ λb_ f cA aH aK E b=>?_)));obtain⟨_,aP,bH,E⟩:=E;obtain⟨bP,z,bU,G,aF,rfl,bf,n,bh⟩:=E.vars i x _ j r;obtain rfl:=ko (bj ((E.locked j).det z));have E:=E.unlock;obtain⟨v,ah,rfl,bl,b⟩:=b.jx (P:=λa_=>∃v G,a_=v::G/\Den _ _ v _/\bu _ _ G _) λv G x bz=>⟨v,G,C,x,bz⟩;cases b;refine IW (hsz:=(by simpa [n.length]using kK aN)) ⟨aF,bf⟩ λO t bx=>bG t λbC t=>?_;have q:O.get? T=D (lo (G++[v]) bC):=by apply ae (t);simp [lo]
 exact m _ f .next (aH.trans (cI O _ C)) aK ⟨h,aP,_,(E.Cq j z bh bx q (n.append (.one bl)))⟩ dj
theorem acr(S:aW B ρ x g V xs f lv m r s.heap)(j:xs[i]?=D o)(u:eE V m s.heap o (D (.ref a)))(X:r i=[a])
  (P:s.heap.get? a=D (lo G aj))(e:bu ρ g G l)(k:jN q=Y)(O:seqIndex? q (U l)=D t)(F:Den ρ g v τ)
  (R:∀h p c,bQ s h->aW B ρ x g V xs f (lv.set i (.own (l.set t τ))) p c h.heap->Q () h):aQ (aI Z w) A (setItem (.ref a) (.int q ah) v) Q ao s:=by
 refine bT (cR.mp k) λH E=>set_list P (dh H) (dh E) (by exact(e.length)▸(O)) λy ak z L=>R _ m _ (cI y _ C) (S.Cq j u X L z ?_);have:∀{G:I aB}{l:I T}(t:J),bu ρ g G l->bu ρ g (G.set t v) (l.set t τ):=by
  intro G l t d
  induction t generalizing G l with
  |zero=>cases d with
   |nil=>exact .nil
   |cons d b=>exact .cons F b
  |succ t n=>cases d with
   |nil=>exact .nil
   |cons d b=>exact .cons d (n b)
 exact this t e
theorem Lc
  (L:s.heap.get? a=D (lo G X))(B:bu ρ fz G l)(h:qi (.list l) (.int q)=D τ)
  (R:∀v,Den ρ fz v τ->Q v s):aQ (aI Z w) A (getItem (.ref a) (.int q t)) Q H s:=
 list_item B h (i12 _ L C ⟨X,C⟩) R
theorem VQ(j:xs[i]?=D x)(H:(x==("__debug__"))=ay)(aE:lv[i]?=D (.own cu))(d:cP B Z w A ρ V xs k lv s P (.int q))(r:P[i]?=D (.own o))(L:qi (.list o) (.int q)=D ta)
  (X:cP B Z w A ρ V xs k P e dc aj)(ak:dc[i]?=D (.own h))(aL:p9 bH ta aj=D τ)(m:jN q=Y)(O:seqIndex? q (U h)=D g)
  (T:∀Q a S,augStore s Q a S=(do holding [S,Q,a] (setItem Q a S);release [S,Q,a] [];pure .next)):
  ic B Z w A ρ V xs k lv (.AugAssign (.Subscript (.Name x dK) s d8) bH e eR) (dc.set i (.own (h.set g τ))) .next:=by
 intro fB p c ez eG eN y R;refine cps λn f=>?_;obtain⟨b,F,ah,l⟩:=y;obtain⟨Q,u,gV,jn,jo,rfl,cH,cZ,dB⟩:=l.vars i x _ j aE;apply f;refine PyProof.Rows.wpAny_AugAssign_Subscript_any (eO (eL b l.ns u (d _ p c _ _ ⟨b,F,ah,l.uD j u⟩ λao aq eu aC o E aF=>?_)) H) T;refine cps λn f=>?_;obtain⟨_,aH,aK,E⟩:=E;obtain⟨gU,z,h8,jd,jm,rfl,aN,aP,cA⟩:=E.vars i x _ j r;obtain rfl:=ko (bj ((E.locked j).det z));obtain⟨cB,rfl⟩:=aF.inv;apply f;refine Lc aN aP L λcF aT=>X _ aq ao _ _ ⟨b,aH,aK,E⟩ λcL cQ cV aX h a_ bf=>cP.wH (aC.trans aX) (o.trans h) a_ (AQ (aT.mono h) bf aL) λdO bh ej bl bx G bC=>cps λ_ bE=>?_;refine cps λn f=>?_;obtain⟨_,e6,fj,G⟩:=G;obtain⟨fy,t,fZ,gc,gi,rfl,bP,bz,bU⟩:=G.vars i x _ j ak;apply f;apply bE;obtain rfl:=ko (bj ((G.locked j).det t));exact acr (G.unlock) j t bU bP bz m O bC λbY bR b_ cg v=>R bY bh .next (bl.trans cg) bx ⟨b,bR,b_,v⟩ dj
inductive tU(Z:cy)(w:bZ)(A:c3)(V:c4)(xs:I af)(k:J):I (aB->Sem Unit)->I J->Prop
 |nil:tU Z w A V xs k [] []
 |cons{f:aB->Sem Unit}{x:af}{i:J}{fs is}:(∀(v:aB)(Q:Unit->aU->Prop)(E:aB->aU->Prop)(s:aU),aQ (aI Z w) A (DG V x v) Q E s->aQ (aI Z w) A (f v) Q E s)->
   xs[i]?=D x->i<k->(V.kindOf x=D .local\/V.kindOf x=D .cell)->tU Z w A V xs k fs is->tU Z w A V xs k (f::fs) (i::is)
noncomputable def CB(lv:I (AV O)):I J->I T->I (AV O)
 |i::h,t::p=>CB (lv.set i (.t t)) h p
 |_,_=>lv
set_option tactic.hygienic true in
theorem JH(e:gm V)(j:a.lk=[]){P:I _}{i:I J}(x:tU Z w A V xs k P i):∀{z:I aB}{p:I T}{lv:I _}{m:af->bg aB}{r:J->I au}{s:aU}{Q:Unit->aU->Prop},U i=U p->bu ρ g z p->
  aW B ρ a g V xs k lv m r s.heap->(∀h,bQ s h->SR B ρ a g V xs k (CB lv i p) h.heap->Q () h)->aQ (aI Z w) A (assignInOrder P z) Q H s:=by
 induction x with
 |nil=>
  intro z p lv m r s Q X b S R;cases b with
  |nil=>exact bN (R s (bQ.refl s) ⟨e,m,r,S⟩)
  |cons d b=>exact nc RJ X C
 |cons o f l v y u=>
  intro z p lv m r s Q X b S R;cases b with
  |nil=>exact nc RJ X C
  |cons d b=>
   rename_i z t p;exact aG (gH (o _ _ _ _ (gh (av:=.t t) e j S f l v ⟨C,_,C,d⟩ .nil λL O q E=>(u (by simpa using X) b E λh c n=>R h (q.trans c) n))))
theorem KQ(i:cP B Z w A ρ V xs k lv e P τ)(u:pW B Z w A ρ V xs k P (.Tuple x v c) τ dc)
  (h:swapsWithSole [.Tuple x v c] e p.line V=pure ay)(y:swappedStores [.Tuple x v c] e V=pure aa):ic B Z w A ρ V xs k lv (.Assign [.Tuple x v c] e p) dc .next:=by
 intro T g s Q H l S R;exact PyProof.Rows.Assign_Tuple (i T g s _ _ S λn a b q o E d=>(u T a n b _ _ l E d λF j f=>R F a .next (q.trans j) o f dj)) h y
set_option tactic.hygienic true in
theorem KR(o:A.handled=aa)(i:cP B Z w A ρ V xs k lv e P (.tup ts))(z:tU Z w A V xs k (F.reverse.map λu=>bindName V u) is)(X:U is=U ts)(L:F.length=U ts)
  (O:swapsWithSole [.Tuple x v c] e p.line V=pure ay)(y:swappedStores [.Tuple x v c] e V=pure (D F)):ic B Z w A ρ V xs k lv (.Assign [.Tuple x v c] e p) (CB P is ts.reverse) .next:=by
 intro T s l aH aC t S R;refine ags (i T s l _ _ S λh eT aE q f E d=>?_) O y;refine cps λaP m=>?_;obtain⟨aF,j,aN,n,b,rfl⟩:=d.inv;have r:=E.ready;have Q:U F=j.toArray.size:=by simp [L,b.length]
 apply m;refine Q▸(agU o (yD r.bJ n) λG H=>?_);have g:cj B eT h eT {h with heap:=G}:=cj.keeps r λaj ak e=>H aj ak (fH (fk e)) e;obtain⟨ah,aK,aL,S⟩:=E.step g;exact JH ah t z (by simpa using X) (b.reverse) S λao aq a=>R ao eT .next ((q.trans g.same).trans aq) f a dj
theorem zp(v:aB)(Q:Unit->aU->Prop)(H:aB->aU->Prop)(s:aU)(h:aQ (aI Z w) A (DG V x v) Q H s):aQ (aI Z w) A (bindName V x v) Q H s:=IV h
theorem CJ(v:aB)(Q:Unit->aU->Prop)(H:aB->aU->Prop)(s:aU)(h:aQ (aI Z w) A (DG V x v) Q H s):aQ (aI Z w) A (assign (.Name x c) V v) Q H s:=vE h
end
section
open PySem.Builtin.Str
variable{B:bD O}{Z:cy}{w:bZ}{A:c3}{fz:Fz}{vb:aB}
theorem SR.newList{Q:aB->aU->Prop}{tk:fT}(q:bQ s c)(o:Le fz j)(S:SR B F hB j G n k P c.heap)(b:bu F j z p)
  (R:∀t j a z nn m r,bQ s t->Le fz j->gm G->aW B F hB j G n k P m r t.heap->e9 B hB j G n r a->t.heap.get? a=D (lo z nn)->bu F j z p->Q (.ref a) t):
  Q (.ref c.heap.objs.size) {c with heap:=c.heap.push (lo z nn),toks:=tk}:=by
 have f:=cj.iE S.ready (lo z nn) tk;obtain⟨w,m,r,l⟩:=S;exact R _ j _ z nn m r (q.trans f.same) o w (l.step f) (l.free (gS c)) (eS _ C) b
theorem KG(h:kA B Z w A F G n k y u Q P p)(e:eg (U p)=Y):qH B Z w A F G n k y (.List Q u) P p:=by
 intro T fz s a H S R;refine wpAny_List (h T fz s _ _ S λc i z q o E b=>⟨?_,?_⟩)
 .exact(b.length)▸(kK e)
 .exact SR.newList q o E b R
theorem jg{l:I J}(d:Den F fz v (.str l)):∃A,v=.str ⟨l.toArray⟩ A:=by obtain⟨A,rfl⟩:=d.inv;exact⟨_,C⟩
theorem qb{i:aS}(d:Den F fz v (.int i)):∃A,v=.int i A:=by obtain⟨A,rfl⟩:=d.inv;exact⟨_,C⟩
theorem qc(d:Den F fz v (.list l)):∃a z u,v=.ref a/\fz a=D (lo z u)/\bu F fz z l:=by cases d;exact(Bs _ _ _ C (by assumption) (by assumption))
theorem aba{l:I J}(d:Den F fz E (.str l))(h:eg (U l)=Y):PO B (aI Z w) A F (call (.builtin "len") [E]) fz (.int (U l)):=by
 refine bG (jg d) λe j=>?_;subst j;refine PO.give λs Q H r R=>P.len_str ?_ ?_
 .simp only [str_len];have:=zh h;omega
 .exact R _ _ (.int _ _)
theorem Ou(d:Den F fz E (.list l))(h:eg (U l)=Y):PO B (aI Z w) A F (call (.builtin "len") [E]) fz (.int (U l)):=by
 refine ji (qc d) λi z a u S b=>?_;subst u;refine PO.give λs Q H r R=>Calls.call_len_list (gy r.bJ S) ?_ ?_
 .have:=zh h;simpa [b.length]using this
 .have e:z.toArray.size=U l:=by simp [b.length]
  exact e.symm▸(R _ _ (.int _ _))
theorem abd{c:J}(d:Den F fz E (.str [c])):PO B (aI Z w) A F (call (.builtin "ord") [E]) fz (.int c):=by
 refine bG (jg d) λh j=>?_;subst j;exact PO.give λs Q H r R=>P.ord_of_char (R _ _ (.int _ _))
noncomputable def CL:I T->bg (I (I J))
 |[]=>D []
 |.str x::r=>(CL r).map (x::·)
 |_::_=>aa
set_option tactic.hygienic true in
theorem Pu:∀{p:I T}{S:I _}{z:I aB},CL p=D S->bu F fz z p->PyProof.Rows.StrsAre z (S.map λl=>(⟨l.toArray⟩))
 |[],S,z,h,d=>by obtain rfl:=bj h;obtain rfl:=d.i9 C;exact .nil
 |A::r,S,z,h,d=>by
  cases d with
  |cons d b=>
   cases d<;>first|exact aV C h|skip
   refine ai (pR.mp h) λa w e=>?_;subst e;exact .cons _ _ (Pu w b)
theorem Ot(O:Den F fz E (.str i))(L:Den F fz vb (.list p))(h:CL p=D x)(m:(x.map (U ·)).sum+U x*U i<=16777216){r:I J}
  (s:z9 ⟨i.toArray⟩ (x.map λl=>(⟨l.toArray⟩))=⟨r.toArray⟩):PO B (aI Z w) A F (call (.builtin "str.join") [E,vb]) fz (.str r):=by
 refine bG (jg O) λn j=>?_;subst j;refine ji (qc L) λa z o u S b=>?_;subst u;refine PO.give λt Q H k R=>R3 (gy k.bJ S) ((Pu h b)) ?_ λP q=>?_
 .have e:(x.map λl=>(⟨l.toArray⟩:af)).map (·.length)=x.map (U ·):=by
   apply ae (dH);exact C
  simp only [e,dg];exact m
 .exact s.symm▸(R _ _ (.str _ _))
end
section
open PySem.Builtin.Str
noncomputable def uU{R:Type}(A:T)(L:aS->bg R):bg R:=match A with
 |.int i=>L i
 |_=>aa
theorem wJ(h:uU A L=D H):∃i,A=.int i/\L i=D H:=by
 cases A with
 |int i=>exact(aR i C h)
 |_=>exact aV C h
def GK:I T->bg (aS×aS×aS)
 |[A]=>uU A λb=>D (0,b,1)
 |[A,y]=>uU A λa=>uU y λb=>D (a,b,1)
 |[A,y,v]=>uU A λa=>uU y λb=>uU v λc=>if c==0 then aa else D (a,b,c)
 |_=>aa
noncomputable def sQ:aS×aS×aS->bw
 |(a,b,c)=>aO (a.natAbs<2^40)&&aO (b.natAbs<2^40)&&aO (c.natAbs<2^29)
noncomputable def q_:aS×aS×aS->I T
 |(a,b,c)=>(dm (tu a b c).toNat).map λ(i:J)=>.int (a+(i:aS)*c)
theorem yH{a:aS}(h:a.natAbs<u):-(u)<a/\a<u:=⟨afA (Il (Int.natAbs_neg a▸Int.le_natAbs) (jV.mpr h)),Il Int.le_natAbs (jV.mpr h)⟩
theorem Ko{a b c:aS}(u:a.natAbs<1099511627776)(f:b.natAbs<1099511627776)(l:0<c)(h:a<b):0<=(b-a-1)/c+1/\(b-a-1)/c+1<4398046511104:=by
 have n:=Int.sub_nonneg_of_le (Int.le_sub_left_of_add_le h);exact⟨Int.add_nonneg (Int.ediv_nonneg n (Ij l)) (by decide),Il (Int.add_le_add_right (xD (Int.ediv_le_self _ n) (Int.sub_le_self _ (by decide))) 1) (rJ (Int.add_lt_add_right (Rj (yH f).2 (afA (yH u).1)) 1) (by decide))⟩
theorem OH(u:a.natAbs<2^40)(f:b.natAbs<2^40)(l:c≠0):0<=tu a b c/\tu a b c<4398046511104:=by
 have E:(0:aS)<=0/\(0:aS)<4398046511104:=⟨by decide,by decide⟩
 by_cases h:c>0
 .by_cases q:a<b
  .rw [tu,aM h,aM q];exact Ko u f h q
  .rw [tu,aM h,aJ q];exact E
 .by_cases q:a>b
  .rw [tu,aJ h,aM q];exact Ko f u (Int.neg_pos_of_neg (Int.lt_iff_le_and_ne.mpr ⟨xE.mp h,l⟩)) q
  .rw [tu,aJ h,aJ q];exact E
theorem EL(h:-4398046511104<i/\i<4398046511104):Q8 i=Y:=
 cR.mpr ⟨cM (xD (by decide) (Ij h.1)),cM (rJ h.2 (by decide))⟩
theorem EM(h:-1099511627776<i/\i<1099511627776):Q8 i=Y:=EL ⟨rJ (by decide) h.1,rJ h.2 (by decide)⟩
theorem Jm(h:-1099511627776<b/\b<1099511627776)(f:-536870912<c/\c<536870912)(k:-1<=d/\d<=1):Q8 (b+(c+d))=Y:=
 EL ⟨rJ (by decide) (Rj h.1 (afw f.1 k.1)),rJ (Rj h.2 (afw f.2 k.2)) (by decide)⟩
theorem Cu(h:sQ (a,b,c)=Y):a.natAbs<2^40/\b.natAbs<2^40/\c.natAbs<2^29:=
 have w:=cR.mp h;have v:=cR.mp w.1
 (dI (dh v.1) (dh v.2) (dh w.2))
theorem acD(h:sQ (a,b,c)=Y)(l:c≠0):afn a b c=Y:=by
 refine cps λx e=>?_;refine gv (Cu h) λw v R=>?_;have g:=OH w v l;have f:=yH (R);have L:=yH (v);apply e;delta afn;rw [EM (yH (w)),EM L,EM ⟨rJ (by decide) f.1,rJ f.2 (by decide)⟩,EL ⟨afz (by decide) g.1,g.2⟩,show c-1=c+-1 from C,Jm L f ⟨by decide,by decide⟩,Jm L f ⟨by decide,by decide⟩,ite_self,Q6];rfl
variable{w:bZ}
set_option tactic.hygienic true in
theorem Vn(j:L.handled=aa)(s:cP X m w L F aL n g y e P (.tup p)):qI ay X m w L F aL n g y e P p:=by
 intro T aj t a_ aT aC aE;refine s T aj t _ _ aC λc aN v q o E k=>?_;obtain⟨a,z,aP,S,h,rfl⟩:=k.inv;have r:=E.ready;have Q:=yD r.bJ S;have u:=h.length;apply wpAny_pyIter_tuple Q;have i:=cj.iE r {cls:=.type "tuple_iterator",data:=.fields #[.ref a,.int 0 0]} c.toks;obtain⟨O,G,ah,l⟩:=E;have x:=fk (r.bJ _ _ S);have H:=Walks.tuple (prog:=m) (w:=w) j c.heap.objs.size a (fH x) z.toArray;simp only [show z.toArray.size=U p from by assumption]at H;refine aE _ aN _ _ _ _ _ G ah (q.trans i.same) o O (l.step i) H (λao v d=>?_) ⟨(i12 _ (eS _ C) C C),Q.at λaq e=>eH _ e⟩ (λb f=>?_) (λb f=>?_) (λb f=>?_) (λao s ak b f=>by rw [cO.mp f];refine bT ak λaH aK=>?_;refine ai (aH) λaq aF aK=>?_;rw [aF];rfl) ((cY C))
 .have d:=by simpa using d
  have A:=u▸(cG.mp d).1;refine ai (h.get (dD A)) λaX R B=>?_;simp only [d]at R;exact bj R▸((aR _ (dD A) B))
 .exact(cO.mp f)▸(⟨l.free (gS c),aA _ (eS _ C)⟩)
 .rcases cD.mp f with rfl|f
  .exact .inl (.head _)
  .refine(cO.mp f)▸?_;right;left;exact cW S
 .simp only [lI];rcases cD.mp f with rfl|f
  .exact fG _
  .exact(cO.mp f)▸(jW x)
theorem Walks.bound{u:J}(W:Walks m w L a R z u P h):Walks m w L a R z u (λi v=>i<u/\P i v) h where
 sub:=W.sub
 frame:=W.frame
 item:=λi s Q H A O e=>W.item i s Q H A O λv x n t=>e v x n ⟨A,t⟩
 done:=W.done
 self:=W.self
theorem Ub(b:bu F g z S)(h:GK S=D r)(T:sQ r=Y)
  (R:∀A y v o,r.2.2≠0->Q (.ref s.heap.objs.size) {s with heap:=s.heap.push {cls:=.type "range",data:=.fields #[.int r.1 A,.int r.2.1 y,.int r.2.2 v]},toks:=o}):aQ (aI m w) L (call (.type "range") z) Q H s:=by
 cases S with
 |nil=>exact aV C h
 |cons x S=>
  obtain⟨E,G,rfl,a,B⟩:∃E G,z=E::G/\Den F g E x/\bu F g G S:=b.jx (P:=λz=>∃E G,z=E::G/\Den F g E x/\bu F g G S) λv G d b=>(gx v G C d b);cases S with
  |nil=>
   refine ai (wJ h) λi j h=>?_;subst j;obtain rfl:=bj h;exact B.i9 (P:=λG=>aQ _ L (call _ _) Q H s) (a.gR (P:=λE=>aQ (aI m w) L (call (.type "range") [E]) Q H s) λA=>call_range_1 (R _ _ _ _ (nofun)))
  |cons ah S=>cases S with
   |nil=>
    refine cps λX p=>?_;refine ai (wJ h) λi j h=>?_;subst j;refine ai (wJ h) λt j h=>?_;subst j;obtain rfl:=bj h;refine ai B.ja λu j e=>?_;subst j;apply p;exact a.gR (P:=λE=>aQ _ L (call _ [E,u]) Q H s) λA=>e.gR (P:=λu=>aQ _ L (call _ [.int i A,u]) Q H s) λy=>call_range_2 (R _ _ _ _ (nofun))
   |cons c S=>cases S with
    |nil=>
     refine cps λ_ q=>ai (wJ h) λi j h=>?_;subst j;refine ai (wJ h) λt j h=>?_;subst j;refine ai (wJ h) λc j O=>?_;subst j;refine e5 B.Hr λu k n e P=>?_;subst n;apply q;cases l:c==0 with
     |true=>
      rw [l]at O;exact aV C O
     |false=>
      rw [l]at O;obtain rfl:=bj O;have l:c≠(0:aS):=λf=>by subst f;exact cY C l.symm
      exact a.gR (P:=λE=>aQ (aI m w) L (call (.type "range") [E,u,k]) Q H s) λA=>e.gR (P:=λu=>aQ (aI m w) L (call (.type "range") [.int i A,u,k]) Q H s) λy=>
       P.gR (P:=λk=>aQ (aI m w) L (call (.type "range") [.int i A,.int t y,k]) Q H s) λv=>call_range_3 l (R _ _ _ _ l) (.inl (PyProof.noPylong_small (qE (Cu T).2.2 (dN _ _))))
    |cons d S=>exact aV C h
theorem Vl(j:fe e O s)(B:L.handled=aa)(z:G.kindOf "range"=D .globalImplicit)(ah:O "range"=aa)(d:s "range"=D (.type "range"))
  (i:∀k∈Q,∀g p,k≠.Starred g p)(h:kA e m w L aj G ak ao F aC Q aE aH)(u:GK aH=D r)(T:sQ r=Y):
  qI ay e m w L aj G ak ao F (.Call (.Name "range" p) Q [] aC) aE (q_ r):=by
 intro a_ bf aL aT aX S R;refine ku (nV j S.1 S.ready.base z ah d (C) (agu (kI Q i) (jJ i h S λn aN aP q o E t=>(Ub t u T λA y v P l=>?_))));obtain⟨a,b,c⟩:=r;have f:=cj.iE (E.ready) {cls:=.type "range",data:=.fields #[.int a A,.int b y,.int c v]} P;apply wpAny_pyIter_range (IsRange.new _ a b c A y v) (acD T l);have X:U (q_ (a,b,c))=(tu a b c).toNat:=by simp [q_]
 have H:=Walks.range (prog:=m) (w:=w) B (n.heap.push {cls:=.type "range",data:=.fields #[.int a A,.int b y,.int c v]}).objs.size a c (tu a b c).toNat;have H:=Walks.bound H;rw [<-X]at H;refine EB (eJ:=0) (q.trans f.same) o (E.step f) C H (λaq v d=>?_) ?_ (λaq h aF=>?_) R
 .obtain⟨x,aK,rfl⟩:=d;simp only [X]at x;refine(aR _ ?_ (.int _ _));refine ae (jr) ?_;rw [List.getElem?_range x];rfl
 .refine ae (eS _ C) ?_;simp [(by exact(X)▸(afB ((OH (Cu T).1 (Cu T).2.1 l).1)))]
 .exact aA _ (aF)
end
section
open PySem.Builtin.Str
def I5(X:bD q)(m:cy)(w:bZ)(L:c3)(F:Mk)(G:c4)(n:I af)(k:J)(y:I (AV q))(e:cE)(p:I T)(x:I (AV q)):Prop:=
 ∀(h:HB)(g:Fz)(s:aU)(A:au)(E:iO aB)(Q:Unit->aU->Prop)(H:aB->aU->Prop),h.lk=[]->SR X F h g G n k y s.heap->s.heap.IsTuple A E->bu F g E.toList p->
  (∀t,bQ s t->SR X F h g G n k x t.heap->Q () t)->aQ (aI m w) L (assign e G (.ref A)) Q H s
def An(X:bD q)(m:cy)(w:bZ)(L:c3)(F:Mk)(G:c4)(n:I af)(k:J)(h:cE)(e:I cE)(o:cE)(p:I (I T))(y:I (AV q))(S:I T)(x:I (AV q)):Prop:=
 mJ X m w L F G n k e o (λy A x=>I5 X m w L F G n k y h A x) p y S x
def Au(X:bD q)(m:cy)(w:bZ)(L:c3)(F:Mk)(G:c4)(n:I af)(k:J)(x:I (AV q))(o:cE)(f:I (AV q))(p:I (I T)):Prop:=
 ∀(e:HB)(g:Fz)(s:aU)(Q:aB->aU->Prop)(H:aB->aU->Prop),SR X F e g G n k x s.heap->
  (∀(t:aU)(j:Fz)(a:au)(R z B:I au)P y u l r,bQ s t->Le g j->gm G->aW X F e j G n k f l r t.heap->WalksT m w L a R z p.length P y u->(∀i v,P i v->∃A,p[i]?=D A/\bu F j v.toList A)->
   y 0 t.heap->(∀b∈z,b∈B)->(∀b∈B,e9 X e j G n r b/\(t.heap.get? b).isSome=Y)->(∀b∈R,b∈B\/(j b).isSome=Y)->(∀b∈R,b<t.heap.objs.size)->(∀b∈B,b∈R)->
   (∀i h,y i h->∀b∈B,(h.get? b).isSome=Y)->(∀i T h,u i T h->∀b∈B,(h.get? b).isSome=Y)->Q (.ref a) t)->
  aQ (aI m w) L (eval o G) (λd c=>aQ (aI m w) L (pyIter d) Q H c) H s
variable{Z:cy}{w:bZ}{os:I af}
theorem Uy{c:HB}{s:aU}{R z B:I au}{P:J->iO aB->Prop}{y:J->cf->Prop}{ah:J->au->cf->Prop}{r:I cE}{E:J}{Q:h_}(cA:gm G)
  (H:WalksT Z w L ez R z (U p) P y ah)(aF:∀i v,P i v->∃A,p[i]?=D A/\bu F g v.toList A)(aX:y 0 s.heap)(b_:∀b∈z,b∈B)
  (bz:∀b∈R,b∈B\/(g b).isSome=Y)(bP:k∉R)(cB:k∉B)(cL:∀i h,y i h->∀b∈B,(h.get? b).isSome=Y)(fy:∀i T h,ah i T h->∀b∈B,(h.get? b).isSome=Y)
  (bx:u=.Tuple r E Q)(bC:eg (U p)=Y)
  (S:aW X F (c.add (k::B) s.heap) g G x q dB kh gV s.heap)(eG:s.heap.get? k=D (lo [] 0))
  (eN:An X Z w L F G x q u aH aK p dB aL aN)
  (aP:∀t j a_ bh d bl O n,bQ s t->Le g j->aW X F (c.add (k::B) t.heap) j G x q aN a_ bh t.heap->t.heap.get? k=D (lo d bl)->bu F j d aL->
   (∀b o,b∉B->t.heap.get? b=D o->O.get? b=D o)->bE (.ok .next) {t with heap:=O,toks:=n})(bH:c.lk=[]):
  codeAny (aI Z w) L (.compLoop (.ListComp aK [⟨u,gi,aH,0⟩] gU gc) 0 (.ref ez) (.ref k) G) bE s:=by
 have l:∀{b},b∉B->b∉z:=λh bR=>h (b_ _ bR);refine J9 cA H.frame (λs bU bY e cg=>H.done s bU bY e λO n cu=>cg O n λb o f a=>cu b o (l f) a) (λ{i A}cF bf h8 jd jm jo fB ak e cQ cV S cZ=>(H.item i cF _ _ (cG.mp ak).1 e λT ao O n dK jn dO aj d8=>(ai (aF i ao dK) λfZ cH eu=>?_))) aX (λb f=>(bz b f).imp id .inl) bP cB cL bC S eG eN aP;subst bx;refine H.go r E Q i T _ _ _ aj λm aC aq=>ai dO λo ej eR=>?_;have aE:=λb o f a=>aq b o (l f) (d8 b o (l f) a);exact cV (c.add _ m) bf _ T ao _ _ bH (S m aE aC) (aR o (aq T o (H.apart i T O aj) ej) eR) ((bj (ae ak.symm cH)).symm▸eu.mono cQ) λe6 fj aT=>cZ m e6 aE aC (bQ.trans (cI m n C) fj) aT
theorem Ux(r:nJ v os aT)(a:jf G n aT i)
  (fZ:Au X Z w L F G n Q ah O P aK)(bl:∀eN∈i,∀l,P[eN]?≠D (.own l))
  (bE:∀d,An X Z w L F (i6 v d G) (os++aT) (U os) g aj aC aK (nS os i P) eR eG)
  (bz:∀T,foldedSetIterable O G T=pure T)(cg:g=.Tuple mw x lF)(ez:eg (U aK)=Y)
  (S:SR X F hB a_ G n Q ah u.heap)
  (bx:∀t j(aZ d:au)z s m h dO,bQ u t->Le a_ j->gm G->aW X F hB j G n Q (m9 os i P eG) m h t.heap->e9 X hB j G n h aZ->e9 X hB j G n h d->aZ≠d->
   t.heap.get? aZ=D (lo z s)->bu F j z eR->t.heap.Ns d dO->compPost (aI Z w) L ak ao aq (.ref aZ) d (.ok .next) t):
  aQ (aI Z w) L (comprehension (.ListComp aC [⟨g,O,aj,0⟩] v bU) v G mu (newList []) ay (eval O G) ao) aq ak u:=by
 have dB:∀p∈v.names,p.2=.free->(G.cells.lookup p.1).isSome=Y:=by
  intro p cu cB;refine cps λaE x=>?_;obtain⟨k,m,h,S⟩:=S;have R:=r.free p cu cB;obtain⟨f,aF,e⟩:=afP R;have bC:f<U i:=by simp only [a.len];exact aF
  have aH:=a.at_ f _ p.1 (dD bC) (by apply ae (dD aF);rw [e]);have bH:i[f]<U ah:=by simp only [S.len];exact(cG.mp aH).1
  obtain⟨nB,bR,_⟩:=S.vars _ _ _ aH (dD bH);apply x;rcases bR with⟨q,_⟩|⟨_,jm,b_,_⟩
  .exact bA q (a.nl _ R)
  .exact cW b_
 refine agP C bz (Eo dB) r.kind r.names (fZ hB a_ u _ _ S λc kh cA kO jd kQ lG jn kP m h cH cL k aL H cQ cV cZ aN dK aP bP bY d8=>(DE (M4 r.kind ?_)));have y:c.heap.objs.size<(c.heap.push (lo [] 0)).objs.size:=by simp only [lI];exact fG _
 obtain⟨cF,ej⟩:=Pb (ol:=lo [] 0) r a k aL aN bl C C C C;have eu:bF c.heap (pushCells ((c.heap.push (lo [] 0)).push {cls:=.type "dict",data:=.dict #[]}) v.names):=λb o e=>xX _ _ b o (eH _ (eH _ e));have A:=λb E=>aP b (bP b E);have bf:=H.frame 0 _ _ cV λb aE o e=>eu b o e;have aX:codeAny (aI Z w) L (.compLoop (.ListComp aC [⟨g,O,aj,0⟩] v bU) 0 (.ref cA) (.ref c.heap.objs.size) (i6 v (c.heap.push (lo [] 0)).objs.size G))
   (compPost (aI Z w) L ak ao aq (.ref c.heap.objs.size) (c.heap.push (lo [] 0)).objs.size) {c with heap:=pushCells ((c.heap.push (lo [] 0)).push {cls:=.type "dict",data:=.dict #[]}) v.names}:=by
  refine Uy cF H cQ bf cZ dK (λq=>(λb E=>fH (aP b E)) _ q C) (λq=>i3 _ (A _ q)) bY d8 cg ez ej ?_ (bE _) ?_ C
  .exact xX _ _ _ _ (eH _ (eS _ C))
  .intro t j fj jo z s fy fB q l bh gc gi B;refine cps λaE x=>?_;refine sx (Pa r a aL aN bl y l bh) λgV gU h8 e6=>?_;exact x (bx _ j _ _ z s _ _ fj ((cH.trans q).trans (cI fy fB C)) (cL.trans l) k (gV.Mf e6 B) gU h8 (fH y) (B _ _ (λq=>i3 _ (A _ q)) gc) gi (Ca bh.ns λo=>B _ o (λq=>i3 _ (qE y (A _ q)))))
 exact agL aX (H.self 0 _ _ _ bf aX)
theorem Vj(r:nJ v os b)(i:jf G n b a)
  (c:Au X Z w L F G n t y O P p)(u:∀aT∈a,∀l,P[aT]?≠D (.own l))
  (f:∀d,An X Z w L F (i6 v d G) (os++b) (U os) h s o p (nS os a P) S H)
  (B:∀x,foldedSetIterable O G x=pure x)(q:h=.Tuple bf bh aX)(g:eg (U p)=Y)(T:m9 os a P H=E):
  qH X Z w L F G n t y (.ListComp o [⟨h,O,s,0⟩] v bC) E S:=by
 intro bE a_ bl bx bz A R;refine Ux r i c u f B q g A λbH Q k d z ah aj ak ao m l aC aE aF aH aq aL aN aK=>(aR ao aK (λaP e=>?_));have j:=aE.iE aH e;rw [T]at j;exact R _ Q k z ah aj ak (m.trans (cI aP _ C)) l aC j aF ((e.2 k aq).trans aL) aN
theorem KC(B:L.handled=aa)(z:tU Z w L G n k ((assignEach x G).map (·.2)) is)(X:U is=d.length)(l:(assignEach x G).findIdx? (·.1)=aa):I5 j Z w L F G n k y (.Tuple x c H) d (CB y is d):=by
 intro T g s Q E ao ak i S q b R;have t:∀{P:I (aB->Sem Unit)}{is:I J},tU Z w L G n k P is->U P=U is:=by
  intro P is h
  induction h with
  |nil=>rfl
  |cons _ _ _ _ _ a=>simp [a]
 refine wpAny_assign_Tuple B q ?_ l λO m=>?_
 .have:=t z;rw [dg]at this;apply ae (this);apply ae (X);rw [<-b.length];rfl
 .have f:cj j g s g {s with heap:=O}:=cj.keeps (S.ready) λv o e=>m v o (fH (fk e)) e;obtain⟨r,ah,aj,S⟩:=S.step f;exact JH r i z X b S λu p A=>R u (f.same.trans p) A
theorem zq{u a b:J}(h:a≠b):u+a≠u+b:=λq=>h (af8 q)
theorem QK{u b:J}(h:0<b):u≠u+b:=fH (RL h)
theorem zl{a u b:J}(h:a<u):a≠u+b:=fH (eI h (fO _ _))
theorem AI{P:au->Prop}{a b c d e:au}(w:P a)(v:P b)(R:P c)(g:P d)(H:P e):∀x∈[a,b,c,d,e],P x:=bO w (bO v (bO R (bO g (bO H eK))))
theorem wd{h:cf}{P:bM->Prop}(x:∃o,h.get? a=D o/\P o):(h.get? a).isSome=Y:=ai x λE e E=>cW e
theorem Wr(ez:fe H eN a_)(bH:aP.handled=aa)(cu:G.kindOf "zip"=D .globalImplicit)(bl:eN "zip"=aa)(d:a_ "zip"=D (.type "zip"))
  (L:∀e∈Q,∀ah p,e≠.Starred ah p)(s:kA H Z w aP bP G bR cg cA cH Q bU [.list aK,.list aN]):
  Au H Z w aP bP G bR cg cA (.Call (.Name "zip" p) Q [] cH) bU ((aK.zip aN).map λh=>[h.1,h.2]):=by
 intro gi gU gV h8 fy S bh;refine ku (nV ez S.1 S.ready.base cu bl d (C) (agu (kI Q L) (jJ L s S λc cQ eR cB aX y b=>?_)));cases b with|cons bx b=>cases b with|cons bz b=>
 obtain rfl:=b.i9 C;refine ji (qc bx) λbC z fj u i A=>?_;subst u;refine ji (qc bz) λcV m fZ u x R=>?_;subst u;have r:=y.ready;refine call_zip_2 (gy r.bJ i) (gy r.bJ x) λgc g aj ak q aq bE B=>?_;have X:=fk (r.bJ _ _ i);have f:=fk (r.bJ _ _ x);apply wpAny_pyIter_zip g;obtain⟨aT,bY,b_,l⟩:=y;have aC:=cj.keeps (t:=c.toks) r B;have a:∀aE,c.heap.get? _=aa:=λaE=>by
  cases cF:c.heap.get? (c.heap.objs.size+aE)with
  |none=>rfl
  |some o=>exact bA (fk cF) (h9.mpr (fO _ _))
 have cL:ZipApart (c.heap.objs.size+4) (c.heap.objs.size+2) (c.heap.objs.size+3) c.heap.objs.size (c.heap.objs.size+1) bC cV:=by
  constructor<;>first|exact zq (nofun)|exact QK (gE _)|exact(QK (by exact gE _)).symm|exact zl X|exact(zl X).symm|exact fH X|exact vy X|exact zl f|exact(zl f).symm|exact fH f|exact vy f
 have aF:=WalksT.zip2 (prog:=Z) (w:=w) bH _ _ _ _ _ _ _ cL z.toArray m.toArray;have bf:min z.toArray.size m.toArray.size=U ((aK.zip aN).map λh=>[h.1,h.2]):=by simp [(A.length),(R.length)]
 simp only [bf]at aF;refine bh _ cQ _ _ _ [c.heap.objs.size+4,c.heap.objs.size+3,c.heap.objs.size,c.heap.objs.size+1,c.heap.objs.size+2] _ _ _ bY b_ (cB.trans aC.same) aX aT (l.step aC) aF (λao e6 d=>?_)
  (XV g aj (cI _ _ ak) q aq ((gy r.bJ i).at λo e=>B _ o e) ((gy r.bJ x).at λo e=>B _ o e)) (bO (.head _) (bO (.tail _ (.head _)) (bO (.tail _ (.tail _ (.head _))) (bO (.tail _ (.tail _ (.tail _ (.head _)))) eK))))
  (AI ⟨l.free (a 4),cW g⟩ ⟨l.free (a 3),cW ak⟩ ⟨l.free (a 0),wd q⟩ ⟨l.free (a 1),wd aq⟩ ⟨l.free (a 2),cW aj⟩)
  (bO (.inl (.head _)) (bO (.inl (.tail _ (.tail _ (.tail _ (.tail _ (.head _)))))) (bO (.inl (.tail _ (.head _))) (bO (.inl (.tail _ (.tail _ (.head _)))) (bO (.inl (.tail _ (.tail _ (.tail _ (.head _))))) (bO (.inr (cW i)) (bO (.inr (cW x)) eK)))))))
  (λdB dK=>bE▸bO (P:=(·<c.heap.objs.size+5)) (zX (by exact fG _) _) (bO (zX (by exact dN _ _) _) (bO (zX (by exact dN _ _) _) (bO (RL (gE _)) (bO (zX (by exact dN _ _) _) (bO (eI X (fO _ _)) (bO (eI f (fO _ _)) eK)))))) dB dK)
  (AI (.head _) (.tail _ (.tail _ (.head _))) (.tail _ (.tail _ (.tail _ (.head _)))) (.tail _ (.tail _ (.tail _ (.tail _ (.head _))))) (.tail _ (.head _)))
  (λao s O=>?_) (λao T s O=>?_)
 .refine e5 d λah fB dO v d8=>?_;subst d8;have v:=by simpa using v
  refine ai (A.Lj (by simpa using dO)) λaL cZ eu=>ai (R.Lj v) λaH ej eG=>(aR ([aL,aH]) ?_ (.cons eu (.cons eG .nil)));apply ae (jr);rw [(IB (z:=(aL,aH))).mpr ⟨cZ,ej⟩];rfl
 .refine ua O λF P k t n E=>?_;refine jL (k) λE E j=>?_;exact AI (cW F) (cW j) (wd t) (wd n) (cW P)
 .refine ua O λF P k t n E=>?_;refine jL (k) λE E j=>?_;exact AI (cW F) (cW j) (wd t) (wd n) (cW P)
end
section
open PySem.Builtin.Str
theorem G1:Slot "method_descriptor" "__get__" "method_descriptor.__get__":=
 .of (owner:="method_descriptor") (n:="__get__") (by kernel_rfl) (C) (C) (C)
  (by first|exact .inl (C)|exact .inr _) (by exact C)
theorem Zu:typeLookup (.type "method_descriptor") "__set__"=pure aa:=by kernel_rfl
theorem Zt:typeLookup (.type "method_descriptor") "__delete__"=pure aa:=by kernel_rfl
theorem Vv:entryFor table "method_descriptor.__get__"=D Builtin.«method_descriptor.__get__»:=Aa (C)
theorem Tt(a b c:aB):argsOk "method_descriptor.__get__" ⟨[a,b,c],[]⟩:=by kernel_rfl
theorem sub_list_self:isSubtype (.type "list") (.type (".".intercalate ("list.append".cutAt '.').dropLast))=pure Y:=by
 exact C
variable{E:aB->aU->Prop}{os:OsState}
theorem Tq(j:h.get? a=D o)(l:o.cls=.type "list")(k:i (.ok (.ret (.ref h.objs.size))) ⟨h.push (p8 a),f,d,A,os⟩):
  codeAny (aI m w) L (.call (.builtin "method_descriptor.__get__") ⟨[.builtin "list.append",.ref a,.type "list"],[]⟩) i ⟨h,f,d,A,os⟩:=by
 have q:(⟨h,f,d,A,os⟩:aU).TypeIs (.ref a) "list":=(aR _ j l);have n:=sub_list_self;refine qG G1.plain Vv (G1.check _ _ _ _ _ _ _ _ (Ih) (Tt _ _ _) ?_)
 repeat(any_goals(first|assumption|wp_step))
theorem To(j:h.get? a=D {cls:=.type "list",dict:=aa,data:=.seq t u,slots:=#[]})(k:Q (.done (.ret (.ref h.objs.size))) ⟨h.push (p8 a),f,d,A,os⟩):
  aQ (aI m w) L (Builtin.«object.__getattribute__» ⟨[.ref a,.str "append" n],[]⟩) Q E ⟨h,f,d,A,os⟩:=by
 have q:(⟨h,f,d,A,os⟩:aU).TypeIs (.ref a) "list":=(aR _ j C);have e:(⟨h,f,d,A,os⟩:aU).TypeIs (.builtin "list.append") "method_descriptor":=Ih;have B:typeLookup (.type "list") "append"=pure (D (.builtin "list.append")):=Rc.lookup;have i:=G1.lookup;have l:=Zu;have x:=Zt
 repeat(any_goals(first|assumption|wp_step))
 apply Tq j C
 repeat(any_goals(first|assumption|wp_step))
theorem Tn(j:h.get? a=D {cls:=.type "list",dict:=aa,data:=.seq t u,slots:=#[]})(k:i (.ok (.ret (.ref h.objs.size))) ⟨h.push (p8 a),f,d,A,os⟩):
  codeAny (aI m w) L (.call (.builtin "list.__getattribute__") ⟨[.ref a,.str "append" n],[]⟩) i ⟨h,f,d,A,os⟩:=
 qG Ig.plain F.entry_list_ga (Ig.check _ _ _ _ _ _ _ _ ((aR _ j C)) (F.args_list_getattribute_2 _ _) (To j k))
theorem Tl(j:h.get? a=D {cls:=.type "list",dict:=aa,data:=.seq t u,slots:=#[]})(k:Q (.ref h.objs.size) ⟨h.push (p8 a),f,d,A,os⟩):
  aQ (aI m w) L (getAttrBy (.ref a) (.str "append" n) Y Y) Q E ⟨h,f,d,A,os⟩:=by
 have q:(⟨h,f,d,A,os⟩:aU).TypeIs (.ref a) "list":=(aR _ j C);have v:=Ig.lookup;have s:=Ig.bind (.ref a)
 repeat(any_goals(first|assumption|wp_step))
 apply Tn j
 repeat(any_goals(first|assumption|wp_step))
theorem Tj(j:h.get? a=D {cls:=.type "list",dict:=aa,data:=.seq t u,slots:=#[]})(k:Q (.ref h.objs.size) ⟨h.push (p8 a),f,d,A+1,os⟩):
  aQ (aI m w) L (getAttr (.ref a) "append" Y) Q E ⟨h,f,d,A,os⟩:=by
 repeat(any_goals(first|assumption|with_reducible apply Tl j|wp_step))
theorem Tp(O:attributeBase e "append" G (eval e G)=eval e G)
  (h:aQ (aI m w) L (eval e G) (λv c=>v=.ref a/\c.heap.get? a=D {cls:=.type "list",dict:=aa,data:=.seq t u,slots:=#[]}/\Q (.ref c.heap.objs.size) {c with heap:=c.heap.push (p8 a),toks:=c.toks+1}) E s)
  (z:∀o r,letTemporaryGo e o r=pure ()):
  aQ (aI m w) L (eval (.Attribute e "append" p) G) Q E s:=by
 simp only [arm_eval_Attribute,O];refine aG (kT h (λv c i=>(gv i λn j k=>?_)) λb b x=>x);subst n;refine aG (oE (aG (gH (Tj j ?_))));rw [z];exact aG (bN (bN k))
end
section
open PySem.Builtin.Str
section
variable{Z:cy}{w:bZ}
theorem ac2:isSubtype (.type "list") (.type "module")=pure ay:=by exact C
theorem T6(e:args.any (·.1)=ay)
  (l:aQ (aI Z w) L (evalArgs (.ref b) Y args []) (λx c=>c.heap.get? b=D (p8 a)/\aQ (aI Z w) L (call (.ref b) x.pos x.kw) Q H c) H h):aQ (aI Z w) L (callWith u (.ref b) [] args []) Q H h:=by
 refine aG (gH (kT l (λx c v=>aG (oE (bT v λT i=>?_))) λE E x=>x));rw [e];exact aG (aG (IX T (bN (aG (kT i (λr F s=>aG (gH (wpAny_point (bN s)))) λE E x=>x)))))
theorem T8(T:s.heap.get? b=D (p8 a))(X:s.heap.get? a=D (lo z u))(m:U z<=1000000)
  (R:∀O k,O.get? a=D (lo (z++[v]) k)->gW a s.heap O->Q .none {s with heap:=O}):aQ (aI Z w) L (call (.ref b) [v]) Q H s:=by
 have q:s.TypeIs (.ref a) "list":=(aR _ X C);have j:nF (·.push v) (lo z u)=lo (z++[v]) (u+1):=by simp [nF,lo]
 refine i4 (codeAny_of_tree (aG (IX T ?_)));have t:(nH "builtin_function_or_method"!=nH "method")=Y:=by decide
 show aQ _ _ (if(nH "builtin_function_or_method"!=nH "method")=Y then(do checkBoundCall "list.append" ⟨[.ref a,v],[]⟩;return<-again (.builtin "list.append" ⟨[.ref a,v],[]⟩))else _) _ _ s;apply aG (m:=checkBoundCall "list.append" ⟨[.ref a,v],[]⟩);have i:∀{g:Unit->aU->Prop}{h:aB->aU->Prop},g () s->aQ (aI Z w) L.in1 (checkBoundCall "list.append" ⟨[.ref a,v],[]⟩) g h s:=by
  intro g h x;have c:=ac2
  repeat(any_goals(first|assumption|wp_step))
 refine i (aG (bN (bN (⟨zM _ (by decide+kernel),z_ F.entry_list_append ?_⟩))));show aQ _ _ (updateSeq a (·.push v)>>=λE=>ret .none) _ _ s;have e:(1000000:J)<=sizeLine:=by decide
 refine aG (wpAny_updateSeq X C (bN (R _ (u+1) ?_ (oB ..))) (hz:=by exact aD ‹_› ‹_›) (_hz':=by simp;exact aD ‹_› ‹_›));apply ae (pN _ X (by exact C));rw [j]
end
theorem Den.q8(a:au)(d:Den F g v A):Den ⟨F.star,a⟩ g v A:=d.re (ρ:=F) (ρ':=⟨F.star,a⟩) C (Le.refl _)
theorem bu.q8(a:au)(d:bu F g z p):bu ⟨F.star,a⟩ g z p:=d.re (ρ:=F) (ρ':=⟨F.star,a⟩) C (Le.refl _)
noncomputable def wD:AV q->bw
 |.gT _=>ay
 |.lg=>ay
 |_=>Y
variable{B:bD O}{xs:I af}{i j:J}
theorem Holds.q8(a:au)(i:Holds B F g x E Q h)(R:wD E=Y):Holds B ⟨F.star,a⟩ g x E Q h:=by
 cases E with
 |un=>exact i
 |t n=>obtain⟨e,v,s,d⟩:=i;exact⟨e,v,s,d.q8 a⟩
 |own l=>obtain⟨b,z,u,t,k,d,w⟩:=i;exact⟨b,z,u,t,k,d.q8 a,w⟩
 |obj o=>exact i
 |gT l=>exact cY C R
 |lg=>exact cY C R
theorem aW.q8(a:au)(S:aW B F hB g G xs k y m r e)(R:y.all wD=Y):aW B ⟨F.star,a⟩ hB g G xs k y m r e:=
 {S with
  vars:=λi x E j d=>by
   obtain⟨Q,u,h⟩:=S.vars i x E j d
   exact⟨Q,u,h.q8 a (gK.mp R E (cN d))⟩}
theorem adM(S:aW B F hB g G xs k y m r h)(n:∀x Q,xs[i]?=D x->eE G m h x Q->∀s,y[i]?=D s->Holds B F g h s Q (r i)->Holds B F g h E Q R):
  ∀(j:J)(x:af)(c:AV O),xs[j]?=D x->(y.set i E)[j]?=D c->Jg B F g h G m x c (bV r i R j):=by
 intro j x c b d
 by_cases p:j=i
 .subst p;have a:=by
   have:=(cG.mp d).1;simpa using this
  obtain rfl:=bj ((jt a)▸d);obtain⟨Q,u,e⟩:=S.vars j x _ b (dD a);refine⟨Q,u,?_⟩;simp only [show bV r j R j=R from aM C];exact n x Q b u _ (dD a) e
 .rw [lJ (iC p)]at d;obtain⟨Q,u,e⟩:=S.vars j x c b d;exact⟨Q,u,((show bV r i R j=r j from aJ ‹_›)▸(e))⟩
theorem aW.GJ{fp:I au}(S:aW B F hB g G xs t y m r e)(k:∀b∈fp,b∈r i)(n:∀x Q,xs[i]?=D x->eE G m e x Q->∀l,y[i]?=D l->Holds B F g e l Q (r i)->Holds B F g e E Q fp):
  aW B F hB g G xs t (y.set i E) m (bV r i fp) e:=by
 have h:∀j b,b∈bV r i fp j->b∈r j:=λj b f=>by
  by_cases p:j=i
  .subst p;rw [show bV r j fp j=fp from aM C]at f;exact k b f
  .rw [show bV r i fp j=r j from aJ ‹_›]at f;exact f
 exact{S with
  len:=by simp [S.len]
  vars:=adM S n
  fp:=λj O b f=>S.fp j O b (h j b f)
  tab:=λP s=>(k9 ((S.tab P s).1) ((S.tab P s).2.1) ((S.tab P s).2.2.1) ((S.tab P s).2.2.2.1) (λj O f=>(S.tab P s).2.2.2.2 j O (h j P f)))
  apart:=λa b u f R c q o=>S.apart a b u f R c (h a c q) (h b c o)}
theorem aW.unmark(S:aW B F hB g G xs k y m r h)(X:y[i]?=D (.gT l)):aW B F hB g G xs k (y.set i (.own l)) m (bV r i (r i)) h:=
 S.GJ (λE h=>h) λs Q j u x n e=>by
  obtain rfl:=bj (X▸n);obtain⟨z,a,t,b,d,w⟩:=e;exact⟨F.mark,z,a,t,b,d,w⟩
theorem aW.mark(S:aW B F hB g G xs k y m r h)(j:xs[i]?=D x)(X:y[i]?=D (.own l))(u:eE G m h x (D (.ref F.mark))):aW B F hB g G xs k (y.set i (.gT l)) m (bV r i (r i)) h:=
 S.GJ (λE h=>h) λo Q p s f n e=>by
  obtain rfl:=bj (j▸p);obtain rfl:=bj (X▸n);cases u.det s;obtain⟨q,z,a,t,b,d,w⟩:=e;obtain rfl:=ko (bj t);exact⟨z,a,C,b,d,w⟩
theorem aW.forget(S:aW B F hB g G xs k y m r h):aW B F hB g G xs k (y.set i .un) m (bV r i []) h:=
 S.GJ (λE h=>gj _ ‹_›) λE E E E E E E=>C
theorem Wj(h:eX B m w L F G xs k (y.set i .un) z P A):eX B m w L F G xs k y z P A:=by
 rintro T g s Q H e⟨a,x,r,S⟩R;exact h T g s Q H e ⟨a,x,_,S.forget⟩ R
theorem Wo(X:y[i]?=D (.gT l))(h:eX B m w L F G xs k (y.set i (.own l)) z P A):eX B m w L F G xs k y z P A:=by
 rintro T g s Q H e⟨a,x,r,S⟩R;exact h T g s Q H e ⟨a,x,_,S.unmark X⟩ R
theorem Vc(j:xs[i]?=D x)(X:y[i]?=D (.gT l))(b:gn B n f L F G xs k (y.set i (.own l)) e P a)(d:P[i]?=D (.own H)):gn B n f L F G xs k y e (P.set i (.gT H)) a:=by
 rintro T g s Q h⟨w,m,ah,S⟩R;obtain⟨p,u,z,O,rfl,_⟩:=S.vars i x _ j X;refine b _ g s Q h ⟨w,m,_,(S.unmark X).uD j u⟩ λt o q l A=>cps λE v=>?_;obtain⟨_,r,c,A⟩:=A;exact v (R t o q l ⟨w,r,_,A.unlock.mark j d (A.locked j)⟩)
theorem Wm(j:xs[i]?=D x)(l:i<k)(aH:G.kindOf x=D .local\/G.kindOf x=D .cell)(b:∀a,eX B m r c ⟨F.star,a⟩ G xs k (y.set i (.gT [])) z P A)
  (R:y.all wD=Y)(S:P.all wD=Y):eX B m r c F G xs k y (.Assign [.Name x aN] (.List [] aL) bf::z) P A:=by
 intro T g n Q H e t q;refine gN (kr (KG lU C T g n _ _ t λaT f a aP v aX a_ u o w E s L d=>?_));obtain rfl:=d.i9 C;refine gh (av:=.gT []) (fp:=[a]) w e (E.q8 a R) j l aH ⟨[],v,C,L,.nil,C⟩ (.sM s) λO ah aj ak=>b a T f O Q H e ⟨w,ah,_,ak⟩ λp aq aC aE ao h aF=>?_;obtain⟨_,aK,X,h⟩:=h;exact q p aq aC ((u.trans aj).trans aE) (o.trans ao) ⟨w,aK,X,h.q8 F.mark S⟩ (aF.map λd=>d.q8 F.mark)
theorem VV(e:xs[i]?=D x)(X:y[i]?=D (.gT q))(P:(x==("__debug__"))=ay)(L:xs[j]?=D H)(v:j<k)(Q:G.kindOf H=D .local\/G.kindOf H=D .cell)
  (O:attributeBase (.Name x c) "append" G (eval (.Name x c) G)=eval (.Name x c) G):ic B aE m z F G xs k y (.Assign [.Name H aF] (.Attribute (.Name x c) "append" A) p) (y.set j .lg) .next:=by
 rintro T g s ak aC a⟨w,aH,r,S⟩R;refine cps λE b=>?_;obtain⟨d,u,ah,aj,rfl,l,ao,aq⟩:=S.vars i x _ e X;refine b (kr (Tp O (eO (eL w S.ns u (dI C l ?_)) P) (λE E=>C)));have f:=cj.iE S.ready (p8 F.mark) (s.toks+1);exact gh (av:=.lg) w a (S.step f) L v Q ⟨_,C,eS _ C,C⟩ (.sM (S.free (gS s))) λt n o h=>R t g .next (f.same.trans o) (Le.refl _) ⟨w,n,_,h⟩ dj
theorem VL(a:xs[i]?=D x)(L:xs[j]?=D H)(X:y[j]?=D .lg)(c:(H==("__debug__"))=ay)(z:cP B Z ao aE ρ s xs g y e P τ)(A:P[j]?=D .lg)(ak:P[i]?=D (.gT l))
  (uv:∀x p,e≠.Starred x p)(aH:eg (U l)=Y)(aL:gY (.Call (.Name H aN) [e] [] aq) aa bl.line s=pure ay):
  ic B Z ao aE ρ s xs g y (.Expr (.Call (.Name H aN) [e] [] aq) bl) (P.set i (.gT (l++[τ]))) .next:=by
 rintro bx cB cQ bU cg cF⟨w,m,r,S⟩d;obtain⟨bH,u,b,rfl,bY,b_⟩:=S.vars j H _ L X;have Q:∀R∈[e],∀x p,R≠.Starred x p:=λR T=>by exact(cO.mp T)▸(uv)
 refine tL (ku (eO (eL w S.ns u (T6 (a:=ρ.mark) (kI [e] Q) (jJ Q (qO z lU uv) ⟨w,m,r,S.uD L u⟩ λbz O bP ah aj E h=>?_))) c)) (by delta interactive;exact w.kind.symm▸C) aL;refine cps λcA o=>?_;obtain⟨_,k,cH,E⟩:=E;obtain⟨cL,aC,cV,rfl,n,bC⟩:=E.vars j H _ L A;obtain rfl:=ko (bj ((E.locked L).det aC));have E:=E.unlock;obtain⟨bE,aF,G,bR,rfl,aK,F,t⟩:=E.vars i x _ a ak;obtain⟨v,cu,rfl,aT,h⟩:=h.jx (P:=λaX=>∃v G,aX=v::G/\Den _ _ v _/\bu _ _ G _) λv G x H=>⟨v,G,C,x,H⟩;obtain rfl:=h.i9 C;apply o;refine⟨n,T8 n aK (by exact(F.length)▸(dh aH)) λa_ aP bh bf=>(d _ O .next (ah.trans (cI a_ _ C)) aj ⟨w,k,_,E.PW a (λb f cZ e=>?_) aF ⟨_,aP,C,bh,F.append (.one aT),C⟩ λb f=>.inl (by rw [t];exact f)⟩ dj)⟩;rw [t]at f;exact(bf.2 b λq=>f (by simp [q])).trans e
end
section
open PySem.Builtin.Str
def ya(X:bD q)(m:cy)(w:bZ)(L:c3)(F:Mk)(G:c4)(n:I af)(k:J)(y:I (AV q))(h:I cE)(o:I J)(x:I (AV q))(b:I J):Prop:=
 ∀(T:HB)(g:Fz)(s:aU)(Q:af->aU->Prop)(H:aB->aU->Prop),SR X F T g G n k y s.heap->
  (∀t j,bQ s t->Le g j->SR X F T j G n k x t.heap->Q ⟨b.toArray⟩ t)->Joins (aI m w) L H (evalEach h G) ⟨o.toArray⟩ Q s
noncomputable def kG:I T->bg (I aS)
 |[]=>D []
 |.int i::r=>(kG r).map (i::·)
 |_::_=>aa
theorem Vp:ya X m w L F G n k y [] o y o:=λT g s Q H S R=>R s g (bQ.refl s) (Le.refl _) S
theorem Vo(i:cP X m w L F G n k y e P (.str o))(B:eg (U (h++o))=Y)(v:ya X m w L F G n k P Q (h++o) a b):ya X m w L F G n k y (e::Q) h a b:=by
 intro T g s x H S R;refine i T g s _ _ S λc l z q p E d=>?_;obtain⟨A,rfl⟩:=jg d;refine(gx _ A C ?_ ?_)
 .rw [<-CK,str_len];exact kK B
 .rw [<-CK];exact v T l c x H E λj r t u f=>R j r (q.trans t) (p.trans u) f
theorem V7(h:ya X m w L F G n k y (e::x::Q) [] P b)(B:eg (U b)=Y):cP X m w L F G n k y (.JoinedStr (e::x::Q) p) P (.str b):=by
 intro T g s i H S R;refine wpAny_JoinedStr (h T g s _ _ S λc a q o E=>⟨?_,?_⟩)
 .exact kK B
 .exact R _ a _ (q.trans (cI _ _ C)) o (E.step (cj.tok E.ready _)) (.str b _)
theorem V5(h:cP X m w L F G n k y e P (.str o))(B:eg (U o)=Y):cP X m w L F G n k y (.FormattedValue e (-1) aa x) P (.str o):=by
 intro T g s Q H S R;refine wpAny_FormattedValue_plain (h T g s _ _ S λc a v q p E d=>(bG (jg d) λA j=>?_));subst j;exact SB.field_str (λb i=>(R _ a _ (q.trans (cI _ _ C)) p (E.step (cj.tok E.ready _)) (.str _ _))) (by exact kK B)
end
section
open PySem.Builtin.Str
variable{O:Type}
theorem mro_object:mroOf (.type "object")=pure [.type "object"]:=by exact C
theorem Vx:entryFor table "object.__new__"=D Builtin.«object.__new__»:=Aa (C)
section
variable{Z:cy}{w:bZ}{A:c3}{E:aB->aU->Prop}{s:aU}{Q:aB->aU->Prop}
theorem ML:typeLookup (.type "object") "__new__"=pure (D (.builtin "object.__new__")):=by kernel_rfl
theorem acB:Slot "object" "__init__" "object.__init__":=
 .of (owner:="object") (n:="__init__") (by kernel_rfl) (C) (C) (C)
  (by first|exact .inl (C)|exact .inr _) (by exact C)
theorem Uc:TypeCalled "object" "object.__new__" "object.__init__":=
 ⟨C,C,(cI _ _ mro_object),madeBy_type mro_object ML (by decide+kernel),by decide+kernel,by exact C,acB⟩
theorem adG:checkTypeCall "object" ⟨[],[]⟩=pure ():=C
theorem ZU:checkBuiltinCall "object.__new__" ⟨[.type "object"],[]⟩=pure ():=by kernel_rfl
theorem args_object_init_1(a:aB):argsOk "object.__init__" ⟨[a],[]⟩:=by
 delta argsOk;kernel_rfl
theorem aaE:Meets (Builtin.«object.__new__» ⟨[.type "object"],[]⟩) (λE i s=>i (.ok (.ret (.ref s.heap.objs.size))) {s with heap:=s.heap.push {cls:=.type "object",data:=.plain}}):=
 .of_wp λZ w A i s h=>by
  have v:=ML
  wp_walk
  apply vF (by decide+kernel)
  wp_walk
  apply vF (by decide+kernel)
  iterate 3(first|assumption|wp_step)
  refine vF (by decide+kernel) (bN (vF C ?_));refine vF (c:=typeHasDict (.type "object")=Y) (by decide+kernel) (aG (bN (aG (rQ ?_))));exact vF (c:=diesByItsTypesDel "object"=Y) (by decide+kernel) (bN (aR _ C h))
theorem Ua(h:Q (.ref s.heap.objs.size) {s with heap:=s.heap.push {cls:=.type "object",data:=.plain}}):aQ (aI Z w) A (call (.type "object") []) Q E s:=by
 refine callType_meets (Q₁:=λe c=>c.TypeIs e "object"/\Q e c) Uc adG ZU Vx F.entry_object_init aaE ?_ λe c k=>?_
 .exact⟨(aR _ (eS _ C) C),h⟩
 .refine(dI k.1 (args_object_init_1 e) ⟨λa i s=>i (.ok (.ret .none)) s,?_,?_⟩)
  .exact .of_wp λZ w A i s B=>bN (aR _ C B)
  .exact⟨C,k.2⟩
end
variable{B:bD O}{Z:cy}{w:bZ}{A:c3}{ρ:Mk}{V:c4}{xs os cs:I af}{ci:I J}{k n:J}{lv aY dc m4 MO lvo:I (AV O)}{fz g4 fzn:Fz}{hB:HB}{m mn:af->bg aB}{cK ag0:J->I au}{scope:je}{wr:I au}{e qf agX iz elt iter c:cE}{ifs es:I cE}{ts ys l l':I T}{pos p px py O_ apos:h_}{bb:bw}{i j:J}{x y:af}{τ ta tb tx:T}{tn:I T}{h h':cf}{body rest orelse:I cz}{fl:fP}{st:cz}{va vb vc:aB}{vs:I aB}{acc out l₁ l₂ ag5:I J}{mg mb:af->bg aB}
theorem LZ(e:bu ρ fz vs ts):∀{G:I aS},kG ts=D G->∃l:I (aS×fT),vs=l.map (λp=>.int p.1 p.2)/\l.map (·.1)=G:=
 e.ind (P:=λvs ts=>∀{G:I aS},kG ts=D G->∃l:I (aS×fT),vs=l.map _/\l.map _=G) (λh=>(aR ([]) C (bj h))) λ{v vs A ts}e E n=>@λG h=>by
  cases A<;>first|(exact aV C h;done)|skip
  refine bG e.inv λA j=>?_;subst j;refine ai (pR.mp h) λa w d=>?_;subst d;refine ai (n w) λl j d=>?_;subst j d;exact(aR ((_,A)::l) C C)
theorem abh(x:A.handled=aa)(d:Den ρ fz va (.list ts))(h:kG ts=D G):PO B (aI Z w) A ρ (call (.builtin "sum") [va]) fz (.int G.sum):=by
 refine ji (qc d) λi vs X u S b=>?_;subst u;refine ai (LZ b h) λl j a=>?_;subst j a;intro s k H r R;have Q:s.heap.IsList i (intItems l.toArray):=by
  have:=gy r.bJ S;simpa [intItems]using this
 refine sum_intListG x Q λh' n P e=>?_;rw [preSum_eq,List.take_of_length_le (by simp)];exact R _ _ _ (cj.keeps r e) (.int _ _)
theorem aa'(O:Den ρ fz va (.str l₁)):PO B (aI Z w) A ρ (call (.builtin "isinstance") [va,.type "str"]) fz (.bool Y):=by
 refine bG (jg O) λh j=>?_;subst j;exact PO.give λs Q H r R=>IsiPair.str_str (R _ s.toks (.bool _))
end
section
open PySem.Builtin.Str
mutual
noncomputable def B5:T->bw
 |.atom=>ay
 |.list l=>sJ l
 |.tup l=>sJ l
 |_=>Y
noncomputable def sJ:I T->bw
 |[]=>Y
 |t::r=>B5 t&&sJ r
end
theorem Den.pB(a:au){A:T}(d:Den F g v A):B5 A=Y->Den ⟨a,F.mark⟩ g v A:=
 Den.rec (motive_2:=λz p E=>sJ p=Y->bu _ g z p) (λE=>.none) (λb E=>.bool b) (λi A E=>.int i A) (λl A E=>.str l A) ((cY C)) (λv E=>.bW v) (λe E i h=>.list e (i h)) (λe E i h=>.tup e (i h)) (λE=>.nil)
  (λE E i t h=>.cons (i (cR.mp h).1) (t (cR.mp h).2)) d
theorem bu.pB(a:au)(d:bu F g z p):sJ p=Y->bu ⟨a,F.mark⟩ g z p:=
 d.ind (P:=λz p=>sJ p=Y->bu ⟨a,F.mark⟩ g z p) (λE=>.nil) λa E i h=>.cons (a.pB _ (cR.mp h).1) (i (cR.mp h).2)
def wC:AV q->bw
 |.t x=>B5 x
 |.own l=>sJ l
 |.gT l=>sJ l
 |_=>Y
def Nc:fP->bw
 |.ret A=>B5 A
 |_=>Y
variable{B:bD O}
theorem Holds.pB(a:au)(i:Holds B F g h E Q k)(R:wC E=Y):Holds B ⟨a,F.mark⟩ g h E Q k:=by
 cases E with
 |un=>exact i
 |t n=>obtain⟨e,v,s,d⟩:=i;exact⟨e,v,s,d.pB a R⟩
 |own l=>obtain⟨x,z,u,t,b,d,w⟩:=i;exact⟨x,z,u,t,b,d.pB a R,w⟩
 |obj o=>exact i
 |gT l=>obtain⟨z,u,t,b,d,w⟩:=i;exact⟨z,u,t,b,d.pB a R,w⟩
 |lg=>exact i
theorem aW.pB(a:au)(S:aW B F hB g G n k y m r h)(R:y.all wC=Y):aW B ⟨a,F.mark⟩ hB g G n k y m r h:=
 {S with
  vars:=λe x E j d=>by
   obtain⟨Q,u,i⟩:=S.vars e x E j d
   exact⟨Q,u,i.pB a (gK.mp R E (cN d))⟩}
theorem Wl(i:J)(h:eX B m w L F G n k y z P A):eX B m w L F G n k y z (P.set i .un) A:=by
 intro T g s Q H e S R;refine h T g s Q H e S λc a x q o E d=>?_;obtain⟨b,l,j,E⟩:=E;exact R c a x q o ⟨b,l,_,E.forget⟩ d
theorem Wn(m:fe B mg A)(j:n[i]?=D x)(l:i<k)(u:V.kindOf x=D .local\/V.kindOf x=D .cell)(hy:V.kindOf "object"=D .globalImplicit)(R:mg "object"=aa)(d:A "object"=D (.type "object"))
  (aj:∀ak,eX B aq w a ⟨ak,F.mark⟩ V n k (y.set i (.t .atom)) z P fl)(b:y.all wC=Y)(o:P.all wC=Y)(v:Nc fl=Y):
  eX B aq w a F V n k y (.Assign [.Name x aK] (.Call (.Name "object" aE) [] [] aN) aL::z) P fl:=by
 rintro T f s Q H e⟨h,aF,aH,S⟩r;refine gN (kr (ku (nV m h S.base hy R d (C) (PyProof.Rows.callWith_type0 (Ua ?_)))));have g:=cj.iE S.ready {cls:=.type "object",data:=.plain} s.toks;refine gh (av:=.t .atom) h e ((S.pB _ b).step g) j l u ⟨C,_,C,.atom (ρ:=⟨s.heap.objs.size,F.mark⟩)⟩ .nil λp m₂ q E=>aj s.heap.objs.size T f p Q H e ⟨h,m₂,_,E⟩ λO ah L c ao G t=>?_;obtain⟨_,aC,X,G⟩:=G;apply r O ah L ((g.same.trans q).trans c) ao ⟨h,aC,X,G.pB F.star o⟩;cases L<;>cases fl<;>first|exact t|exact t.pB F.star v
end
def pV(X:bD q)(O:af->bg aB)(L:af)(u:J):Prop:=
 ∃a o y code r,O L=D (.ref a)/\(∀{h},bF X.h₀ h->h.get? a=D o)/\o.data=.func (docDef L (gw (bB u)) (dF (bB u)) (ef (bB u)) y code r)/\(∀{h},bF X.h₀ h->h.CodeRec code L)
def Aj(X:bD q)(m:cy)(w:bZ)(O:af->bg aB)(u:J)(L:af)(e:I T)(r:T):Prop:=
 ∃a o S,O L=D (.ref a)/\(∀{h},bF X.h₀ h->h.get? a=D o)/\o.data=.func S/\DI X m w u (.ref a) e r
section
variable{V:c4}{e:cE}
def UJ(L:af)(i:J)(y code r:aB)(H a:au):c4:=di (docDef L (gw (bB i)) (dF (bB i)) (ef (bB i)) y code r) H a
theorem TZ(G:fe X O A)(k:pV X O h i)(Q:oN (ef (bB i)) n)(j:p.length<=U n)
  (d:∀y code r(z:I aB),U z=p.length->bindArgs (docDef h (gw (bB i)) (dF (bB i)) (ef (bB i)) y code r) ⟨z,[]⟩=pure (e0 n z))
  (B:∀L F y code r H a,dW L u->∃b,eX X m w L F (UJ h i y code r H a) n (U n) (q4 n p) (dF (bB i)) b (.ret x)):Aj X m w O (u+1) h p x:=Kz k λa o y code r s v R g=>(oX a o _ s v R (JT G v R g C C Q C C j (d y code r) λH L F e=>B L F y code r H a e))
theorem V6(G:fe X O A)(i:dW L u)(j:V.kindOf x=D .globalImplicit)(P:(x==("__debug__"))=ay)
  (h:∀e∈Q,∀x p,e≠.Starred x p)(a:kA X m w L F V n k y b Q s t)(l:Aj X m w O u x t z):
  cP X m w L F V n k y (.Call (.Name x p) Q [] b) s z:=mU l λq f S o v R g=>V3 G i j o P v R h a g
noncomputable def dP(e:cE):bw:=!(swappedStores.match_5 (λE=>bw) e (λE A=>Y) λE=>ay)
theorem l6{Q:I cE}(h:Q.all dP=Y):∀e∈Q,∀x p,e≠.Starred x p:=by
 intro e m x p q;have:=gK.mp h e m;subst q;exact cY C this
theorem g7(h:dP e=Y):∀x p,e≠.Starred x p:=by
 intro x p q;subst q;exact cY C h
end
noncomputable abbrev vX:I (af×aB):=[("len",.builtin "len"),("range",.type "range"),("ord",.builtin "ord"),("chr",.builtin "chr"),("sum",.builtin "sum"),("max",.builtin "max"),("sorted",.builtin "sorted"),
 ("zip",.type "zip"),("bytes",.type "bytes"),("isinstance",.builtin "isinstance"),("str",.type "str"),("object",.type "object"),("list",.type "list"),("tuple",.type "tuple"),("bool",.type "bool"),("set",.type "set"),("iter",.builtin "iter"),("StopIteration",.type "StopIteration"),("min",.builtin "min")]
structure Cx(O:Type)where
 B:bD O
 Z:cy
 w:bZ
 A:c3
 ρ:Mk
 V:c4
 mg:af->bg aB
 mb:af->bg aB
 n:J
 G:fe B mg mb
 R:dW A n
 bi:∀(i:J)(x:af)(v:aB),vX[i]?=D (x,v)->mg x=aa/\mb x=D v
structure EE(c:Cx O)(xs:I af)(k:J)(lv:I (AV O))(e:cE)(lv':I (AV O))(τ:T):Prop where
 ev:cP c.B c.Z c.w c.A c.ρ c.V xs k lv e lv' τ
structure EC(c:Cx O)(xs:I af)(k:J)(lv:I (AV O))(e:cE)(lv':I (AV O))(b:bw):Prop where
 ev:gn c.B c.Z c.w c.A c.ρ c.V xs k lv e lv' b
structure EF(c:Cx O)(xs:I af)(k:J)(lv:I (AV O))(e:cE)(lv':I (AV O))(ts:I T):Prop where
 ev:qH c.B c.Z c.w c.A c.ρ c.V xs k lv e lv' ts
structure ER(c:Cx O)(xs:I af)(k:J)(lv:I (AV O))(pos:h_)(es:I cE)(lv':I (AV O))(ts:I T):Prop where
 ev:kA c.B c.Z c.w c.A c.ρ c.V xs k lv pos es lv' ts
structure EI(tup:bw)(c:Cx O)(xs:I af)(k:J)(lv:I (AV O))(e:cE)(lv':I (AV O))(ts:I T):Prop where
 ev:qI tup c.B c.Z c.w c.A c.ρ c.V xs k lv e lv' ts
structure EZ(c:Cx O)(xs:I af)(k:J)(lv:I (AV O))(e:cE)(lv':I (AV O))(ts:I (I T)):Prop where
 ev:Au c.B c.Z c.w c.A c.ρ c.V xs k lv e lv' ts
structure EA(c:Cx O)(xs:I af)(k:J)(lv:I (AV O))(e:cE)(τ:T)(lv':I (AV O)):Prop where
 ev:pW c.B c.Z c.w c.A c.ρ c.V xs k lv e τ lv'
structure ES(c:Cx O)(xs:I af)(k:J)(lv:I (AV O))(st:cz)(lv':I (AV O))(fl:fP):Prop where
 ev:ic c.B c.Z c.w c.A c.ρ c.V xs k lv st lv' fl
structure EX(c:Cx O)(xs:I af)(k:J)(lv:I (AV O))(st:I cz)(lv':I (AV O))(fl:fP):Prop where
 ev:eX c.B c.Z c.w c.A c.ρ c.V xs k lv st lv' fl
abbrev EW(c:Cx q)(n:I af)(k:J)(h:cE)(t z:I cz)(u:J)(y x:I (AV q))(A:fP):Prop:=kD c.B c.Z c.w c.A c.ρ c.V n k h t z u y x A
abbrev jE(c:Cx q)(n:I af)(k:J)(h:cE)(t:I cz)(p:I T)(y x:I (AV q))(A:fP):Prop:=oH c.B c.Z c.w c.A c.ρ c.V n k h t p y x A
abbrev Aq(c:Cx q)(n:I af)(k:J)(h:cE)(e:I cE)(o:cE)(p:I T)(y:I (AV q))(S:I T)(x:I (AV q)):Prop:=x_ c.B c.Z c.w c.A c.ρ c.V n k h e o p y S x
structure EO(c:Cx O)(xs:I af)(k:J)(lv:I (AV O))(e:bg cE)(lv':I (AV O))(i:bg aS):Prop where
 ev:yb c.B c.Z c.w c.A c.ρ c.V xs k lv e lv' i
abbrev CN(c:Cx q)(L:af)(h:I T)(r:T):Prop:=Aj c.B c.Z c.w c.mg c.n L h r
structure Fm(V:c4)(xs:I af)(k:J)(ns:I (af×fc)):Prop where
 loc:∀{i:J}{x:af},xs[i]?=D x->i<k->V.kindOf x=D .local\/V.kindOf x=D .cell
 eY:∀{i:J}{x:af},xs[i]?=D x->(x==("__debug__":af))=ay
 kn:∀(i:J){x:af}{kd:fc},ns[i]?=D (x,kd)->kd≠.free->V.kindOf x=D kd
 kf:∀(i:J){x:af},ns[i]?=D (x,.free)->V.kindOf x=D .free\/V.kindOf x=D .cell
 kg:∀(i:J){x:af}{kd:fc},ns[i]?=D (x,kd)->(x==("__debug__":af))=ay
abbrev SM(G:I (af×fc))(n:I af)(k:J):Prop:=(∀x∈n.take k,G.lookup x=D .local\/G.lookup x=D .cell)/\(∀x∈n,(x==("__debug__":af))=ay)/\∀p∈G,G.lookup p.1=D p.2/\(p.1==("__debug__":af))=ay
noncomputable def qg(G:I (af×fc))(n:I af)(k:J):bw:=aO (SM G n k)
theorem MQ{n:I af}(j:n[i]?=D x)(A:i<k):x∈n.take k:=cN (ae (List.getElem?_take.trans (aM A)) j)
theorem jM(e:qg G n k=Y)(m:h.scope.names=G):Fm h n k G:=m▸gv (dh (m.symm▸e)) λw v R=>
 ⟨λ{_ x}j A=>w x (MQ j A),λ{_ x}j=>v x (cN j),λ_{_ _}j _=>(R _ (cN j)).1,λ_{_}j=>.inl (R _ (cN j)).1,λ_{_ _}j=>(R _ (cN j)).2⟩
theorem qP(h:qg r.names n k=Y):Fm (i6 r d G) n k r.names:=gv (dh h) λw v R=>
 ⟨λ{_ x}j A=>(w x (MQ j A)).imp (za (nofun)) (za (nofun)),λ{_ x}j=>v x (cN j),λ_{_ _}j B=>za B (R _ (cN j)).1,λ_{_}j=>OK (R _ (cN j)).1,λ_{_ _}j=>(R _ (cN j)).2⟩
abbrev S0(r:je)(n:I af):Prop:=r.kind=.function/\r.isCoroutine=ay/\r.isGenerator=ay/\(∀x∈n,r.names.lookup x=D .local\/r.names.lookup x=D .cell)/\n.Nodup
noncomputable def ze(r:je)(n:I af):bw:=aO (S0 r n)
theorem l9(h:ze r n=Y):oN r n:=t_ (dh h) oN.mk
abbrev SI(r:je)(os b:I af):Prop:=r.kind=.function/\(∀x∈os,r.names.lookup x=D .local\/r.names.lookup x=D .cell)/\(∀H∈b,r.names.lookup H=D .free/\(∀p∈r.names,p.1=H->p.2=.free)/\(H==("__classdict__":af))=ay)/\
 (∀p∈r.names,p.2=.free->p.1∈b)/\(os++b).Nodup/\∀x∈r.names,x.2=.local->r.names.lookup x.1=D .local
noncomputable def t8(r:je)(os b:I af):bw:=aO (SI r os b)
theorem A1{os b:I af}(h:t8 r os b=Y):nJ r os b:=ua (dh h) nJ.mk
abbrev SE(G:I (af×fc))(n b:I af)(a:I J):Prop:=a.map (n[·]?)=b.map D/\∀H∈b,(G.lookup H).isSome=Y/\G.lookup H≠D .local
noncomputable def t5(G:I (af×fc))(n b:I af)(a:I J):bw:=aO (SE G n b a)
theorem AR(F:Fm h n j G)(l:t5 G n b k=Y):jf h n b k:=bT (dh l) λw v=>
 ⟨(dg _).symm.trans (ae (aA U w) (dg _)),λt _ _ O L=>bj ((aA (qF (n[·]?)) O).symm.trans (ae jr.symm (ae (aA (·[t]?) w) (ae jr (aA (qF D) L))))),
  λH L q=>bT (v H L) λa x=>bG (gG.mp a) λs e=>bG (pO (PySem.mem_of_lookup e)) λi A=>by
   by_cases g:s=.free
   .exact(F.kf i (g▸A)).elim (λf=>nc nG (bj (ae f.symm q)) C) λf=>nc nG (bj (ae f.symm q)) C
   .exact x (ae e ((F.kn i A g).symm.trans q))⟩
section
variable{c:Cx O}{xs os:I af}{k:J}{ns:I (af×fc)}{lv aY:I (AV O)}{ts l:I T}{st:cz}
def uJ(e:cE):bw:=!tE (xV e).2.2 3
def uK(e:cE):bw:=!tE (xV e).2.2 2
def Hi(G:bw)(e:cE):bw:=tE (xV e).2.2 4||(tE (xV e).2.2 5&&G)
theorem zv(F:Fm c.V xs k ns)(i:J)(j:xs[i]?=D x)(X:lv[i]?=D (.t z)):EE c xs k lv (.Name x p) lv z:=⟨Wa j X (F.eY j)⟩
theorem zG(F:Fm c.V xs k ns)(i:J)(j:xs[i]?=D x)(X:lv[i]?=D (.own l)):EE c xs k lv (.Name x p) (lv.set i (.t (.list l))) (.list l):=⟨Wb j X (F.eY j)⟩
theorem zi(a:aS):EE c xs k lv (.Constant (.int a) v p) lv (.int a):=⟨yo C⟩
theorem zs(s:I J)(h:t=⟨s.toArray⟩):EE c xs k lv (.Constant (.str t) kk p) lv (.str s):=⟨yo (aA Const.str h)⟩
theorem zb(a:bw):EE c xs k lv (.Constant (.bool a) v p) lv (.bool a):=⟨yo C⟩
theorem zn:EE c xs k lv (.Constant .none v p) lv .none:=⟨yo C⟩
theorem fh(w:EE c xs k lv e aY y)(v:EE c xs k aY x X m)(h:kE n y m=D z):EE c xs k lv (.BinOp e n x p) X z:=⟨V0 c.R w.1 v.1 h⟩
theorem xe(w:EE c xs k lv e aY y)(v:EE c xs k aY x X m)(h:gb op y m=D b)(R:behindInMarks op x=ay):EE c xs k lv (.Compare e [op] [x] p) X (.bool b):=⟨V4 c.R w.1 v.1 h R⟩
theorem nA(w:EC c xs k lv e aY b)(v:EE c xs k aY (if b then x else m) X z):EE c xs k lv (.IfExp e x m p) X z:=⟨V_ w.1 v.1⟩
theorem vd(w:EE c xs k lv e aY (.int i)):EE c xs k lv (.UnaryOp .USub e p) aY (.int (-i)):=⟨Wc w.1⟩
theorem cU:ER c xs k lv u [] lv []:=⟨lU⟩
theorem zr(w:EE c xs k lv e aY z)(v:ER c xs k aY u Q X p)(B:dP e=Y):ER c xs k lv u (e::Q) X (z::p):=⟨qO w.1 v.1 (g7 B)⟩
theorem oi(h:ER c xs k lv u Q aY p)(B:eg (U p)=Y):EE c xs k lv (.List Q u) aY (.list p):=⟨V' h.1 B⟩
theorem HP(h:ER c xs k lv u Q aY p)(B:eg (U p)=Y):EE c xs k lv (.Tuple Q v u) aY (.tup p):=⟨Bc h.1 B⟩
theorem dU(w:EE c xs k lv e aY y)(v:EE c xs k aY x X m)(h:qi y m=D z)(B:uK x=Y):EE c xs k lv (.Subscript e x p) X z:=⟨V8 w.1 v.1 h λa b d p q=>by subst q;contradiction⟩
theorem kN{lo A:bg cE}(w:EE c xs k lv e aY y)(v:EO c xs k aY lo X H)(R:EO c xs k X A m4 a)(h:CD y H a=D z):EE c xs k lv (.Subscript e (.Slice lo A aa S) p) m4 z:=⟨Wg w.1 v.1 R.1 h⟩
theorem rC:EO c xs k lv aa lv aa:=⟨VA⟩
theorem iJ(h:EE c xs k lv e aY (.int i)):EO c xs k lv (D e) aY (D i):=⟨VB h.1⟩
theorem zf(h:EF c xs k lv e aY ts):EE c xs k lv e aY (.list ts):=⟨h.1.ev⟩
theorem rz(h:ER c xs k lv u Q aY ts)(B:eg (U ts)=Y):EF c xs k lv (.List Q u) aY ts:=⟨KG h.1 B⟩
theorem zC(w:EE c xs k lv e aY y)(v:EE c xs k aY x X m)(h:gb n y m=D b)(R:behindInMarks n x=ay):EC c xs k lv (.Compare e [n] [x] p) X b:=⟨Vb c.R w.1 v.1 h R⟩
theorem C1(w:EC c xs k lv e aY b):EC c xs k lv (.UnaryOp .Not e p) aY (!b):=⟨Vd w.1⟩
theorem lD(w:EE c xs k lv e aY ta)(h:sU ta=D b)(m:∀x,isTrue e c.V x=do let v<-x;standAt e.pos;holding [v] (truthy v)):EC c xs k lv e aY b:=⟨Vf c.R w.1 h m⟩
theorem sY:EC c xs k lv (.BoolOp .And [] p) lv Y:=⟨Va⟩
theorem zD:EC c xs k lv (.BoolOp .Or [] p) lv ay:=⟨Ve⟩
theorem aeg(h:EC c xs k lv e aY ay):EC c xs k lv (.BoolOp .And (e::r) p) aY ay:=⟨Ez h.1 ⟨C,C⟩⟩
theorem kL(h:EC c xs k lv e lv A)(v:A=Y->EC c xs k lv (.BoolOp .And r p) lv a):EC c xs k lv (.BoolOp .And (e::r) p) lv (A&&a):=by
 cases A with
 |true=>exact⟨Ez h.1 (v C).1⟩
 |false=>exact⟨Ez h.1 (And.intro C C)⟩
theorem nu(h:EC c xs k lv e lv b₁)(v:b₁=ay->EC c xs k lv (.BoolOp .Or r p) lv a):EC c xs k lv (.BoolOp .Or (e::r) p) lv (b₁||a):=by
 cases b₁ with
 |true=>exact⟨KD h.1 (And.intro C C)⟩
 |false=>exact⟨KD h.1 (v C).1⟩
theorem fY:EX c xs k lv [] lv .next:=⟨i7⟩
theorem zx(w:ES c xs k lv u aY .next)(v:EX c xs k aY z X A):EX c xs k lv (u::z) X A:=⟨Wi w.1 v.1⟩
theorem hU(w:ES c xs k lv u aY (.ret r)):EX c xs k lv (u::z) aY (.ret r):=⟨ue w.1 nofun⟩
theorem vg(w:ES c xs k lv u aY .brk):EX c xs k lv (u::z) aY .brk:=⟨ue w.1 nofun⟩
theorem QV(w:ES c xs k lv u aY .cont):EX c xs k lv (u::z) aY .cont:=⟨ue w.1 nofun⟩
theorem eM(F:Fm c.V xs k ns)(i:J)(j:xs[i]?=D x)(l:i<k)(h:EE c xs k lv e aY z)(B:gY e (D (.Name x a)) p.line c.V=pure ay):ES c xs k lv (.Assign [.Name x a] e p) (aY.set i (.t z)) .next:=⟨KO j l (F.loc j l) h.1 B⟩
theorem ve(F:Fm c.V xs k ns)(i:J)(j:xs[i]?=D x)(l:i<k)(h:EF c xs k lv e aY ts)(B:gY e (D (.Name x a)) p.line c.V=pure ay):ES c xs k lv (.Assign [.Name x a] e p) (aY.set i (.own ts)) .next:=⟨VW j l (F.loc j l) h.1 B⟩
theorem dQ(w:EC c xs k lv e aY b)(v:EX c xs k aY (if b then t else z) dc fl):ES c xs k lv (.If e t z p) dc fl:=⟨VU w.1 v.1⟩
theorem jc(h:EE c xs k lv e aY z):ES c xs k lv (.Return (D e) p) aY (.ret z):=⟨VX h.1⟩
theorem xd(h:EC c xs k lv e aY Y):ES c xs k lv (.Assert e i p) aY .next:=⟨VN h.1⟩
theorem HD:ES c xs k lv (.Break p) lv .brk:=⟨VR⟩
theorem aen:ES c xs k lv (.Continue p) lv .cont:=⟨VS⟩
theorem lE(h:EW c xs k e t z u lv X A):ES c xs k lv (.While e t z p) X A:=⟨VY h⟩
theorem iA(F:Fm c.V xs k ns)(i:J)(j:xs[i]?=D x)(l:i<k):EA c xs k lv (.Name x p) z (lv.set i (.t z)):=⟨U' j l (F.loc j l)⟩
theorem Cc(h:uJ e=Y):∀v,foldedSetIterable e G v=pure v:=λv=>by cases e<;>first|rfl|exact cY C h
theorem PS(e:Hi G h=Y):(∃x p,h=.Name x p)\/G=Y/\∃Q F p,h=.Tuple Q F p:=by cases h<;>first|exact .inl ⟨_,_,C⟩|exact .inr ⟨e,_,_,_,C⟩|exact cY C e
theorem kM(e:EI G c xs k lv iter aY ts)(i:jE c xs k h t ts aY X A)(B:uJ iter=Y)(l:Hi G h=Y):ES c xs k lv (.For h iter t [] p) X A:=⟨VT e.1 i (Cc B) (PS l)⟩
theorem sZ(F:Fm c.V xs k ns)(i:J)(j:xs[i]?=D x)(l:i<k)(X:lv[i]?=D (.t y))(h:EE c xs k lv e aY m)(a:p9 n y m=D z):ES c xs k lv (.AugAssign (.Name x b) n e p) (aY.set i (.t z)) .next:=⟨VO j l (F.loc j l) X h.1 a⟩
theorem aeh(F:Fm c.V xs k ns)(i:J)(j:xs[i]?=D x)(h:i<k)(X:lv[i]?=D (.own l))(e:EE c xs k lv a aY (.list ts))(d:aY[i]?=D (.own H))(b:eg (U H)=Y)(A:eg (U ts)=Y):ES c xs k lv (.AugAssign (.Name x s) .Add a p) (aY.set i (.own (H++ts))) .next:=⟨VP j h (F.loc j h) X e.1 d b A⟩
theorem u9(F:Fm c.V xs k ns)(i:J)(j:xs[i]?=D x)(X:lv[i]?=D (.own l))(h:EE c xs k lv e aY z)(d:aY[i]?=D (.own H))(L:dP e=Y)(E:(A.endLine==u.line)=Y)(m:eg (U H)=Y):
  ES c xs k lv (.Expr (.Call (.Attribute (.Name x a) "append" A) [e] [] u) w) (aY.set i (.own (H++[z]))) .next:=⟨VM j X (F.eY j) h.1 d (g7 L) E C m C⟩
theorem nv(F:Fm c.V xs k ns)(t:J)(O:ns[t]?=D (x,.globalImplicit))(h:ER c xs k lv u Q aY p)(l:CN c x p z)(L:Q.all dP=Y):EE c xs k lv (.Call (.Name x e) Q [] u) aY z:=⟨V6 c.G c.R (F.kn t O nofun) (F.kg t O) (l6 L) h.1 l⟩
theorem ry(F:Fm c.V xs k ns)(t i:J){id:String}(O:ns[t]?=D (x,.globalImplicit))(f:vX[i]?=D (x,.builtin id))(e:ER c xs k lv u Q aY p)(L:Q.all dP=Y)(h:∀g z,bu c.ρ g z p->PO c.B (aI c.Z c.w) c.A c.ρ (call (.builtin id) z) g a):
  EE c xs k lv (.Call (.Name x b) Q [] u) aY a:=⟨KT c.G (F.kn t O nofun) (c.bi i _ _ f).1 (c.bi i _ _ f).2 (F.kg t O) (l6 L) e.1 h⟩
theorem rA(F:Fm c.V xs k ns)(t:J)(O:ns[t]?=D (("len":af),.globalImplicit))(h:EE c xs k lv e aY (.str s))(B:eg (U s)=Y)(L:dP e=Y):EE c xs k lv (.Call (.Name "len" p) [e] [] u) aY (.int (U s)):=
 ry F t 0 O C (zr h cU L) (by simp [L]) λg z d=>by refine ai d.ja λv j q=>?_;subst j;exact aba q B
theorem aeE(F:Fm c.V xs k ns)(t:J)(O:ns[t]?=D (("len":af),.globalImplicit))(h:EE c xs k lv e aY (.list l))(B:eg (U l)=Y)(L:dP e=Y):EE c xs k lv (.Call (.Name "len" p) [e] [] u) aY (.int (U l)):=
 ry F t 0 O C (zr h cU L) (by simp [L]) λg z d=>by refine ai d.ja λv j q=>?_;subst j;exact Ou q B
theorem QJ(F:Fm c.V xs k ns)(t:J)(O:ns[t]?=D (("ord":af),.globalImplicit))(h:EE c xs k lv e aY (.str [s]))(L:dP e=Y):EE c xs k lv (.Call (.Name "ord" p) [e] [] u) aY (.int s):=
 ry F t 2 O C (zr h cU L) (by simp [L]) λg z d=>by refine ai d.ja λv j q=>?_;subst j;exact abd q
theorem xm(F:Fm c.V xs k ns)(t:J)(O:ns[t]?=D (("sum":af),.globalImplicit))(h:EE c xs k lv e aY (.list l))(A:kG l=D i)(L:dP e=Y):EE c xs k lv (.Call (.Name "sum" p) [e] [] u) aY (.int i.sum):=
 ry F t 4 O C (zr h cU L) (by simp [L]) λg z d=>by refine ai d.ja λv j q=>?_;subst j;exact abh c.R.handled q A
theorem s_(F:Fm c.V xs k ns)(t:J)(O:ns[t]?=D (("range":af),.globalImplicit))(h:ER c xs k lv u Q aY p)(e:GK p=D r)(T:sQ r=Y)(L:Q.all dP=Y):EI ay c xs k lv (.Call (.Name "range" a) Q [] u) aY (q_ r):=⟨Vl c.G c.R.handled (F.kn t O nofun) (c.bi 1 _ _ C).1 (c.bi 1 _ _ C).2 (l6 L) h.1 e T⟩
theorem jb(h:EE c xs k lv e aY (.list ts)):EI Y c xs k lv e aY ts:=⟨Vk c.R.handled h.1⟩
theorem HL(h:EE c xs k lv e aY (.tup ts)):EI ay c xs k lv e aY ts:=⟨Vn c.R.handled h.1⟩
theorem xh(h:EE c xs k lv e aY (.str s)):EI ay c xs k lv e aY (s.map λa=>.str [a]):=⟨Vm c.R.handled h.1⟩
abbrev Cx.ff(c:Cx O)(r:je)(d:au):Cx O:={c with V:=i6 r d c.V}
noncomputable def BW:bg (AV O)->bw|D (.own _)=>ay|_=>Y
def noOwn(lv:I (AV O))(a:I J):bw:=a.all λi=>BW lv[i]?
theorem eP{lv:I (AV O)}(e:lv[i]?=D (.t a))(s:noOwn lv h=Y):noOwn lv (i::h)=Y:=cR.mpr ⟨aA BW e,s⟩
theorem B6(h:noOwn lv a=Y):∀i∈a,∀l,lv[i]?≠D (.own l):=λi A l e=>cY C ((aA BW e).symm.trans (gK.mp h i A))
theorem HE(os b:I af)(a:I J)(F:Fm c.V xs k ns)(r:t8 v os b=Y)(e:t5 ns xs b a=Y)(A:qg v.names (os++b) (U os)=Y)(i:EI G c xs k lv iter aY ts)
  (u:noOwn aY a=Y)
  (f:∀d,Fm (c.ff v d).V (os++b) (U os) v.names->Aq (c.ff v d) (os++b) (U os) h x o ts (nS os a aY) S H)
  (B:uJ iter=Y)(l:Hi G h=Y)(m:eg (U ts)=Y)(T:m9 os a aY H=E):
  EF c xs k lv (.ListComp o [⟨h,iter,x,0⟩] v w) E S:=⟨Vi (A1 r) (AR F e) i.1 (B6 u) (λd=>f d (qP A)) (Cc B) (PS l) m T⟩
noncomputable def qk(v:AV O):I T->AV O
 |[]=>v
 |t::ts=>qk (.t t) ts
theorem Qx{R:Type}(F:Fm c.V (x::xs) (k+1) ns)(f L:R->T):∀(j:I R)(v:AV O),(∀y∈j,EE c (x::xs) (k+1) (.t (f y)::a) o (.t (f y)::a) (L y))->
  Aq c (x::xs) (k+1) (.Name x p) [] o (j.map f) (v::a) (j.map L) (qk v (j.map f)::a):=λe=>e.rec
 (λv E=>.nil)
 (λt j n v h=>.go (iA F 0 C (gE k)).1 KS (h t gC).1 (n _ λy i=>h y (fF _ i)))
theorem Qy{R:Type}(F:Fm c.V (x::xs) (k+1) ns)(f b:R->T)(q:R->bw):∀(j:I R)(v:AV O),(∀y∈j,EC c (x::xs) (k+1) (.t (f y)::a) s (.t (f y)::a) (q y))->
  (∀y∈j,q y=Y->EE c (x::xs) (k+1) (.t (f y)::a) o (.t (f y)::a) (b y))->
  Aq c (x::xs) (k+1) (.Name x p) [s] o (j.map f) (v::a) ((j.filter q).map b) (qk v (j.map f)::a):=λl=>l.rec
 (λv E E=>.nil)
 (λt j n v w e=>by
  have r:=n (.t (f t)) (λy i=>w y (fF _ i)) λy i=>e y (fF _ i);have h:=w t gC;cases L:q t with
  |true=>
   rw [L]at h;exact(zR L).symm▸.go (iA F 0 C (gE k)).1 (Bb h.1) (e t gC L).1 r
  |false=>
   rw [L]at h;rw [zQ (by simp [L])]
   exact .skip (iA F 0 C (gE k)).1 (Bb h.1) r)
theorem yW(t:pre.length=U os):m9 os a lv (pre++a.map λi=>(lv[i]?).getD .un)=lv:=by
 delta m9
 apply Rr;intro i;apply ae (Ry);cases h:lv[i]? with
 |none=>rfl
 |some E=>
  simp only [Dw]
  split
  .rename_i A;rw [kR (by exact cT 0 (.v 0) (.a (.v 1) (.v 2)) (.v 0) (.v 1) C [_,_,_] (iU t)),t,xO,jr,yt A];simp [h]
  .rfl
theorem jT{R:Type}{us:I R}{g:R->T}(x:af)(b:I af)(a:I J)(L:R->T)(F:Fm c.V xs k ns)(r:t8 v [x] b=Y)(e:t5 ns xs b a=Y)(A:qg v.names (x::b) 1=Y)(h:EI G c xs k lv iter aY (us.map g))(u:noOwn aY a=Y)
  (S:∀d,Fm (c.ff v d).V (x::b) 1 v.names->∀y∈us,EE (c.ff v d) (x::b) 1 (.t (g y)::a.map λi=>aY[i]?.getD .un) s (.t (g y)::a.map λi=>aY[i]?.getD .un) (L y))
  (B:uJ iter=Y)(m:U us<=1000000):EF c xs k lv (.ListComp s [⟨.Name x p,iter,[],0⟩] v w) aY (us.map L):=
 HE [x] b a F r e A h u (λd o=>Qx o g L us .un (S d o)) B C (cM (by rw [dg];exact m)) (yW (pre:=[qk .un _]) C)
theorem ny{R:Type}{us:I R}{g:R->T}(x:af)(b:I af)(a:I J)(L:R->T)(q:R->bw)(F:Fm c.V xs k ns)(r:t8 v [x] b=Y)(h:t5 ns xs b a=Y)(A:qg v.names (x::b) 1=Y)(e:EI G c xs k lv iter aY (us.map g))(u:noOwn aY a=Y)
  (l:∀d,Fm (c.ff v d).V (x::b) 1 v.names->∀y∈us,EC (c.ff v d) (x::b) 1 (.t (g y)::a.map λi=>aY[i]?.getD .un) s (.t (g y)::a.map λi=>aY[i]?.getD .un) (q y))
  (S:∀d,Fm (c.ff v d).V (x::b) 1 v.names->∀y∈us,q y=Y->EE (c.ff v d) (x::b) 1 (.t (g y)::a.map λi=>aY[i]?.getD .un) n (.t (g y)::a.map λi=>aY[i]?.getD .un) (L y))
  (B:uJ iter=Y)(m:U us<=1000000):EF c xs k lv (.ListComp n [⟨.Name x p,iter,[s],0⟩] v w) aY ((us.filter q).map L):=
 HE [x] b a F r h A e u (λd o=>Qy o g L q us .un (l d o) (S d o)) B C (cM (by rw [dg];exact m)) (yW (pre:=[qk .un _]) C)
end
theorem xj{id:String}(H:Slot "str" R id)(e:typeOf (.builtin id)=pure (.type "method_descriptor"))(T:EE c n k y o P (.str s))(h:ER c n k P u Q X p)
  (f:attributeBase o R c.V (eval o c.V)=eval o c.V)(L:Q.all dP=Y)(j:U Q<30)(E:(A.endLine==u.line)=Y)
  (t:∀g v z,Den c.ρ g v (.str s)->bu c.ρ g z p->PO c.B (aI c.Z c.w) c.A c.ρ (call (.builtin id) (v::z)) g a):EE c n k y (.Call (.Attribute o R A) Q [] u) X a:=
 ⟨KV f (l6 L) j E Dx H e T.1 h.1 (λg v s r d=>by cases d;exact⟨C,λi q=>nc z7 q C⟩) t⟩
theorem Me:∀(l:I _),Str.join ⟨([]).toArray⟩ (l.map λl=>(⟨l.toArray⟩))=⟨l.flatten.toArray⟩
 |[]=>C
 |[x]=>by simp [Str.join]
 |x::H::r=>by
  have n:=Me (H::r);show(⟨x.toArray++#[]++_⟩:af)=_;rw [n];simp
theorem join_nil(l:I _):z9 ⟨([]).toArray⟩ (l.map λl=>(⟨l.toArray⟩))=⟨l.flatten.toArray⟩:=by
 show Builtin.Str.glued _ _=_;rw [PySem.StrLaws.glued_eq_join];exact Me l
theorem strs_map:∀(l:I _),CL (l.map .str)=D l:=λT=>T.rec
 (C)
 (λx r n=>(aA _ n))
theorem C5{u7:I _}(T:EE c n k y o P (.str []))(h:EE c n k P e X (.list (u7.map .str)))(f:attributeBase o "join" c.V (eval o c.V)=eval o c.V)(L:dP e=Y)(E:(A.endLine==u.line)=Y)
  (m:U u7.flatten<=16777216):EE c n k y (.Call (.Attribute o "join" A) [e] [] u) X (.str u7.flatten):=
 xj R6 R_ T (zr h cU L) f (by simp [L]) (dN _ _) E λg v z d b=>by
  refine ai b.ja λw j q=>?_;subst j;refine Ot d q (strs_map u7) ?_ (join_nil u7);rw [List.length_flatten]at m;exact m
theorem cS(l:I Char):Str.ofString (String.ofList l)=⟨(l.map Char.toNat).toArray⟩:=PySem.W.Fast.ofString_ofList l
theorem eU(h:u<=1000000):eg u=Y:=cM h
theorem pC(h:U a+U b<=1000000):kE .Add (.str a) (.str b)=D (.str (a++b)):=by
 exact(aM (eU h))
theorem GP(h:U a+U b<=1000000):kE .Add (.list a) (.list b)=D (.list (a++b)):=by
 exact(aM (eU h))
theorem acj(h:ig a=Y)(O:ig b=Y):kE .Mult (.int a) (.int b)=D (.int (a*b)):=by
 show(if(ig a&&ig b)=Y then D _ else aa)=_;rw [h,O];rfl
theorem acg(h:ig a=Y)(O:b≠0):kE .FloorDiv (.int a) (.int b)=D (.int (a.fdiv b)):=by
 have:(b !=0)=Y:=by simpa using O
 show(if(b !=0&&ig a)=Y then _ else aa)=_;rw [h,this];rfl
theorem aci(h:ig a=Y)(O:b≠0):kE .Mod (.int a) (.int b)=D (.int (a.fmod b)):=by
 have:(b !=0)=Y:=by simpa using O
 show(if(b !=0&&ig a)=Y then _ else aa)=_;rw [h,this];rfl
theorem OT(h:ig a=Y)(O:0<=b)(m:b<=1000):kE .Pow (.int a) (.int b)=D (.int (a^b.toNat)):=by
 show(if(aO _&&ig a&&aO _)=Y then _ else aa)=_;simp only [h,cM O,cM m];rfl
theorem TJ(h:a.natAbs<2^64):ig a=Y:=cM (qE h (by decide+kernel))
theorem OR(h:U a+U b<=1000000):p9 .Add (.str a) (.str b)=D (.str (a++b)):=by
 exact(aM (eU h))
theorem OY{i u:J}(h:i<u):seqIndex? (i) u=D i:=by
 exact aM (cR.mpr ⟨cM (qA i),cM (jV.mpr h)⟩)
theorem LM{i:J}(h:i<2^60):jN (i)=Y:=by
 delta jN;simp;omega
theorem jk{i:J}(A:i<2^60)(h:s[i]?=D a):qi (.str s) (.int i)=D (.str [a]):=by
 show(if jN (i)then((seqIndex? (i) (U s)).bind (s[·]?)).map λc=>T.str [c]else aa)=_;apply ae (aM (LM A));rw [OY ((cG.mp h).1)];simp [h]
theorem fR{i:J}(A:i<2^60)(h:s[i]?=D a):qi (.list s) (.int i)=D a:=by
 show(if jN (i)then(seqIndex? (i) (U s)).bind (s[·]?)else aa)=_;apply ae (aM (LM A));rw [OY ((cG.mp h).1)];assumption
theorem l8(h:aO (a<b)=d):gb .Lt (.int a) (.int b)=D d:=aA D h
theorem Cy(h:(a==b)=d):gb .Eq (.str a) (.str b)=D d:=aA D h
theorem zg(h:(!(a==b))=d):gb .NotEq (.str a) (.str b)=D d:=aA D h
theorem GQ(h:aO (a∈b)=d):gb .In (.str [a]) (.str b)=D d:=aA D h
theorem aco{d:bw}(B:U a<=1000000)(h:(!a.isEmpty)=d):sU (.str a)=D d:=by
 refine ae (aM (eU B)) ?_;rw [h]
theorem Cz{d:bw}(B:U a<=1000000)(h:(!a.isEmpty)=d):sU (.list a)=D d:=by
 refine ae (aM (eU B)) ?_;rw [h]
structure Ly(O:Type)where
 B:bD O
 Z:cy
 w:bZ
 mg:af->bg aB
 mb:af->bg aB
 G:fe B mg mb
 bi:∀(i:J)(x:af)(v:aB),vX[i]?=D (x,v)->mg x=aa/\mb x=D v
noncomputable abbrev Ly.c(H:Ly q)(L:c3)(F:Mk)(G:c4)(u:J)(i:dW L u):Cx q:=⟨H.B,H.Z,H.w,L,F,G,H.mg,H.mb,u,H.G,i,H.bi⟩
abbrev Ly.aZ(H:Ly q)(L:af)(i:J):Prop:=pV H.B H.mg L i
abbrev Ly.F(H:Ly q)(u:J)(L:af)(h:I T)(r:T):Prop:=Aj H.B H.Z H.w H.mg u L h r
theorem Ly.fn(H:Ly q)(i:J)(n:I af)(G:I _)(aZ:H.aZ e i)(x:(ef (bB i)).names=G)(Q:ze (ef (bB i)) n=Y)(g:qg G n (U n)=Y)
  (j:p.length<=U n)(d:∀y code r(z:I aB),U z=p.length->bindArgs (docDef e (gw (bB i)) (dF (bB i)) (ef (bB i)) y code r) ⟨z,[]⟩=pure (e0 n z))
  (B:∀L F a(h:dW L u),Fm a n (U n) G->∃l,EX (H.c L F a u h) n (U n) (q4 n p) (dF (bB i)) l (.ret b)):H.F (u+1) e p b:=
 TZ H.G aZ (l9 Q) j d λL F y code r k t h=>(B L F _ h (jM g x)).imp λE s=>s.1
section
variable{y:Ly O}
theorem Y8{R:Type}{z:I R}{P:I R->Prop}(h:U z=0)(k:P []):P z:=(xG h).symm▸k
theorem BJ{R:Type}{z:I R}{P:I R->Prop}(h:U z=u+1)(k:∀a r,U r=u->P (a::r)):P z:=match z,h with
 |a::r,h=>k a r (Dt h)
section
variable{α:Type}{P:I α->Prop}
theorem F7(h:∀a,P [a])(l:I α)(X:U l=1):P l:=BJ X λa E w=>Y8 (P:=λr=>P _) w (h a)
theorem BH(h:∀a b,P [a,b])(l:I α)(X:U l=2):P l:=BJ X λa r w=>F7 (P:=λr=>P _) (h a) r w
theorem F8(h:∀a b c,P [a,b,c])(l:I α)(X:U l=3):P l:=BJ X λa r w=>BH (P:=λr=>P _) (h a) r w
theorem BI(h:∀a b c d,P [a,b,c,d])(l:I α)(X:U l=4):P l:=BJ X λa r w=>F8 (P:=λr=>P _) (h a) r w
end
theorem MM{P:J->Prop}(n:P 0)(w:P 1)(v:P 2):∀i,i<3->P i:=λi=>i.rec (λE=>n) λi E=>i.rec (λE=>w) λi E=>i.rec (λE=>v) λi E h=>bA h (RT (dN 3 i))
abbrev vH(S:rR)(n:I af)(z:I aB):Prop:=bindArgs S ⟨z,[]⟩=pure (e0 n z)
theorem bind1(h:∀a,vH S n [a]):∀z,U z=1->vH S n z:=F7 h
theorem yi(h:∀a b,vH S n [a,b]):∀z,U z=2->vH S n z:=BH h
theorem TM(h:∀a b d,vH S n [a,b,d]):∀z,U z=3->vH S n z:=F8 h
noncomputable def pq(a:J):I J:=if a∈[42,63,91]then [91,a,93]else [a]
theorem GD(a:J):U (pq a)<=3:=by delta pq;split<;>simp
end
theorem Eg{l:I J}:Sd ⟨l.toArray⟩ ⟨[o].toArray⟩ (U l) i<->l[i]?=D o:=by
 delta Sd Builtin.Str.subAt
 have e:(⟨[o].toArray⟩:af).length=1:=C;refine e▸?_;have b:(l.toArray.extract i (i+1)).toList=(l.drop i).take 1:=by simp
 have x:((l.toArray.extract i (i+1))==[o].toArray)=Y<->(l.drop i).take 1=[o]:=by
  rw [DF,<-Array.toList_inj,b]
 simp only [x];cases P:l.drop i with
 |nil=>
  have:=List.drop_eq_nil_iff.mp P;exact⟨λh=>bA h.2 (by simp),λh=>bA (cG.mp h).1 (λr=>q5 (d_ 0 (.n 1) (.n 0) (.v 0) (.v 1) (.a (.v 1) (.n 1)) (.v 0) C [_,_] this r))⟩
 |cons a s=>
  have A:l[i]?=D a:=by apply ae (List.head?_drop).symm;rw [P];rfl
  have X:=(cG.mp A).1;simp only [A];simp;omega
section
variable{st:cz}
theorem L_{R:Type}{p:Prop} [Decidable p]{x H:R}(h:H=x):(if p then x else H)=x:=h▸ite_self H
theorem Pp(h:swappedStores.match_5 _ e (λE A=>Y) (λE=>ay)=Y):dP e=ay:=aA _ h
theorem PI{a b:cE}(B:G.blockKind=.function)(j:G.kindOf x=D .local)(L:G.kindOf H=D .local)(X:c.line=r.line)(s:(H==x)=ay)
  (g:[a,b].all (foldedForSure 8)=ay)(l:[a,b].all (constantsAlone 8)=ay)(w:dP a=Y)(v:dP b=Y):swappedStores [.Tuple [.Name x c,.Name H r] E k] (.Tuple [a,b] k₂ n) G=pure (D [x,H]):=by
 refine ae (aJ (λq=>?_)) (ae (aJ λq=>?_) ?_)
 .rw [B]at q;exact cY C q
 .refine ai (mz.mp q) λe m q=>?_;have:dP e=Y:=by rcases cD.mp m with rfl|m;exact w;exact cO.mp m▸v
  exact cY (Pp q) this
 have z:=ae (Ir (l:=[zN H r]) (a:=zN x c) (f:=λe=>match e with|.Name id i=>if G.kindOf id==D .local&&i.line==c.line then D id else aa|_=>aa) (aM (cR.mpr ⟨beq_iff_eq.mpr j,beq_self_eq_true _⟩))) (aA _ (Ir (aM (cR.mpr ⟨beq_iff_eq.mpr L,beq_iff_eq.mpr X.symm⟩))));have m:[x,H].eraseDups=[x,H]:=by
  apply ae (List.eraseDups_cons);show x::((match !(H==x)with|Y=>[H]|ay=>[]).eraseDups)=_;exact s▸C
 exact(aJ λq=>(cY (aA (λh:I af=>h.length !=2) m) ((aA (λp:I af=>(U p !=2||U p.eraseDups !=U p)) z).symm.trans q))).trans (ae (aJ (cY g)) (ae (aJ (cY l)) (aA (λu=>pure (D u)) z)))
theorem z2(F:Fm c.V n k G)(i t z m:J){a b:cE}(j:n[i]?=D x)(A:i<k)(L:n[t]?=D h)(O:t<k)(p:G[z]?=D (x,.local))(B:G[m]?=D (h,.local))(y:ER c n k R aj [a,b] P [q,o])(X:e.line=r.line)(l:(h==x)=ay)
  (g:[a,b].all (foldedForSure 8)=ay)(f:[a,b].all (constantsAlone 8)=ay)(w:dP a=Y)(u:dP b=Y):
  ES c n k R (.Assign [.Tuple [.Name x e,.Name h r] aE aq] (.Tuple [a,b] ao aj) aC) ((P.set t (.t o)).set i (.t q)) .next:=by
 refine⟨λT E s Q H d S ah=>?_⟩;have ak:c.V.blockKind=.function:=by
  have:=S.1.kind
  first|exact this|(delta De;simp [this])|trace_state
 exact KR c.R.handled (Bc y.1 C) (.cons (λv Q H s=>zp v Q H s) L O (F.loc L O) (.cons (λv Q H s=>zp v Q H s) j A (F.loc j A) .nil)) C C C (PI ak (F.kn z p nofun) (F.kn m B nofun) X l g f w u) T E s Q H d S ah
theorem fb(h:ES c n k y u P .next)(q:P=X):EX c n k y [u] X .next:=q▸zx h fY
theorem jl(h:EC c n k y e P b)(q:b=z):EC c n k y e P z:=q▸h
theorem gJ(h:EE c n k y e P A)(q:A=z):EE c n k y e P z:=q▸h
theorem Qp(h:EC c n k y e P b)(d:aS)(q:(if b then i else t)=d):EE c n k y (.IfExp e (.Constant (.int i) E a) (.Constant (.int t) k₂ r) p) P (.int d):=by
 subst q;cases b with
 |true=>exact nA h (zi i)
 |false=>exact nA h (zi t)
theorem Qo(h:EC c n k y e P b)(w:b=Y->EE c n k P a P z)(v:b=ay->EE c n k P x P z):EE c n k y (.IfExp e a x p) P z:=by
 cases b with
 |true=>exact nA h (w C)
 |false=>exact nA h (v C)
theorem aeW(h:EE c n k y e P (.bool ay))(v:EE c n k P x X z):EE c n k y (.BoolOp .Or [e,x] p) X z:=⟨We c.R h.1 C (VZ v.1)⟩
theorem aeX(h:EE c n k y e P (.bool Y)):EE c n k y (.BoolOp .Or [e,x] p) P (.bool Y):=⟨Wf c.R h.1 C⟩
theorem qu{l r:I J}{lo A:bg aS}(B:U l<=1000000)(h:cut lo A l=r):CD (.str l) lo A=D (.str r):=by
 refine ae (aM (eU B)) ?_;rw [h]
theorem wO{lo A:bg aS}(B:U l<=1000000)(h:cut lo A l=r):CD (.list l) lo A=D (.list r):=by
 refine ae (aM (eU B)) ?_;rw [h]
theorem J2{u m:J}{i:aS}(e:(if i<0 then i+u else i)=(m))(h:m<=u):clipAt u i=m:=
 ae (aA (λt:aS=>(max 0 (min t (u))).toNat) e) (ae (aA (λt:aS=>(max 0 t).toNat) (Int.min_eq_left (my.mpr h))) (aA Io (Rk (qA m))))
theorem Um{u m:J}{i:aS}(e:(if i<0 then i+u else i)=(m))(h:u<=m):clipAt u i=u:=
 ae (aA (λt:aS=>(max 0 (min t (u))).toNat) e) (ae (aA (λt:aS=>(max 0 t).toNat) (Int.min_eq_right (my.mpr h))) (aA Io (Rk (qA u))))
theorem J3(u m:J):(if(m:aS)<0 then(m:aS)+u else m)=(m):=aJ (xE.mpr (qA m))
theorem vZ(u m:J):clipAt u (m)=min m u:=
 (Dp m u).elim (λh=>ae (J2 (J3 u m) h) (vt h).symm) λh=>ae (Um (J3 u m) h) (RQ h).symm
theorem AW(u m:J)(n:0<m):clipAt u (-(m))=u-m:=by
 have e:(if-(m:aS)<0 then-(m:aS)+u else-(m))=-(m)+u:=aM (Int.neg_neg_of_pos (Int.natCast_pos.mpr n));rcases Dp m u with h|h
 .exact J2 (ae e (ae (Dg _ _) (Int.ofNat_sub h).symm)) (Dr u m)
 .refine ae (aA (λt:aS=>(max 0 (min t (u))).toNat) e) (ae (aA Io (Int.max_eq_left (xD (Int.min_le_left _ _) ?_))) (agk h).symm);rw [Dg];exact Int.sub_nonpos_of_le (my.mpr h)
theorem Et(l:I R)(u:J):cut aa (D (u)) l=l.take u:=by
 show l.take (clipAt (U l) (u))=_;rw [vZ];exact af4.symm
theorem UG(l:I R)(u:J):cut (D (u)) aa l=l.drop u:=by
 show(l.drop (clipAt (U l) (u))).take (U l-clipAt (U l) (u))=_;rw [vZ,<-xH,af5];exact(Dp u (U l)).elim (λh=>(vt h).symm▸C) λh=>(RQ h).symm▸(ae afG (vm h).symm)
theorem J_(l:I R)(u:J)(n:0<u):cut (D (-(u))) aa l=l.drop (U l-u):=by
 show(l.drop (clipAt (U l) (-(u)))).take (U l-clipAt (U l) _)=_;rw [AW _ _ n,<-xH,af5]
theorem J'(l:I R)(u m:J):cut (D (u)) (D (m)) l=(l.take m).drop u:=by
 show(l.drop (clipAt (U l) (u))).take (clipAt (U l) (m)-clipAt (U l) (u))=_;rw [vZ,vZ,<-Rp,<-af4];rcases Dp u (U l)with h|h
 .rw [vt h]
 .rw [RQ h,vm (RC m l),vm (aD (RC m l) h)]
end
theorem yh{a:J}(h:a<2^2000):ig (a)=Y:=cM (qE (h) (by decide+kernel))
theorem ack{a b:J}(h:a<2^2000)(O:b<2^2000):kE .Mult (.int a) (.int b)=D (.int ((a*b:J))):=by exact acj (yh h) (yh O)
theorem acm{a b:J}(h:a<2^2000)(O:b<=1000):kE .Pow (.int a) (.int b)=D (.int ((a^b:J))):=by
 apply ae (OT (yh h) (by exact my.mpr (eF (.n 0) (.v 0) C [_])) (my.mpr (O)));rw [Ip,Int.natCast_pow]
theorem OS{a b:J}(h:a<2^2000)(O:0<b):kE .FloorDiv (.int a) (.int b)=D (.int ((a/b:J))):=by
 apply ae (acg (yh h) (by exactλr=>q5 (d_ 0 (.n 1) (.n 0) (.a (.n 0) (.n 1)) (.v 0) (.v 0) (.n 0) C [_] O ((iU (Dh r))))));rw [Int.fdiv_eq_ediv_of_nonneg _ (by exact my.mpr (eF (.n 0) (.v 0) C [_]))];rfl
theorem GU{a b:J}(h:a<2^2000)(O:0<b):kE .Mod (.int a) (.int b)=D (.int ((a%b:J))):=by
 apply ae (aci (yh h) (by exactλr=>q5 (d_ 0 (.n 1) (.n 0) (.a (.n 0) (.n 1)) (.v 0) (.v 0) (.n 0) C [_] O ((iU (Dh r))))));rw [Int.fmod_eq_emod_of_nonneg _ (by exact my.mpr (eF (.n 0) (.v 0) C [_]))];rfl
def lA(s:bg cz):cE:=(nh s).1
def oV(s:bg cz):cE:=(nh s).1
def vW(s:bg cz):cE:=(nh s).1
def uw(s:bg cz):cE:=(nh s).1
def lz(s:bg cz):I cz:=(nh s).2.2.1
def iq(s:bg cz):I cz:=(nh s).2.2.1
def LN(s:bg cz):I cz:=(nh s).2.2.1
def mW(s:bg cz):I cz:=(nh s).2.2.2.1
theorem uV(h:a+b=d):p9 .Add (.int a) (.int b)=D (.int d):=by subst h;rfl
theorem rh(h:a+b=d):kE .Add (.int a) (.int b)=D (.int d):=by subst h;rfl
theorem rE(a:EC c h k y e P ay)(v:EX c h k P z X A):EW c h k e t z n y X A:=.stop a.1 v.1
theorem om(a:EC c h k y e P Y)(v:EX c h k P t X .next)(R:EW c h k e t z n X O A):EW c h k e t z (n+1) y O A:=.go a.1 v.1 (.inl C) R
theorem mq:jE c n k h t [] y y .next:=.nil
theorem j_(w:EA c n k y h e P)(v:EX c n k P t dc .next)(R:jE c n k h t p dc O A):jE c n k h t (e::p) y O A:=.go w.1 v.1 (.inl C) R
noncomputable def uX:I J:=[40,41,91,93,123,125,63,42,43,45,124,94,36,92,46,38,126,35,32,9,10,13,11,12]
def lV(a:J):I J:=if a∈uX then [92,a]else [a]
noncomputable def sC:I J:=[40,63,115,58]
noncomputable def CP:I J:=[41,92,90]
structure EP(c:Cx O)(xs:I af)(k:J)(lv:I (AV O))(e:cE)(τ:T):Prop where
 ev:pX c.B c.Z c.w c.A c.ρ c.V xs k lv e τ
theorem vf(a:aS):EP c n k y (.Constant (.int a) v p) (.int a):=⟨VD⟩
theorem HN(F:Fm c.V n k G)(i:J)(j:n[i]?=D x)(X:y[i]?=D (.t z)):EP c n k y (.Name x p) z:=⟨EG j X (F.eY j)⟩
theorem C6(h:EP c n k y e (.int i)):EP c n k y (.UnaryOp .USub e p) (.int (-i)):=⟨VE h.1⟩
theorem zF(F:Fm c.V n k G)(t:J)(j:n[t]?=D h)(X:y[t]?=D (.own l))(v:EP c n k y x (.int i))(e:qi (.list l) (.int i)=D z)(B:uK x=Y):EE c n k y (.Subscript (.Name h a) x p) y z:=
 ⟨V9 j X (F.eY j) v.1 e λb s d p q=>by subst q;contradiction⟩
theorem Qk(F:Fm c.V n k G)(i:J)(a:n[i]?=D s)(t:y[i]?=D (.own q))(w:EE c n k y e P (.int ii))(d:P[i]?=D (.own l₁))(L:qi (.list l₁) (.int ii)=D x)
  (v:EE c n k P l X m)(H:X[i]?=D (.own l₂))(b:p9 o x m=D τ)(A:jN ii=Y)(O:seqIndex? ii (U l₂)=D j)
  (T:∀Q h S,augStore e Q h S=(do holding [S,Q,h] (setItem Q h S);release [S,Q,h] [];pure .next)):
  ES c n k y (.AugAssign (.Subscript (.Name s f) e r) o l p) (X.set i (.own (l₂.set j τ))) .next:=⟨VQ a (F.eY a) t w.1 d L v.1 H b A O T⟩
theorem C3{R:Type}{j:I R}{f:R->T}(x:af)(b:I af)(a:I J)(L:R->T){i i':J}(F:Fm c.V n k G)(r:t8 v [x] b=Y)(s:t5 G n b a=Y)(A:qg v.names (x::b) 1=Y)(q:EI aL c n k aC O P (j.map f))(p:noOwn P a=Y)
  (Q:∀d,Fm (c.ff v d).V (x::b) 1 v.names->∀y∈j,EE (c.ff v d) (x::b) 1 (.t (f y)::a.map λi=>(P[i]?).getD .un) o (.t (f y)::a.map λi=>(P[i]?).getD .un) (L y))
  (B:uJ O=Y)(m:U j<=1000000)(g:n[i]?=D E)(l:i<k)(z:G[i']?=D (E,.local))(X:h.line=w.line)(H:(v.names.any λ(u,e)=>u==E&&(e==.local||e==.cell))=ay):
  ES c n k aC (.Assign [.Name E h] (.ListComp o [⟨.Name x aK,O,[],0⟩] v w) aN) (P.set i (.own (j.map L))) .next:=by
 refine⟨λak ao aq aj ah aE S aF=>?_⟩;have aH:c.V.blockKind=.function:=by
  have:=S.1.kind
  delta De;simp [this,agI]
 have t:=F.kn i' z nofun;refine KP (A1 r) (AR F s) q.1 (B6 p) (λd=>Qx (qP A) f L j .un (Q d (qP A))) (Cc B) (.inl (cI _ _ C)) (cM (by rw [dg];exact m)) (yW (pre:=[qk .un _]) C) g l t ?_ ak ao aq aj ah aE S aF
 .show(pure (c.V.blockKind==.function&&c.V.kindOf E==D .local&&h.line==w.line&&!(v.names.any λ(u,k)=>u==E&&(k==.local||k==.cell))))=pure Y;refine aH▸t▸X▸H▸?_;simp
theorem adj(u:J)(a b:I J):gA (u+1) (.str a) (.str b)=D (a==b):=C
theorem Fq(h:I J):∀B:I _,jO (.str h) (B.map .str)=D (aO (h∈B))
 |[]=>C
 |a::r=>by
  show(match gA 6 _ _,jO _ _ with|D a,D b=>D _|_,_=>aa)=_;simp only [(Fq h r),adj 5];simp only [cD,Option.some.injEq];rw [oz];simp only [afl,DF,oG];exact or_congr_left ⟨Df,Df⟩
theorem ints_map:∀l,kG (l.map .int)=D l:=λT=>T.rec
 (C)
 (λx r n=>aA (qF (List.cons x)) n)
section
variable{c:Cx O}{st:cz}
noncomputable abbrev Cx.re(c:Cx O)(a:au):Cx O:={c with ρ:=⟨c.ρ.star,a⟩}
noncomputable abbrev Cx.sr(c:Cx O)(a:au):Cx O:={c with ρ:=⟨a,c.ρ.mark⟩}
theorem QA(F:Fm c.V n k G)(i:J)(j:n[i]?=D x)(l:i<k)(h:∀a,EX (c.re a) n k (y.set i (.gT [])) z P A)(R:y.all wD=Y)(S:P.all wD=Y):EX c n k y (.Assign [.Name x e] (.List [] r) p::z) P A:=
 ⟨Wm j l (F.loc j l) (λa=>(h a).1) R S⟩
theorem qy(i:J)(h:EX c n k (y.set i .un) z P A):EX c n k y z P A:=⟨Wj h.1⟩
theorem rB(i:J)(h:EX c n k y z aY A):EX c n k y z (aY.set i .un) A:=⟨Wl i h.1⟩
theorem QU(i:J)(X:y[i]?=D (.gT l))(h:EX c n k (y.set i (.own l)) z P A):EX c n k y z P A:=⟨Wo X h.1⟩
theorem QD(F:Fm c.V n k G)(i t:J)(j:n[i]?=D x)(X:y[i]?=D (.gT l))(L:n[t]?=D H)(v:t<k):ES c n k y (.Assign [.Name H r] (.Attribute (.Name x h) "append" A) p) (y.set t .lg) .next:=
 ⟨VV j X (F.eY j) L v (F.loc L v) C⟩
theorem zE(F:Fm c.V n k G)(i t:J)(j:n[i]?=D x)(L:n[t]?=D H)(X:y[t]?=D .lg)(h:EE c n k y e P z)(d:P[t]?=D .lg)(A:P[i]?=D (.gT l))(a:dP e=Y)(m:eg (U l)=Y):
  ES c n k y (.Expr (.Call (.Name H r) [e] [] u) w) (P.set i (.gT (l++[z]))) .next:=⟨VL j L X (F.eY L) h.1 d A (g7 a) m C⟩
theorem Qj(i:J)(j:n[i]?=D x)(X:y[i]?=D (.gT l))(h:EC c n k (y.set i (.own l)) e P b)(d:P[i]?=D (.own H)):EC c n k y e (P.set i (.gT H)) b:=⟨Vc j X h.1 d⟩
theorem aeT(F:Fm c.V n k G)(i t:J)(j:n[i]?=D x)(l:i<k)(O:G[t]?=D (("object":af),.globalImplicit))(h:∀a,EX (c.sr a) n k (y.set i (.t .atom)) z P A)(e:y.all wC=Y)(w:P.all wC=Y)(v:Nc A=Y):
  EX c n k y (.Assign [.Name x b] (.Call (.Name "object" r) [] [] u) p::z) P A:=⟨Wn c.G j l (F.loc j l) (F.kn t O nofun) (c.bi 11 _ _ C).1 (c.bi 11 _ _ C).2 (λa=>(h a).1) e w v⟩
structure EJ(c:Cx O)(xs:I af)(k:J)(lv:I (AV O))(es:I cE)(acc:I J)(lv':I (AV O))(out:I J):Prop where
 ev:ya c.B c.Z c.w c.A c.ρ c.V xs k lv es acc lv' out
theorem HM:EJ c n k y [] o y o:=⟨Vp⟩
theorem zj(a:EE c n k y e P (.str h))(B:U (o++h)<=1000000)(v:EJ c n k P Q (o++h) X b):EJ c n k y (e::Q) o X b:=⟨Vo a.1 (eU B) v.1⟩
theorem HJ(h:EJ c n k y (e::x::Q) [] P out)(B:U out<=1000000):EE c n k y (.JoinedStr (e::x::Q) p) P (.str out):=⟨V7 h.1 (eU B)⟩
theorem HH(a:EE c n k y e P (.str h))(B:U h<=1000000):EE c n k y (.FormattedValue e (-1) aa p) P (.str h):=⟨V5 a.1 (eU B)⟩
theorem C7(h:EC c n k y e P Y)(v:EX c n k P t X .brk):EW c n k e t z u y X .next:=.brk h.1 v.1
theorem ae0(h:ES c n k y u P .next)(q:P=X)(v:EX c n k X z m4 A):EX c n k y (u::z) m4 A:=zx h (q▸v)
theorem ru(h:EX c n k y z P A)(q:P=X):EX c n k y z X A:=q▸h
theorem C2(F:Fm c.V n k G)(i:J)(j:n[i]?=D x)(X:y[i]?=D (.own l))(e:sU (.list l)=D b):EC c n k y (.Name x p) y b:=by
 refine⟨?_⟩;rintro T g s Q H⟨w,m,L,S⟩R;exact uc (S.lend j X) λv d u r o dl z=>agv (eO (eL w S.ns u (CV c.R dl e s _ _ r λt q f=>ai (z _ _ f) λa B h=>R t a f.same B ⟨w,m,L,h⟩)) (F.eY j)) C
end
theorem Ut(x:I J)(l:I T):gb .In (.str x) (.list l)=jO (.str x) l:=C
theorem Ep(x:I J)(B:I _):gb .In (.str x) (.list (B.map T.str))=D (aO (x∈B)):=by simp only [Ut,Fq]
def g8(l:I cz)(u:J):cz:=(fV u l).getD (.Pass default)
noncomputable abbrev tS(l:I (I J)):I T:=l.map .str
theorem acq{u:J}(h:0<u):seqIndex? (-1) u=D (u-1):=by
 cases u with
 |zero=>exact bA h (i3 0)
 |succ m=>exact OZ m
theorem GR(h:l[U l-1]?=D t):qi (.list l) (.int (-1))=D t:=by
 show(if jN (-1)then(seqIndex? (-1) (U l)).bind _ else aa)=_;rw [acq (by exact cT 0 (.a (.n 0) (.n 1)) (.v 0) (.a (.v 1) (.n 1)) (.v 0) C [_,_] ((cG.mp h).1))];assumption
theorem TA{op:Operator}{e:cE}(a:uK e=Y)(Q h S:aB):augStore e Q h S=(do holding [S,Q,h] (setItem Q h S);release [S,Q,h] [];pure .next):=by
 cases e<;>first|rfl|exact cY C a
noncomputable def Gf:I (af×fc):=[("inp",.local),("STAR",.local),("res",.local),("add",.local),("i",.local),("n",.local),("fixed",.local),("len",.globalImplicit)]
noncomputable def w9:I af:=["inp","STAR","res","add","i","n","fixed"]
abbrev DP(u:J):bg cz:=fV u (dF (bB 13))
theorem oQ{R:Type}(d l:I R):(d++l)[U d]?=l[0]?:=by apply ae (kR (dz _));rw [Nat.sub_self]
abbrev Ja:I cz:=lz (DP 4)
noncomputable abbrev BN(s o:I T)(i:aS)(r:AV q):I (AV q):=[.t (.list s),.t .atom,.gT o,.lg,.t (.int i),.t (.int s.length),r]
theorem yE{l:I T}(X:U l<=1000)(h:l[i]?=D z):i<2^60:=eI (cG.mp h).1 (aD X (az C))
theorem FJ(F:Fm c.V w9 7 Gf){i:J}{s:I T}(X:U s<=1000)(h:s[i]?=D z)(f:gb .IsNot z .atom=D b):
  EC c w9 7 [.t (.list s),.t .atom,a,e,.t (.int i),.t (.int (U s)),r] (.BoolOp .And [.Compare (.Name "i" k) [.Lt] [.Name "n" n] x,.Compare (.Subscript (.Name "inp" l) (.Name "i" j) t) [.IsNot] [.Name "STAR" o] q] v) [.t (.list s),.t .atom,a,e,.t (.int i),.t (.int (U s)),r] b:=
 jl (b:=Y&&(b&&Y)) (kL (zC (zv F 4 C C) (zv F 5 C C) (l8 (cM (jV.mpr (cG.mp h).1))) C) λE=>kL (zC (dU (zv F 0 C C) (zv F 4 C C) (fR (yE X h) h) C) (zv F 1 C C) f C) λE=>sY) (by cases b<;>rfl)
noncomputable def qj(p:I (I J)):I T:=(p.map λA=>[T.atom,.str A]).flatten++[.atom]
noncomputable def qY(p:I (I J)):I (I J):=p.map (λA=>[40,63,62,46,42,63]++A++[41])++[[46,42]]
theorem Yl(p:I (I J)):U (qj p)=2*U p+1:=p.rec C λA p n=>by
 show U (qj p)+2=_;rw [n];rfl
theorem By{s y:I T}(h:s=y++l):s[U y+k]?=l[k]?:=by rw [h,kR (fO _ _),xO]
theorem Ym(F:Fm c.V w9 7 Gf){s:I T}(X:U s<=1000):∀(p:I (I J))(y o:I T)(r:AV d),s=y++qj p->(∀t∈p,U t<=1000)->U o+U p<=1000->
  ∃a,EW c w9 7 (lA (DP 4)) Ja [] (U p) (BN s o (U y) r) (BN s (o++tS (qY p)) (U s) a) .next:=λj=>j.rec
 (λy o r h _ z=>by
  have A:s[U y]?=D .atom:=By (k:=0) h;have m:U s=U y+1:=by rw [h];exact cC
  have k:EW c w9 7 (lA (DP 4)) Ja [] 0 (BN s o (U y) r) (BN s (o++[.str [46,42]]) (U y+1:J) r) .next:=
   C7 (zC (zv F 4 C C) (zv F 5 C C) (l8 (cM (jV.mpr (cG.mp A).1))) C) (zx (xd (zC (dU (zv F 0 C C) (zv F 4 C C) (fR (yE X A) A) C) (zv F 1 C C) C C)) (zx (sZ F 4 C (dN _ _) C (zi 1) (uV (d:=(U y+1:J)) C))
    (vg (dQ (b:=Y) (zC (zv F 4 C C) (zv F 5 C C) (aA D (by rw [m];exact beq_self_eq_true _)) C) (zx (zE F 2 3 C C C (zs [46,42] (cS ['.','*'])) C C C (eU (aD (fO _ _) (aD z (az C))))) (vg HD))))))
  rw [<-m]at k
  exact⟨r,k⟩)
 (λt p f y o r h g z=>by
  have h:s=y++(.atom::.str t::qj p):=h;have n:s[U y]?=D .atom:=By (k:=0) h;have w:s[U y+1]?=D (.str t):=By h;have v:s[U y+2]?=D .atom:=ae (By h) (by cases p<;>rfl);have e:=g t (.head _);have b:∀{x:J}{l},s[x]?=D l->((x:aS)==(U s:aS))=ay:=λi=>beq_eq_false_iff_ne.mpr λq=>fH (cG.mp i).1 (Dh q);have i:U (y++[T.atom,.str t])=U y+2:=cC;refine bG (f (y++[.atom,.str t]) (o++[.str ([40,63,62,46,42,63]++t++[41])]) (.t (.str t)) (ae h (gX y [.atom,.str t] _).symm) (λP u=>g P (.tail _ u)) (by rw [cC];show _+1+_<=_;rw [vp,qD 1];exact z)) λa q=>⟨a,?_⟩;rw [i,gX o]at q;have Q:U o<=1000000:=aD (fO _ _) (aD z (az C))
  exact om (zC (zv F 4 C C) (zv F 5 C C) (l8 (cM (jV.mpr (cG.mp n).1))) C) (zx (xd (zC (dU (zv F 0 C C) (zv F 4 C C) (fR (yE X n) n) C) (zv F 1 C C) C C)) (zx (sZ F 4 C (dN _ _) C (zi 1) (uV (d:=(U y+1:J)) C))
   (zx (dQ (b:=ay) (zC (zv F 4 C C) (zv F 5 C C) (aA D (b w)) C) fY) (zx (xd (zC (dU (zv F 0 C C) (zv F 4 C C) (fR (yE X w) w) C) (zv F 1 C C) C C))
   (zx (ve F 6 C (fG _) (rz cU C) C) (zx (lE (om (n:=0) (FJ F X w C) (zx (u9 F 6 C C (dU (zv F 0 C C) (zv F 4 C C) (fR (yE X w) w) C) C C C C) (zx (sZ F 4 C (dN _ _) C (zi 1) (uV (d:=(U y+2:J)) C)) fY)) (rE (FJ F X v C) fY)))
   (zx (eM F 6 C (fG _) (gJ (C5 (u7:=[t]) (zs [] (cS [])) (zG F 6 C C) C C C (by rw [IA,List.flatten_nil,jq];exact aD e (az C))) (aA T.str (jq t))) C)
   (fb (dQ (b:=ay) (zC (zv F 4 C C) (zv F 5 C C) (aA D (b v)) C) (zx (zE F 2 3 C C C (HJ (out:=[40,63,62,46,42,63]++t++[41]) (zj (zs [40,63,62,46,42,63] (cS ['(','?','>','.','*','?'])) (az C) (zj (HH (zv F 6 C C) (aD e (az C))) (by rw [cC];exact aD (iL e _) (az C)) (zj (zs [41] (cS [')'])) (by rw [cC,cC];exact aD (rK (iL e _) _) (az C)) HM))) (by rw [cC,cC];exact aD (rK (iL e _) _) (az C))) C C C (eU Q)) fY)) C)))))))) q)
section
variable{y:Ly O}
theorem adX(k:y.aZ "_join_translated_parts" 13)(p:I (I J))(g:∀t∈p,U t<=1000)(z:U p<=100)(O:U (sC++(qY p).flatten++CP)<=100000):
  y.F (n+1) "_join_translated_parts" [.list (qj p),.atom] (.str (sC++(qY p).flatten++CP)):=by
 refine y.fn 13 w9 Gf k C (C) (C) (eA C) (λj code l=>yi λE E=>C) λL e G i F=>?_;have X:U (qj p)<=1000:=by rw [Yl];exact aD (ju (xP 2 z)) (az C)
 have a:(qj p)[0]?=D .atom:=by cases p<;>rfl
 have h:(qY p).flatten.length<=100000:=by rw [cC,cC]at O;exact aD (dN _ _) (aD (fO _ _) O)
 generalize A:qj p=s at*;refine⟨[.t (.list s),.t .atom,.t (.str (qY p).flatten),.un,.t (.int (U s)),.t (.int (U s)),.un],QA F 2 C (eA C) (λx=>?_) C C⟩;refine bG (Ym (c:=(y.c L e G n i).re x) F X p [] [] .un A.symm g (by rw [afQ,jv];exact aD z (az C))) λr b=>?_;rw [RH]at b;refine ru (rB (aY:=[.t (.list s),.t .atom,.t (.str (qY p).flatten),.un,.t (.int (U s)),.t (.int (U s)),r]) 6 (zx (QD F 2 3 C C C (eA C)) (zx (z2 F 4 5 4 5 C (eA C) C (fO _ _) C C (zr (zi 0) (zr (aeE F 7 C (zv F 0 C C) (eU (aD X (az C))) C) cU C) C) C (C) C C C C) (zx (lE (rE (n:=0) (FJ (i:=0) F X a C) fY)) (zx (lE b) (zx (xd (zC (zv F 4 C C) (zv F 5 C C) (aA D (beq_self_eq_true _)) C)) ?_)))))) C;exact QU 2 C (qy 3 (zx (eM F 2 C (eA C) (C5 (zs [] (cS [])) (zG F 2 C C) C C C (aD h (az C))) C) (hU (jc (HJ (out:=sC++(qY p).flatten++CP) (zj (zs [40,63,115,58] (cS ['(','?','s',':'])) (az C) (zj (HH (zv F 2 C C) (aD h (az C))) (by rw [cC];exact aD (iL h _) (az C)) (zj (zs [41,92,90] (cS [')','\\','Z'])) (aD O (az C)) HM))) (aD O (az C)))))))
end
section
variable{c:Cx O}
noncomputable def n9:I (af×fc):=[("pat",.local),("STAR",.local),("QUESTION_MARK",.local),("res",.local),("add",.local),("i",.local),("n",.local),("c",.local),("j",.local),("stuff",.local),("chunks",.local),("k",.local),("chunk",.local),("len",.globalImplicit),("range",.globalImplicit),("_twin_re_1",.globalImplicit),("escape",.globalImplicit)]
noncomputable def x9:I af:=["pat","STAR","QUESTION_MARK","res","add","i","n","c","j","stuff","chunks","k","chunk"]
abbrev B9:I cz:=lz (fV 3 (dF (bB 12)))
noncomputable abbrev L9(d:I J)(o:I T)(i:J)(c Q H f l z:AV O):I (AV O):=[.t (.str d),.t .atom,.t (.str [46]),.gT o,.lg,.t (.int i),.t (.int d.length),c,Q,H,f,l,z]
theorem Hl(F:Fm c.V x9 13 n9)(t:U d<=1000)(h:d[i]?=D a)(k:EX c x9 13 (L9 d o (i+1) (.t (.str [a])) Q H f l z) (B9.drop 2) y A):EX c x9 13 (L9 d o i e Q H f l z) B9 y A:=by
 have X:=(cG.mp h).1;exact zx (eM F 7 C (dN _ _) (dU (zv F 0 C C) (zv F 5 C C) (jk (by omega) h) C) C) (ae0 (eM F 5 C (dN _ _) (fh (zv F 5 C C) (zi 1) (rh (C))) C) C k)
theorem wM(h:aO (a=b)=d):gb .Eq (.str [a]) (.str [b])=D d:=by
 apply Cy;rw [<-h,oz];simp
theorem P7(F:Fm c.V x9 13 n9)(t:U d<=1000)(h:d[i]?=D 42)(O:o=[]\/∃q s,o=q++[.str s])(X:U o<=100000):
  EX c x9 13 (L9 d o i a7 a8 a9 ie fJ fK) B9 (L9 d (o++[.atom]) (i+1) (.t (.str [42])) a8 a9 ie fJ fK) .next:=by
 have l:EC c x9 13 (L9 d o (i+1) (.t (.str [42])) a8 a9 ie fJ fK) (uw (fV 0 (LN (fV 2 B9)))) (L9 d o (i+1) (.t (.str [42])) a8 a9 ie fJ fK) Y:=by
  rcases O with rfl|⟨q,s,rfl⟩
  .exact Qj 3 C C (jl (b:=Y||ay) (nu (C1 (b:=ay) (C2 F 3 C C C)) nofun) C) C
  .exact Qj 3 C C (jl (b:=ay||(Y||ay)) (nu (C1 (C2 (b:=Y) F 3 C C (Cz (aD X (az C)) (by simp)))) λE=>nu (zC (zF F 3 C C (C6 (vf 1)) (GR (t:=.str s) (by simp)) C) (zv F 1 C C) C C) nofun) C) C
 exact Hl F t h (fb (dQ (b:=Y) (zC (zv F 7 C C) (zs [42] (cS ['*'])) C C) (fb (dQ l (fb (zE F 3 4 C C C (zv F 1 C C) C C C (eU (aD X (az C)))) C)) C)) C)
theorem adv(F:Fm c.V x9 13 n9)(t:U d<=1000)(h:d[i]?=D a)(u:a∉[42,63,91])(m:CN c "escape" [.str [a]] (.str (lV a)))(X:U o<=100000):
  EX c x9 13 (L9 d o i e Q H f l z) B9 (L9 d (o++[.str (lV a)]) (i+1) (.t (.str [a])) Q H f l z) .next:=by
 simp only [cD,dR,or_false,not_or]at u
 exact Hl F t h (fb (dQ (zC (zv F 7 C C) (zs [42] (cS ['*'])) (wM (ee u.1)) C) (fb (dQ (zC (zv F 7 C C) (zs [63] (cS ['?'])) (wM (ee u.2.1)) C)
  (fb (dQ (zC (zv F 7 C C) (zs [91] (cS ['['])) (wM (ee u.2.2)) C) (fb (zE F 3 4 C C C (nv F 16 C (zr (zv F 7 C C) cU C) m C) C C C (eU (aD X (az C)))) C)) C)) C)) C)
abbrev R9:I cz:=LN (fV 0 (mW (fV 0 (mW (fV 2 B9)))))
theorem occ_none{s:I J}{d:J}(a:d∉s)(u:J)(z:1<=u):(afo ⟨s.toArray⟩ ⟨[d].toArray⟩ 0 (U s) u).isEmpty=Y:=by
 rcases PySem.StrLaws.occ_head _ _ u z with⟨e,_⟩|⟨i,r,e,h,_⟩
 .exact aA _ (e)
 .exact bA (cN (Eg.mp h)) a
abbrev tV:cE:=vW (fV 2 (mW (fV 4 R9)))
end
def Ly.DC(H:Ly q)(L:af)(i:J)(S:aB):Prop:=∃a o y r,H.mg L=D (.ref a)/\(∀{h},bF H.B.h₀ h->h.get? a=D o)/\o.data=.func (docDef L (gw (bB i)) (dF (bB i)) (ef (bB i)) y S r)/\(∀{h},bF H.B.h₀ h->h.CodeRec S L)
theorem Ly.WH(H:Ly q)(i:J)(n:I af)(a:I _)(aZ:H.DC h i S)(b:(ef (bB i)).names=a)(Q:ze (ef (bB i)) n=Y)(t:qg a n (U n)=Y)
  (j:p.length<=U n)(d:∀y code r(z:I aB),U z=p.length->bindArgs (docDef h (gw (bB i)) (dF (bB i)) (ef (bB i)) y code r) ⟨z,[]⟩=pure (e0 n z))
  (B:∀L F G(e:dW L u),Fm G n (U n) a->G.code=S->G.qual=h++".<locals>."->∃s,EX (H.c L F G u e) n (U n) (q4 n p) (dF (bB i)) s (.ret l)):H.F (u+1) h p l:=A9 aZ λk o y r w v R g=>(oX k o _ w v R (JT H.G v R g C C (l9 Q) C C j (d y S r) λf L F e=>(B L F _ e (jM t b) C C).imp λE x=>x.1))
section
variable{y:Ly O}
noncomputable def MV:I (af×fc):=[("text",.local),("len",.globalImplicit)]
noncomputable def CZ:I af:=["text"]
theorem adO(k:y.aZ "_law_counted" 22)(s:I J)(B:U s<=1000):y.F (n+1) "_law_counted" [.str s] (.list (.int (U s)::s.map λ(a:J)=>.int a)):=by
 refine y.fn 22 CZ MV k C C C (dz _) (λe code r=>bind1 λa=>C) λL h G i F=>?_;apply Exists.intro;refine hU (jc (fh (oi (zr (rA F 1 C (zv F 0 C C) (eU (aD B (az C))) C) cU C) C) (zf (jT "sign" [] [] (λ(a:J)=>.int a) F C C C (xh (zv F 0 C C)) C (λd o A l=>?_) C (aD B (az C)))) ?_))
 .exact QJ o 2 C (zv o 0 C C) C
 .exact GP (by simp;exact cT 0 (.a (.n 1) (.v 0)) (.n 1000000) (.v 0) (.n 1000) C [_] B)
noncomputable def ZN:I (af×fc):=[("sign",.local)]
noncomputable def x23:I af:=["sign"]
theorem adZ(e:y.aZ "_law_plain" 23)(k:J):y.F (u+1) "_law_plain" [.str [k]] (.str (pq k)):=by
 refine y.fn 23 x23 ZN e C C C (dz _) (λa code r=>bind1 λi=>C) λL x G b F=>?_;apply Exists.intro
 delta pq
 by_cases h:k∈[42,63,91]
 .rw [aM h];exact hU (jc (nA (zC (zv F 0 C C) (zs [42,63,91] (cS ['*','?','['])) (GQ (cM h)) C) (fh (fh (zs [91] (cS ['['])) (zv F 0 C C) C) (zs [93] (cS [']'])) C)))
 .rw [aJ h];exact hU (jc (nA (zC (zv F 0 C C) (zs [42,63,91] (cS ['*','?','['])) (GQ (ee h)) C) (zv F 0 C C)))
noncomputable def j0(l:I J):I J:=91::(if 93∈l then [93]else [])++(l.filter λa=>aO (a∉[93,45]))++(if 45∈l then [45]else [])++[93]
end
noncomputable abbrev kJ(l:I J):I T:=l.map λa=>T.str [a]
theorem ZB{l:I J}:[a]∈l.map (λa=>[a])<->a∈l:=⟨λh=>ai (dZ.mp h) λb f e=>(zP e).1▸f,fM⟩
theorem Er(a:J)(l:I J):gb .In (.str [a]) (.list (kJ l))=D (aO (a∈l)):=by
 have:=Ep [a] (l.map λa=>[a]);rw [dH]at this;exact this.trans (aA D (decide_eq_decide.mpr ZB))
theorem LR(h:a∈l):gb .In (.str [a]) (.list (kJ l))=D Y:=ae (Er a l) (aA D (cM h))
theorem M8(h:a∉l):gb .In (.str [a]) (.list (kJ l))=D ay:=ae (Er a l) (aA D (ee h))
section
variable{y:Ly O}
noncomputable def ZO:I (af×fc):=[("signs",.local),("front",.local),("back",.local)]
noncomputable def Hz:I af:=["signs","front","back"]
theorem uR(l:I J):(l.map λa=>[a]).flatten=l:=by
 induction l with
 |nil=>rfl
 |cons a l n=>simp only [iK,IA,n];rfl
theorem adN(k:y.aZ "_law_bracket" 24)(l:I J)(X:U l<=100):y.F (n+1) "_law_bracket" [.list (kJ l)] (.str (j0 l)):=by
 refine y.fn 24 Hz ZO k C C C (az C) (λf code r=>bind1 λa=>C) λL b G x F=>?_;have g:U (l.filter λa=>aO (a∉[93,45]))<=100:=aD (ki _ _) X;generalize p:(if 93∈l then [93]else [])=Q;generalize e:(if 45∈l then [45]else [])=i;have t:EE (y.c L b G n x) Hz 3 [.t (.list (kJ l)),.un,.un] (vW (D (g8 (dF (bB 24)) 0))) [.t (.list (kJ l)),.un,.un] (.str Q):=by
  subst p
  by_cases h:93∈l
  .rw [aM h];exact nA (zC (zs [93] (cS [']'])) (zv F 0 C C) (LR h) C) (zs [93] (cS [']']))
  .rw [aJ h];exact nA (zC (zs [93] (cS [']'])) (zv F 0 C C) (M8 h) C) (zs [] (cS []))
 have j:EE (y.c L b G n x) Hz 3 [.t (.list (kJ l)),.t (.str Q),.un] (vW (D (g8 (dF (bB 24)) 1))) [.t (.list (kJ l)),.t (.str Q),.un] (.str i):=by
  subst e
  by_cases h:45∈l
  .rw [aM h];exact nA (zC (zs [45] (cS ['-'])) (zv F 0 C C) (LR h) C) (zs [45] (cS ['-']))
  .rw [aJ h];exact nA (zC (zs [45] (cS ['-'])) (zv F 0 C C) (M8 h) C) (zs [] (cS []))
 have q:U Q<=1:=by subst p;split<;>exact az C
 have s:U i<=1:=by subst e;split<;>exact az C
 refine⟨[.t (.list (kJ l)),.t (.str Q),.t (.str i)],(zx (eM F 1 C (by decide) t C) (zx (eM F 2 C (by decide) j C) ?_))⟩;refine hU (jc (gJ (fh (fh (fh (fh (zs [91] (cS ['['])) (zv F 1 C C) (pC ?_)) (C5 (u7:=(l.filter λa=>aO (a∉[93,45])).map λa=>[a]) (zs [] (cS [])) (gJ (zf (ny (us:=l) (g:=λa:J=>T.str [a]) "sign" [] [] (λa=>T.str [a]) (λa=>aO (a∉[93,45])) F C C C (jb (zv F 0 C C)) C (λd o a u=>?_) (λd o a u E=>zv o 0 C C) C (aD X (az C)))) (aA T.list (dH.symm))) C C C ?_) (pC ?_)) (zv F 2 C C) (pC ?_)) (zs [93] (cS [']'])) (pC ?_)) (aA T.str ?_)))
 .exact aD (iL q 1) (az C)
 .exact zC (zv o 0 C C) (zs [93,45] (cS [']','-'])) (aA D (Df (decide_not (p:=a∈[93,45])):_)) C
 .rw [uR];exact aD g (az C)
 .rw [uR];exact aD (iB (aD (fq cC) (iL q 1)) g) (az C)
 .rw [uR,cC,cC];exact aD (iB (iB (iL q 1) g) s) (az C)
 .rw [uR,cC,cC,cC];exact aD (rK (iB (iB (iL q 1) g) s) 1) (az C)
 .subst p e;rw [uR];rfl
end
noncomputable abbrev nL(l:I J):T:=.list (l.map λ(x:J)=>T.int x)
abbrev mL(h:I (I J)):T:=.list (h.map nL)
noncomputable def Kq(r:I J)(T:I (I J))(k:J):J:=((dm 4).map λt=>r.getD t 0*(T.getD t []).getD k 0).sum
def jC(L T:I (I J)):I (I J):=L.map λr=>(dm 4).map (Kq r T)
structure Tab(b:J)(M:I (I J)):Prop where
 l:M.length=4
 r:∀r∈M,r.length=4/\∀x∈r,x<b
theorem E3{l:I J}{t:J}(h:t<U l):(l.map λ(x:J)=>T.int x)[t]?=D (.int (l.getD t 0:J)):=by
 apply ae (jr);rw [tB,dD h];rfl
theorem getM{M:I (I J)}{t:J}(h:t<U M):(M.map nL)[t]?=D (nL (M.getD t [])):=by
 rw [jr,tB,dD h];rfl
theorem getD_mem'{R:Type}{M:I R}{d:R}(h:j<U M):M.getD j d∈M:=by
 rw [tB,dD h];exact afO h
section
variable{y:Ly O}
noncomputable def ZP:I (af×fc):=[("rows",.local),("others",.cell)]
noncomputable def x27:I af:=["rows","others"]
theorem ad5(b:y.aZ "_law_times" 27)(L h:I _)(i:Tab (2^1000) L)(a:Tab (2^1000) h):y.F (n+1) "_law_times" [mL L,mL h] (mL (jC L h)):=by
 refine y.fn 27 x27 ZP b C C C (dz _) (λg code u=>yi λj q=>C) λf v G l F=>⟨_,hU (jc (gJ (zf (jT "row" ["others"] [1] (λr=>nL _) F C C C (jb (zv F 0 C C)) C (λd o r s=>?_) C (i.l▸az C))) (by delta jC;show T.list _=T.list _;simp only [dH];rfl)))⟩;refine gJ (zf (jT (us:=dm 4) (g:=λk:J=>T.int k) "k" ["others","row"] [1,0] (λk=>T.int (Kq r h k)) o C C C (s_ o 2 C (zr (zi 4) cU C) C C C) C (λd H k B=>?_) C (az C))) (aA T.list dH.symm);have B:=fm.mp B;have x:=i.r r s;refine gJ (xm H 2 C (zf (jT (us:=dm 4) (g:=λt:J=>T.int t) "j" ["k","others","row"] [0,1,2] (λt=>T.int (r.getD t 0*(h.getD t []).getD k 0:J)) H C C C (s_ H 3 C (zr (zi 4) cU C) C C C) C (λd e t O=>?_) C (az C))) (ae (aA kG dH.symm) (ints_map _)) C) C;have O:=fm.mp O;have m:t<2^60:=eI O (az C);have A:k<2^60:=eI B (az C);have R:=a.r _ (getD_mem' (d:=[]) (a.l.symm▸O:t<U h));exact fh (dU (zv e 3 C C) (zv e 0 C C) (fR m (E3 (x.1.symm▸O))) C) (dU (dU (zv e 2 C C) (zv e 0 C C) (fR m (getM (a.l.symm▸O))) C) (zv e 1 C C) (fR A (E3 (R.1.symm▸B))) C) (ack (qE (x.2 _ (getD_mem' (x.1.symm▸O))) (agj (by decide) (by decide))) (qE (R.2 _ (getD_mem' (R.1.symm▸B))) (agj (by decide) (by decide))))
end
theorem aW.wZ(S:aW X aT c l G n cV z m r s){fp:I au}(aC:n[i]?=D bz)
  (B:∀b,b∉r i->b∉X.tabs->b≠G.locals->∀o,s.get? b=D o->h.get? b=D o)(bP:h.Ns G.locals m)(bR:X.inv j h)(cB:Le l j)(bU:Le j h.get?)(bh:∀b o,j b=D o->l b=D o\/s.get? b=aa\/b∈r i)
  (bC:eE G m s bz Q)(bE:Holds X aT j h E Q fp)(P:∀b∈fp,(b∈r i\/e9 X c l G n r b)/\j b=aa):
  aW X aT c j G n cV (z.set i E) m (bV r i fp) h:=by
 have ah:=(cG.mp aC).1;have F:=S.fp i ah;have bf:∀{b o},c.b b=D o->b∉r i:=λv e=>aV ((F _ e).1) v;have aN:∀{b o},c.b b=D o->b≠G.locals:=λv e=>aV (ae (aA _ e) S.nL.1) v;have a_:bF X.h₀ h:=λb o e=>B b (bf (S.f_ b o e)) (S.i_ (S.f_ b o e)) (aN (S.f_ b o e)) o (S.base b o e);have x:∀b,l b=aa->(s.get? b).isSome=Y->b∉r i->j b=aa:=λb bY v b_=>by
  cases e:j b with
  |none=>rfl
  |some o=>
   rcases bh b o e with R|R|R
   .exact aV bY R
   .rw [R]at v;exact cY C v
   .exact bA R b_
 have ak:∀{t H Q},n[t]?=D H->eE G m s H Q->eE G m h H Q:=λ{t H Q}L u=>by
  rcases u with⟨e,q⟩|⟨g,k,A,o,T,bx⟩
  .exact .inl ⟨e,q⟩
  .have aE:G.kindOf H≠D .local:=λq=>by rw [q]at g;rcases g with g|⟨g,_⟩<;>exact nc nG (bj g) C
   exact .inr ⟨g,k,A,o,B k (λq=>(F k q).2.2.2 t H L aE A) (λq=>(S.tab k q).2.2.2.1 t H L aE A) (S.cell t H k L aE A).1 o T,bx⟩
 have cH:∀{t H},n[t]?=D H->∃E,z[t]?=D E:=λ{t H}L=>by
  have:t<U z:=by simp only [S.len];exact(cG.mp L).1
  exact⟨_,dD this⟩
 refine{S with len:=by simp [S.len],base:=a_,kept:=λb o e=>B b (bf e) (S.i_ e) (aN e) o (S.kept b o e),bJ:=bU,lock:=λbH cg H L=>ak L (S.lock bH cg H L),ns:=bP,nL:=⟨S.nL.1,?_⟩,vars:=λt H cu L d=>?_,cell:=λt H aX L aF ao=>?_,fp:=λt O b f=>?_,inv:=bR,tab:=λaq aK=>?_,dJ:=λb f=>?_,new:=λb o e=>?_,apart:=λa b u f w k y=>?_}
 .exact jz S.ns λo aP aP T aP=>x _ S.nL.2 (cW T) λq=>(F _ q).2.2.1 C
 .by_cases p:t=i
  .subst p;obtain rfl:=bj (aC▸L);have O:=by
    have:=(cG.mp d).1;simpa using this
   obtain rfl:=bj ((jt O)▸d);simp only [show bV r t fp t=fp from aM C];exact⟨Q,ak aC bC,bE⟩
  .have d:=(lJ (iC p))▸d;obtain⟨cA,u,aH⟩:=S.vars t H cu L d;have O:=(cG.mp L).1;exact(show bV r i fp t=r t from aJ ‹_›)▸(⟨cA,ak L u,aH.mono cB a_ λb f o e=>B b (S.apart t i O ah p b f) (λq=>(S.tab b q).2.2.2.2 t O f) (S.fp t O b f).2.2.1 o e⟩)
 .have:=S.cell t H aX L aF ao;refine⟨this.1,x _ this.2 (bG (cH L) λE d=>?_) λq=>(F aX q).2.2.2 t H L aF ao⟩;obtain⟨Q,u,_⟩:=S.vars t H E L d;rcases u with⟨e,_⟩|⟨_,k,cF,cZ,cL,_⟩
  .exact bA e aF
  .obtain rfl:=bj (ao▸cF);exact cW cL
 .by_cases p:t=i
  .subst p;rw [show bV r t fp t=fp from aM C]at f;refine bT (P b f) λq bl=>?_;rcases q with q|q
   .have:=F b q;exact(dI this.1 bl this.2.2)
   .exact(k8 q.hb bl q.loc q.cell)
  .rw [show bV r i fp t=r t from aJ ‹_›]at f;have:=S.fp t O b f;have cQ:t<U z:=by simp only [S.len];exact O
   obtain⟨Q,_,aH⟩:=S.vars t _ _ (dD O) (dD cQ);exact(dI this.1 (x _ this.2.1 (aH.live b f) (S.apart t i O ah p b f)) this.2.2)
 .have:=S.tab aq aK;refine(k9 this.1 (x _ this.2.1 (X.live S.inv aq aK) (this.2.2.2.2 i ah)) this.2.2.1 this.2.2.2.1 (λt O f=>?_))
  by_cases p:t=i
  .subst p;rw [show bV r t fp t=fp from aM C]at f;rcases(P aq f).1 with q|q
   .exact this.2.2.2.2 t O q
   .exact q.tab aK
  .have f:=(show bV r i fp t=r t from aJ ‹_›)▸f;exact this.2.2.2.2 t O f
 .have:=S.dJ b f;exact(dI this.1 (x _ this.2.1 (bG (gG.mp this.1) λo T=>(cW (S.kept b o T))) (λq=>by rw [(F b q).1]at this;exact cY C this.1)) this.2.2)
 .rcases bh b o e with q|q|q
  .exact S.new b o q
  .exact .inr (S.fresh q).1
  .exact .inr (F b q).1
 .by_cases aL:a=i<;>by_cases aj:b=i
  .exact bA (ae aL aj.symm) w
  .subst aL;have y:=(show bV r a fp a=fp from aM C)▸y;refine(show bV r a fp b=r b from aJ ‹_›)▸?_;rcases(P k y).1 with q|q
   .exact S.apart a b u f w k q
   .exact q.fp b f
  .subst aj;rw [show bV r b fp a=r a from aJ ‹_›]at y;rw [show bV r b fp b=fp from aM C];intro q;rcases(P k q).1 with q|q
   .exact S.apart a b u f w k y q
   .exact q.fp a u y
  .have y:=(show bV r i fp a=r a from by simp [bV,aL])▸y;exact(show bV r i fp b=r b from by simp [bV,aj])▸(S.apart a b u f w k y)
theorem aW.wY(S:aW X F hB g G n k y m r h){fp:I au}(e:n[i]?=D x)
  (B:∀b,b∉r i->b∉X.tabs->∀o,h.get? b=D o->O.get? b=D o)(a:X.inv j O)(s:Le g j)(l:Le j O.get?)(z:∀b o,j b=D o->g b=D o\/h.get? b=aa\/b∈r i)
  (t:eE G m h x Q)(d:Holds X F j O av Q fp)(A:∀b∈fp,(b∈r i\/e9 X hB g G n r b)/\j b=aa):
  aW X F hB j G n k (y.set i av) m (bV r i fp) O:=
 S.wZ e (λb f v E=>B b f v) (jz S.ns λo u L T p=>(l0 o u L (B _ (λq=>(S.fp i (cG.mp e).1 _ q).2.2.1 C) (λq=>(S.tab _ q).2.2.1 C) o T) p)) a s l z t d A
theorem aW.qw(S:aW X F hB g G n k y m r h){fp:I au}(e:n[i]?=D t)
  (B:∀b,b∉r i->b∉X.tabs->∀o,h.get? b=D o->O.get? b=D o)(a:X.inv j O)(x:Le g j)(s:Le j O.get?)(z:∀b o,j b=D o->g b=D o\/h.get? b=aa\/b∈r i)
  (l:eE G m h t Q)(d:Holds X F j O E Q fp)(A:∀b∈fp,(b∈r i\/h.get? b=aa)/\j b=aa):
  aW X F hB j G n k (y.set i E) m (bV r i fp) O:=S.wY e B a x s z l d λb f=>⟨(A b f).1.imp id S.free,(A b f).2⟩
section
variable{B:bD O}
def DH(B:bD O)(m:cy)(w:bZ)(u:J)(h:aB)(o:O)(e:I T)(r:T)(X:O):Prop:=
 ∀(L:c3)(F:Mk)(g:Fz)(y:aB)(z:I aB)(i:pT->aU->Prop)(s:aU)(R:I au),dW L u->Ready B g s->B.ob.at_ o y s.heap R->(∀b∈R,g b=aa/\B.h₀.get? b=aa/\b∉B.tabs)->bu F g z e->
  (∀t j v c,bQ s t->Le g j->(∀b,b∉R->b∉B.tabs->∀x,s.heap.get? b=D x->t.heap.get? b=D x)->B.inv j t.heap->Le j t.heap.get?->(∀b x,j b=D x->g b=D x\/s.heap.get? b=aa\/b∈R)->
   B.ob.at_ X y t.heap c->(∀b∈c,(b∈R\/s.heap.get? b=aa)/\j b=aa)->Den F j v r->i (.ok (.ret v)) t)->codeAny (aI m w) L (.call h ⟨y::z,[]⟩) i s
noncomputable def l5(o:O)(n:I af)(p:I T):I (AV O):=.obj o::p.map .t++nE (n.length-(p.length+1)) .un
theorem acG{s O:aU}(Q:oN S.scope h)(bx:S.globals=jX)(f:S.builtins=builtinsNs)(r:Ready B g s)(T:B.ob.at_ o y s.heap fp)(H:∀b∈fp,g b=aa/\B.h₀.get? b=aa/\b∉B.tabs)
  (bC:bu aP g z L)(aK:U L+1<=U h)
  (G:InCallC s (di S s.heap.objs.size a).locals (bindL (di S s.heap.objs.size a).kindOf (e0 h (y::z)) λE=>aa) (di S s.heap.objs.size a).cells (bindC (di S s.heap.objs.size a).kindOf (e0 h (y::z)) λE=>aa) O):
  SR B aP ⟨λb=>if b∈B.tabs\/b∈fp then aa else s.heap.get? b,[],g,[]⟩ g (di S s.heap.objs.size a) h (U h) (l5 o h L) O.heap:=by
 have X:=G.toInCall.keep;have m:=λn c l=>G.above n c (mem_of_lookup l);have ao:∀c,s.heap.objs.size<=c->s.heap.get? c=aa:=λc l=>by
  cases q:s.heap.get? c with
  |none=>rfl
  |some o=>exact bA (fk q) (h9.mpr l)
 have ak:∀c,s.heap.objs.size<=c->g c=aa:=λc l=>by
  cases q:g c with
  |none=>rfl
  |some o=>have:=r.bJ c o q;exact aV (ao c l) this
 have aq:=λP t=>bG (gG.mp (B.live r.inv P t)) λo T=>fk T;have aj:=λb f=>bG (gG.mp (B.ob.live T b f)) λo T=>fk T;have aC:((e0 h (y::z)).map (·.1)).Nodup:=by
  have:(e0 h (y::z)).map (·.1)=h.take (U (y::z)):=by
   delta e0;rw [xg]
  simp only [this];exact Q.nodup.sublist (af6 _ _)
 refine⟨⟨Q.kind,bx,f⟩,(bindL (di S s.heap.objs.size a).kindOf _ λE=>aa),λi=>if i=0 then fp else [],({
  len:=by delta l5;simp;exact fS (cT 0 (.a (.a (.v 0) (.v 2)) (.n 1)) (.v 1) (.a (.v 2) (.a (.v 0) (.n 1))) (.v 1) C [_,_,_] ((lq aK))) (cT 0 (.v 1) (.a (.a (.v 0) (.v 2)) (.n 1)) (.v 1) (.a (.v 2) (.a (.v 0) (.n 1))) C [_,_,_] m6)
  base:=λb o e=>X b o (r.base b o e)
  kept:=λb o e=>?_
  bJ:=λb o e=>X b o (r.bJ b o e)
  ns:=G.toInCall.ns
  nL:=⟨?_,ak _ (dz _)⟩
  f_:=λb o e=>?_
  vars:=λi x bY j d=>?_
  own:=λi x c A j F l=>?_
  jw:=λi x c A j E E=>bA (cG.mp j).1 (h9.mpr A)
  cell:=λi x c j F l=>⟨vy (m x c l),ak c (e7 (m x c l))⟩
  qM:=λi x A j=>bA (cG.mp j).1 (h9.mpr A)
  inj:=λi u x bU c j bz E E bH aL=>?_
  nodup:=λi u x A aN=>qn Q.nodup A aN
  fp:=λi E b f=>?_
  inv:=bD.ir r.inv λP E o e=>X P o e
  tab:=λP t=>(k9 (by simp [t]) (r.nk P t) (fH (aq P t)) (λu x j F l=>bA (m x P l) (h9.mpr (e7 (aq P t)))) (λi E w=>?_))
  apart:=λi u E E aT b f aE=>?_
  dJ:=λb f=>bA (f) dR
  new:=λb o e=>.inl e
  lock:=λbR bf=>bA bf dR})⟩
 .dsimp only at e
  split at e
  .exact aV C e
  .exact X b o e
 .show(if s.heap.objs.size∈B.tabs\/s.heap.objs.size∈fp then aa else s.heap.get? s.heap.objs.size)=aa
  split<;>first|rfl|exact(gS s)
 .have bh:b∉B.tabs:=λq=>aV (r.i_ b q) e;have bl:b∉fp:=λq=>aV ((H b q).2.1) e;simp [bh,bl,r.base b o e]
 .have A:=(cG.mp j).1;have k:(di S s.heap.objs.size a).kindOf x=D .local\/(di S s.heap.objs.size a).kindOf x=D .cell:=Q.names x (cN j);have aX:∃p,eE (di S s.heap.objs.size a) (bindL (di S s.heap.objs.size a).kindOf (e0 h (y::z)) λE=>aa) O.heap x p/\∀v,(x,v)∈e0 h (y::z)->p=D v:=by
   rcases k with k|k
   .exact(aR _ (.inl ⟨k,C⟩) (λv R=>JM _ _ _ x v aC R k))
   .exact bG (gG.mp (t6 S.scope.names (s.heap.objs.size+1) [] (.inl k))) λc l=>(aR _ (.inr ⟨.inl k,c,l,G.cell x c l⟩) (λv R=>JL _ _ _ x v aC R k))
  refine ai aX λp bE aF=>⟨p,bE,?_⟩;cases i with
  |zero=>
   obtain rfl:=bj d;have:(e0 h (y::z))[0]?=D (x,y):=by
    unfold e0;rw [IB];exact⟨j,C⟩
   exact⟨y,aF y (cN this),(B.frame T (λb o e=>X b o (r.base b o e)) λb E o e=>X b o e)⟩
  |succ i=>
   rw [aJ (Du i)];have d:=by simpa [l5]using d
   by_cases ah:i<U L
   .rw [nC (by simpa using ah)]at d;have aH:=dD ah;simp only [jr,aH,Dw]at d;obtain rfl:=bj d;refine ai (bC.get aH) λv bP a_=>⟨C,v,aF v ?_,a_⟩;have:(e0 h (y::z))[i+1]?=D (x,v):=by
     unfold e0;rw [IB];exact⟨j,bP⟩
    exact cN this
   .rw [kR (by simpa using ah)]at d;have:=by
     rw [Rz]at d
     split at d
     .exact(bj d).symm
     .exact aV C d
    subst this
    rfl
 .show(if c∈B.tabs\/c∈fp then aa else s.heap.get? c)=aa
  split<;>first|rfl|exact ao c (e7 (m x c l))
 .have:=Sn G.apart (mem_of_lookup bH) (mem_of_lookup aL);subst this;exact qn Q.nodup j bz
 .by_cases A:i=0
  .have f:=(aM A)▸f;refine(k8 (by simp [f]) ((H b f).1) (fH (aj b f)) (λu x j F l=>bA (m x b l) (h9.mpr (e7 (aj b f)))))
  .rw [aJ A]at f;exact nomatch f
 .by_cases A:i=0
  .rw [aM A]at w;exact(H P w).2.2 t
  .rw [aJ A]at w;exact nomatch w
 .by_cases A:i=0
  .rw [aJ (λq=>aT (ae A q.symm))]at aE;exact nomatch aE
  .rw [aJ A]at f;exact nomatch f
theorem KU(ao:fe B X cV)(cL:dW A v){L x:af}(a_:V.kindOf L=D .globalImplicit)(bz:X L=D (.ref a))(bC:(L==("__debug__"))=ay)
  (bH:∀{h},bF B.h₀ h->h.get? a=D u)(z:u.data=.func fd)(j:xs[i]?=D x)(G:(x==("__debug__"))=ay)(ak:lv[i]?=D (.obj o))(aF:∀e∈es,∀x p,e≠.Starred x p)
  (h:kA B n s A ρ V xs bP lv b_ es P tn)(d:P[i]?=D (.obj o))(hc:DH B n s v (.ref a) o tn τ o')(XQ:∀{y h R g O c},B.ob.at_ o y h R->B.ob.at_ o g O c->g=y):
  cP B n s A ρ V xs bP lv (.Call (.Name L p) (.Name x px::es) [] b_) (P.set i (.obj o')) τ:=by
 intro hB fz Q cQ ej S ah;have aj:∀e∈(zN x px::es),∀x p,e≠.Starred x p:=λe m x p q=>by
  rcases cD.mp m with rfl|m
  .contradiction
  .exact aF e m x p q
 refine ku (nW ao S.1 S.ready.base a_ bz bC (xU (fd:=fd) (o:=u) ((mS (aj _ gC))▸(tH (pS (cps λdO aq=>?_))))));obtain⟨w,aC,aE,l⟩:=S;obtain⟨dK,aH,y,rfl,aK⟩:=l.vars i x _ j ak;refine aq (eO (eL w l.ns aH (h hB fz Q _ _ ⟨w,aC,aE,l⟩ λaL aN aP aT aX E bf=>⟨⟨bH E.ready.base,z⟩,?_⟩)) G);refine cps λd8 T=>?_;obtain⟨w,bl,cZ,E⟩:=E;obtain⟨dB,bx,r,rfl,t⟩:=E.vars i x _ j d;have bE:=XQ aK t;subst bE;have hi:=(cG.mp j).1;apply T;refine i4 (hc A ρ aN r aP _ aL _ cL E.ready t (λb f=>?_) bf λbR bU bh c q k cg cu cA bY cF cB cH=>?_)
 .have F:=E.fp i hi b f;refine(dI F.2.1 ?_ (λq=>(E.tab b q).2.2.2.2 i hi f));cases e:B.h₀.get? b with
  |none=>rfl
  |some H=>simp only [E.f_ b H e]at F;exact aV C F.1.symm
 .exact ah bR bU bh (aT.trans q) (aX.trans k) ⟨w,bl,_,E.qw j cg cu k cA bY bx ⟨r,C,cF⟩ cB⟩ cH
end
open PySem.W
section
set_option backward.match.sparseCases true
variable{g:cf}
noncomputable def bD.up(X:bD q)(g:cf)(B:bF X.h₀ g):bD q:={X with h₀:=g,base:=λk=>X.base (B.trans k),frame:=λa k L=>X.frame a (B.trans k) L}
theorem fe.up(G:fe X O A)(B:bF X.h₀ g):fe (X.up g B) O A:=⟨λk=>G.g (B.trans k),λk=>G.b (B.trans k),λk=>G.nolimit (B.trans k)⟩
theorem pV.up(e:pV X O L i)(B:bF X.h₀ g):pV (X.up g B) O L i:=
 e.imp λE=>Ie λE=>Ie λE=>Ie λE=>Ie λE h=>(k8 h.1 (λk=>h.2.1 (B.trans k)) h.2.2.1 (λk=>h.2.2.2 (B.trans k)))
theorem SR.up(S:SR X F hB e G n k y h)(B:bF X.h₀ g)(L:bF g h)(f:∀b o,g.get? b=D o->hB.b b=D o)(A:hB.it=[]):SR (X.up g B) F hB e G n k y h:=by
 obtain⟨w,m,r,S⟩:=S;refine⟨w,m,r,{len:=S.len,base:=L,kept:=S.kept,bJ:=S.bJ,ns:=S.ns,nL:=S.nL,f_:=f,vars:=λi x E j d=>?_,own:=S.own,jw:=S.jw,cell:=S.cell,qM:=S.qM,inj:=S.inj,nodup:=S.nodup,fp:=S.fp,inv:=S.inv,tab:=S.tab,dJ:=λb f=>(by rw [A]at f;exact bA (f) dR),new:=S.new,lock:=S.lock,apart:=S.apart}⟩;obtain⟨Q,u,a⟩:=S.vars i x E j d;refine⟨Q,u,?_⟩;cases E<;>exact a
noncomputable def rest(h:cf)(l:I au):cf:=hideAll h l
theorem Cs(e:(rest h l).get? b=D o):h.get? b=D o/\b∉l:=
 ⟨of_hideAll l e,λq=>by simp only [rest,tI l q]at e;exact aV C e⟩
theorem uT(l:I au):bF (rest h l) h:=λb o e=>(Cs e).1
theorem nZ(e:h.get? b=D o)(q:b∉l):(rest h l).get? b=D o:=hideAll_get l e q
def Binds(X:bD q)(m:cy)(w:bZ)(S:rR)(n:I af)(h p:I T):Prop:=
 ∀(L:c3)(F:Mk)(y:aB)(z:I aB)(g:Fz)(s:aU)(Q:I (af×aB)->aU->Prop)(H:aB->aU->Prop),L.handled=aa->Ready X g s->bu F g z h->
  (∀t j o,cj X g s j t->bu F j o p->bF s.heap t.heap->Q (e0 n (y::o)) t)->aQ (aI m w) L (bindArgs S ⟨y::z,[]⟩) Q H s
theorem Binds.plain(d:∀z,U z=args.length+1->bindArgs S ⟨z,[]⟩=pure (e0 n z)):Binds X m w S n args args:=by
 intro L F y z g s Q H B O b R;exact(d (y::z) (by simp [b.length])).symm▸(bN (R s g z (cj.refl O) b (bF.refl _)))
theorem JS(cB:fe X eN ej){aC:bM}(aP:∀{a},bF X.h₀ a->a.get? i=D aC)(dO:aC.data=.func S)(a_:∀{a},bF X.h₀ a->a.CodeRec S.code S.qualname)
  (bx:S.body=.stmts bU)(bY:S.closure=[])(Q:oN S.scope n)(cF:S.globals=jX)(f:S.builtins=builtinsNs)(aN:R.length+1<=U n)(aX:Binds X m w S n bE R)
  {s:aU}{fp:I au}(aj:dW L (eu+1))(O:Ready X k s)(aE:X.ob.at_ o y s.heap fp)(ah:∀b∈fp,k b=aa/\X.h₀.get? b=aa/\b∉X.tabs)(bl:bu F k ao bE)
  (bH:∀(B:bF X.h₀ (rest s.heap (X.tabs++fp)))H c v,bQ s c->Le k v->(∀b x,v b=D x->k b=D x\/s.heap.get? b=aa)->SR (X.up _ B) F ⟨(rest s.heap (X.tabs++fp)).get?,[],v,[]⟩ v (di S H i) n (U n) (l5 o n R) c.heap->(s.heap.get? H=aa)->
   aQ (aI m w) (L.deeper (di S H i)) (execs bU (di S H i)) (λcH p=>t (.ok (.ret (match cH with|.ret dK=>dK|_=>.none))) p)
    (λe p=>aQ (aI m w) (L.deeper (di S H i)) (leaving (di S H i) e) (λE d=>t (.error e) d) (λaT d=>t (.error aT) d) p) c):
  codeAny (aI m w) L (.call (.ref i) ⟨y::ao,[]⟩) t s:=by
 refine agK aj.d (aP O.base) dO Q.co Q.gen bx (a_ O.base) (aX L.in1 F y ao k s _ _ aj.handled O bl λz u bf g bh r=>?_);have T:=g.ready O;refine bY▸(wpAny_newFunctionEnv_cells Q.kind ?_ λd8 bC c G=>?_)
 .intro x j;have bP:=by
   have:x.1∈(e0 n (y::bf)).map (·.1):=fM j;unfold e0 at this;rw [xg]at this;exact Dk this
  rcases Q.names _ bP with a|a
  .exact .inl a
  .exact .inr ⟨a,t6 S.scope.names _ [] (.inl a)⟩
 .subst bC;refine⟨(cB.nolimit T.base).keeps G.toInCall.keep,codeAny_func ?_⟩;have bR:∀b∈fp,u b=aa/\X.h₀.get? b=aa/\b∉X.tabs:=λb f=>by
   have:=ah b f;refine⟨?_,this.2⟩;cases e:u b with
   |none=>rfl
   |some x=>
    rcases g.new b x e with q|q
    .exact aV this.1 q
    .have ak:=X.ob.live aE b f;rw [q]at ak;exact cY C ak
  have h:=acG Q cF f T (X.frame aE T.base λb E x e=>r b x e) bR bh aN G;have cg:∀{b o},X.h₀.get? b=D o->b∉X.tabs++fp:=λ{b o}e q=>by
   rcases fE.mp q with q|q
   .exact aV (O.i_ b q) e
   .exact aV ((ah b q).2.1) e
  have B:bF X.h₀ (rest s.heap (X.tabs++fp)):=λb o e=>nZ (O.base b o e) (cg e);have aq:=r.trans G.toInCall.keep;have cA:∀b,z.heap.objs.size<=b->s.heap.get? b=aa:=λb f=>by
   cases q:s.heap.get? b with
   |none=>rfl
   |some o=>exact bA (fk (r _ _ q)) (h9.mpr f)
  refine bH B z.heap.objs.size c u (g.same.trans (d5 G.done λez eG bz E=>(bQ.of bz))) g.le g.new ?_ (cA _ (dz _));have cL:SR X F ⟨(rest s.heap (X.tabs++fp)).get?,[],u,[]⟩ u (di S z.heap.objs.size i) n (U n) (l5 o n R) c.heap:=by
   obtain⟨cQ,cV,b_,h⟩:=h;have sub:∀{b},(if b∈X.tabs\/b∈fp then aa else z.heap.get? b)=aa->(rest s.heap (X.tabs++fp)).get? b=aa:=λ{b}e=>by
    cases q:(rest s.heap (X.tabs++fp)).get? b with
    |none=>rfl
    |some o=>
     refine bT (Cs q) λcu P=>?_;have:=r _ _ cu;simp only [fE,not_or]at P;simp [P.1,P.2,this]at e
   refine⟨cQ,cV,b_,{h with kept:=λb x e=>aq b x (Cs e).1,nL:=⟨sub h.nL.1,h.nL.2⟩,f_:=λb x e=>B b x e,own:=λl x aF A j dB cZ=>sub (h.own l x aF A j dB cZ),jw:=λl x aF A j E E=>bA ((λl x j=>(cG.mp j).1) l x j) (h9.mpr A),fp:=λl A b f=>⟨sub (h.fp l A b f).1,(h.fp l A b f).2⟩,tab:=λaH aK=>⟨sub (h.tab aH aK).1,(h.tab aH aK).2⟩,dJ:=λb f=>(by cases f),new:=λb x e=>.inl e,lock:=λeR aL=>(by cases aL)}⟩
  exact cL.up B (λb x e=>aq b x (Cs e).1) (λb x e=>e) C
end
section
variable{B:bD O}{Z:cy}{w:bZ}{A:c3}{ρ:Mk}{V:c4}{xs:I af}{k:J}{lv aY:I (AV O)}
def vR(A:fP)(r:T):Prop:=A=.ret r\/(A=.next/\r=.none)
structure jZ(B:bD O)(a:au)(ob:bM)(fd:rR)(body:I cz)(xs:I af):Prop where
 ho:∀{h},bF B.h₀ h->h.get? a=D ob
 hd:ob.data=.func fd
 yx:∀{h},bF B.h₀ h->h.CodeRec fd.code fd.qualname
 Bo:fd.body=.stmts body
 Bq:fd.closure=[]
 lX:oN fd.scope xs
 hg:fd.globals=jX
 hb:fd.builtins=builtinsNs
theorem jZ.up(h:jZ B a u S t xs)(e:bF B.h₀ f):jZ (B.up f e) a u S t xs:=
 ⟨λk=>h.ho (e.trans k),h.hd,λk=>h.yx (e.trans k),h.Bo,h.Bq,h.lX,h.hg,h.hb⟩
def e8(B:bD O)(Z:cy)(w:bZ)(u:J)(L:aB)(o:O)(h:I T)(n:O->T->Prop):Prop:=
 ∀(A:c3)(ρ:Mk)(g:Fz)(y:aB)(z:I aB)(i:pT->aU->Prop)(s:aU)(R:I au),dW A u->Ready B g s->B.ob.at_ o y s.heap R->(∀b∈R,g b=aa/\B.h₀.get? b=aa/\b∉B.tabs)->bu ρ g z h->
  (∀t j v c X r,n X r->bQ s t->Le g j->(∀b,b∉R->b∉B.tabs->∀x,s.heap.get? b=D x->t.heap.get? b=D x)->B.inv j t.heap->Le j t.heap.get?->(∀b x,j b=D x->g b=D x\/s.heap.get? b=aa\/b∈R)->
   B.ob.at_ X y t.heap c->(∀b∈c,(b∈R\/s.heap.get? b=aa)/\j b=aa)->Den ρ j v r->i (.ok (.ret v)) t)->codeAny (aI Z w) A (.call L ⟨y::z,[]⟩) i s
theorem e8.ob(h:e8 B Z w u L o args λm e=>m=X/\e=r):DH B Z w u L o args r X:=
 λA ρ g y z i s R a b c d x k=>h A ρ g y z i s R a b c d x λt j v l m e p=>by refine cps λn f=>?_;obtain⟨rfl,rfl⟩:=p;apply f;exact k t j v l
theorem e8.mono(h:e8 B Z w u L o args n)(p:∀X r,n X r->x X r):e8 B Z w u L o args x:=
 λA ρ g y z i s R a b c d e k=>h A ρ g y z i s R a b c d e λt j v l X r q=>k t j v l X r (p X r q)
def jY(B:bD O)(Z:cy)(w:bZ)(A:c3)(ρ:Mk)(V:c4)(xs:I af)(k:J)(lv:I (AV O))(st:I cz)(b:I (AV O)->fP->Prop):Prop:=
 ∀(T:HB)(g:Fz)(s:aU)(Q:Flow->aU->Prop)(H:aB->aU->Prop),T.lk=[]->SR B ρ T g V xs k lv s.heap->
  (∀t j L x h,b x h->bQ s t->Le g j->SR B ρ T j V xs k x t.heap->FD ρ j L h->Q L t)->aQ (aI Z w) A (execs st V) Q H s
def As(B:bD O)(Z:cy)(w:bZ)(A:c3)(ρ:Mk)(V:c4)(xs:I af)(k:J)(lv:I (AV O))(st:cz)(b:I (AV O)->fP->Prop):Prop:=
 ∀(T:HB)(g:Fz)(s:aU)(Q:Flow->aU->Prop)(H:aB->aU->Prop),T.lk=[]->SR B ρ T g V xs k lv s.heap->
  (∀t j L x h,b x h->bQ s t->Le g j->SR B ρ T j V xs k x t.heap->FD ρ j L h->Q L t)->aQ (aI Z w) A (exec st V) Q H s
section
variable{st:cz}{rest:I cz}{Φ:I (AV O)->fP->Prop}
theorem eX.p{st:I cz}(h:eX B Z w A ρ V xs k lv st aY fl)(p:Φ aY fl):jY B Z w A ρ V xs k lv st Φ:=λT g s Q H a b c=>h T g s Q H a b λt j L=>c t j L _ _ p
theorem ic.p(h:ic B Z w A ρ V xs k lv u aY fl)(p:Φ aY fl):As B Z w A ρ V xs k lv u Φ:=λT g s Q H a b c=>h T g s Q H a b λt j L=>c t j L _ _ p
theorem zA(i:As B Z w A ρ V xs k lv u Ψ)(v:∀aY h,Ψ aY h->h=.next/\jY B Z w A ρ V xs k aY rest Φ\/h≠.next/\Φ aY h):jY B Z w A ρ V xs k lv (u::rest) Φ:=by
 intro T g s Q H e S R;refine gN (i T g s _ _ e S λc a L aY h p q o E d=>?_);rcases v aY h p with⟨rfl,v⟩|⟨z,p⟩
 .obtain rfl:=d.nx;exact v T a c Q H e E λF r L X h p x b f d=>R F r L X h p (q.trans x) (o.trans b) f d
 .have y:=R c a L aY h p q o E d;cases L<;>first|exact bA C (d.ne z)|exact y
theorem C0(h:ic B Z w A ρ V xs k lv u aY .next)(v:jY B Z w A ρ V xs k aY rest Φ):jY B Z w A ρ V xs k lv (u::rest) Φ:=
 zA (Ψ:=λl L=>l=aY/\L=.next) (h.p ⟨C,C⟩) λl L p=>by obtain⟨rfl,rfl⟩:=p;exact .inl ⟨C,v⟩
theorem aee(p:Φ lv .next):jY B Z w A ρ V xs k lv [] Φ:=i7.p p
def Wk(B:bD O)(E c:AV O):Prop:=∀ρ g h Q R,Holds B ρ g h E Q R->Holds B ρ g h c Q R
def p7(B:bD O)(lv x:I (AV O)):Prop:=lv.length=x.length/\∀(i:J)(a b:AV O),lv[i]?=D a->x[i]?=D b->Wk B a b
theorem SR.wk(S:SR B ρ hB g V xs k lv h)(q:p7 B lv aY):SR B ρ hB g V xs k aY h:=by
 obtain⟨w,m,r,S⟩:=S;refine⟨w,m,r,{S with len:=q.1▸S.len,vars:=λi x E j d=>?_}⟩;have A:=by exact(q.1)▸((cG.mp d).1)
 obtain⟨Q,u,e⟩:=S.vars i x _ j (dD A);exact⟨Q,u,q.2 i _ _ (dD A) d _ _ _ _ _ e⟩
theorem jY.x{st:I cz}(h:jY B Z w A ρ V xs k lv st Φ)(p:∀x R,Φ x R->p7 B x aY/\R=e):eX B Z w A ρ V xs k lv st aY e:=
 λT g s Q H a b c=>h T g s Q H a b λt i L x R q l n S d=>by refine bT (p x R q) λw j=>?_;subst j;exact c t i L l n (S.wk w) d
theorem jY.wk{st:I cz}(h:jY B Z w A ρ V xs k lv st Φ)(p:∀x R,Φ x R->∃aY,p7 B x aY/\i aY R):jY B Z w A ρ V xs k lv st i:=
 λT g s Q H a b c=>h T g s Q H a b λt j L x R q e l S d=>ai (p x R q) λaY w q=>c t j L aY R q e l (S.wk w) d
end
def Ak(h:c3->Prop)(B:bD O)(Z:cy)(w:bZ)(u:J)(L:aB)(o:O)(e:I T)(n:O->T->Prop):Prop:=
 ∀(A:c3)(ρ:Mk)(g:Fz)(y:aB)(z:I aB)(i:pT->aU->Prop)(s:aU)(R:I au),h A->dW A u->Ready B g s->B.ob.at_ o y s.heap R->(∀b∈R,g b=aa/\B.h₀.get? b=aa/\b∉B.tabs)->bu ρ g z e->
  (∀t j v c X r,n X r->bQ s t->Le g j->(∀b,b∉R->b∉B.tabs->∀x,s.heap.get? b=D x->t.heap.get? b=D x)->B.inv j t.heap->Le j t.heap.get?->(∀b x,j b=D x->g b=D x\/s.heap.get? b=aa\/b∈R)->
   B.ob.at_ X y t.heap c->(∀b∈c,(b∈R\/s.heap.get? b=aa)/\j b=aa)->Den ρ j v r->i (.ok (.ret v)) t)->codeAny (aI Z w) A (.call L ⟨y::z,[]⟩) i s
theorem zc(e:h.get? b=D o)(d:b∉l)(F:b∉H):(rest h (l++H)).get? b=D o:=nZ e λq=>(fE.mp q).elim d F
inductive I9(B:bD O)(fz f':Fz)(h h':cf)(fp WT:I au)(L:au)(u:aB)(Az:O->Prop):Prop
 |mk(o':O)(EV:I au)(PP:Az o')(kp:∀b,b∉WT->b∉B.tabs->∀x,h.get? b=D x->h'.get? b=D x)(nw:∀b x,f' b=D x->fz b=D x\/h.get? b=aa\/b∈fp)(v7:B.ob.at_ o' u h' EV)
  (fr:∀b∈EV,(b∈fp\/h.get? b=aa)/\f' b=aa)(in1:∀b∈EV,b≠L/\b∉B.tabs)(nL:f' L=aa)(nT:∀b∈B.tabs,f' b=aa)(m:af->bg aB)(ns:h'.Ns L m)
theorem Oo{ρ:Mk}{v u:Fz}{V:c4}{r:J->I au}{o:O->Prop}(s:B.ob.at_ aL y h R)(aK:B.ob.at_ aH y h L)(sub:∀b∈L,b∈R)(E:∀b∈R,g b=aa/\b∉B.tabs)
  (P:∀b x,v b=D x->g b=D x\/h.get? b=aa)(p:h.get? V.locals=aa)(A:aW (B.up aq aE) ρ ⟨(rest h (B.tabs++L)).get?,[],v,[]⟩ u V xs k aF ah r a)(T:0<U xs)(aP:B.ob.at_ aC y a (r 0))
  (aj:(∀b∈R,b∉L->∀x,h.get? b=D x->a.get? b=D x)->(∀b∈r 0,b∈L\/h.get? b=aa)->∃X c,o X/\B.ob.at_ X y a c/\∀b∈c,b∈r 0\/b∈R/\b∉L):I9 B g u h a R L V.locals y o:=by
 have F:=A.fp 0 T;have l:∀b∈r 0,b∉B.tabs:=λb f q=>(A.tab b q).2.2.2.2 0 T f;have t:=λb f=>(vh _).imp id λi=>iV λx e=>aV (F b f).1 (zc e (l b f) i);have Q:=λb d m x e=>A.kept b x (zc e m d);refine e5 (aj (λb f z x e=>Q b z (E b f).2 x e) t) λX c w S j=>?_;have n:=λb x e=>(A.new b x e).imp (P b x) λq=>(vh _).imp id λi=>iV λH ak=>aV q (zc ak (λao=>aV (A.tab b ao).2.1 e) i);refine⟨X,c,w,Q,λb x e=>(n b x e).elim (λq=>q.imp id .inl) λq=>.inr (q.symm.imp id (sub b)),S,λb f=>?_,λb f=>?_,A.nL.2,λb f=>(A.tab b f).2.1,ah,A.ns⟩
 .refine(j b f).elim (λf=>⟨(t b f).imp (sub b) id,(F b f).2.1⟩) λG=>bT G λf z=>⟨.inl f,iV λH e=>?_⟩;have lv:=B.ob.live s b f;exact(n b H e).elim (λq=>q.elim (aV (E b f).1) λq=>cY (aA mC q) lv) λq=>q.elim z λq=>cY (aA mC q) lv
 .exact(j b f).elim (λf=>⟨(F b f).2.2.1,l b f⟩) λG=>bT G λf aN=>⟨λq=>cY (aA mC p) (q▸B.ob.live s b f),(E b f).2⟩
theorem El(aK:fe B eR eu){o:O}{aq g:O->T->Prop}(k:jZ B a eN S bY xs)(aC:aH.length+1<=U xs)(aT:Binds B Z w S xs aX aH)
  (bl:∀{y h R},B.ob.at_ o y h R->∃L,B.ob.at_ m y h L/\∀b∈L,b∈R)(bh:∀{y h R G s c i r},g i r->B.ob.at_ m y h R->B.ob.at_ i G s c->G=y)
  (aN:∀{y h R L t}(u:bF B.h₀ t),B.ob.at_ o y h R->B.ob.at_ m y h L->(∀b x,h.get? b=D x->b∉B.tabs->b∉L->t.get? b=D x)->(∀b∈R,b∉B.tabs)->∀H A ρ,PA A->dW A (n+1)->
   jY (B.up t u) Z w (A.deeper (di S H a)) ρ (di S H a) xs (U xs) (l5 m xs aH) bY λak aF=>∃i r,ak[0]?=D (.obj i)/\vR aF r/\g i r)
  (b_:∀{y h R L s q i r},g i r->B.ob.at_ o y h R->B.ob.at_ m y h L->B.ob.at_ i y s q->(∀b∈R,b∉L->∀x,h.get? b=D x->s.get? b=D x)->(∀b∈q,b∈L\/h.get? b=aa)->∃X c,aq X r/\B.ob.at_ X y s c/\∀b∈c,b∈q\/b∈R/\b∉L):
  Ak PA B Z w (n+1) (.ref a) o aX aq:=by
 intro A ρ ez y eG dO ej R aL ao aP j E a_ bf;refine ai (bl j) λL l sub=>?_;refine JS aK k.ho k.hd k.yx k.Bo k.Bq k.lX k.hg k.hb aC aT ao aP l (λb f=>E b (sub b f)) a_ λu H bx bz bC bE bH bP bR=>aN u j l (λb x p z F=>nZ p (by simp [z,F])) (λb f=>(E b f).2.2) H A ρ aL ao _ bz bx _ _ C bP λcg cA dB ak aF P Q cB e d=>?_;obtain⟨i,r,cF,bU,P⟩:=P;obtain⟨_,e6,dK,e⟩:=e;have aE:0<U xs:=cT 0 (.a (.n 0) (.n 1)) (.v 1) (.a (.v 0) (.n 1)) (.v 1) C [_,_] aC;obtain⟨d8,_,G,rfl,ah⟩:=e.vars 0 _ _ (dD aE) cF;have cH:=bh P l ah;subst cH;obtain⟨X,c,cu,cQ,cL,cV,cZ,_⟩:=Oo j l sub (λb f=>⟨(E b f).1,(E b f).2.2⟩) bH bR e aE ah (b_ P j l ah);have aj:=λv d=>bf cg cA v c X r cu (bC.trans Q) (bE.trans cB) (λb z F x p=>cQ b (λQ=>z (sub b Q)) F x p) e.inv e.bJ cL cV cZ d;rcases bU with rfl|⟨rfl,rfl⟩
 .obtain⟨v,rfl,d⟩:=d.rt;exact aj _ d
 .obtain rfl:=d.nx;exact aj _ .none
theorem JU(G:fe B aH aK){n oM:O->T->Prop}(t:jZ B l aL S u xs)(d:p.length+1<=U xs)(ao:Binds B Z w S xs j p)
  (E:∀{y h R},B.ob.at_ o y h R->∃L,B.ob.at_ o₁ y h L/\∀b∈L,b∈R)(m:∀{y h R g e c i r},oM i r->B.ob.at_ o₁ y h R->B.ob.at_ i g e c->g=y)
  (q:∀{y h R L f}(a:bF B.h₀ f),B.ob.at_ o y h R->B.ob.at_ o₁ y h L->(∀b x,h.get? b=D x->b∉B.tabs->b∉L->f.get? b=D x)->(∀b∈R,b∉B.tabs)->∀H A ρ,dW A z->
   jY (B.up f a) Z w A ρ (di S H l) xs (U xs) (l5 o₁ xs p) u λQ F=>∃i r,Q[0]?=D (.obj i)/\vR F r/\oM i r)
  (ah:∀{y h R L e P i r},oM i r->B.ob.at_ o y h R->B.ob.at_ o₁ y h L->B.ob.at_ i y e P->(∀b∈R,b∉L->∀x,h.get? b=D x->e.get? b=D x)->(∀b∈P,b∈L\/h.get? b=aa)->∃X c,n X r/\B.ob.at_ X y e c/\∀b∈c,b∈P\/b∈R/\b∉L):
  e8 B Z w (z+1) (.ref l) o j n:=λA ρ v y ak s aq R=>
 El (PA:=λaj=>True) G t d ao E m (λa aE aC aF k H A ρ aj s=>q a aE aC aF k H _ ρ s.deeper) ah A ρ v y ak s aq R dj
end
noncomputable abbrev ck(l:I J):af:=⟨l.toArray⟩
inductive iR:I aB->I (I J)->Prop
 |nil:iR [] []
 |cons{l:I J}{t:fT}{vs ls}:iR vs ls->iR (.str (ck l) t::vs) (l::ls)
theorem iR.qd{z:I aB}{s:I (I J)}(h:iR z s):bu ρ fz z (s.map .str):=iR.rec .nil (λE i=>.cons (.str _ _) i) h
theorem iR.of:∀{s:I (I J)}{z:I aB},bu F g z (s.map .str)->iR z s
 |[],_,d=>d.i9 (P:=λz=>iR z []) .nil
 |_::_,_,d=>d.jx (P:=λz=>iR z _) λE G a b=>a.iY (P:=λv=>iR (v::G) _) λE=>.cons (iR.of b)
theorem iR.append{s e:I (I J)}(h:iR z s)(k:iR G e):iR (z++G) (s++e):=iR.rec k (λE i=>.cons i) h
structure Nd where
 key:I J
 i:au
 id:au
 su:au
 np:aS
 succ:I (I J)
structure SG where
 self:au
 d:au
 aZ:au
 cX:bg au
 rl:I (I J)
 po:aS
 fi:aS
 bS:I Nd
structure Cl where
 K:Frag
 bq:au
 N:au
 fs:I (af×au)
 ni:au
 p0:au
 p1:au
 p2:au
theorem A4{u k:J}(e:dictOf Q u=dictOf m k):Q=m:=aA Q1 (Data.dict.inj (aA RX e)).1
noncomputable def rV:bg au->aB
 |D a=>.ref a
 |aa=>.none
inductive SY(aZ:au)(cX:bg au)(po fi:aS)(o:bM):Prop
 |mk(es:I DictEntry)(n:J)(tp tf:fT)(e:o=dictOf es n)(hl:es.length<=8)(h1:getL "_node2info" es=D (D (.ref aZ)))(h2:getL "_ready_nodes" es=D (D (rV cX)))(h3:getL "_npassedout" es=D (D (.int po tp)))(h4:getL "_nfinished" es=D (D (.int fi tf)))
  (h5:∀x,x≠("_node2info":af)->x≠("_ready_nodes":af)->x≠("_npassedout":af)->x≠("_nfinished":af)->getL x es=D aa)
def iH(G:SG):bM->Prop:=SY G.aZ G.cX G.po G.fi
def fQ(s:I (I J))(o:bM):Prop:=∃z u,o=lo z u/\iR z s
def qs(p:au)(Q:Nd)(o:bM):Prop:=∃A y,o=⟨.ref p,D Q.id,.plain,#[D (.str (ck Q.key) A),D (.int Q.np y),D (.ref Q.su)]⟩
def c_(G:SG):I (af×aB):=G.bS.map λQ=>(ck Q.key,.ref Q.i)
def j7(m:cy)(w:bZ)(G:SG)(o:bM):Prop:=∀(h:cf)(a:au),h.get? a=D o->h.DictOf (strKind m w) a (c_ G)
noncomputable def j2(p:au)(Q:Nd):I (au×(bM->Prop)):=[(Q.i,qs p Q),(Q.id,λE=>True)]
noncomputable def fX(d:au)(G:SG):I (au×(bM->Prop)):=(G.self,λo=>o=instObj d G.d)::(G.d,iH G)::(match G.cX with|D a=>[(a,fQ G.rl)]|aa=>[])
def gP(p:au)(G:SG):I (au×(bM->Prop)):=G.bS.flatMap (j2 p)
noncomputable def g5(m:cy)(w:bZ)(G:SG):I (au×(bM->Prop)):=(G.aZ,j7 m w G)::G.bS.map λQ=>(Q.su,fQ Q.succ)
def objs(m:cy)(w:bZ)(c:Cl):J->SG->I (au×(bM->Prop))
 |0,G=>fX c.bq G++gP c.N G++g5 m w G
 |1,G=>fX c.bq G++gP c.N G
 |_,G=>fX c.bq G
theorem nX{c:Cl}:objs m w c 0 G=fX c.bq G++gP c.N G++g5 m w G:=C
theorem Cg{c:Cl}:objs m w c 1 G=fX c.bq G++gP c.N G:=C
theorem N9{c:Cl}:objs m w c (u+2) G=fX c.bq G:=C
def rf(m:cy)(w:bZ)(c:Cl):J->SG->I (au×(bM->Prop))
 |0,_=>[]
 |1,G=>g5 m w G
 |_,G=>gP c.N G++g5 m w G
def r7(l:I (au×(bM->Prop)))(h:cf):Prop:=∀x∈l,∃o,h.get? x.1=D o/\x.2 o
theorem r7.keep(s:r7 l h)(k:∀b∈l.map (·.1),∀o,h.get? b=D o->O.get? b=D o):r7 l O:=λx j=>ai (s x j) λo T p=>(aR o (k _ (fM j) o T) p)
structure gp(l:I (au×(bM->Prop)))(h:cf)(fp:I au):Prop where
 dY:r7 l h
 ad:fp=l.map (·.1)
 nd:fp.Nodup
theorem gp.live(s:gp l h R):∀b∈R,(h.get? b).isSome=Y:=by
 intro b f;rw [s.ad]at f;refine ai (dZ.mp f) λx j d=>?_;subst d;refine ai (s.dY x j) λo T E=>?_;rw [T];rfl
theorem gp.keep{R:I au}(s:gp l h R)(k:∀b∈R,∀o,h.get? b=D o->O.get? b=D o):gp l O R:=
 ⟨s.dY.keep (by rw [<-s.ad];exact k),s.ad,s.nd⟩
theorem gp.set{h O:cf}(s:gp l h R)(B:gW a h O)(e:H.map (·.1)=l.map (·.1))(X:∀x∈H,(x∈l/\x.1≠a)\/(x.1=a/\∃o,O.get? a=D o/\x.2 o)):gp H O R:=
 ⟨λx j=>by
  rcases X x j with⟨q,u⟩|⟨q,o,T,p⟩
  .obtain⟨o,T,p⟩:=s.dY x q;exact(aR o (ae (B.2 _ u) T) p)
  .exact(aR o (ae (aA _ q) T) p),by rw [e];exact s.ad,s.nd⟩
theorem gp.sub{l o B:I (au×(bM->Prop))}(s:gp (o++B) h R):gp o h (o.map (·.1)):=
 ⟨λx j=>s.dY x (gj _ j),C,by have:=s.nd;rw [s.ad,eW]at this;exact(gk.mp this).1⟩
inductive Ob where
 |bB(st:au)(xs:I J)(k:J)
 |b9(p:J)(G:SG)
 |G6(p:J)(G:SG)
 |bL(self:au)(l:I (I J×aS×I (I J)))(cX:bg (I (I J)))(po fi:aS)
 |gQ(self d:au)(st:J)
 |jQ(st:J)(nd:Nd)
 |dJ(l:I (au×J))
 |we(l:I (au×J))
 |set(l:I (I J))
 |kZ(l:I (I J×aS))
def slotsOf(Q:Nd)(A y:fT):J->iO (bg aB)
 |0=>#[]
 |1=>#[D (.str (ck Q.key) A)]
 |2=>#[D (.str (ck Q.key) A),D (.int Q.np y)]
 |_=>#[D (.str (ck Q.key) A),D (.int Q.np y),D (.ref Q.su)]
def sO(p:au)(st:J)(Q:Nd)(o:bM):Prop:=∃A y,o=⟨.ref p,D Q.id,.plain,slotsOf Q A y st⟩
noncomputable def wu(p:au)(st:J)(Q:Nd):I (au×(bM->Prop)):=(Q.i,sO p st Q)::(Q.id,λE=>True)::(if st=3 then [(Q.su,fQ Q.succ)]else [])
noncomputable def SG.abs(G:SG):Ob:=.bL G.self (G.bS.map λQ=>(Q.key,Q.np,Q.succ)) (G.cX.map λE=>G.rl) G.po G.fi
noncomputable def j3:J->af
 |0=>"_node2info"
 |1=>"_ready_nodes"
 |2=>"_npassedout"
 |_=>"_nfinished"
noncomputable def Fv(k:au)(G c:fT):J->aB
 |0=>.ref k
 |1=>.none
 |2=>.int 0 G
 |_=>.int 0 c
noncomputable def oZ(k:au)(G c:fT):J->af->bg aB
 |0,_=>aa
 |u+1,x=>if x=j3 u then D (Fv k G c u)else oZ k G c u x
theorem Yd:oZ k G c 0 x=aa:=C
theorem Ft:oZ k G c (u+1) x=if x=j3 u then D (Fv k G c u)else oZ k G c u x:=C
def q7(k:au)(st:J)(o:bM):Prop:=∃Q u G c,o=dictOf Q u/\Q.length<=st/\∀x,getL x Q=D (oZ k G c st x)
noncomputable def LU(m:cy)(w:bZ)(h t d k:au)(st:J):I (au×(bM->Prop)):=
 (t,λo=>o=instObj h d)::(d,q7 k st)::(if st=0 then []else [(k,j7 m w ⟨t,d,k,aa,[],0,0,[]⟩)])
def uZ:bg cz:=fV 1 (dF (bB 21))
theorem qL(t:S.params=p)(P:S.defaults=d)(T:Args):bindArgs S T=bindArgs {S with params:=p,defaults:=d} T:=by subst t P;rfl
structure I_(fd:rR)(c1 c2 cc:au):Prop where
 params:fd.params=gw uZ
 body:fd.body=.stmts (dF uZ)
 scope:fd.scope=ef uZ
 nP:fd.closure=[(("octets":af),c2),(("at":af),c1)]
 W8:fd.globals=jX
 TV:fd.builtins=builtinsNs
 code:fd.code=.ref cc
 UU:fd.defaults=.none
 kdf:fd.kwdefaults=.none
inductive kC:I aB->I J->Prop
 |nil:kC [] []
 |cons{i:J}{t:fT}{vs xs}:kC vs xs->kC (.int (i:aS) t::vs) (i::xs)
def aa9(O:au)(o:bM):Prop:=∀(h:cf)(a:au),h.get? a=D o->h.Ns a λx=>if x="read"then D (.ref O)else aa
def wU(st d O y a g n p:au)(h:I J)(k:J):I (au×(bM->Prop)):=
 [(st,λo=>∃S L,o=⟨.type "function",D d,.func S,L⟩),(d,aa9 O),
  (O,λo=>∃S L,o=⟨.type "function",aa,.func S,L⟩/\I_ S y g p/\S.qualname="_law_stream.<locals>._law_read"),(y,λo=>o.data=.cell (D (.ref a))),(a,λo=>∃A u,o=lo [.int (k:aS) A] u),(g,λo=>o.data=.cell (D (.ref n))),
  (n,λo=>∃z u,o=lo z u/\kC z h),(p,λo=>∃z A,o.data=.fields z/\z[1]?=D (.str "_law_stream.<locals>._law_read" A))]
theorem uN(m:cy)(w:bZ)(c:Cl)(p:J)(G:SG):objs m w c 0 G=objs m w c p G++rf m w c p G:=by
 match p with
 |0=>exact(jq _).symm
 |1=>rfl
 |u+2=>exact gX _ _ _
section
open Builtin Builtin.ObjectAttr Builtin.Getset_descriptor
set_option tactic.hygienic true
theorem OD(R:af)(T:aS)(f v:aB)(Q:I DictEntry):U (putL R T f v Q)<=U Q+1:=by
 induction Q with
 |nil=>exact dz _
 |cons e r n=>
  unfold putL;split
  .exact rM _
  .exact ju n
theorem abp(r:I DictEntry):(putL R oW (.str R h) v r).any (·.refKey)=r.any (·.refKey):=by
 induction r with
 |nil=>rfl
 |cons e r n=>
  unfold putL;split
  .rfl
  .exact aA _ n
variable{Z:cy}{w:bZ}{A:c3}{K:Frag}{R:pT->aU->Prop}
theorem aaV{n:J}(G:K.In s.heap)
  (a:InstAt s.heap x y d (D (dictOf Q n)))(P:y.dict=D o)(t:plainOver K d=Y)(l:takerIn K d h=D aa)(B:hasDictIn K d=Y)
  (X:(getL h Q).isSome=Y)(g:U Q<=900)
  (q:∀O,gW o s.heap O->O.get? o=D (dictOf (putL h (rN w.params h) (.str h s.toks) v Q) (putN h Q n))->R (.ok (.ret .none)) {s with heap:=O,toks:=s.toks+1}):
  codeAny (aI Z w) A (.call (.builtin "object.__setattr__") ⟨[.ref x,.str h aj,v],[]⟩) R s:=by
 refine osa_open G a t l λf=>cps λH i=>ai (any_some B) λT b F=>?_;obtain⟨j,L,ah,k⟩:=a;obtain⟨ak,u,r,p⟩:=y;apply i;dsimp only at L P k;subst L P;have e:=putName_dict h (rN w.params h) (.str h s.toks) v Q n;have z:(s.heap.update o (RZ h (rN w.params h) (.str h s.toks) v)).get? o=D (dictOf (putL h (rN w.params h) (.str h s.toks) v Q) (putN h Q n)):=by
  apply ae (pN _ k (aA _ e));exact aA _ (e)
 refine aG (bN (aG (aG (IZ j (aG ((looks_clsIn G b).here ?_))))));rw [F];refine bN (aG (bN (aG (aG (aG (wpAny_askSetting (bN (aG (Ae (aG (IZ k ?_)))))))))));have c:(!Q.toArray.any (·.key.isStr h)&&Q.toArray.any (·.refKey))=ay:=by
  simp only [afC]
  delta getL at X
  split at X
  .rename_i S m;exact(mz.mpr (aR S (afV m) (afL m))).symm▸C
  .split at X
   .exact cY C X
   .rename_i E;simp only [E,Ia]
 dsimp only;rw [aRefKeyMayBeTheName_at,c];refine Sz k ?_;have len:=OD h (rN w.params h) (.str h s.toks) v Q;exact aG (wpAny_lookBehind z (pastItsLine_dict (qB.symm▸rO.symm▸(d_ 0 (.v 1) (.a (.n 16777216) (.n 1)) (.v 0) (.n 900) (.v 1) (.a (.v 0) (.n 1)) C [_,_] g len))) (bN (q _ (oB ..) z)))
theorem WV(o:bM)(L:iO _):({o with slots:=L}).isFreed=o.isFreed:=by
 obtain⟨_,_,d,_⟩:=o;cases d<;>rfl
theorem acC{p i:J}(G:K.In s.heap)(a:InstAt s.heap x y d z)
  (q:slotIn K p d=D i)(t:i<1000)(g:y.isFreed=ay)
  (c:∀O,gW x s.heap O->O.get? x=D {y with slots:=(y.slots++H_ (i+1-y.slots.size) aa).setIfInBounds i (D v)}->R (.ok (.ret .none)) {s with heap:=O}):
  codeAny (aI Z w) A (.call (.builtin "member_descriptor.__set__") ⟨[.ref p,.ref x,v],[]⟩) R s:=by
 refine cps λE h=>?_;obtain⟨n,b,k,e,m,H,L,S,T,f,l,u,rfl⟩:=slot_of G q;apply h;have j:=a.at_;have E:=c (s.heap.update x (λo=>{o with slots:=(o.slots++H_ (U S.slotNames-1-e.toNat+1-o.slots.size) aa).setIfInBounds (U S.slotNames-1-e.toNat) (D v)})) (oB ..)
  (pN _ j (ae (WV y _) g))
 have X:=a.type (M:=aI Z w);have B:=looks_mroIn (M:=aI Z w) G l;have Q:Looks (aI Z w) s.heap (Slots.slotNamesOf (.ref d)) S.slotNames:=(looks_clsIn G f).andThen .now;have F:=IS (M:=aI Z w) T 0 (v:=.str n b) C;have P:=IS (M:=aI Z w) T 1 (v:=k) C;have ah:=IS (M:=aI Z w) T 3 (v:=.builtin "proto.slot#set") C;have aj:=IS (M:=aI Z w) T 4 (v:=.int e m) C;refine qG Rn.plain KF.entry_mset (Rn.check _ _ _ _ _ _ _ _ (aR _ T C) (KF.args_mset _ _ _) ?_);have ak:Looks (aI Z w) s.heap (descrItself (.ref p)) [.ref p]:=((Looks.ld T).andThen .now).andThen (Looks.of_pure (C))
 repeat lk
 refine⟨zM _ (by decide+kernel),z_ KF.entry_slotset ?_⟩
 repeat lk
 refine(aJ u)▸(bN (aG ?_));refine mj (aJ (by rw [rO];exactλr=>q5 (d_ 0 (.n 1) (.n 0) (.a (.v 0) (.n 1)) (.n 1000) (.n 16777216) (.v 0) C [_] t r))) ?_;exact Sz j (bN E)
theorem CC(G:K.In s.heap)
  (a:InstAt s.heap x y d (D (dictOf es u)))(P:y.dict=D o)(B:findIn K (.ref d) "__setattr__"=D (D (.builtin "object.__setattr__")))(t:plainOver K d=Y)(l:takerIn K d name=D aa)(e:hasDictIn K d=Y)
  (X:(getL name es).isSome=Y)(g:U es<=900)
  (h:∀O T n k,gW o s.heap O->O.get? o=D (dictOf (putL name T (.str name n) v es) k)->Q () {s with heap:=O,toks:=s.toks+2}):
  aQ (aI Z w) A (setAttr (.ref x) name v) Q H s:=
 set_plain G a B (aaV G a P t l e X g λO i b=>h O _ _ _ i b)
theorem GW{p i:J}(G:K.In s.heap)(a:InstAt s.heap x y d n)
  (B:findIn K (.ref d) "__setattr__"=D (D (.builtin "object.__setattr__")))(t:plainOver K d=Y)(l:takerIn K d name=D (D (.ref p)))(q:typeIn K (.ref p)=D (.type "member_descriptor"))(hi:slotIn K p d=D i)(g:i<1000)(h:y.isFreed=ay)
  (e:∀O,gW x s.heap O->O.get? x=D {y with slots:=(y.slots++H_ (i+1-y.slots.size) aa).setIfInBounds i (D v)}->Q () {s with heap:=O,toks:=s.toks+1}):
  aQ (aI Z w) A (setAttr (.ref x) name v) Q H s:=
 set_plain G a B (osa_descr Rn G a t l q (acC G a hi g h λO k b=>e O k b))
theorem FF{x R:af}(l:x≠R){k:aB}(h:k.isStr R=Y):¬k.isStr x=Y:=by
 cases k with
 |str s A=>exactλq=>l ((iP q).symm.trans (iP h))
 |_=>exact cY C h
theorem L6(R:af)(n:fT):(Dz R n).isStr R=Y:=beq_self_eq_true R
theorem yq{x:af}{r:I DictEntry}(h:¬e.key.isStr x=Y):(e::r).find? (·.key.isStr x)=r.find? (·.key.isStr x):=Iw h
theorem K7{x:af}{r:I DictEntry}(h:e.key.isStr x=Y):(e::r).find? (·.key.isStr x)=D e:=Iz h
theorem W4(h:Q.find? (·.key.isStr name)=D e):getL name Q=D (D e.val):=by
 delta getL;rw [h]
theorem WC(h:getL name Q=D (D r)):∃e,Q.find? (·.key.isStr name)=D e:=by
 delta getL at h
 split at h
 .exact⟨_,‹_›⟩
 .split at h<;>exact nomatch h
theorem WD(Q:I DictEntry):∃a b,(putL name oW (.str name n) v Q).find? (·.key.isStr name)=D ⟨a,b,v⟩:=by
 induction Q with
 |nil=>exact(cI _ _ (K7 (L6 name n)))
 |cons e r h=>
  unfold putL
  split
  .exact(cI _ _ (K7 ‹_›))
  .exact h.imp λE q=>q.imp λE q=>ae (yq ‹_›) q
theorem WA{R x:af}(l:x≠R)(Q:I DictEntry):(putL R oW (.str R h) v Q).find? (·.key.isStr x)=Q.find? (·.key.isStr x):=by
 induction Q with
 |nil=>exact yq (FF l (L6 R h))
 |cons e r n=>
  unfold putL
  split
  .exact ae (yq (FF l ‹_›)) (yq (FF l ‹_›)).symm
  .apply ae (Ru);rw [Ru,n]
theorem Bk(Q:I DictEntry):getL name (putL name oW (.str name n) v Q)=D (D v):=jL (WD Q) λE E h=>W4 h
theorem mV{R x:af}(l:x≠R)(Q:I DictEntry):getL x (putL R oW (.str R n) v Q)=getL x Q:=by
 delta getL;rw [WA l,abp]
theorem abq{x:DictEntry}(Q:I DictEntry)(h:Q.find? (·.key.isStr name)=D x):U (putL name oW f v Q)=U Q:=by
 induction Q with
 |nil=>exact aV C h
 |cons e r n=>
  unfold putL
  split
  .rfl
  .exact aA (·+1) (n ((yq ‹_›).symm.trans h))
theorem GH(Q:I DictEntry)(h:∃r,getL name Q=D (D r)):U (putL name oW f v Q)=U Q:=h.elim λE h=>(WC h).elim λE h=>abq Q h
end
structure ew(Z:cy)(w:bZ)(c:Cl)(p:J)(G:SG)(v:aB)(h:cf)(fp:I au):Prop where
 v:v=.ref G.self
 sm:(G.aZ==sysModules)=ay
 nd:((c_ G).map (·.1)).Nodup
 ob:gp (objs Z w c p G) h fp
inductive S1(Z:cy)(w:bZ)(l:I (I J))(v:aB)(h:cf)(fp:I au):Prop
 |mk(a:au)(n:J)(e:v=.ref a)(f:fp=[a])(g:n<=l.length)(s:h.SetOf (strKind Z w) a (λk=>l.any (λx=>aO (ck x=k))) n)
inductive fU:I (af×aB)->I (I J×aS)->Prop
 |nil:fU [] []
 |cons{l:I J}{i:aS}{t:fT}{kv r}:fU kv r->fU ((ck l,.int i t)::kv) ((l,i)::r)
inductive Ao(Z:cy)(w:bZ)(l:I (I J×aS))(v:aB)(h:cf)(fp:I au):Prop
 |mk(a:au)(kv:I (af×aB))(e:v=.ref a)(f:fp=[a])(g:(a==sysModules)=ay)(s:h.DictOf (strKind Z w) a kv)(q:fU kv l)
structure Ax(c:Cl)(st:J)(nd:Nd)(v:aB)(h:cf)(fp:I au):Prop where
 v:v=.ref nd.i
 ob:∃su,gp (wu c.N st {nd with su:=su}) h fp
structure yd(Z:cy)(w:bZ)(c:Cl)(sf d:au)(st:J)(v:aB)(h:cf)(fp:I au):Prop where
 v:v=.ref sf
 ob:∃aZ,(st≠0->(aZ==sysModules)=ay)/\gp (LU Z w c.bq sf d aZ st) h fp
noncomputable abbrev j5(n:au):bM:={cls:=.type "method-wrapper",data:=.fields #[.builtin "list_iterator.__next__",.ref n]}
noncomputable def iT(a:au)(G:I (au×au)):I au:=a::G.flatMap λw=>[w.1,w.2]
def DO(h:cf)(G:I (au×au))(l:I (au×J)):Prop:=∀(i:J)(w:au×au)(x:au×J),G[i]?=D w->l[i]?=D x->h.get? w.1=D (j5 w.2)/\h.IsListIter w.2 x.1 x.2
inductive oK(x:J)(l:I (au×J))(v:aB)(h:cf)(fp:I au):Prop
 |mk(a:au)(ws:I (au×au))(n:J)(e:v=.ref a)(f:fp=iT a ws)(nd:fp.Nodup)(hl:ws.length=l.length+x)(lv:∀b∈fp,(h.get? b).isSome=Y)(g:h.get? a=D (lo (ws.map λw=>.ref w.1) n))(r:DO h ws l)
inductive yf(st:au)(xs:I J)(k:J)(v:aB)(h:cf)(fp:I au):Prop
 |mk(e:v=.ref st)(d rd c1 a c2 oc cc:au)(ob:gp (wU st d rd c1 a c2 oc cc xs k) h fp)
theorem yf.v{st:au}{v:aB}(x:yf st n k v h R):v=.ref st:=by cases x;assumption
theorem FI{i:J}(a:au)(h:G[i]?=D w):w.1∈iT a G/\w.2∈iT a G:=by
 have:=cN h;exact⟨fF _ (vo.mpr (aR w this (by simp))),fF _ (vo.mpr (aR w this (by simp)))⟩
theorem oK.keep{R:I au}(x:oK u l v i R)(k:∀b∈R,∀x,i.get? b=D x->O.get? b=D x):oK u l v O R:=by
 obtain⟨a,G,u,e,L,Q,X,d,h,r⟩:=x;subst L;refine⟨a,G,u,e,C,Q,X,λb f=>?_,k a (gC) _ h,λs w x y j=>?_⟩
 .refine bG (gG.mp (d b f)) λo T=>?_;rw [k b f o T];rfl
 .refine bT (r s w x y j) λq n=>?_;refine ai (n) λo T t=>?_;have m:=FI a y;exact⟨k _ m.1 _ q,o,k _ m.2 _ T,t⟩
theorem oK.live(x:oK u l v h R):∀b∈R,(h.get? b).isSome=Y:=
 by cases x;assumption
def wF(m:cy)(w:bZ)(c:Cl)(o:Ob)(v:aB)(h:cf)(R:I au):Prop:=
 match o with
 |.b9 p G=>ew m w c p G v h R
 |.set l=>S1 m w l v h R
 |.kZ l=>Ao m w l v h R
 |.G6 p G=>∃a,ew m w c p {G with cX:=D a} v h R
 |.bL E l r q B=>∃G:SG,G.abs=.bL E l r q B/\ew m w c 0 G v h R
 |.gQ t d st=>yd m w c t d st v h R
 |.jQ st Q=>Ax c st Q v h R
 |.bB st n k=>yf st n k v h R
 |.dJ l=>oK 0 l v h R
 |.we l=>oK 1 l v h R
theorem S2{h O:cf}{a:au}(x:h.SetOf (strKind m w) a S u)(k:∀o,h.get? a=D o->O.get? a=D o):O.SetOf (strKind m w) a S u:=Kx x λo Q L A T r=>XW o Q L A (k o T) r
theorem I4{h O:cf}{P:I _}(x:h.DictOf (strKind m w) a P)(k:∀o,h.get? a=D o->O.get? a=D o):O.DictOf (strKind m w) a P:=jz x λo Q L T r=>l0 o Q L (k o T) r
theorem aaD(x:wF m w c o v h R):∀b∈R,(h.get? b).isSome=Y:=by
 cases o with
 |b9 p G=>exact x.ob.live
 |G6 p G=>obtain⟨a,x⟩:∃a,ew m w c p {G with cX:=D a} v h R:=x;exact x.ob.live
 |bL E l r q B=>obtain⟨G,_,x⟩:∃G:SG,G.abs=.bL E l r q B/\ew m w c 0 G v h R:=x;exact x.ob.live
 |gQ t d st=>
  exact ai x.ob λk n u=>u.live
 |jQ st j=>
  exact bG x.ob λg u=>u.live
 |set l=>
  obtain⟨a,s,_,e,_,o,Q,L,A,T,_⟩:=x;intro b f;subst e;rw [cO.mp f,T];rfl
 |kZ l=>
  obtain⟨a,P,_,e,_,⟨o,Q,L,T,_⟩,_⟩:=x;intro b f;subst e;rw [cO.mp f,T];rfl
 |bB st y z=>
  obtain⟨_,d,O,H,a,X,S,i,u⟩:=x;exact u.live
 |dJ l=>exact x.live
 |we l=>exact x.live
theorem aaC{R:I au}(x:wF m w c o v h R)(k:∀b∈R,∀x,h.get? b=D x->t.get? b=D x):wF m w c o v t R:=by
 cases o with
 |b9 p G=>
  exact⟨x.v,x.sm,x.nd,x.ob.keep k⟩
 |gQ X d st=>
  exact ai x.ob λj e u=>⟨x.v,j,e,u.keep k⟩
 |jQ st Q=>
  exact bG x.ob λg u=>⟨x.v,g,u.keep k⟩
 |G6 p G=>
  obtain⟨a,x⟩:∃a,ew m w c p {G with cX:=D a} v h R:=x;exact⟨a,x.v,x.sm,x.nd,x.ob.keep k⟩
 |bL E l r q B=>
  obtain⟨G,e,x⟩:∃G:SG,G.abs=.bL E l r q B/\ew m w c 0 G v h R:=x;exact⟨G,e,x.v,x.sm,x.nd,x.ob.keep k⟩
 |set l=>
  obtain⟨a,i,e,L,f,s⟩:=x;exact⟨a,i,e,L,f,S2 s (k a (by rw [L];simp))⟩
 |kZ l=>
  obtain⟨a,P,e,L,f,s,y⟩:=x;exact⟨a,P,e,L,f,I4 s (k a (by rw [L];simp)),y⟩
 |bB st S i=>
  obtain⟨e,d,O,H,a,z,A,n,u⟩:=x;exact⟨e,d,O,H,a,z,A,n,u.keep k⟩
 |dJ l=>exact x.keep k
 |we l=>exact x.keep k
noncomputable def I8(m:cy)(w:bZ)(c:Cl):OB Ob:=⟨wF m w c,aaD⟩
structure tT(c:Cl)(x:af)(p:au)(i:J):Prop where
 fi:findIn c.K (.ref c.N) x=D (D (.ref p))
 sp:specialIn c.K (.ref p) "__get__"=D (D (.builtin "member_descriptor.__get__"))
 ta:takesIn c.K (.ref p)=D Y
 sl:slotIn c.K p c.N=D i
 ty:typeIn c.K (.ref p)=D (.type "member_descriptor")
theorem tT.Hf{p:J}(h:tT c x p i):takerIn c.K c.N x=D (D (.ref p)):=by
 delta takerIn;rw [h.fi,z6];simp [h.ta]
structure tN(c:Cl):Prop where
 pg:∀x,plainGet c.K c.bq x=Y
 hd:hasDictIn c.K c.bq=Y
 sa:findIn c.K (.ref c.bq) "__setattr__"=D (D (.builtin "object.__setattr__"))
 po:plainOver c.K c.bq=Y
 Gb:makesIn c.K c.bq=Y
 Ms:keepIn c.K (.ref c.bq)=Y
 Mr:keepIn c.K (.ref c.N)=Y
 lt:2<=c.bq
 JI:(["_node2info","_ready_nodes","_npassedout","_nfinished"]:I af).all (λx=>findIn c.K (.ref c.bq) x==D aa)=Y
 K_:c.fs.all (λp=>findIn c.K (.ref c.bq) p.1==D (D (.ref p.2))&&isFn c.K (.ref p.2))=Y
 Gu:∀x,plainGet c.K c.N x=Y
 MW:isClsIn c.K c.N=Y
 Cb:findIn c.K (.ref c.N) "__setattr__"=D (D (.builtin "object.__setattr__"))
 B8:plainOver c.K c.N=Y
 Nb:makesIn c.K c.N=Y
 M7:findIn c.K (.ref c.N) "__init__"=D (D (.ref c.ni))
 M6:isFn c.K (.ref c.ni)=Y
 s0:tT c "node" c.p0 0
 s1:tT c "npredecessors" c.p1 1
 s2:tT c "successors" c.p2 2
theorem tN.at_(p:tN c)(x:af)(j:x∈(["_node2info","_ready_nodes","_npassedout","_nfinished"]:I af)):findIn c.K (.ref c.bq) x=D aa:=beq_iff_eq.mp (gK.mp p.JI x j)
theorem tN.fs(h:tN c)(p:af×au)(t:p∈c.fs):findIn c.K (.ref c.bq) p.1=D (D (.ref p.2))/\isFn c.K (.ref p.2)=Y:=
 have q:=cR.mp (gK.mp h.K_ p t)
 ⟨beq_iff_eq.mp q.1,q.2⟩
structure bK(B:bD Ob)(Z:cy)(w:bZ)(c:Cl):Prop where
 ob:B.ob=I8 Z w c
 iF:∀{h},bF B.h₀ h->c.K.In h
 ok:tN c
theorem bK.up(p:bK X m w c)(B:bF X.h₀ f):bK (X.up f B) m w c:=⟨p.ob,λk=>p.iF (B.trans k),p.ok⟩
structure GT(G:SG)(x:af)(τ:T):Prop where
 mem:x∈(["_node2info","_ready_nodes","_npassedout","_nfinished"]:I af)
 get:∀{o:bM},iH G o->∃es n v,o=dictOf es n/\getL x es=D (D v)/\handedIn v=Y/\∀ρ fz,Den ρ fz v τ
theorem GT.uG:GT G "_node2info" (.bW (.ref G.aZ)):=⟨d9 0 C,λp=>by
 obtain⟨Q,u,_,_,e,_,h,_⟩:=p
 exact oX Q u _ e h C λ_ _=>.bW _⟩
theorem GT.OI(q:G.cX=aa):GT G "_ready_nodes" .none:=⟨d9 1 C,λp=>by
 obtain⟨Q,u,_,_,e,_,_,h,_⟩:=p
 rw [q]at h;exact oX Q u _ e h C λ_ _=>.none⟩
theorem GT.uS(q:G.cX=D a):GT G "_ready_nodes" (.bW (.ref a)):=⟨d9 1 C,λp=>by
 obtain⟨Q,u,_,_,e,_,_,h,_⟩:=p
 rw [q]at h;exact oX Q u _ e h C λ_ _=>.bW _⟩
theorem GT.po:GT G "_npassedout" (.int G.po):=⟨d9 2 C,λp=>by
 obtain⟨Q,u,_,_,e,_,_,_,h,_⟩:=p
 exact oX Q u _ e h C λ_ _=>.int _ _⟩
theorem GT.fi:GT G "_nfinished" (.int G.fi):=⟨d9 3 C,λp=>by
 obtain⟨Q,u,_,_,e,_,_,_,_,h,_⟩:=p
 exact oX Q u _ e h C λ_ _=>.int _ _⟩
structure NT(c:Cl)(nd:Nd)(x:af)(p:au)(i:J)(τ:T):Prop where
 slot:tN c->tT c x p i
 get:∀{o:bM},qs c.N nd o->∃v,(o.slots[i]?).join=D v/\handedIn v=Y/\∀ρ fz,Den ρ fz v τ
theorem NT.node:NT c Q "node" c.p0 0 (.str Q.key):=⟨λk=>k.s0,λh=>jL h λA y e=>e▸i12 _ C C λ_ _=>.str _ _⟩
theorem NT.np:NT c Q "npredecessors" c.p1 1 (.int Q.np):=⟨λk=>k.s1,λh=>jL h λA y e=>e▸i12 _ C C λ_ _=>.int _ _⟩
theorem NT.su:NT c Q "successors" c.p2 2 (.bW (.ref Q.su)):=⟨λk=>k.s2,λh=>jL h λA y e=>e▸i12 _ C C λ_ _=>.bW _⟩
theorem m7(h:x∈fX c.bq G):x∈objs m w c p G:=by
 match p with
 |0=>exact gj _ (gj _ h)
 |1=>exact gj _ h
 |u+2=>exact h
theorem Od(t:p<=1)(h:x∈gP c.N G):x∈objs m w c p G:=by
 match p,t with
 |0,_=>exact gj _ (i0 _ h)
 |1,_=>exact i0 _ h
section
variable{i:J}
def r6(c:Cx Ob)(n:I af)(k:J)(y:I (AV Ob))(P:cf->Prop):Prop:=∀T g m r h,aW c.B c.ρ T g c.V n k y m r h->P h
theorem j8(p:bK c.B c.Z c.w O)(j:n[i]?=D x)(X:y[i]?=D (.obj (.b9 q G))):r6 c n k y λh=>∃R,ew c.Z c.w O q G (.ref G.self) h R:=by
 intro T g m r h S;obtain⟨Q,_,v,_,d⟩:=S.vars i x _ j X;have d:=p.ob▸d;have e:=d.v;subst e;exact⟨_,d⟩
theorem OU(h:∀h,bF c.B.h₀ h->P h):r6 c n k y P:=λT g m r B S=>h B S.base
theorem jD(h:bK c.B c.Z c.w O)(F:Fm c.V n k a)(i:J)(j:n[i]?=D x)(X:y[i]?=D (.obj (.b9 q G))):EE c n k y (.Name x p) y (.bW (.ref G.self)):=by
 constructor;rintro T g s b H⟨w,m,r,S⟩R;refine cps λE v=>?_;obtain⟨Q,u,l,rfl,d⟩:=S.vars i x _ j X;apply v;have d:=h.ob▸d;have e:=d.v;subst e;exact eO (eL w S.ns u (R s g _ (bQ.refl s) (Le.refl _) ⟨w,m,r,S⟩ (.bW _))) (F.eY j)
theorem kc(h:bK c.B c.Z c.w O)(H:r6 c n k P λi=>∃R,ew c.Z c.w O aF G (.ref G.self) i R)(i:EE c n k y o P (.bW (.ref G.self)))(f:GT G x S)
  (j:eval (.Attribute o x p) c.V=do let Q<-eval o c.V;standAt p.atName;let r<-holding [Q] (getAttr Q x Y);letTemporaryGo o Q r;pure r):EE c n k y (.Attribute o x p) P S:=by
 constructor;intro T g ah aL aT aj ak;refine Q2 (i.1 T g ah _ _ aj λe a b q d E z=>?_) j;obtain rfl:=z.inv;refine cps λw v=>?_;obtain⟨A,m,s,l⟩:=E;obtain⟨R,_,_,_,u⟩:=H T a m s _ l;refine ai (u.dY (G.self,λo=>o=instObj O.bq G.d) (m7 (by simp [fX]))) λaP F t=>ai (u.dY (G.d,iH G) (m7 (by simp [fX]))) λaN X B=>v ?_;dsimp only at t F X B;subst t;refine cps λw v=>mU (f.get B) λaH aK b aq ao aC aE=>?_;subst aq;apply v;have L:cj c.B a e a {e with toks:=e.toks+1}:=cj.tok l.ready _;exact get_value (h.iF l.base) ⟨F,C,C,X⟩ (vD (h.ok.pg x)).1 (findObj_own h.ok.hd (h.ok.at_ x f.mem) C (by exact ao)) aC (ak _ a b (q.trans L.same) d ⟨A,m,s,l⟩ (aE _ _))
end
section
set_option tactic.hygienic true
variable{c:Cx Ob}{nd:Nd}
theorem iX(p:bK c.B c.Z c.w O)(S:aW c.B c.ρ hB g c.V n k y m r h)(j:n[i]?=D x)(X:y[i]?=D (.obj (.b9 q G))):eE c.V m h x (D (.ref G.self))/\ew c.Z c.w O q G (.ref G.self) h (r i):=by
 refine cps λ_ kk=>?_;obtain⟨Q,u,v,rfl,d⟩:=S.vars i x _ j X;apply kk;rw [p.ob]at d;exact(d.v)▸(⟨u,d⟩)
theorem CI(p:bK c.B c.Z c.w s)(S:aW c.B c.ρ hB g c.V n k y m r t)(j:n[i]?=D w)(X:y[i]?=D (.obj (.b9 q G)))(h:a∈r i)(B:gW a t O)
  (l:G'.self=G.self)(z:ew c.Z c.w s q G' (.ref G'.self) O (r i)):aW c.B c.ρ hB g c.V n k (y.set i (.obj (.b9 q G'))) m (bV r i (r i)) O:=by
 refine bT (iX p S j X) λd E=>?_;have A:=(cG.mp j).1;have F:=S.fp i A;have x:∀{b},b∉r i->b≠a:=λ{b}u q=>u (by simp only [q];exact h);refine S.qw j (λb u _ o e=>ae (B.2 b (x u)) e) (bD.ir S.inv λP v o e=>ae (B.2 P (x ((S.tab P v).2.2.2.2 i A))) e) (Le.refl _) (λb o e=>ae (B.2 b λq=>?_) (S.bJ b o e)) (λb o e=>.inl e) d ⟨.ref G.self,C,?_⟩ (λb f=>⟨.inl f,(F b f).2.1⟩)
 .exact aV (ae (aA _ q) ((F a h).2.1)) e
 .exact(p.ob)▸(l)▸(z)
theorem Lh(p:bK c.B c.Z c.w O)(S:aW c.B c.ρ hB g c.V n k y m E s.heap)(e:ew c.Z c.w O q G (.ref G.self) s.heap fp)(f:GT G x z)
  (R:∀v A,Den c.ρ g v z->Q v {s with toks:=A}):aQ (aI c.Z c.w) c.A (getAttr (.ref G.self) x l) Q H s:=by
 refine cps λ_ h=>ai (e.ob.dY (G.self,λo=>o=instObj O.bq G.d) (m7 (.head _))) λb F t=>ai (e.ob.dY (G.d,iH G) (m7 (cN (i:=1) C))) λr X B=>h ?_;dsimp only at t F X B;subst t;refine cps λ_ h=>mU (f.get B) λj d v u w i a=>?_;subst u;exact h (get_value (p.iF S.base) (⟨F,C,C,X⟩) (vD (p.ok.pg x)).1 (findObj_own p.ok.hd (p.ok.at_ x f.mem) C (by assumption)) i (R v _ (a _ _)))
structure GS(G:SG)(x:af)(τ:T)(G':SG):Prop where
 eq:∃p f,G'={G with po:=p,fi:=f}
 mem:x∈(["_node2info","_ready_nodes","_npassedout","_nfinished"]:I af)
 put:∀{ρ:Mk}{fz:Fz}{es:I DictEntry}{n n':J}{v:aB}{oW:aS}{tk:fT},iH G (dictOf es n)->Den ρ fz v τ->iH G' (dictOf (putL x oW (.str x tk) v es) n')
theorem Z5:("_node2info":af)≠"_ready_nodes":=by decide
theorem Z6:("_node2info":af)≠"_npassedout":=by decide
theorem Z7:("_node2info":af)≠"_nfinished":=by decide
theorem M9:("_ready_nodes":af)≠"_npassedout":=by decide
theorem M_:("_ready_nodes":af)≠"_nfinished":=by decide
theorem Na:("_npassedout":af)≠"_nfinished":=by decide
theorem GS.po(t:aS):GS G "_npassedout" (.int t) {G with po:=t}:=⟨⟨t,G.fi,C⟩,d9 2 C,λ{_ _ Q _ k _ _ _}p d=>by
 obtain⟨m,S,i,q,e,X,w,v,R,g,H⟩:=p;obtain rfl:=A4 e;obtain⟨A,rfl⟩:=d.inv
 exact⟨_,k,A,q,C,(GH Q ⟨_,R⟩).symm▸X,ae (mV Z6 Q) w,ae (mV M9 Q) v,Bk Q,ae (mV (iC Na) Q) g,λx a b c d=>ae (mV c Q) (H x a b c d)⟩⟩
theorem GS.fi(t:aS):GS G "_nfinished" (.int t) {G with fi:=t}:=⟨⟨G.po,t,C⟩,d9 3 C,λ{_ _ Q _ k _ _ _}p d=>by
 obtain⟨m,S,i,q,e,X,w,v,R,g,H⟩:=p;obtain rfl:=A4 e;obtain⟨A,rfl⟩:=d.inv
 exact⟨_,k,i,A,C,(GH Q ⟨_,g⟩).symm▸X,ae (mV Z7 Q) w,ae (mV M_ Q) v,ae (mV Na Q) R,Bk Q,λx a b c d=>ae (mV d Q) (H x a b c d)⟩⟩
theorem iH.has{o:bM}(p:iH G o)(j:x∈(["_node2info","_ready_nodes","_npassedout","_nfinished"]:I af)):∃Q u,o=dictOf Q u/\U Q<=8/\(getL x Q).isSome=Y:=by
 obtain⟨m,S,i,q,e,X,w,v,R,g,H⟩:=p;refine(gx m S e X ?_);simp only [cD,dR,or_false]at j;rcases j with rfl|rfl|rfl|rfl
 .exact cW w
 .exact cW v
 .exact cW R
 .exact cW g
theorem Oa(m:cy)(w:bZ)(O:Cl)(q:J)(G:SG)(p L:aS):∃l,objs m w O q G=(G.self,λo=>o=instObj O.bq G.d)::(G.d,iH G)::l/\objs m w O q {G with po:=p,fi:=L}=(G.self,λo=>o=instObj O.bq G.d)::(G.d,iH {G with po:=p,fi:=L})::l:=
 match q with
 |0=>⟨_,C,C⟩
 |1=>⟨_,C,C⟩
 |_+2=>⟨_,C,C⟩
theorem acu(ek:bK c.B c.Z c.w a)(S:aW c.B c.ρ hB i c.V n f lv m aE s.heap)(j:n[k]?=D aT)(X:lv[k]?=D (.obj (.b9 q G)))(g:GS G x ah v)(d:Den c.ρ i u ah)
  (R:∀O A aj ao,aW c.B c.ρ hB i c.V n f (lv.set k (.obj (.b9 q v))) aj ao O->Q () {s with heap:=O,toks:=A}):aQ (aI c.Z c.w) c.A (setAttr (.ref G.self) x u) Q aL s:=by
 refine cps λEs t7=>?_;obtain⟨⟨p,L,rfl⟩,w,r⟩:=g;refine bT (iX ek S j X) λE h=>ai (h.ob.dY (G.self,λz=>z=instObj a.bq G.d) (m7 (.head _))) λaC F t=>ai (h.ob.dY (G.d,iH G) (m7 (cN (i:=1) C))) λaq b B=>?_;apply t7;dsimp only at t F b B;refine cps λEs t7=>?_;subst t;refine e5 (B.has w) λaN aP y H P=>?_;subst y;apply t7;refine CC (ek.iF S.base) (⟨F,C,C,b⟩) C ek.ok.sa ek.ok.po (by delta takerIn;rw [ek.ok.at_ x w,z6]) ek.ok.hd P (aD H (az C)) λO aF aH aK l T=>R O _ m _ (CI ek S j X ?_ l C ?_)
 .refine ai (Oa c.Z c.w a q G p L) λak t E=>?_;exact(h.ob.ad)▸(t)▸(.tail _ (.head _))
 .refine⟨C,h.sm,h.nd,(ai (Oa c.Z c.w a q G p L) λak t o=>?_)⟩;have hn:=h.ob.nd;rw [h.ob.ad,t,iK,iK,gM,gM]at hn;refine h.ob.set l (by simp only [t,o];rfl) λaX e=>?_;rw [o]at e;rw [t];rcases cD.mp e with rfl|e
  .refine .inl ⟨.head _,λq=>hn.1 ?_⟩;simp only [cD];exact .inl q
  .rcases cD.mp e with rfl|e
   .exact .inr ⟨C,_,T,r B d⟩
   .exact .inl ⟨.tail _ (.tail _ e),λq=>hn.2.1 (by have A:=fM (f:=(·.1)) e;simp only [q]at A;exact A)⟩
theorem gp.upd{l H:I _}{a:au}{p:bM->Prop}(s:gp l h R)(e:l=P++(a,p)::i)(x:H=P++(a,Q)::i)(B:gW a h O)(T:O.get? a=D X)(t:Q X):gp H O R:=by
 subst e x;have z:=s.nd;simp only [s.ad,eW]at z;refine gv (gk.mp z) λE F m=>s.set B (by simp) λb g=>?_;rcases fE.mp g with g|g
 .exact .inl ⟨gj _ g,λq=>m a (q▸(fM g)) a (.head _) C⟩
 .rcases cD.mp g with rfl|g
  .exact .inr ⟨C,X,T,t⟩
  .refine .inl ⟨i0 _ (.tail _ g),λq=>(gM.mp F).1 ?_⟩;have A:=fM (f:=(·.1)) g;simp only [q]at A;exact A
noncomputable def SG.np(G:SG)(t:J)(nd:Nd)(u:aS):SG:={G with bS:=G.bS.set t {nd with np:=u}}
noncomputable def SG.ap(G:SG)(t:J)(nd:Nd)(l:I J):SG:={G with bS:=G.bS.set t {nd with succ:=nd.succ++[l]}}
theorem qv{R:Type}{l:I R}{a:R}(h:l[t]?=D a):∃L X,l=L++a::X/\∀T,l.set t T=L++T::X:=by
 have O:=(cG.mp h).1;refine(gg _ _ ?_ (λT=>List.set_eq_take_append_cons_drop ..|>.trans ((aM O))));simp only [<-((cG.mp h).2),<-xF O,af3]
theorem Mx(h:G.bS[t]?=D nd):c_ (G.np t nd u)=c_ G:=by
 refine d5 (qv h) λL X e R=>?_
 delta c_ SG.np
 dsimp only;rw [R,e];simp
theorem Mu(h:G.bS[t]?=D nd):c_ (G.ap t nd l)=c_ G:=by
 refine d5 (qv h) λL X e R=>?_
 delta c_ SG.ap
 dsimp only;rw [R,e];simp
theorem N_(m:cy)(w:bZ)(O:Cl)(h:G.bS[t]?=D nd)(k:q<=1):∃P i,objs m w O q G=P++(nd.i,qs O.N nd)::i/\objs m w O q (G.np t nd n)=P++(nd.i,qs O.N {nd with np:=n})::i:=by
 refine d5 (qv h) λL X e R=>?_;have x:gP O.N G=L.flatMap (j2 O.N)++(nd.i,qs O.N nd)::(nd.id,λ_=>True)::X.flatMap (j2 O.N):=by
  delta gP;rw [e];simp [j2]
 have u:gP O.N (G.np t nd n)=L.flatMap (j2 O.N)++(nd.i,qs O.N {nd with np:=n})::(nd.id,λ_=>True)::X.flatMap (j2 O.N):=by
  delta gP SG.np;simp only [R];simp [j2]
 have b:fX O.bq (G.np t nd n)=fX O.bq G:=C;have a:g5 m w (G.np t nd n)=g5 m w G:=by
  delta g5 j7
  rw [Mx h]
  delta SG.np
  dsimp only;rw [R,e];simp
 match q,k with
 |0,_=>exact(gg (fX O.bq G++L.flatMap (j2 O.N)) ((nd.id,λ_=>True)::X.flatMap (j2 O.N)++g5 m w G) (by simp [nX,x]) (by simp [nX,u,b,a]))
 |1,_=>exact(gg (fX O.bq G++L.flatMap (j2 O.N)) ((nd.id,λ_=>True)::X.flatMap (j2 O.N)) (by simp [nX,Cg,x]) (by simp [nX,Cg,u,b]))
theorem aaH(m:cy)(w:bZ)(O:Cl)(h:G.bS[t]?=D nd):∃P i,objs m w O 0 G=P++(nd.su,fQ nd.succ)::i/\objs m w O 0 (G.ap t nd l)=P++(nd.su,fQ (nd.succ++[l]))::i:=by
 refine cps λ_ v=>d5 (qv h) λL X e R=>v ?_;have x:gP O.N (G.ap t nd l)=gP O.N G:=by
  delta gP SG.ap;dsimp only;rw [R,e];simp [j2];rfl
 have b:fX O.bq (G.ap t nd l)=fX O.bq G:=C;have a:g5 m w (G.ap t nd l)=(G.aZ,j7 m w G)::(L.map λnd=>(nd.su,fQ nd.succ))++(nd.su,fQ (nd.succ++[l]))::X.map λnd=>(nd.su,fQ nd.succ):=by
  delta g5 j7
  rw [Mu h]
  delta SG.ap
  dsimp only;rw [R];simp
 have s:g5 m w G=(G.aZ,j7 m w G)::(L.map λnd=>(nd.su,fQ nd.succ))++(nd.su,fQ nd.succ)::X.map λnd=>(nd.su,fQ nd.succ):=by
  delta g5
  rw [e];simp
 exact(gg (fX O.bq G++gP O.N G++((G.aZ,j7 m w G)::(L.map λnd=>(nd.su,fQ nd.succ)))) (X.map λnd=>(nd.su,fQ nd.succ)) (by simp [nX,s]) (by simp [nX,x,b,a]))
def vM(O:Cl)(nd:Nd)(h:cf):Prop:=(∃o,h.get? nd.i=D o/\qs O.N nd o)/\∃G,h.get? nd.id=D G
theorem ew.info{v:aB}(h:ew m w O q G v e R)(k:q<=1)(z:nd∈G.bS):vM O nd e:=ai (h.ob.dY (nd.i,qs O.N nd) (Od k (vo.mpr (aR nd z (.head _))))) λi F t=>ai (h.ob.dY (nd.id,λ_=>True) (Od k (vo.mpr (aR nd z (.tail _ (.head _)))))) λr X E=>⟨(aR i F t),r,X⟩
theorem LV(c:vM O nd h):∃o G,h.get? nd.i=D o/\qs O.N nd o/\InstAt h nd.i o O.N (D G):=by
 refine cps λ_ v=>bT c λn j=>ai n λo T p=>bG j λG P=>jL (p) λA y d=>?_;subst d;exact v ((gx _ G T p ⟨T,C,C,P⟩))
theorem Lf(p:bK c.B c.Z c.w O)(S:aW c.B c.ρ k g c.V n j y m r s.heap)(h:vM O nd s.heap){u t:J}(f:NT O nd x u t z)
  (R:∀v A,Den c.ρ g v z->Q v {s with toks:=A}):aQ (aI c.Z c.w) c.A (getAttr (.ref nd.i) x q) Q H s:=by
 refine cps λ_ e=>e5 (LV h) λo l T i a=>dG (f.get i) λv d B b=>e ?_;have L:=f.slot p.ok;have G:=p.iF S.base;exact get_bind G a (vD (p.ok.Gu x)).1 (findObj_data p.ok.MW L.fi L.sp L.ta) (vD (p.ok.Gu x)).2 (i4 (slot_get G a L.sl d (handed_on B (R v _ (b _ _)))))
theorem O1(ek:bK c.B c.Z c.w e)(S:aW c.B c.ρ hB g c.V xs k lv m F s.heap)(hx:xs[i]?=D y)(X:lv[i]?=D (.obj (.b9 q G)))(hq:q<=1)(z:G.bS[u]?=D nd)(d:Den c.ρ g v (.int n)){Q:Unit->aU->Prop}
  (R:∀O A a x,aW c.B c.ρ hB g c.V xs k (lv.set i (.obj (.b9 q (G.np u nd n)))) a x O->Q () {s with heap:=O,toks:=A}):aQ (aI c.Z c.w) c.A (setAttr (.ref nd.i) "npredecessors" v) Q H s:=by
 refine bT (iX ek S hx X) λE h=>e5 (LV (h.info hq (cN z))) λw r T p l=>?_;have L:=ek.ok.s1;refine jL p λA ah j=>?_;subst j;refine GW (ek.iF S.base) l ek.ok.Cb ek.ok.B8 L.Hf L.ty L.sl (dN _ _) C λO B o=>R O _ m _ (CI ek S hx X ?_ B C ?_)
 .refine d5 (N_ c.Z c.w e (n:=n) z hq) λP f t E=>?_;simp only [h.ob.ad,t];simp
 .refine d5 (N_ c.Z c.w e (n:=n) z hq) λP f t b=>?_;cases d;refine⟨C,h.sm,by exact(Mx z)▸(h.nd),h.ob.upd t b B o (cI A _ C)⟩
end
section
variable{c:Cx Ob}{i:J}{G':SG}{j:J}
theorem u_(b:bK c.B c.Z c.w O)(H:r6 c n k P (vM O e))(i:EE c n k y o P (.bW (.ref e.i))){u t:J}(f:NT O e x u t X)
  (m:eval (.Attribute o x p) c.V=(do let Q<-eval o c.V;standAt p.atName;let r<-holding [Q] (getAttr Q x Y);letTemporaryGo o Q r;pure r)):EE c n k y (.Attribute o x p) P X:=by
 constructor;intro T g s G F S R;refine Q2 (i.1 T g s _ _ S λh a v q j E d=>?_) m;obtain rfl:=d.inv;obtain⟨A,w,B,l⟩:=E;refine Lf b l (H _ _ _ _ _ l) f λv L d=>?_;have z:cj c.B a h a {h with toks:=L}:=cj.tok l.ready _;exact R _ a v (q.trans z.same) j ⟨A,w,B,l⟩ d
theorem QS(p:bK c.B c.Z c.w bH)(i:J)(j:n[i]?=D bC)(aj:EE c n k y o y (.bW (.ref G.self)))(Q:y[i]?=D (.obj (.b9 q G)))(v:GT G x f)(ao:EE c n k y aC P m)(d:P[i]?=D (.obj (.b9 q G)))(b:p9 s f m=D τ)(t:GS G x τ G'):
  ES c n k y (.AugAssign (.Attribute o x bx) s aC aT) (P.set i (.obj (.b9 q G'))) .next:=by
 constructor;intro T g u aX a_ bf S R;refine agM (aj.1 T g u _ _ S λe a bE E X L O=>?_);obtain rfl:=O.inv;obtain⟨w,F,r,l⟩:=L;refine Lh p l (iX p l j Q).2 v λbh A ak=>?_;have z:cj c.B a e a {e with toks:=A}:=cj.tok l.ready _;refine ao.1 T a _ _ _ ⟨w,F,r,l.step z⟩ λbP b_ cg aq B aE ah=>cP.wH ((E.trans z.same).trans aq) (X.trans B) aE (AQ (ak.mono B) ah b) λbl aH bz aK aF h aN=>?_;obtain⟨_,bR,bU,h⟩:=h;exact acu p h j d t aN λbY A aL aP H=>R _ aH .next (aK.trans (cI _ _ C)) aF ⟨w,aL,aP,H⟩ dj
theorem QI(p:bK c.B c.Z c.w bf)(i:J)(v:n[i]?=D aC)(x:EE c n k y e P (.int u))(h:EE c n k P o X (.bW (.ref Q.i)))(b:X[i]?=D (.obj (.b9 q G)))(s:q<=1)(z:G.bS[j]?=D Q)
  (l:gY e (D (.Attribute o "npredecessors" t)) f.line c.V=pure ay):ES c n k y (.Assign [.Attribute o "npredecessors" t] e f) (X.set i (.obj (.b9 q (G.np j Q u)))) .next:=by
 constructor;intro T g m aE aF aH S R;refine xW (x.1 T g m _ _ S λa r aP w H E L=>h.1 T r a _ _ E λaK O a_ d B ah aj=>?_) l;obtain rfl:=aj.inv;obtain⟨F,aL,aN,ao⟩:=ah;exact O1 p ao v b s z (L.mono B) λaT aX ak aq A=>R _ O .next ((w.trans d).trans (cI _ _ C)) (H.trans B) ⟨F,ak,aq,A⟩ dj
theorem QF(p:bK c.B c.Z c.w bl)(i:J)(x:h[i]?=D bf)(o:EE c h k y aH y (.bW (.ref Q.i)))(X:y[i]?=D (.obj (.b9 q G)))(s:q<=1)(z:G.bS[j]?=D Q)(u:EE c h k y F P ao)(aC:P[i]?=D (.obj (.b9 q G)))(f:p9 v (.int Q.np) ao=D (.int n)):
  ES c h k y (.AugAssign (.Attribute aH "npredecessors" bE) v F aX) (P.set i (.obj (.b9 q (G.np j Q n)))) .next:=by
 constructor;intro T g m bh bH bP S R;refine agM (o.1 T g m _ _ S λb a a_ H E L O=>?_);obtain rfl:=O.inv;obtain⟨w,ah,r,l⟩:=L;refine Lf p l ((iX p l x X).2.info s (cN z)) .np λbz A ak=>?_;have t:cj c.B a b a {b with toks:=A}:=cj.tok l.ready _;refine u.1 T a _ _ _ ⟨w,ah,r,l.step t⟩ λbR cg cu aq B aE aF=>cP.wH ((H.trans t.same).trans aq) (E.trans B) aE (AQ (ak.mono B) aF f) λbx aj bC aK aL e aP=>?_;obtain⟨_,bU,bY,e⟩:=e;exact O1 p e x aC s z aP λb_ A aN aT d=>R _ aj .next (aK.trans (cI _ _ C)) aL ⟨w,aN,aT,d⟩ dj
def tQ(c:Cx Ob)(n:I af)(k:J)(y:I (AV Ob))(G:SG):Prop:=r6 c n k y λh=>(G.aZ==sysModules)=ay/\((c_ G).map (·.1)).Nodup/\h.DictOf (strKind c.Z c.w) G.aZ (c_ G)
theorem ew.map{v:aB}(e:ew m w O 0 G v h R):h.DictOf (strKind m w) G.aZ (c_ G):=ai (e.ob.dY (G.aZ,j7 m w G) (by simp [nX,g5])) λo T p=>p h G.aZ T
theorem OV(p:bK c.B c.Z c.w O)(j:n[i]?=D x)(X:y[i]?=D (.obj (.b9 0 G))):tQ c n k y G:=λT g m r h S=>(dI ((iX p S j X).2.sm) ((iX p S j X).2.nd) ((iX p S j X).2.map))
theorem CA(p:bK c.B c.Z c.w O)(j:n[i]?=D x)(X:y[i]?=D (.obj (.b9 q G)))(k:q<=1)(z:Q∈G.bS):r6 c n h y (vM O Q):=λT g m r e S=>(iX p S j X).2.info k z
theorem Ht(P:((c_ G).map (·.1)).Nodup)(z:G.bS[j]?=D Q):valueAt (c_ G) (ck Q.key)=D (.ref Q.i):=
 valueAt_of_get P (by delta c_;rw [jr,z];rfl)
theorem sR(h:ck a=ck b):a=b:=by injection h with h;simpa using h
theorem adL(h:∀Q∈G.bS,Q.key≠l):valueAt (c_ G) (ck l)=aa:=by
 delta valueAt
 rw [Option.map_eq_none_iff,Dj];intro E g;refine ai (dZ.mp g) λQ z d=>?_;subst d;rw [oG];exactλq=>h Q z (sR q)
set_option tactic.hygienic true in
theorem HG(e:tQ c n k X G)(u:EE c n k y qf P (.bW (.ref G.aZ)))(a:EE c n k P x X (.str Q.key))(A:G.bS[j]?=D Q)(aq:uK x=Y):EE c n k y (.Subscript qf x p) X (.bW (.ref Q.i)):=by
 constructor;intro T g s aC ak S i;refine xS (u.1 T g s _ _ S λt o q f v E O=>a.1 T o t _ _ E λh r b y9 B w L=>?_);obtain rfl:=O.inv;obtain⟨aF,rfl⟩:=L.inv;obtain⟨H,m,d,l⟩:=w;refine gv (e _ _ _ _ _ l) λao ah R=>vz R.typeIs F.slot_dict_getitem.lookup (Ss (tJ ..) R.mapOf (Ht ah A) ?_) (wV λq b aE p aj=>by subst aj;contradiction);have z:cj c.B r h r {h with toks:=h.toks+1}:=cj.tok l.ready _;exact i _ r _ ((f.trans y9).trans z.same) (v.trans B) ⟨H,m,d,l.step z⟩ (.bW _)
set_option tactic.hygienic true in
theorem HF{i:T}(bx:tQ c n k X G)(aN:EE c n k aP o P (.bW (.ref G.aZ)))(b:tQ c n k P G)(aL:EE c n k P e X (.str s))(d:((c_ G).map (·.1)).Nodup->(valueAt (c_ G) (ck s)).getD .none=m)(t:∀aH g,Den aH g m i)
  (O:attributeBase o "get" c.V (eval o c.V)=eval o c.V)(L:dP e=Y)(E:(A.endLine==u.line)=Y):EE c n k aP (.Call (.Attribute o "get" A) [e] [] u) X i:=by
 constructor;intro a g j bH bC f v;have Q:∀R∈[e],∀p y,R≠.Starred p y:=λR H=>by exact(cO.mp H)▸(g7 L)
 have B:backTo u (starEach [e] c.V)=[(ay,eval e c.V)]:=mS (Q e (.head _));refine wpAny_Call_method1_late O E B (aN.1 a g j _ _ f λah aj bE ak ao aq aC=>?_);obtain rfl:=aC.inv;obtain⟨w,aF,q,x⟩:=aq;refine gv (b _ _ _ _ _ x) λaK bP S=>(LL _ _ F.plainAttrs_dict F.slot_dict_get F.type_dict_get S.typeIs S.mapOf.noDict (wpAny_dict_get1 (knd:=strKind c.Z c.w) aK (aL.1 a aj ah _ _ ⟨w,aF,q,x⟩ λh r bU aT aE a_ bf=>?_)));obtain⟨bY,rfl⟩:=bf.inv;obtain⟨_,bh,aX,l⟩:=a_;refine gv (bx _ _ _ _ _ l) λbR bl bz=>(gx _ _ (tJ ..) bz.mapOf ((d bl)▸?_));have z:cj c.B r h r {h with toks:=h.toks+1}:=cj.tok l.ready _;exact v _ r _ ((ak.trans aT).trans z.same) (ao.trans aE) ⟨w,bh,aX,l.step z⟩ (t _ _)
theorem Qq{h:CmpOp}(F:Fm c.V n k bH)(i:J)(j:n[i]?=D t)(l:i<k)(E:EE c n k ak ao aK y)(s:EE c n k (aK.set i (.t y)) x X m)(o:gb h y m=D b)(R:behindInMarks h x=ay)
  (f:EX c n k X (if b then q else z) O A):ES c n k ak (.If (.Compare (.NamedExpr (.Name t cB) ao bE) [h] [x] bR) q z cF) O A:=by
 constructor;intro T r p Q H e S B;refine Ac (Ad (wpAny_NamedExpr (E.1 T r p _ _ S λcA L G P ah aj d=>?_)) R);obtain⟨w,cg,cu,aq⟩:=aj;refine vE (gh (av:=.t y) w e aq j l (F.loc j l) ⟨C,G,C,d⟩ .nil λg aC v aF=>(s.1 T L g _ _ ⟨w,aC,_,aF⟩ λbU bY b_ aH u aL aN=>(cP.to (A0 c.R (d.mono u) aN o) aL λaP aT bP aE a_ bf bh=>?_)));obtain rfl:=bh.inv;apply x6;have:=f.1 T aT aP Q H e bf λaX bx bl bz bC a d=>B aX bx bl (P.trans (v.trans (aH.trans (aE.trans bz)))) (ah.trans (u.trans (a_.trans bC))) a d;cases b
 .exact this
 .exact this
theorem Qz(p:bK c.B c.Z c.w O)(i:J)(j:n[i]?=D m){a:au}{ls:I _}{P r:I _}(T:EE c n k lv o ao (.bW (.ref a)))(cA:ao[i]?=D (.obj (.b9 q G)))(b:EE c n k ao e X (.str y))(H:X[i]?=D (.obj (.b9 q G)))
  (e1:objs c.Z c.w O q G=P++(a,fQ ls)::r)(b_:objs c.Z c.w O q G'=P++(a,fQ (ls++[y]))::r)(hG:G'.self=G.self/\G'.aZ=G.aZ/\c_ G'=c_ G)(cH:U ls<=1000)
  (cV:attributeBase o "append" c.V (eval o c.V)=eval o c.V)(L:dP e=Y)(aE:(bh.endLine==u.line)=Y):
  ES c n k lv (.Expr (.Call (.Attribute o "append" bh) [e] [] u) eR) (X.set i (.obj (.b9 q G'))) .next:=by
 constructor;intro hB g bx fy eG ej S aX;have Q:∀R∈[e],∀s bE,R≠.Starred s bE:=λR cg=>by exact(cO.mp cg)▸(g7 L)
 have w:=kI (pos:=u) (V:=c.V) [e] Q;refine tL (lM cV (yM w (az C)) aE Rb Rc Ih (T.1 hB g bx _ _ S λeN e6 dB aH aK aL aN=>?_)) (by delta interactive;exact S.1.kind.symm▸C) C;cases aN.inv;have E:∀{b g aP aT lv},lv[i]?=D _->aW c.B c.ρ hB g c.V n k lv aP aT b->∃z B,b.get? a=D _/\iR z ls:=λa_ S=>by
  refine ai ((iX p S j a_).2.ob.dY (a,fQ ls) (by rw [e1];simp)) λo T bf=>?_;refine d5 (bf) λz B e d=>?_;exact(gg z B (by refine ae (T) ?_;exact aA _ (e)) d)
 refine cps λ_ bl=>?_;obtain⟨ah,bz,bC,aj⟩:=aL;refine d5 (E cA aj) λz dO A eu=>bl ((dI (aR _ A C) (λez bH=>by obtain rfl:=ko bH;exact(aR _ A C)) (kq w (jJ Q (qO b.1 lU (g7 L)) ⟨ah,bz,bC,aj⟩ λfj aF dK bR bU bY l=>?_))));obtain⟨v,z,rfl,d,l⟩:=l.jx (P:=λcu=>∃v h,cu=v::h/\Den _ _ v _/\bu _ _ h _) λv h s m=>⟨v,h,C,s,m⟩;obtain rfl:=l.i9 C;obtain⟨bP,rfl⟩:=d.inv;obtain⟨_,cF,d8,f⟩:=bY;refine d5 (E H f) λh cL cB ak=>?_;refine IW (hsz:=(by simp only [qB,((ak.qd (ρ:=c.ρ) (fz:=g)).length)];simp;exact aD cH (az C))) ⟨cL,cB⟩ λaq t aC=>bG t λcQ t=>?_;have cZ:aq.get? a=D (lo (h++[.str (ck y) bP]) cQ):=by apply ae (t);simp [lo]
 refine bT (iX p f j H) λfB x=>aX _ aF .next (aH.trans (bR.trans (cI aq _ C))) (aK.trans bU) ⟨ah,cF,_,CI p f j H ?_ aC hG.1 ⟨C,by exact(hG.2.1)▸(x.sm),by exact(hG.2.2)▸(x.nd),x.ob.upd e1 b_ aC cZ (gg _ _ C (ak.append (.cons .nil)))⟩⟩ dj
 simp only [x.ob.ad,e1];simp
end
structure XP{O:Type}(c:Cx O)(xs:I af)(k:J)(lv:I (AV O))(st:I cz)(Φ:I (AV O)->fP->Prop):Prop where
 ev:jY c.B c.Z c.w c.A c.ρ c.V xs k lv st Φ
structure SP{O:Type}(c:Cx O)(xs:I af)(k:J)(lv:I (AV O))(st:cz)(Φ:I (AV O)->fP->Prop):Prop where
 ev:As c.B c.Z c.w c.A c.ρ c.V xs k lv st Φ
section
variable{c:Cx Ob}{i:J}
theorem iH.none{o:bM}(p:iH G o)(h:x∉(["_node2info","_ready_nodes","_npassedout","_nfinished"]:I af)):∃Q u,o=dictOf Q u/\getL x Q=D aa:=by
 obtain⟨m,S,i,q,e,X,w,v,R,g,H⟩:=p;simp only [cD,dR,or_false,not_or]at h;exact(gg m S e (H x h.1 h.2.1 h.2.2.1 h.2.2.2))
theorem BR(p:bK c.B c.Z c.w O)(F:Fm c.V n k ak)(j:n[i]?=D x)(w:gm c.V)(l:aW c.B c.ρ aT aX c.V n k aq m aC s.heap)(z:eE c.V m s.heap x (D (.ref G.self)))(h:ew c.Z c.w O aH G (.ref G.self) s.heap aN)(g:(L,a)∈O.fs)(q:L∉(["_node2info","_ready_nodes","_npassedout","_nfinished"]:I af))
  (f:(backTo u (starEach Q c.V)).any (·.1)=ay)(d:U Q<30)(E:(A.endLine==u.line)=Y)
  (r:aQ (aI c.Z c.w) c.A (evalArgs (.ref a) Y (backTo u (starEach Q c.V)) []) (λx e=>(e.heap.get? a=D b/\b.data=.func aF)/\aQ (aI c.Z c.w) c.A (call (.ref a) ([.ref G.self]++x.pos) x.kw) t H e) H s):
  aQ (aI c.Z c.w) c.A (eval (.Call (.Attribute (.Name x aP) L A) Q [] u) c.V) t H s:=by
 refine aG (eO (eL w l.ns z (aG (oE ?_))) (F.eY j))
 delta methodCall
 refine(yM f d)▸(cps λ_ y=>(ai (h.ob.dY (G.self,λo=>o=instObj O.bq G.d) (m7 (.head _))) λao X S=>ai (h.ob.dY (G.d,iH G) (m7 (cN (i:=1) C))) λaE T B=>(d5 (B.none q) λaK aL R P=>?_)));subst R;have ah:InstAt s.heap G.self _ O.bq (D _):=⟨ae X (aA D S),C,C,T⟩;exact bT (p.ok.fs _ g) λaj v=>y (aG (gH (method_fn (p.iF l.base) ah (vD (p.ok.pg L)).1 (vD (p.ok.pg L)).2 aj (beq_iff_eq.mp v) (by show(lookIn L _).map _=D ay;simp only [lookIn_dict,P];rfl) (aG (iN (MT E) (xU r))))))
theorem ZE(p:bK c.B c.Z c.w O)(F:Fm c.V n k cg)(i:J)(hx:n[i]?=D z)(hl:y[i]?=D (.obj (.b9 q G)))(g:(L,a)∈O.fs)(aE:L∉(["_node2info","_ready_nodes","_npassedout","_nfinished"]:I af))
  (bx:∀{h},bF c.B.h₀ h->h.get? a=D B)(Q:B.data=.func bY)(h:ER c n k y u es P e)(d:P[i]?=D (.obj (.b9 q G)))(x:e8 c.B c.Z c.w c.n (.ref a) (.b9 q G) e b)(uv:es.all dP=Y)(o:U es<30)(f:(A.endLine==u.line)=Y)
  (S:SR c.B c.ρ hB m c.V n k y s.heap)
  (R:∀t j v X r,b X r->bQ s t->Le m j->SR c.B c.ρ hB j c.V n k (P.set i (.obj X)) t.heap->Den c.ρ j v r->ah v t):
  aQ (aI c.Z c.w) c.A (eval (.Call (.Attribute (.Name z cu) L A) es [] u) c.V) ah bR s:=by
 refine cps λ_ ao=>?_;obtain⟨w,aq,aC,l⟩:=S;refine bT (iX p l hx hl) λaF aH=>ao (BR p F hx w l aF aH g aE (kI es (l6 uv)) o f (jJ (l6 uv) h.1 ⟨w,aq,aC,l⟩ λaK aL aN aP aT E ak=>⟨⟨bx E.ready.base,Q⟩,?_⟩));obtain⟨_,aj,b_,E⟩:=E
 exact bT (iX p E hx d) λa_ bf=>i4 (x c.A c.ρ aL _ aN _ aK _ c.R E.ready (p.ob.symm▸bf) (E.uf (j4 hx)) ak λt j v bU X r bh bl H aX bC bE bz bH bP T=>
  R t j v X r bh (aP.trans bl) (aT.trans H) ⟨w,aj,_,E.qw hx aX bC H bE bz a_ ⟨.ref G.self,C,bH⟩ bP⟩ T)
theorem QC(B:bK c.B c.Z c.w O)(F:Fm c.V n k bx)(i t:J)(aC:n[i]?=D x)(l:y[i]?=D (.obj (.b9 q G)))(g:(L,a)∈O.fs)(S:L∉(["_node2info","_ready_nodes","_npassedout","_nfinished"]:I af))
  (T:∀{h},bF c.B.h₀ h->h.get? a=D aE)(aN:aE.data=.func bH)(h:ER c n k y u Q P p)(d:P[i]?=D (.obj (.b9 q G)))(j:e8 c.B c.Z c.w c.n (.ref a) (.b9 q G) p o)(m:Q.all dP=Y)(z:U Q<30)(E:(b.endLine==u.line)=Y)
  (e:n[t]?=D H)(v:t<k)(R:gY (.Call (.Attribute (.Name x ah) L b) Q [] u) (D (.Name H aj)) ak.line c.V=pure ay):
  SP c n k y (.Assign [.Name H aj] (.Call (.Attribute (.Name x ah) L b) Q [] u) ak) λs aq=>∃X r,o X r/\s=(P.set i (.obj X)).set t (.t r)/\aq=.next:=by
 constructor;intro bY b_ bz bE bU aF aH aK;refine kr (ZE B F i aC l g S T aN h d j m z E aH λbC aL ao X r aP aT aX A bf=>?_) R;obtain⟨w,bP,bR,A⟩:=A;exact gh (av:=.t r) w aF A e v (F.loc e v) ⟨C,ao,C,bf⟩ .nil λa_ bh bl f=>aK a_ aL .next _ .next (gx X r aP C C) (aT.trans bl) aX ⟨w,bh,_,f⟩ dj
end
structure iD{O:Type}(B:bD O)(a i j:J)(ob:bM)(fd:rR)(xs:I af):Prop where
 d:jZ B a ob fd (dF (fL i j)) xs
 ar:fd.params=gw (fL i j)
 sc:fd.scope=ef (fL i j)
 df:fd.defaults=.none
 kd:fd.kwdefaults=.none
section
variable{c:Cx Ob}{st:J}
theorem bS{R:Type}{l:I R}{c:R}(h:l.Nodup)(a:c∉l):(l++[c]).Nodup:=gk.mpr ⟨h,gM.mpr ⟨dR,xK⟩,λi u b f e=>a (cO.mp f▸e▸u)⟩
theorem B7(p:bK c.B c.Z c.w O)(S:aW c.B c.ρ hB g c.V n k y m r h)(j:n[i]?=D x)(X:y[i]?=D (.obj (.jQ st Q))):eE c.V m h x (D (.ref Q.i))/\Ax O st Q (.ref Q.i) h (r i):=by
 refine cps λE kk=>?_;obtain⟨e,u,v,rfl,d⟩:=S.vars i x _ j X;apply kk;rw [p.ob]at d;exact(d.v)▸(⟨u,d⟩)
theorem QH(p:bK c.B c.Z c.w O)(F:Fm c.V n k G)(i:J)(j:n[i]?=D x)(X:y[i]?=D (.obj (.jQ st Q))):EE c n k y (.Name x h) y (.bW (.ref Q.i)):=by
 constructor;rintro T g s e H⟨w,m,r,S⟩R;exact bT (B7 p S j X) λu d=>eO (eL w S.ns u (R s g _ (bQ.refl s) (Le.refl _) ⟨w,m,r,S⟩ (.bW _))) (F.eY j)
theorem QG(p:bK c.B c.Z c.w O)(i:J)(j:n[i]?=D cV)(bf:EE c n k cF e aT bE)(aK:EE c n k aT o X (.bW (.ref Q.i)))(bC:X[i]?=D (.obj (.jQ st Q)))(L:tT O x cZ st)(cH:st<1000)
  (w:∀{g:Fz}{v:aB}(su:au)(A y:fT),Den c.ρ g v bE->sO O.N (st+1) {Q with su:=su} ⟨.ref O.N,D Q.id,.plain,(slotsOf {Q with su:=su} A y st++H_ (st+1-(slotsOf {Q with su:=su} A y st).size) aa).setIfInBounds st (D v)⟩)
  (bh:∀su,wu O.N st {Q with su:=su}=[(Q.i,sO O.N st {Q with su:=su}),(Q.id,λ_=>True)])(H:∀su,wu O.N (st+1) {Q with su:=su}=[(Q.i,sO O.N (st+1) {Q with su:=su}),(Q.id,λ_=>True)])
  (bU:gY e (D (.Attribute o x cA)) bz.line c.V=pure ay):ES c n k cF (.Assign [.Attribute o x cA] e bz) (X.set i (.obj (.jQ (st+1) Q))) .next:=by
 constructor;intro T g cB dO dK cQ S G;refine xW (bf.1 T g cB _ _ S λah aj v ak ao aq aC=>aK.1 T aj ah _ _ aq λaE aF y aH B aL aN=>(aN.Oh (P:=λy=>aQ _ _ (setAttr y x v) _ _ _) ?_)) bU;refine cps λaP f=>?_;obtain⟨aX,a_,r,l⟩:=aL;refine bT (B7 p l j bC) λbl bx=>bG bx.ob λsu t=>?_;have a:=t;apply f;refine cps λaP f=>?_;refine ai (a.dY (Q.i,sO O.N st {Q with su:=su}) (.head _)) λdB bH bP=>jL bP λA y bR=>ai (a.dY (Q.id,λE=>True) (.tail _ (.head _))) λbY b_ E=>?_;have cg:InstAt aE.heap Q.i _ O.N (D bY):=⟨bR▸bH,C,C,b_⟩;have m:=(cG.mp j).1;have R:Q.i∈r i:=a.ad.symm▸.head _;have F:=l.fp i m;apply f;refine GW (p.iF l.base) cg p.ok.Cb p.ok.B8 L.Hf L.ty L.sl cH C λz h cu=>?_;have d:∀{b},b∉r i->b≠Q.i:=λ{b}u q=>u (q▸R)
 refine G _ aF .next ((ak.trans aH).trans (cI z _ C)) (ao.trans B) ⟨aX,a_,_,l.qw j (λb u E o e=>(h.2 b (d u)).trans e) (bD.ir l.inv λP cL o e=>(h.2 P (d ((l.tab P cL).2.2.2.2 i m))).trans e) (Le.refl _) (λb o e=>(h.2 b λq=>aV ((aA _ q).trans ((F Q.i R).2.1)) e).trans (l.bJ b o e)) (λb o e=>.inl e) bl
  ⟨.ref Q.i,C,p.ob.symm▸(⟨C,su,t.upd (P:=[]) (bh su) (H su) h cu (w su A y (aC.mono B))⟩:Ax O _ Q _ z _)⟩ (λb s=>⟨.inl s,(F b s).2.1⟩)⟩ dj
theorem aeN(p:bK c.B c.Z c.w O)(i:J)(j:n[i]?=D cF)(aP:EF c n g aC e P [])(aT:pX c.B c.Z c.w c.A c.ρ c.V n g P o (.bW (.ref Q.i)))(aK:P[i]?=D (.obj (.jQ 2 Q)))(aX:Q.succ=[])
  (ak:gY e (D (.Attribute o "successors" bf)) bh.line c.V=pure ay):ES c n g aC (.Assign [.Attribute o "successors" bf] e bh) (P.set i (.obj (.jQ 3 Q))) .next:=by
 constructor;intro T a_ bE bY b_ cg bC ah;refine xW (aP.1 T a_ bE _ _ bC λa f k cA bU m r bl bx w l Fr bR aj=>(aT T f a _ _ ⟨w,m,r,l⟩ λcu y aq=>?_)) ak;obtain rfl:=aq.inv;obtain rfl:=aj.i9 C;refine cps λE aE=>bT (B7 p l j aK) λaF aH=>bG aH.ob λsu u=>ai (u.dY (Q.i,sO O.N 2 {Q with su:=su}) (.head _)) λcB t aL=>?_;refine jL (aL) λaN y d=>?_;refine ai (u.dY (Q.id,λE=>True) (cN (i:=1) C)) λG X E=>aE ?_;dsimp only at t X d;subst d;have L:=p.ok.s2;have ao:InstAt a.heap Q.i _ O.N (D G):=⟨t,C,C,X⟩;have A:=(cG.mp j).1;have ad:r i=[Q.i,Q.id]:=by apply ae (u.ad);exact C
 have R:Q.i∈r i:=by rw [ad];exact .head _
 have F:=l.fp i A;have H:Q.id∈r i:=ad.symm▸.tail _ (.head _);have z:=Fr.fp i A;refine GW (p.iF l.base) ao p.ok.Cb p.ok.B8 L.Hf L.ty L.sl (dN _ _) C λh v bH=>?_;have v:gW Q.i a.heap h:=v;have x:∀{b},b∉r i->b≠Q.i:=λ{b}s q=>s (by rw [q];exact R);have B:=ad▸u.nd;have bP:Ax O 3 Q (.ref Q.i) h [Q.i,Q.id,k]:=⟨C,k,⟨bO (aR _ bH ⟨aN,y,C⟩) (bO (aR G ((v.2 Q.id (qm B 1 0 C C C)).trans X) dj) (bO (aR _ ((v.2 k (x z)).trans bR) ⟨_,_,C,aX.symm▸.nil⟩) eK)),C,bS B (ad▸z)⟩⟩;exact ah _ f .next (bl.trans (cI h _ C)) bx ⟨w,m,_,l.wY j (λb s E o e=>(v.2 b (x s)).trans e) (bD.ir l.inv λS bz o e=>(v.2 S (x ((l.tab S bz).2.2.2.2 i A))).trans e) (Le.refl _) (λb o e=>(v.2 b λq=>(aV ((aA _ q).trans ((F Q.i R).2.1)) e)).trans (l.bJ b o e)) (λb o e=>.inl e) aF ⟨.ref Q.i,C,p.ob.symm▸bP⟩ (bO ⟨.inl R,(F _ R).2.1⟩ (bO ⟨.inl H,(F _ H).2.1⟩ (bO ⟨.inr Fr,Fr.fz⟩ eK)))⟩ dj
end
abbrev Ly.up(H:Ly q)(f:cf)(B:bF H.B.h₀ f):Ly q:=⟨H.B.up f B,H.Z,H.w,H.mg,H.mb,H.G.up B,H.bi⟩
theorem dW.call(r:dW L (n+1)):dW (L.under (.builtin "type.__call__" ⟨.ref bq::E,l⟩)) n:=
 ⟨by have:=r.depth;exact cT 0 (.a (.a (.a (.a (.v 0) (.n 1)) (.m 4 (.v 1))) (.n 16)) (.n 1)) (.v 2) (.a (.a (.a (.v 0) (.m 4 (.a (.v 1) (.n 1)))) (.n 16)) (.n 1)) (.v 2) C [_,_,_] this,by have:=r.units;exact cT 0 (.a (.a (.a (.a (.v 0) (.n 1)) (.m 8 (.v 1))) (.n 64)) (.n 1)) (.v 2) (.a (.a (.a (.v 0) (.m 8 (.a (.v 1) (.n 1)))) (.n 64)) (.n 1)) (.v 2) C [_,_,_] this,r.handled⟩
section
variable{y:Ly Ob}
theorem VF{c:Cx Ob}{st:J}(ek:bK c.B c.Z c.w O)(F:Fm c.V n k G)(i:J)(j:n[i]?=D x)(X:lv[i]?=D (.obj (.jQ st Q))):pX c.B c.Z c.w c.A c.ρ c.V n k lv (.Name x p) (.bW (.ref Q.i)):=by
 rintro T g s h H⟨w,m,r,S⟩R;exact bT (B7 ek S j X) λu d=>eO (eL w S.ns u (R s.toks _ (.bW _))) (F.eY j)
theorem r9{X:bD O}{m:cy}{w:bZ}{mg v:af->bg aB}{xs:I af}(G:fe X mg v)(k:jZ X a ob S t xs)(j:p.length+1<=U xs)(d:Binds X m w S xs args p)
  (s:∀{y e R g h c i r},Az i r->X.ob.at_ o y e R->X.ob.at_ i g h c->g=y)
  (b:∀{x}(B:bF X.h₀ x)H A F,dW A u->jY (X.up x B) m w A F (di S H a) xs (U xs) (l5 o xs p) t λl n=>∃i r,l[0]?=D (.obj i)/\vR n r/\Az i r):
  e8 X m w (u+1) (.ref a) o args Az:=
 JU G k j d (λe=>(aR _ e (λq f=>f))) s (λB E E E E H A F z=>b B H A F z) λP E E h E E=>(gx _ _ P h (λq f=>.inl f))
noncomputable def Z9:I (af×fc):=[("self",.local),("node",.local)]
noncomputable def u6:I af:=["self","node"]
theorem adY(p:bK y.B y.Z y.w O)(k:iD y.B O.ni 17 1 l S u6)(Q:Nd)(x:Q.np=0)(b:Q.succ=[]):e8 y.B y.Z y.w (u+1) (.ref O.ni) (.jQ 0 Q) [.str Q.key] λs r=>s=.jQ 3 Q/\r=.none:=by
 refine r9 y.G k.d (dz _) (.plain λz X=>?_) (λP w h=>?_) λ{f}B H L a i=>?_
 .exact yi (λo j=>ae (qL k.ar k.df _) C) z X
 .obtain⟨rfl,_⟩:=P;rw [p.ob]at w h;simp only [w.v,h.v]
 .have F:Fm (di S H O.ni) u6 (U u6) Z9:=jM (C) (by show S.scope.names=_;exact aA _ k.sc)
  let c:=(y.up f B).c L a (di S H O.ni) u i
  have q:=p.up B;exact eX.p (aY:=[.obj (.jQ 3 Q),.t _]) (EX.ev (c:=c) (zx (QG q 0 C (zv F 1 C C) (QH q F 0 C C) C q.ok.s0 (az C) (λ{_ v}su t e d=>d.iY (P:=λv=>sO O.N 1 {Q with su:=su} ⟨.ref O.N,D Q.id,.plain,#[D v]⟩) λn=>⟨n,e,C⟩) (λE=>C) (λE=>C) C) (zx (QG q 0 C (by rw [show agx 0=agx Q.np by rw [x]];exact zi _) (QH q F 0 C C) C q.ok.s1 (az C) (λ{_ v}su t e d=>d.gR (P:=λv=>sO O.N 2 {Q with su:=su} ⟨.ref O.N,D Q.id,.plain,#[D (.str (ck Q.key) t),D v]⟩) λn=>⟨t,n,C⟩) (λE=>C) (λE=>C) C) (zx (aeN q 0 C (rz cU C) (VF q F 0 C C) C b C) ⟨i7⟩)))) (lZ _ _ C (.inr ⟨C,C⟩) C C)
end
section
variable{c:Cx Ob}{h:cf}
theorem O3(p:bK c.B c.Z c.w O)(S:aW c.B c.ρ e g c.V n k y m r h):(h.objs.size==sysModules)=ay:=by
 refine Kx ((makes_of (M:=aI c.Z c.w) (p.iF S.base) p.ok.Gb).obj) λE E E E T E=>?_;exact beq_eq_false_iff_ne.mpr (vy (qE (fG _) (kS p.ok.lt (fk T))))
noncomputable def jA(l:I J)(i id R:au):Nd:=⟨l,i,id,R,0,[]⟩
theorem Zq(p:bK c.B c.Z c.w O)(aX:dW c.A (bl+2))(aT:∀i id R,e8 c.B c.Z c.w (bl+1) (.ref O.ni) (.jQ 0 (jA l i id R)) [.str l] λX r=>X=.jQ 3 (jA l i id R)/\r=.none)(S:aW c.B c.ρ hB fz c.V xs k y m cK s.heap)(aj:Den c.ρ fz z (.str l))
  (ah:∀t j i id R,bQ s t->Le fz j->aW c.B c.ρ hB j c.V xs k y m cK t.heap->gp (wu O.N 3 (jA l i id R)) t.heap [i,id,R]->(∀b∈[i,id,R],e9 c.B hB j c.V xs cK b)->ao (.ref i) t):aQ (aI c.Z c.w) c.A (call (.ref O.N) [z]) ao bE s:=by
 obtain⟨B,bh,a_,A,os⟩:=s;have G:=p.iF S.base;have a:aW c.B c.ρ hB fz c.V xs k y m cK B:=S;have r:=S.ready;refine i4 (make_core (makes_of G p.ok.Nb) (looks_findIn G p.ok.M7) (λaN=>bind_fn G aN (beq_iff_eq.mp p.ok.M6)) (.inl C) ?_);have P:=cj.iE r emptyDict A;have aq:=S.step P;have aH:=aq.step (cj.iE (P.ready r) (instObj O.N B.objs.size) A);have bf:((B.push emptyDict).push (instObj O.N B.objs.size)).get? (B.objs.size+1)=D (instObj O.N B.objs.size):=by heap_get
 have n1:B.get? B.objs.size=aa:=gS ⟨B,bh,a_,A,os⟩;have F:B.get? (B.objs.size+1)=aa:=by
  cases q:B.get? _ with
  |none=>rfl
  |some o=>exact bA (fk q) (h9.mpr (rM _))
 have bx:gp (wu O.N 0 (jA l (B.objs.size+1) B.objs.size 0)) _ [B.objs.size+1,B.objs.size]:=⟨λE g=>by
  simp only [jA]at g;rcases cD.mp g with rfl|g
  .exact(aR _ bf ⟨0,0,C⟩)
  .rcases cD.mp g with rfl|g
   .exact(aR _ (by heap_get) dj)
   .simp at g,C,by simp⟩
 have ak:c.B.ob.at_ (.jQ 0 (jA l (B.objs.size+1) B.objs.size 0)) (.ref (B.objs.size+1)) ((B.push emptyDict).push (instObj O.N B.objs.size)) [B.objs.size+1,B.objs.size]:=by
  rw [p.ob];exact(⟨C,0,bx⟩)
 have h:=S.free n1;have f2:=S.free F;refine aT _ B.objs.size 0 _ c.ρ fz _ [z] _ _ [B.objs.size+1,B.objs.size] aX.call aH.ready ak (bO (dI f2.fz f2.h0 f2.tab) (bO (dI h.fz h.h0 h.tab) eK)) (.one aj) ?_
 .rintro t j bH aC X bC⟨rfl,rfl⟩aF H aK aL n aP v u aE;obtain rfl:=aE.inv;refine⟨C,?_⟩;rw [p.ob]at v;refine bG v.ob λR d=>?_;have ad:aC=[B.objs.size+1,B.objs.size,R]:=by apply ae (d.ad);exact C
  subst ad;have x:=λ{b o}e f=>bO (P:=λb=>B.get? b=D o->False) (aV F) (bO (aV n1) eK) b f e;have Q:∀{b o},B.get? b=D o->((B.push emptyDict).push (instObj O.N B.objs.size)).get? b=D o:=λe=>eH _ (eH _ e);have w:∀{b},((B.push emptyDict).push (instObj O.N B.objs.size)).get? b=aa->B.get? b=aa:=λ{b}e=>by
   cases q:B.get? b with
   |none=>rfl
   |some o=>rw [Q q]at e;assumption
  have T:∀{b},b∈[B.objs.size+1,B.objs.size]->B.get? b=aa:=λ{b}f=>by
   cases q:B.get? b with
   |none=>rfl
   |some o=>exact bA f (x q)
  have bz:=a.grow (λb f o e=>aK b (x e) f o (Q e)) aL H λb o e=>by
   rcases aP b o e with q|q|q
   .exact .inl q
   .exact .inr ⟨w q,n b o e⟩
   .exact .inr ⟨T q,n b o e⟩
  refine ah t j _ _ R (bQ.trans (cI _ _ C) aF) H bz d λb f=>?_;have E:B.get? b=aa:=by
   rcases(u b f).1 with q|q
   .exact T q
   .exact w q
  have L:=a.free E;exact⟨L.hb,(u b f).2,L.loc,L.cell,L.fp,L.tab,L.h0⟩
noncomputable def SG.add(G:SG)(Q:Nd):SG:={G with bS:=G.bS++[Q]}
theorem aa8(P:h.DictOf (strKind m w) k (c_ G)):∃o,h.get? k=D o/\j7 m w G o:=jz P λo Q L T r=>(aR o T (λh a e=>(l0 o Q L e r)))
theorem Mt(G:SG)(Q:Nd):c_ (G.add Q)=c_ G++[(ck Q.key,.ref Q.i)]:=by simp [c_,SG.add]
theorem stored_new(h:∀Q∈G.bS,Q.key≠l)(v:aB):stored (c_ G) (ck l) v=c_ G++[(ck l,v)]:=by
 delta stored
 rw [aJ];intro q;refine ai (mz.mp q) λE g e=>ai (dZ.mp g) λQ z d=>?_;subst d;simp only [oG]at e;exact h Q z (sR e)
theorem aaG(m:cy)(w:bZ)(O:Cl)(G:SG)(Q:Nd):((objs m w O 0 (G.add Q)).map (·.1)).Perm ((objs m w O 0 G).map (·.1)++[Q.i,Q.id,Q.su]):=by
 have t:(objs m w O 0 (G.add Q)).map (·.1)=(fX O.bq G).map (·.1)++(gP O.N G).map (·.1)++[Q.i,Q.id]++(G.aZ::G.bS.map (·.su))++[Q.su]:=by
  simp [nX,gP,SG.add,j2,g5,fX,afT]
 have b:(objs m w O 0 G).map (·.1)=(fX O.bq G).map (·.1)++(gP O.N G).map (·.1)++(G.aZ::G.bS.map (·.su)):=by
  simp [nX,g5]
 simp only [t,b];have:=(List.perm_append_comm (l₁:=[Q.i,Q.id]) (l₂:=G.aZ::G.bS.map (·.su))).append_left ((fX O.bq G).map (·.1)++(gP O.N G).map (·.1));have:=this.append_right [Q.su];simpa [gX]using this
theorem aaF(g:E∈objs m w O 0 (G.add Q)):
  E∈fX O.bq G++gP O.N G\/E∈(G.bS.map λQ=>(Q.su,fQ Q.succ))\/E=(G.aZ,j7 m w (G.add Q))\/E∈j2 O.N Q\/E=(Q.su,fQ Q.succ):=by
 have t:objs m w O 0 (G.add Q)=fX O.bq G++gP O.N G++j2 O.N Q++((G.aZ,j7 m w (G.add Q))::(G.bS.map λQ=>(Q.su,fQ Q.succ))++[(Q.su,fQ Q.succ)]):=by
  simp [nX,gP,SG.add,g5]
  rfl
 rw [t]at g;rcases fE.mp g with g|g
 .rcases fE.mp g with g|g
  .exact .inl g
  .exact .inr (.inr (.inr (.inl g)))
 .rcases fE.mp g with g|g
  .rcases cD.mp g with g|g
   .exact .inr (.inr (.inl g))
   .exact .inr (.inl g)
  .exact .inr (.inr (.inr (.inr (cO.mp g))))
theorem Cf(m:cy)(w:bZ)(O:Cl)(G:SG):objs m w O 0 G=(fX O.bq G++gP O.N G)++(G.aZ,j7 m w G)::(G.bS.map λQ=>(Q.su,fQ Q.succ)):=C
theorem acJ(e:ew m w O 0 G v h R)(i:gp (wu O.N 3 Q) h [Q.i,Q.id,Q.su])(k:∀b∈[Q.i,Q.id,Q.su],b∉R)(B:gW G.aZ h x)(P:x.DictOf (strKind m w) G.aZ (c_ (G.add Q)))(z:∀a∈G.bS,a.key≠Q.key):
  ew m w O 0 (G.add Q) v x ((objs m w O 0 (G.add Q)).map (·.1))/\∀b∈(objs m w O 0 (G.add Q)).map (·.1),b∈R\/b∈[Q.i,Q.id,Q.su]:=by
 have y:=aaG m w O G Q;have H:=e.ob.nd;rw [e.ob.ad]at H k;refine⟨⟨e.v,e.sm,?_,⟨λE g=>?_,C,?_⟩⟩,λb f=>?_⟩
 .rw [Mt,eW,gk];refine(dI e.nd (by simp) (λn u b f=>?_));rw [iK,RE,cO]at f;subst f;refine ai (dZ.mp u) λE g d=>?_;subst d;refine ai (dZ.mp g) λa X d=>?_;subst d;exactλq=>z a X (sR q)
 .have l:=H;rw [Cf,eW,iK]at l;refine gv (gk.mp l) λr F j=>?_;have s:=λ{E}g t=>ai (e.ob.dY E g) λo T p=>(aR o (ae (B.2 _ t) T) p);have S:=λ{E}g=>by
   refine ai (i.dY E g) λo T p=>(aR o (ae (B.2 _ λq=>k E.1 ?_ (by exact(q)▸((by simp only [Cf];simp)))) T) p);have:=fM (f:=(·.1)) g
   assumption
  rcases aaF g with g|g|rfl|g|rfl
  .exact s (gj _ ‹_›) λq=>j G.aZ (q▸(fM g)) G.aZ (.head _) C
  .refine s (by simp only [Cf];exact i0 _ (.tail _ g)) λq=>(gM.mp F).1 ?_;have A:=fM (f:=(·.1)) g;simp only [q]at A;exact A
  .exact aa8 P
  .simp only [j2,cD,dR,or_false]at g;rcases g with rfl|rfl
   .refine ai (S (.head _)) λo T d=>?_;refine jL (d) λA L c=>?_;exact(aR o T ⟨A,L,c⟩)
   .exact ai (S (cN (i:=1) C)) λo T r=>(aR o T dj)
  .exact S (cN (i:=2) C)
 .rw [y.nodup_iff,gk];refine(dI H i.nd (λn u b f q=>k b f (q▸u)))
 .rw [y.mem_iff,<-e.ob.ad]at f;exact fE.mp f
end
section
set_option tactic.hygienic true
abbrev vJ(c:Cx Ob)(n:I af)(k:J)(y:I (AV Ob))(e:cE)(z:T):Prop:=pX c.B c.Z c.w c.A c.ρ c.V n k y e z
theorem VG(p:bK c.B c.Z c.w O)(F:Fm c.V n k h)(i:J)(j:n[i]?=D x)(X:y[i]?=D (.obj (.b9 q G))):vJ c n k y (.Name x e) (.bW (.ref G.self)):=by
 rintro T g s Q H⟨w,m,r,S⟩R;refine bT (iX p S j X) λu d=>?_;exact eO (eL w S.ns u (R s.toks _ (.bW _))) (F.eY j)
theorem VH(p:bK c.B c.Z c.w O)(i:J)(j:n[i]?=D u)(X:y[i]?=D (.obj (.b9 q G)))(a:vJ c n k y o (.bW (.ref G.self)))(f:GT G x z)
  (m:eval (.Attribute o x h) c.V=(do let Q<-eval o c.V;standAt h.atName;let r<-holding [Q] (getAttr Q x Y);letTemporaryGo o Q r;pure r)):vJ c n k y (.Attribute o x h) z:=by
 rintro T g s l H⟨w,e,b,S⟩R;refine Q2 (a T g s _ _ ⟨w,e,b,S⟩ λt v d=>?_) m;obtain rfl:=d.inv;exact Lh p S (iX p S j X).2 f λv A d=>R A v d
theorem aeo(p:bK c.B c.Z c.w O)(F:Fm c.V n k aP)(cA:dW c.A (u+2))(bz:∀i id R,e8 c.B c.Z c.w (u+1) (.ref O.ni) (.jQ 0 (jA l i id R)) [.str l] λbf bl=>bf=.jQ 3 (jA l i id R)/\bl=.none)
  (S:J)(z:aP[S]?=D (L,.globalImplicit))(b_:c.mg L=D (.ref O.N))(i g:J)(d:n[i]?=D fy)(bx:y[i]?=D (.obj (.b9 0 G)))(bh:vJ c n k y e (.str l))(bP:dP e=Y)(bR:vJ c n k y o (.bW (.ref G.aZ)))(cH:vJ c n k y ak (.str l))
  (X:∀cZ∈G.bS,cZ.key≠l)(aF:n[g]?=D H)(Q:g<k)(aK:U G.bS<=1000)
  (cQ:swappedStores [.Subscript o ak aL,.Name H cB] (.Call (.Name L cL) [e] [] P) c.V=pure aa):
  SP c n k y (.Assign [.Subscript o ak aL,.Name H cB] (.Call (.Name L cL) [e] [] P) gc) λcV dB=>∃a id R,cV=(y.set i (.obj (.b9 0 (G.add (jA l a id R))))).set g (.t (.bW (.ref a)))/\dB=.next:=by
 constructor;intro T dK ah fZ e6 aT aX a_;refine wpAny_Assign_two ?_ C cQ;obtain⟨w,m,r,x⟩:=aX;refine ku (nW c.G w x.base (F.kn S z nofun) b_ (F.kg S z) ?_);have f:starEach [e] c.V=(ay,eval e c.V)::starEach [] c.V:=Pk (g7 bP);refine callWith_K (p.iF x.base) p.ok.Mr ?_ f C;have bC:backTo P (starEach [e] c.V)=[(ay,eval e c.V)]:=by rw [f];rfl
 rw [bC];refine pS (bh T dK ah _ _ ⟨w,m,r,x⟩ λbE fj bH=>lK ⟨p.iF x.base,(Zq (s:={ah with toks:=bE}) p cA bz x bH λh s a id R bU bY E cg Fr=>?_)⟩);refine aG (gH (bR T s h _ _ ⟨w,m,r,E⟩ λcu aN t=>?_));obtain rfl:=t.inv;refine aG (gH (cH T s {h with toks:=cu} _ _ ⟨w,m,r,E⟩ λaj aN t=>?_));obtain⟨fB,rfl⟩:=t.inv;refine aG (oE (aG (gH ?_)));refine bT (iX p E d bx) λcF v=>?_;have A:=(cG.mp d).1;have ao:=E.fp i A;refine wpAny_setItem_pairs (s:={h with toks:=aj}) (tJ ..) v.map ?_ (by simp only [rO];simp [c_];exact aD aK (az C));intro j aC B;have B:gW G.aZ h.heap j:=B;rw [stored_new X]at aC;have aE:G.aZ∈r i:=by simp only [v.ob.ad,Cf];simp
 have aq:∀{b},b∉r i->b≠G.aZ:=λ{b}u q=>u (by rw [q];exact aE);obtain⟨d8,ej⟩:=acJ v cg (λb f=>(Fr b f).fp i A) B (by rw [Mt];exact aC) X;have eu:=E.wY (av:=.obj (.b9 0 (G.add (jA l a id R)))) (fp:=(objs c.Z c.w O 0 (G.add (jA l a id R))).map (·.1)) d (λb u _ o e=>ae (B.2 b (aq u)) e) (bD.ir E.inv λaH eG o e=>ae (B.2 aH (aq ((E.tab aH eG).2.2.2.2 i A))) e) (Le.refl _)
  (λb o e=>ae (B.2 b λq=>aV ((aA _ q).trans ((ao G.aZ aE).2.1)) e) (E.bJ b o e)) (λb o e=>.inl e) cF ⟨.ref G.self,C,p.ob.symm▸d8⟩ (λb f=>by
   rcases ej b f with q|q
   .exact⟨.inl q,(ao b q).2.1⟩
   .exact⟨.inr (Fr b q),(Fr b q).fz⟩)
 exact wpAny_release (vE (gh (s:={h with heap:=j,toks:=aj+1}) (av:=.t (.bW (.ref a))) w aT eu aF Q (F.loc aF Q) ⟨C,_,C,.bW _⟩ .nil λez eN eR dO=>a_ ez s .next _ .next (l0 a id R C C) ((bQ.trans (cI _ _ C) bU).trans (bQ.trans (cI j _ C) eR)) bY ⟨w,eN,_,dO⟩ dj))
end
section
variable{st:cz}{rest:I cz}
theorem EX.xp{st:I cz}(h:EX c n k y st aY fl)(p:Φ aY fl):XP c n k y st Φ:=⟨eX.p h.1 p⟩
theorem qz(w:ES c n k y u P .next)(v:XP c n k P rest b):XP c n k y (u::rest) b:=⟨C0 w.1 v.1⟩
theorem C8(w:SP c n k y u i)(v:∀P A,i P A->(A=.next/\XP c n k P rest b)\/(A≠.next/\b P A)):XP c n k y (u::rest) b:=⟨zA w.1 λl L p=>(v l L p).imp (λq=>⟨q.1,q.2.1⟩) id⟩
theorem QW(p:b y .next):XP c n k y [] b:=⟨aee p⟩
theorem XP.ex{st:I cz}(h:XP c n k y st Φ)(p:∀x R,Φ x R->p7 c.B x P/\R=A):EX c n k y st P A:=⟨jY.x h.1 p⟩
theorem XP.wk{st:I cz}(h:XP c n k y st b)(p:∀x R,b x R->∃P,p7 c.B x P/\i P R):XP c n k y st i:=⟨jY.wk h.1 p⟩
theorem XP.mono{st:I cz}(h:XP c n k y st Φ)(p:∀x R,Φ x R->i x R):XP c n k y st i:=⟨λT g s Q H a b d=>h.1 T g s Q H a b λt j L x R q=>d t j L x R (p x R q)⟩
theorem aex(F:Fm c.V n k b_)(i:J)(j:n[i]?=D t)(l:i<k)(p:EE c n k B ak ao y)(s:EE c n k (ao.set i (.t y)) x X m){b:bw}(o:gb h y m=D b)(R:behindInMarks h x=ay)
  (f:XP c n k X (if b then q else z) Φ):SP c n k B (.If (.Compare (.NamedExpr (.Name t cA) ak cB) [h] [x] bH) q z cu) Φ:=by
 constructor;intro T H E Q A e S L;refine Ac (Ad (wpAny_NamedExpr (p.1 T H E _ _ S λcg O G P ah aj d=>?_)) R);obtain⟨w,cH,bY,aq⟩:=aj;refine vE (gh (av:=.t y) w e aq j l (F.loc j l) ⟨C,G,C,d⟩ .nil λaC v r g=>(s.1 T O aC _ _ ⟨w,v,_,g⟩ λbP bR bU aF u aH aK=>(cP.to (A0 c.R (d.mono u) aK o) aH λaL aN cF aP aT aX aE=>?_)));obtain rfl:=aE.inv;apply x6;have:=f.1 T aN aL Q A e aX λbf bh bl a_ bz bx bC bE a d=>L bf bh bl a_ bz bx (P.trans (r.trans (aF.trans (aP.trans bC)))) (ah.trans (u.trans (aT.trans bE))) a d;cases b
 .exact this
 .exact this
end
section
variable{y:Ly Ob}{f:au}
structure pY(G:SG)(l:I J)(G':SG)(j:J)(nd:Nd):Prop where
 at_:G'.bS[j]?=D nd
 key:nd.key=l
 how:(G'=G/\∃nd∈G.bS,nd.key=l)\/((∀nd∈G.bS,nd.key≠l)/\∃i id su,G'=G.add (jA l i id su)/\nd=jA l i id su)
noncomputable def Z2:I (af×fc):=[("self",.local),("node",.local),("result",.local),("_NodeInfo",.globalImplicit)]
noncomputable def rq:I af:=["self","node","result"]
theorem adU(p:bK y.B y.Z y.w O)(k:iD y.B f 19 1 aN S rq)(T:iD y.B O.ni 17 1 s ak u6)(u:y.mg "_NodeInfo"=D (.ref O.N))(aq:U G.bS<=1000):
  e8 y.B y.Z y.w (aP+3) (.ref f) (.b9 0 G) [.str l] λr ah=>∃o t Q,pY G l o t Q/\o.self=G.self/\r=.b9 0 o/\ah=.bW (.ref Q.i):=by
 refine r9 y.G k.d (eA C) (.plain λaH X=>?_) (λP w v=>?_) λ{x}B H aj ao i=>?_
 .exact yi (λa aT=>ae (qL k.ar k.df _) C) aH X
 .refine mU P λo t Q E n j E=>?_;subst j;rw [p.ob]at w v;simp only [w.v,v.v,n]
 .have F:Fm (di S H f) rq (U rq) Z2:=jM (C) (by exact aA _ k.sc)
  let c:=(y.up x B).c aj ao (di S H f) _ i
  have q:=p.up B;have L:iD (y.up x B).B O.ni 17 1 s ak u6:=⟨T.d.up B,T.ar,T.sc,T.df,T.kd⟩;apply XP.ev (c:=c);have h:tQ c rq (U rq) (l5 (.b9 0 G) rq [.str l]) G:=OV q (i:=0) C C
  by_cases g:∃Q∈G.bS,Q.key=l
  .refine ai g λQ e d=>?_;subst d;exact bG (pO e) λt b=>EX.xp (zx (Qq F 2 C (by exact fG _) (HF h (kc q (j8 q (i:=0) C C) (jD q F 0 C C) .uG C) h (zv F 1 C C) (λz=>by rw [Ht z b,agp]) (λE E=>.bW _) C C C) zn (b:=ay) C C ⟨i7⟩) (⟨ue (jc (zv F 2 C C)).1 (by exact nofun)⟩)) (gx _ _ C (.inl C) ⟨G,t,Q,⟨b,C,.inl ⟨C,Q,e,C⟩⟩,C,C,C⟩)
  .have g:∀Q∈G.bS,Q.key≠l:=λQ e aC=>g (aR Q e aC);refine C8 (aex (Φ:=λaE A=>∃a id R,aE=[.obj (.b9 0 (G.add (jA l a id R))),.t (.str l),.t (.bW (.ref a))]/\A=.next) F 2 C (fG _) (HF h (kc q (j8 q (i:=0) C C) (jD q F 0 C C) .uG C) h (zv F 1 C C) (λz=>(adL g).symm▸C) (λE E=>.none) C C C) zn (b:=Y) C C ?_) ?_
   .refine C8 (aeo q F i (λaF id R=>adY q L (jA l aF id R) C C) 3 C u 0 2 C C (EG (i:=1) C C C) C (VH q 0 C C (VG q F 0 C C) .uG C) (EG (i:=1) C C C) g C (fG _) aq C) λaK A P=>jz P λa id R aL m=>?_;subst aL m;exact .inl ⟨C,QW (l0 a id R C C)⟩
   .rintro aK A⟨a,id,R,rfl,rfl⟩;refine .inl ⟨C,EX.xp (fl:=.ret (.bW (.ref a))) ⟨ue (jc (zv F 2 C C)).1 (nofun)⟩ (gx _ _ C (.inl C) ⟨G.add (jA l a id R),U G.bS,jA l a id R,⟨?_,C,.inr ⟨g,a,id,R,C,C⟩⟩,C,C,C⟩)⟩;simp [SG.add]
end
abbrev AN:=I J×aS×I (I J)
noncomputable def e_(H:I AN)(l:I J):I AN:=if H.any (λa=>aO (a.1=l))then H else H++[(l,0,[])]
noncomputable def lu(H:I AN)(l:I J)(d:aS):I AN:=H.map λa=>if a.1=l then(a.1,a.2.1+d,a.2.2)else a
noncomputable def iZ(H:I AN)(l s:I J):I AN:=H.map λa=>if a.1=l then(a.1,a.2.1,a.2.2++[s])else a
def jI(H:I AN)(y:I J)(a:I (I J)):I AN:=a.foldl (λH p=>iZ (e_ H p) p y) (lu (e_ H y) y a.length)
noncomputable def SG.al(G:SG):I AN:=G.bS.map λQ=>(Q.key,Q.np,Q.succ)
def SG.kn(G:SG):Prop:=(G.bS.map (·.key)).Nodup
theorem SG.abs_eq(G:SG):G.abs=.bL G.self G.al (G.cX.map λE=>G.rl) G.po G.fi:=C
theorem FQ(h:((c_ G).map (·.1)).Nodup):G.kn:=by
 have e:(c_ G).map (·.1)=(G.bS.map (·.key)).map ck:=by simp [c_]
 simp only [e]at h;exact List.Pairwise.of_map ck (λa b R q=>R (aA _ q)) h
section
variable{G:SG}
theorem MP{L g:Nd->AN}{bS:I Nd}(B:(bS.map (·.key)).Nodup)(O:bS[t]?=D Q)(a:Nd)(w:L a=y (L Q))(v:∀u∈bS,u.key≠Q.key->y (L u)=L u):(bS.set t a).map L=(bS.map L).map y:=by
 refine d5 (qv O) λh X e R=>?_;rw [R];rw [e]at B;simp only [eW,iK]at B;refine gv (gk.mp B) λE F m=>?_;have p:∀u∈h,u.key≠Q.key:=λu z q=>m u.key (fM z) Q.key (.head _) q;have T:∀u∈X,u.key≠Q.key:=λu z q=>(gM.mp F).1 (q▸(fM z));have x:(h.map L).map y=h.map L:=by
  apply ae (dH);exact kj λu z=>v u (by rw [e];exact gj _ ‹_›) (p u z)
 have i:(X.map L).map y=X.map L:=by
  apply ae (dH);exact kj λu z=>v u (by rw [e];simp [z]) (T u z)
 rw [e];simp only [eW,iK];simp only [x,i,w]
theorem Tf(B:G.kn)(O:G.bS[t]?=D Q):(G.np t Q (Q.np+d)).al=lu G.al Q.key d:=
 MP (g:=λu=>(u.key,u.np,u.succ)) B O _ (by simp) λu E q=>aJ ‹_›
theorem Te(B:G.kn)(O:G.bS[t]?=D Q):(G.ap t Q s).al=iZ G.al Q.key s:=
 MP (g:=λu=>(u.key,u.np,u.succ)) B O _ (by simp) λu E q=>aJ ‹_›
theorem pY.al(h:pY G l o t Q):o.al=e_ G.al l:=by
 delta e_
 rcases h.how with⟨rfl,u,z,e⟩|⟨z,x,id,R,rfl,_⟩
 .rw [aM];exact mz.mpr (aR _ (fM z) (cM e))
 .rw [aJ]
  .simp [SG.al,SG.add,jA]
  .intro q;refine ai (mz.mp q) λi a e=>ai (dZ.mp a) λu X d=>?_;subst d;exact z u X (by simpa using e)
theorem pY.kn(h:pY G l o t Q)(B:G.kn):o.kn:=by
 rcases h.how with⟨rfl,_⟩|⟨z,i,id,R,rfl,_⟩
 .exact B
 .delta SG.kn SG.add at*
  rw [eW,gk];refine(dI B (by simp) (λa u b f q=>(ai (dZ.mp u) λe X d=>?_)));subst d;rw [iK,RE,cO,jA]at f;exact z e X (ae q f)
theorem pY.same(h:pY G l o t Q):o.self=G.self/\o.cX=G.cX/\o.rl=G.rl/\o.po=G.po/\o.fi=G.fi:=by
 rcases h.how with⟨rfl,_⟩|⟨z,i,id,R,rfl,_⟩<;>exact(k9 C C C C C)
theorem MH(H:I AN)(l:I J):U (e_ H l)<=U H+1:=by delta e_;split<;>simp
theorem Za(H:I AN)(l:I J)(d:aS):U (lu H l d)=U H:=dg _
theorem Zb(H:I AN)(l s:I J):U (iZ H l s)=U H:=dg _
end
section
variable{c:Cx Ob}{al:I AN}
theorem g9(a:AV q):Wk X a a:=λE E E E E h=>h
theorem pJ(t:T):Wk X (.t t) (.un):=λF g h Q R B=>B.1
theorem CY(p:bK c.B c.Z c.w O)(G:SG):Wk c.B (.obj (.b9 0 G)) (.obj G.abs):=by
 rintro F g h Q R⟨v,e,d⟩;rw [p.ob]at d;exact⟨v,e,(p.ob.symm▸(((aR G C (d)):∃o,o.abs=.bL G.self G.al (G.cX.map λE=>G.rl) G.po G.fi/\ew c.Z c.w O 0 o v h R)))⟩
theorem Pc(p:bK c.B c.Z c.w b)(S:SR c.B c.ρ hB g c.V n o y h)(j:n[i]?=D s)(X:y[i]?=D (.obj (.bL E al O e B))):
  ∃G,G.abs=.bL E al O e B/\G.kn/\SR c.B c.ρ hB g c.V n o (y.set i (.obj (.b9 0 G))) h:=by
 obtain⟨w,m,r,S⟩:=S;obtain⟨Q,u,v,rfl,x⟩:=S.vars i s _ j X;rw [p.ob]at x;obtain⟨G,l,a⟩:∃G:SG,G.abs=.bL E al O e B/\ew c.Z c.w b 0 G v h _:=x;refine⟨G,l,FQ a.nd,w,m,r,{S with len:=by simp [S.len],vars:=λt H k L d=>?_}⟩
 by_cases q:t=i
 .subst q;rw [j]at L;obtain rfl:=bj L;rw [jt (by exact(S.len)▸((cG.mp j).1))]at d;obtain rfl:=bj d;exact⟨_,u,v,C,p.ob.symm▸a⟩
 .rw [lJ (iC q)]at d;exact S.vars t H k L d
theorem Qe(p:bK c.B c.Z c.w b)(i:J){st:I cz}(j:n[i]?=D x)(X:y[i]?=D (.obj (.bL E al O q B)))(h:∀G:SG,G.abs=.bL E al O q B->G.kn->EX c n k (y.set i (.obj (.b9 0 G))) st P A):EX c n k y st P A:=
 ⟨λT g s Q H a S d=>dG (Pc p S j X) λG e m S=>(h G e m).1 T g s Q H a S d⟩
theorem eV(h:Wk X a a')(r:p7 X l H):p7 X (a::l) (a'::H):=by
 refine⟨by simp [r.1],λt x e j L=>?_⟩;cases t with
 |zero=>obtain rfl:=bj j;exact bj L▸h
 |succ t=>exact r.2 t x e j L
theorem ro(l:I _):p7 X l l:=⟨C,λt x H j L=>by rw [j]at L;exact bj L▸(g9 _)⟩
theorem EX.wk{st:I cz}(h:EX c n k y st P e)(q:p7 c.B P X):EX c n k y st X e:=⟨λT g s Q H a S d=>h.1 T g s Q H a S λt j v i x A=>d t j v i x (A.wk q)⟩
end
section
set_option tactic.hygienic true
theorem abb{X:bD q}(d:Den F g E (.tup l))(B:eg (U l)=Y):PO X (aI m w) L F (call (.builtin "len") [E]) g (.int (U l)):=by
 refine cps λx f=>?_;obtain⟨a,z,u,S,b,rfl⟩:=d.inv;apply f;refine PO.give λs Q H r R=>PyProof.Rows.len_tuple (yD r.bJ S) ?_ ?_
 .have:=zh B;simpa [b.length]using this
 .have e:z.toArray.size=U l:=by simp [b.length]
  exact e.symm▸(R _ _ (.int _ _))
theorem Qw(F:Fm c.V n k G)(t:J)(O:G[t]?=D (("len":af),.globalImplicit))(h:EE c n k y e P (.tup l))(B:eg (U l)=Y)(L:dP e=Y):EE c n k y (.Call (.Name "len" p) [e] [] u) P (.int (U l)):=
 ry F t 0 O C (zr h cU L) (by simp [L]) λg z d=>by refine ai d.ja λv j q=>?_;subst j;exact abb q B
theorem TR{i:bD Ob}{m:cy}{w:bZ}(X:eg p.length=Y)(h:∀y v rest,bindArgs S ⟨y::v::rest,[]⟩=newTuple rest>>=λA=>pure (e0 n [y,v,A])):Binds i m w S n (a::p) [a,.tup p]:=by
 intro L F y z g s Q l B O b R;obtain⟨v,z,rfl,d,b⟩:=b.jx (P:=λj=>∃v G,j=v::G/\Den _ _ v _/\bu _ _ G _) λv G x H=>⟨v,G,C,x,H⟩;rw [h];refine aG (Sv ?_ (by exact(b.length)▸(kK X)));have f:=cj.push O (sT z 0) s.toks C;exact bN (R _ _ [v,.ref s.heap.objs.size] f (.cons (d.mono f.le) (.one (.tup (aM C) (b.mono f.le)))) λk o e=>eH _ e)
variable{y:Ly Ob}{f eT:au}{al:I AN}
theorem Cw{l H:I AN}(e:wF m w O (.bL E l r a b) u h R)(v:wF m w O (.bL E H s a' z) g i c):g=u:=by
 obtain⟨G,x,k⟩:∃G:SG,G.abs=.bL E l r a b/\ew m w O 0 G u h R:=e;obtain⟨n,j,o⟩:∃G:SG,G.abs=.bL E H s a' z/\ew m w O 0 G g i c:=v;simp only [k.v,o.v,(by injection x:G.self=E),(by injection j:n.self=E)]
noncomputable def Gg:I (af×fc):=[("self",.local),("node",.local),("predecessors",.local),("nodeinfo",.local),("pred",.local),("pred_info",.local),("ValueError",.globalImplicit),("len",.globalImplicit)]
noncomputable def oh:I af:=["self","node","predecessors","nodeinfo","pred","pred_info"]
def p_(i:J)(b:I cz):bg cz:=fV i b
theorem Gd(h:a∈e_ H l):a∈H\/a=(l,0,[]):=by
 delta e_ at h
 split at h
 .exact .inl h
 .rcases fE.mp h with h|h
  .exact .inl h
  .exact .inr (cO.mp h)
theorem ZD(h:a∈iZ H l s):∃b∈H,U a.2.2<=U b.2.2+1:=by
 refine ai (dZ.mp h) λb f d=>?_;subst d;refine⟨b,f,?_⟩
 split<;>simp
theorem ZA(h:a∈lu H l e):∃b∈H,U a.2.2=U b.2.2:=by
 refine ai (dZ.mp h) λb f d=>?_;subst d;refine⟨b,f,?_⟩
 split<;>rfl
theorem Tc(h:bK c.B c.Z c.w O)(F:Fm c.V oh (U oh) Gg)(aH:(("_get_nodeinfo":af),eT)∈O.fs)(aF:∀{l},bF c.B.h₀ l->l.get? eT=D aK)(aN:aK.data=.func bE)
  (aq:∀(G:SG)(n:I J),U G.bS<=1000->e8 c.B c.Z c.w c.n (.ref eT) (.b9 0 G) [.str n] λX r=>∃o t Q,pY G n o t Q/\o.self=G.self/\X=.b9 0 o/\r=.bW (.ref Q.i))
  (y p:I J)(H:I AN)(w:U H<=950)(ak:∀a∈H,U a.2.2<=950):
  EX c oh (U oh) [.obj (.bL E H aa i B),.t (.str y),.t b,s,.t (.str p),.un] (iq (p_ 3 (dF (fL 19 2)))) [.obj (.bL E (iZ (e_ H p) p y) aa i B),.t (.str y),.t b,s,.un,.un] .next:=by
 refine Qe h 0 C C λG aX aP=>?_;refine cps λbC bf=>?_;obtain⟨m,k,g,S,T⟩:G.self=E/\G.al=H/\G.cX=aa/\G.po=i/\G.fi=B:=by
  injection aX with a ah aj e f
  exact⟨a,ah,by simpa using aj,e,f⟩
 apply bf;refine XP.ex (Φ:=λx A=>∃o,o.abs=.bL E (iZ (e_ H p) p y) aa i B/\(∃a,x=[.obj (.b9 0 o),.t (.str y),.t b,s,.t (.str p),.t (.bW a)])/\A=.next) ?_ λx bl P=>?_
 .refine C8 (QC h F 0 5 C C aH (nofun) aF aN (zr (zv F 4 C C) cU C) C (aq G p (d_ 0 (.v 1) (.n 1000) (.v 0) (.n 950) (.v 1) (.v 0) C [_,_] w ((iU (by rw [<-k];simp [SG.al]:U G.bS=U H))))) C (eA C) C C (eA C) C) λbh A P=>e5 P λX r d u aL=>mU d λo t Q z bz ao aC=>?_;subst ao aC u aL;refine .inl ⟨C,(d5 (aaH c.Z c.w O (l:=y) z.at_) λP bx aE aT=>?_)⟩;have j:=z.al;have L:=z.same;have a_:U Q.succ<=1000:=by
   have R:(Q.key,Q.np,Q.succ)∈o.al:=dZ.mpr ⟨Q,cN z.at_,C⟩;simp only [j,k]at R;rcases Gd R with q|q
   .have:=ak _ q;exact aD this (az C)
   .injection q with _ q;injection q with _ q;exact(q)▸(gF _)
  refine qz (Qz h 0 C (u_ h (CA h (i:=0) C C (gF _) (cN z.at_)) (zv F 5 C C) .su C) C (zv F 1 C C) C aE aT ⟨C,C,Mu z.at_⟩ a_ C C C) (QW ⟨o.ap t Q y,?_,⟨_,C⟩,C⟩);simp only [SG.abs_eq,Te (z.kn aP) z.at_,j,k,z.key];show Ob.bL o.self _ (o.cX.map λ_=>o.rl) o.po o.fi=_;simp only [L.1,L.2.1,L.2.2.2.1,L.2.2.2.2,m,g,S,T];rfl
 .refine dG P λo e d u=>bG d λa v=>?_;subst v u;refine⟨?_,C⟩;have:=CY h o;rw [e]at this;exact eV this (eV (g9 _) (eV (g9 _) (eV (g9 _) (eV (pJ _) (eV (pJ _) (ro _))))))
theorem EX.pre{y lv' P:I (AV Ob)}{st:I cz}(h:EX c n k lv' st P A)(q:p7 c.B y lv'):EX c n k y st P A:=⟨λT g s Q H a S d=>h.1 T g s Q H a (S.wk q) d⟩
theorem Zc(H:I AN)(p s:I J):U (iZ (e_ H p) p s)<=U H+1:=by rw [Zb];exact MH H p
theorem ac6{m:J}(h:∀a∈H,U a.2.2<=m):∀a∈iZ (e_ H p) p s,U a.2.2<=m+1:=λa u=>by
 refine ai (ZD u) λb f q=>?_;rcases Gd f with f|rfl
 .have:=h b f;exact d_ 0 (.v 0) (.a (.v 2) (.n 1)) (.v 0) (.a (.v 1) (.n 1)) (.v 1) (.v 2) C [_,_,_] q this
 .exact cT 0 (.v 0) (.a (.v 1) (.n 1)) (.v 0) (.n 1) C [_,_] q
theorem S8(e:bK c.B c.Z c.w O)(F:Fm c.V oh (U oh) Gg)(g:(("_get_nodeinfo":af),eT)∈O.fs)(j:∀{h},bF c.B.h₀ h->h.get? eT=D i)(b:i.data=.func z)
  (x:∀(G:SG)(l:I J),U G.bS<=1000->e8 c.B c.Z c.w c.n (.ref eT) (.b9 0 G) [.str l] λX r=>∃o t Q,pY G l o t Q/\o.self=G.self/\X=.b9 0 o/\r=.bW (.ref Q.i))
  (y:I J):∀(S:I _)(H:I AN)(m:J),U H+U S<=950->(∀a∈H,U a.2.2<=m)->m+U S<=950->
   jE c oh (U oh) (oV (p_ 3 (dF (fL 19 2)))) (iq (p_ 3 (dF (fL 19 2)))) (S.map .str) [.obj (.bL s H aa q B),.t (.str y),.t k,A,.un,.un] [.obj (.bL s (S.foldl (λH p=>iZ (e_ H p) p y) H) aa q B),.t (.str y),.t k,A,.un,.un] .next:=λT=>T.rec
 (λH m E E E=>mq)
 (λp S n H m w v R=>by
  simp only [gB]at w R
  exact j_ (iA F 4 C (fO _ _)) (Tc e F g j b x y p H (cT 0 (.v 0) (.n 950) (.a (.v 0) (.a (.v 1) (.n 1))) (.n 950) C [_,_] w) λa u=>by have:=v a u;exact d_ 0 (.v 2) (.n 950) (.a (.v 1) (.a (.v 0) (.n 1))) (.n 950) (.v 2) (.v 1) C [_,_,_] R this) (n _ _ (d_ 0 (.a (.v 2) (.v 1)) (.n 950) (.a (.v 0) (.a (.v 1) (.n 1))) (.n 950) (.v 2) (.a (.v 0) (.n 1)) C [_,_,_] w (Zc H p y)) (ac6 v) (cT 0 (.a (.a (.v 0) (.n 1)) (.v 1)) (.n 950) (.a (.v 0) (.a (.v 1) (.n 1))) (.n 950) C [_,_] R)))
theorem w_add(ah:bK y.B y.Z y.w O)(k:iD y.B f 19 2 cL S oh)(p:iD y.B eT 19 1 bh a_ rq)(T:iD y.B O.ni 17 1 cA b_ u6)(aP:y.mg "_NodeInfo"=D (.ref O.N))(aj:(("_get_nodeinfo":af),eT)∈O.fs)
  (e:I J)(h:I _)(m:U al+U h<=900)(aF:∀a∈al,U a.2.2+U h<=900):
  e8 y.B y.Z y.w (n+4) (.ref f) (.bL E al aa x B) (.str e::h.map .str) λX r=>X=.bL E (jI al e h) aa x B/\r=.none:=by
 refine r9 y.G k.d (eA C) (TR (eU (by simp;exact cT 0 (.v 1) (.n 1000000) (.a (.v 0) (.v 1)) (.n 900) C [_,_] m)) λcg v rest=>?_) (λP R ao=>?_) λ{aC}i aE bH bP bY=>?_
 .apply ae (qL k.ar k.df _);cases rest<;>rfl
 .refine bT P λs cF=>?_;subst s;rw [ah.ob]at R ao;exact Cw R ao
 .have F:Fm (di S aE f) oh (U oh) Gg:=jM (C) (by show S.scope.names=_;exact aA _ k.sc)
  let c:=(y.up aC i).c bH bP (di S aE f) (n+3) bY
  have q:bK c.B c.Z c.w O:=ah.up i;have b:iD (y.up aC i).B eT 19 1 bh a_ rq:=⟨p.d.up i,p.ar,p.sc,p.df,p.kd⟩;refine XP.ev (c:=c) (XP.mono (Φ:=λg A=>g=[.obj (.bL E (jI al e h) aa x B),.t (.str e),.t (.tup (h.map .str)),.un,.un,.un]/\A=.next) ?_ λg A P=>by refine bT P λs bl=>?_;subst s bl;exact⟨_,_,C,.inr ⟨C,C⟩,C,C⟩);refine EX.xp (Qe q 0 C C λG aH aK=>?_) ⟨C,C⟩;obtain⟨aN,ak,H,aT,aX⟩:G.self=E/\G.al=al/\G.cX=aa/\G.po=x/\G.fi=B:=by
   injection aH with a u bf l f
   exact⟨a,u,by simpa using bf,l,f⟩
  refine XP.ex (qz (dQ (b:=ay) (zC (kc q (j8 q (i:=0) C C) (jD q F 0 C C) (.OI H) C) zn C C) ⟨i7⟩) ?_) λg cH P=>P;have aq:∀(G:SG)(j:I J),U G.bS<=1000->e8 c.B c.Z c.w c.n (.ref eT) (.b9 0 G) [.str j] λX r=>∃o t Q,pY G j o t Q/\o.self=G.self/\X=.b9 0 o/\r=.bW (.ref Q.i):=
   λG j bx=>adU q b (⟨T.d.up i,T.ar,T.sc,T.df,T.kd⟩) aP bx
  refine C8 (QC q F 0 3 C C aj (nofun) b.d.ho b.d.hd (zr (zv F 1 C C) cU C) C (aq G e (d_ 0 (.v 2) (.n 1000) (.a (.v 0) (.v 1)) (.n 900) (.v 2) (.v 0) C [_,_,_] m ((iU (by rw [<-ak];simp [SG.al]:U G.bS=U al))))) C (eA C) C C (eA C) C) λcB A P=>e5 P λX r aL bC bE=>mU aL λo t Q z cu bz bR=>?_;subst bz bR bC bE;refine .inl ⟨C,?_⟩;have L:=z.same;refine qz (QF (n:=Q.np+U h) q 0 C (zv F 3 C C) C (gF _) z.at_ (Qw F 7 C (zv F 2 C C) (eU (by simp;exact cT 0 (.v 1) (.n 1000000) (.a (.v 0) (.v 1)) (.n 900) C [_,_] m)) C) C (by rw [dg];rfl)) (EX.xp (fl:=.next) (EX.pre (lv':=[.obj (.bL E (lu (e_ al e) e (U h)) aa x B),.t (.str e),.t (.tup (h.map .str)),.t (.bW (.ref Q.i)),.un,.un]) (zx (kM (HL (zv F 2 C C)) (S8 q F aj b.d.ho b.d.hd aq e h (lu (e_ al e) e (U h)) (900-U h) ?_ ?_ (aD ((lq (cT 0 (.v 1) (.n 900) (.a (.v 0) (.v 1)) (.n 900) C [_,_] m))) (az C))) C C) ⟨i7⟩) ?_) ⟨?_,C⟩)
  .rw [Za];have:=MH al e;exact d_ 0 (.a (.v 2) (.v 1)) (.n 950) (.a (.v 0) (.v 1)) (.n 900) (.v 2) (.a (.v 0) (.n 1)) C [_,_,_] m this
  .intro a bU;refine ai (ZA bU) λu d w=>?_;rcases Gd d with d|rfl
   .have:=aF u d;exact jP 0 (.v 0) (.v 3) (.v 0) (.v 1) (.a (.v 1) (.v 2)) (.n 900) (.n 900) (.a (.v 3) (.v 2)) C [_,_,_,_] ((iU w)) this m6
   .exact cT 0 (.v 0) (.v 1) (.v 0) (.n 0) C [_,_] ((iU (w)))
  .have l:(o.np t Q (Q.np+U h)).abs=.bL E (lu (e_ al e) e (U h)) aa x B:=by
    simp only [SG.abs_eq,Tf (z.kn aK) z.at_,z.al,ak,z.key];show Ob.bL o.self _ (o.cX.map λ_=>o.rl) o.po o.fi=_;simp only [L.1,L.2.1,L.2.2.2.1,L.2.2.2.2,aN,H,aT,aX];rfl
   have:=CY q (o.np t Q (Q.np+U h));simp only [l]at this;exact eV this (ro _)
  .exact eV (g9 _) (eV (g9 _) (eV (g9 _) (eV (pJ _) (ro _))))
end
noncomputable def SG.iW(G:SG)(p:I J)(v:aS):SG:={G with bS:=G.bS.map λQ=>if Q.key=p then{Q with np:=v}else Q}
noncomputable def o_(H:I AN)(l:I J)(v:aS):I AN:=H.map λa=>if a.1=l then(a.1,v,a.2.2)else a
section
variable{i:J}{G:SG}
theorem Nh(B:G.kn)(O:G.bS[t]?=D Q):G.np t Q v=G.iW Q.key v:=by
 delta SG.np SG.iW
 refine d5 (qv O) λL X e R=>?_;rw [R]
 delta SG.kn at B
 rw [e]at B⊢;simp only [eW,iK]at B⊢;refine gv (gk.mp B) λE F m=>?_;have p:L.map (λh=>if h.key=Q.key then{h with np:=v}else h)=L:=by
  conv=>rhs;rw [<-zU L]
  exact kj λu z=>by apply ae (aJ (m u.key (fM z) Q.key (.head _)));rfl
 have T:X.map (λh=>if h.key=Q.key then{h with np:=v}else h)=X:=by
  conv=>rhs;rw [<-zU X]
  exact kj λu z=>by apply ae (aJ λq=>(gM.mp F).1 (by rw [<-q];exact fM z));rfl
 simp only [p,T,aM dj]
theorem FT{p:I J}(B:G.kn):(G.iW p v).kn:=by
 delta SG.kn SG.iW at*
 simp only [dH];have:((λx=>x.key)∘λQ:Nd=>if Q.key=p then{Q with np:=v}else Q)=λQ=>Q.key:=by funext Q;simp only [zO];split<;>rfl
 exact this.symm▸B
theorem Mh{p:I J}(h:∃Q∈G.bS,Q.key=r):∃Q∈(G.iW p v).bS,Q.key=r:=by
 refine ai h λQ z e=>(aR _ (dZ.mpr (aR Q z C)) ?_)
 split<;>exact e
theorem Jv{p:I J}:(G.iW p v).al=o_ G.al p v:=by
 delta SG.al SG.iW o_
 apply ae (dH);simp only [dH];refine kj λQ E=>?_;simp only [zO]
 split<;>rfl
theorem C4{c:Cx q}{k:J}{y:I _}(F:Fm c.V n k ns)(t:J)(O:ns[t]?=D (x,.globalImplicit))(d:c.mg x=D v)(P:∀h g,Den h g v z):EE c n k y (.Name x p) y z:=
 ⟨λT g s Q H S R=>nW c.G S.1 S.ready.base (F.kn t O nofun) d (F.kg t O) (R s g v (bQ.refl s) (Le.refl _) S (P _ _))⟩
def tR(c:Cx Ob)(n:I af)(k:J)(y:I (AV Ob))(a:au)(s:I (I J)):Prop:=r6 c n k y λh=>∃o,h.get? a=D o/\fQ s o
theorem OW(p:bK c.B c.Z c.w O)(j:n[i]?=D x)(X:y[i]?=D (.obj (.b9 q G)))(s:G.cX=D a):tR c n k y a G.rl:=λT g m r h S=>
 (iX p S j X).2.ob.dY (a,fQ G.rl) (m7 (by simp [fX,s]))
theorem aeM(F:Fm c.V n k w)(t:J)(O:w[t]?=D (("tuple":af),.globalImplicit))(T:EE c n k y e P (.bW (.ref aP)))(o:tR c n k P aP s)(m:U s<=1000)(L:dP e=Y):
  EE c n k y (.Call (.Name "tuple" p) [e] [] aT) P (.tup (s.map .str)):=by
 constructor;intro bx bC aX bh bl S j;have Q:∀R∈[e],∀x p,R≠.Starred x p:=λR q=>by exact(cO.mp q)▸(g7 L)
 refine bT (c.bi 13 "tuple" _ C) λg u=>ku (nV c.G S.1 S.ready.base (F.kn t O nofun) g u (F.kg t O) (IP (kI [e] Q) (jJ Q (qO T.1 lU (g7 L)) S λd r z H E A b=>?_)));obtain⟨v,z,rfl,ah,b⟩:=b.jx (P:=λaj=>∃v G,aj=v::G/\Den _ _ v _/\bu _ _ G _) λv G x ak=>⟨v,G,C,x,ak⟩;obtain rfl:=b.i9 C;obtain rfl:=ah.inv;refine cps λbz ao=>?_;obtain⟨aq,aC,X,l⟩:=A;refine ai (o _ _ _ _ _ l) λbf aF aH=>?_;obtain⟨z,aK,rfl,h⟩:=aH;refine ao (call_tuple_list (i12 _ aF C ⟨aK,C⟩) (λa_ aE=>?_) (by simp only [qB,((h.qd (ρ:=c.ρ) (fz:=r)).length)];simp;exact aD m (az C)));have f:=cj.keeps (t:=d.toks) l.ready aE;have a:=l.step f;exact(a.ready).tup (h.qd) λaN aL v i B=>j aN aL v (H.trans (f.same.trans i.same)) (E.trans i.le) ⟨aq,aC,X,a.step i⟩ B
theorem aeK(p:bK c.B c.Z c.w O)(i:J)(j:n[i]?=D bh)(H:EE c n ak aq o P (.bW (.ref a)))(d:P[i]?=D (.obj (.b9 q G)))
  (t:objs c.Z c.w O q G=m++(a,fQ ls)::z)(A:objs c.Z c.w O q G'=m++(a,fQ [])::z)(l:G'.self=G.self/\G'.aZ=G.aZ/\c_ G'=c_ G)(aC:U ls<=1000)
  (aN:attributeBase o "clear" c.V (eval o c.V)=eval o c.V)(aK:(aP.endLine==u.line)=Y):
  ES c n ak aq (.Expr (.Call (.Attribute o "clear" aP) [] [] u) bH) (P.set i (.obj (.b9 q G'))) .next:=by
 constructor;intro T g r aX a_ bz S R;refine tL (lM aN (ou _) aK Rb F.slot_list_clear F.type_list_clear (H.1 T g r _ _ S λx b bE X L Q ah=>?_)) (by delta interactive;exact S.1.kind.symm▸C) C;refine cps λaj f=>?_;obtain rfl:=ah.inv;obtain⟨w,y,bf,v⟩:=Q;refine bT (iX p v j d) λbx h=>ai (h.ob.dY (a,fQ ls) (by rw [t];simp)) λbC e aE=>?_;obtain⟨aF,aH,rfl,ao⟩:=aE;apply f;have dl:=(ao.qd (ρ:=c.ρ) (fz:=b)).length;refine(dI (aR _ e C) (λbl aL=>by obtain rfl:=ko aL;exact(aR _ e C)) (PySem.P.clear_list e ?_ (by simp only [qB,dl];simp;exact aD aC (az C))));have s:∃k,(x.heap.update a (nF λE=>#[])).get? a=D (lo [] k):=by
  obtain⟨k,aT⟩:∃k,nF (λE=>#[]) (lo aF aH)=lo [] k:=⟨_,C⟩;exact⟨k,by refine ae (pN _ e (C)) ?_;rw [aT]⟩
 refine cps λaj f=>?_;refine bG s λk s=>?_;have B:gW a x.heap (x.heap.update a (nF λE=>#[])):=oB ..;apply f;refine R _ b .next (X.trans (cI _ _ C)) L ⟨w,y,_,CI p v j d ?_ B l.1 ⟨C,by exact(l.2.1)▸(h.sm),by exact(l.2.2)▸(h.nd),h.ob.upd t A B s (gg _ _ C (.nil))⟩⟩ dj
 simp only [h.ob.ad,t];simp
end
section
variable{y:Ly Ob}{f:au}{al:I AN}
theorem Oc(m:cy)(w:bZ)(O:Cl)(q:J)(s:G.cX=D a)(h:I _):∃P i,objs m w O q G=P++(a,fQ G.rl)::i/\objs m w O q {G with rl:=h}=P++(a,fQ h)::i:=by
 obtain⟨t,d,k,b,rl,e,B,bS⟩:=G;subst s
 match q with
 |0=>exact(gg ([(t,λo=>o=instObj O.bq d),(d,iH _)]) _ (C) C)
 |1=>exact(gg ([(t,λo=>o=instObj O.bq d),(d,iH _)]) _ C C)
 |x+2=>exact(gg ([(t,λo=>o=instObj O.bq d),(d,iH ⟨t,d,k,D a,rl,e,B,bS⟩)]) ([]) C C)
theorem Oz(p:bK c.B c.Z c.w x)(i:J){st:I cz}(j:n[i]?=D l)(X:lv[i]?=D (.obj (.bL E al O q B)))(h:∀G:SG,G.abs=.bL E al O q B->G.kn->XP c n k (lv.set i (.obj (.b9 0 G))) st b):XP c n k lv st b:=
 ⟨λT g s Q H a S d=>dG (Pc p S j X) λG e m S=>(h G e m).1 T g s Q H a S d⟩
noncomputable def M5:I (af×fc):=[("self",.local),("result",.local),("n2i",.local),("node",.local),("ValueError",.globalImplicit),("tuple",.globalImplicit),("_NODE_OUT",.globalImplicit),("len",.globalImplicit)]
noncomputable def sW:I af:=["self","result","n2i","node"]
def jR(G:SG)(S:I (I J)):SG:=S.foldl (λG p=>G.iW p (-1)) G
def iu(H:I AN)(S:I (I J)):I AN:=S.foldl (λH p=>o_ H p (-1)) H
theorem Th:∀(S:I _)(G:SG),(jR G S).al=iu G.al S:=λT=>T.rec
 (λE=>C)
 (λp S n G=>by show(jR (G.iW p (-1)) S).al=iu (o_ G.al p (-1)) S;rw [n,Jv])
theorem acf:∀(S:I _)(G:SG),(jR G S).self=G.self/\(jR G S).aZ=G.aZ/\(jR G S).cX=G.cX/\(jR G S).rl=G.rl/\(jR G S).po=G.po/\(jR G S).fi=G.fi:=λT=>T.rec
 (λE=>(yz C C C C C C))
 (λp S n G=>n (G.iW p (-1)))
theorem aa0(h:bK c.B c.Z c.w e)(F:Fm c.V sW (U sW) M5)(g:c.mg "_NODE_OUT"=D (.int (-1) v)):∀(S:I _)(G:SG),G.kn->(∀p∈S,∃Q∈G.bS,Q.key=p)->
  jE c sW (U sW) (oV (p_ 3 (dF (fL 19 4)))) (iq (p_ 3 (dF (fL 19 4)))) (S.map .str) [.obj (.b9 0 G),.t i,.t (.bW (.ref G.aZ)),.un] [.obj (.b9 0 (jR G S)),.t i,.t (.bW (.ref G.aZ)),.un] .next:=λT=>T.rec
 (λG E E=>mq)
 (λp S n G m t=>by
  refine ai (t _ gC) λQ z d=>?_;subst d;refine bG (pO z) λa O=>j_ (dc:=[.obj (.b9 0 (G.iW Q.key (-1))),.t i,.t (.bW (.ref G.aZ)),.un]) (iA F 3 C (fG _)) ?_ ?_
  .exact EX.wk (zx (QI h 0 C (C4 F 6 C g λE E=>.int _ _) (HG (OV h (i:=0) C C) (zv F 2 C C) (zv F 3 C C) O C) C (gF _) O C) ⟨i7⟩) ((Nh m O).symm▸(eV (g9 _) (eV (g9 _) (eV (g9 _) (eV (pJ _) (ro _))))))
  .exact n _ (FT m) λp x=>Mh (t p (fF _ x)))
theorem adV(i:bK y.B y.Z y.w O)(k:iD y.B f 19 4 bE S sW)(a_:y.mg "_NODE_OUT"=D (.int (-1) bx))(m:U rl<=900)(z:∀p∈rl,∃a∈al,a.1=p):
  e8 y.B y.Z y.w (bh+1) (.ref f) (.bL E al (D rl) po B) [] λX ah=>X=.bL E (iu al rl) (D []) (po+U rl) B/\ah=.tup (rl.map .str):=by
 refine r9 y.G k.d (eA C) (.plain λaC aK=>?_) (λP w u=>?_) λ{aq}g H L aL aE=>?_
 .exact bind1 (λa=>ae (qL k.ar k.df _) C) aC aK
 .refine bT P λn aT=>?_;subst n;rw [i.ob]at w u;exact Cw w u
 .have F:Fm (di S H f) sW (U sW) M5:=jM (C) (by show S.scope.names=_;exact aA _ k.sc)
  let c:=(y.up aq g).c L aL (di S H f) bh aE
  have q:bK c.B c.Z c.w O:=i.up g;refine XP.ev (c:=c) (XP.mono (Φ:=λx A=>(∃b,x=[.obj (.bL E (iu al rl) (D []) (po+U rl) B),.t (.tup (rl.map .str)),.t (.bW b),.un])/\A=.ret (.tup (rl.map .str))) ?_ λx A P=>by refine bT P λn R=>?_;obtain⟨b,rfl⟩:=n;subst R;exact(lZ _ _ C (.inl C) C C));refine Oz q 0 C C λG aj ak=>?_;obtain⟨a,ao,s,h,l,aF,r⟩:∃a,G.self=E/\G.al=al/\G.cX=D a/\G.rl=rl/\G.po=po/\G.fi=B:=by
   injection aj with a b d e f
   cases j:G.cX with
   |none=>rw [j]at d;exact aV C d
   |some aN=>rw [j]at d;exact(Fd aN a b C (bj d) e f)
  have aP:∀p∈G.rl,∃Q∈G.bS,Q.key=p:=λp v=>by
   rw [l]at v;refine ai (z p v) λbz t e=>?_;rw [<-s]at t;refine ai (dZ.mp t) λQ bf aX=>?_;subst aX;exact(aR Q bf e)
  subst l;have o:=acf G.rl G;refine d5 (Oc c.Z c.w O 0 (by apply ae (o.2.2.1);rw [h]) []) λP bC bl aH=>qz (dQ (zC (kc q (j8 q (i:=0) C C) (jD q F 0 C C) (.uS h) C) zn C C) ⟨i7⟩) (qz (eM F 1 C (eA C) (aeM F 5 C (kc q (j8 q (i:=0) C C) (jD q F 0 C C) (.uS h) C) (OW q (i:=0) C C h) (aD m (az C)) C) C) (qz (eM F 2 C (fO _ _) (kc q (j8 q (i:=0) (q:=0) C C) (jD q F 0 C C) .uG C) C) (qz (kM (HL (zv F 1 C C)) (aa0 q F a_ G.rl G ak aP) C C) (qz (aeK (G:=jR G G.rl) (G':={jR G G.rl with rl:=[]}) (ls:=(jR G G.rl).rl) q 0 C (kc q (j8 q (i:=0) (q:=0) C C) (jD q F 0 C C) (.uS (a:=a) (by apply ae (o.2.2.1);rw [h])) C) C bl aH (dI C C C) (by exact o.2.2.2.1.symm▸(aD m (az C))) C C) (qz (QS (τ:=.int (G.po+U G.rl)) q 0 C (jD q F 0 C C) C .po (Qw F 7 C (zv F 1 C C) (eU (by simp;exact aD m (az C))) C) C (by rw [dg];show D (T.int ((jR G G.rl).po+_))=_;exact o.2.2.2.2.1.symm▸C) (.po _)) (XP.wk (EX.xp (Φ:=λx A=>x=[.obj (.b9 0 {jR G G.rl with rl:=[],po:=G.po+U G.rl}),.t (.tup (G.rl.map .str)),.t (.bW (.ref G.aZ)),.un]/\A=.ret (.tup (G.rl.map .str))) ⟨ue (jc (zv F 1 C C)).1 (by exact nofun)⟩ ⟨C,C⟩) ?_))))));rintro x A⟨rfl,rfl⟩;refine(i12 _ (eV (CY q _) (ro _)) ⟨.ref G.aZ,?_⟩ C);simp only [SG.abs_eq];show [AV.obj (Ob.bL (jR G G.rl).self (jR G G.rl).al ((jR G G.rl).cX.map λaT=>[]) _ (jR G G.rl).fi),_,_,_]=_;simp only [o.1,o.2.2.1,o.2.2.2.2.2,Th,ao,s,h,aF,r]
  rfl
end
theorem Zw(l:au)(t:iO aB)(e:(t.size:aS)<2^63):
  Meets (Builtin.«bool.__new__» ⟨[.type "bool",.ref l],[]⟩) (λE i s=>s.heap.IsList l t/\i (.ok (.ret (.bool (!t.isEmpty)))) {s with toks:=s.toks+1+1}):=
 Meets.of_wp λm w L i s B=>by
  refine bT B λX B=>?_;have c:=F.conv_sub_bool
  repeat(any_goals(first|assumption|(with_reducible apply wpAny_truthy_list X e)|wp_step))
  all_goals first|exact(aR _ C B)|exact B|skip
theorem T9(X:s.heap.IsList l t)(e:(t.size:aS)<2^63)(h:Q (.bool (!t.isEmpty)) {s with toks:=s.toks+1+1}):
  aQ (aI m w) L (call (.type "bool") [.ref l]) Q H s:=
 call_bool_1 (Zw l t e) ((dI X C h))
theorem aeI(F:Fm c.V n k H)(t:J)(O:H[t]?=D (("bool":af),.globalImplicit))(j:EE c n k y e P (.bW (.ref X)))(B:tR c n k P X s)(aK:U s<=1000)(L:dP e=Y):
  EE c n k y (.Call (.Name "bool" p) [e] [] aH) P (.bool (!s.isEmpty)):=by
 constructor;intro aP aT aE aF aX S q;have Q:∀R∈[e],∀x p,R≠.Starred x p:=λR g=>by exact(cO.mp g)▸(g7 L)
 refine bT (c.bi 14 "bool" _ C) λu r=>ku (nV c.G S.1 S.ready.base (F.kn t O nofun) u r (F.kg t O) (IP (kI [e] Q) (jJ Q (qO j.1 lU (g7 L)) S λh a z E o A b=>?_)));obtain⟨v,z,rfl,d,b⟩:=b.jx (P:=λf=>∃v G,f=v::G/\Den _ _ v _/\bu _ _ G _) λv G x T=>⟨v,G,C,x,T⟩;obtain rfl:=b.i9 C;obtain rfl:=d.inv;refine cps λaN w=>?_;obtain⟨aj,ak,ah,l⟩:=A;refine ai (B _ _ _ _ _ l) λaL aq ao=>?_;obtain⟨z,aC,rfl,i⟩:=ao;apply w;have dl:=(i.qd (ρ:=c.ρ) (fz:=a)).length;simp only [dg]at dl;apply T9 (i12 _ aq C ⟨aC,C⟩) (by rw [qB,dl];omega);have e:(!z.toArray.isEmpty)=!s.isEmpty:=by
  cases z<;>cases s<;>first|rfl|exact nomatch i
 rw [e];have m:cj c.B a h a {h with toks:=h.toks+1+1}:=cj.tok l.ready _;exact q _ a _ (E.trans m.same) o ⟨aj,ak,ah,l⟩ (.bool _)
section
variable{y:Ly Ob}{f:au}{al:I AN}
noncomputable def Z3:I (af×fc):=[("self",.local),("ValueError",.globalImplicit),("bool",.globalImplicit)]
noncomputable def w_:I af:=["self"]
theorem adW(p:bK y.B y.Z y.w O)(k:iD y.B f 19 5 aj S w_)(m:s.length<=900):
  e8 y.B y.Z y.w (u+1) (.ref f) (.bL E al (D s) po fi) [] λj ah=>j=.bL E al (D s) po fi/\ah=.bool (aO (fi<po)||!s.isEmpty):=by
 refine r9 y.G k.d (eA C) (.plain λz X=>?_) (λP w v=>?_) λ{i}g H L r Q=>?_
 .exact bind1 (λa=>ae (qL k.ar k.df _) C) z X
 .obtain⟨rfl,_⟩:=P;rw [p.ob]at w v;exact Cw w v
 .have F:Fm (di S H f) w_ (U w_) Z3:=jM (C) (by exact aA _ k.sc)
  let c:=(y.up i g).c L r (di S H f) u Q
  have q:bK c.B c.Z c.w O:=p.up g;refine XP.ev (XP.mono (Φ:=λx A=>x=[.obj (.bL E al (D s) po fi)]/\A=.ret (.bool (aO (fi<po)||!s.isEmpty))) (Oz q 0 C C λG l ao=>?_) λx A P=>by obtain⟨rfl,rfl⟩:=P;exact(lZ _ _ C (.inl C) C C));refine cps λak b=>?_;obtain⟨a,aq,aC,e,o,R,n⟩:∃a,G.self=E/\G.al=al/\G.cX=D a/\G.rl=s/\G.po=po/\G.fi=fi:=by
   injection l with a t d B f
   cases h:G.cX with
   |none=>rw [h]at d;exact aV C d
   |some T=>rw [h]at d;exact(Fd T a t C (bj d) B f)
  subst o;apply b;refine qz (dQ (zC (kc q (j8 q (i:=0) C C) (jD q F 0 C C) (.uS e) C) zn C C) ⟨i7⟩) (XP.wk (EX.xp (Φ:=λx A=>x=[.obj (.b9 0 G)]/\A=.ret (.bool (aO (fi<po)||!G.rl.isEmpty))) ⟨ue (ES.ev (jc ?_)) (nofun)⟩ ⟨C,C⟩) ?_)
  .have w:EE c w_ (U w_) [.obj (.b9 0 G)] _ [.obj (.b9 0 G)] (.bool (aO (G.fi<G.po))):=xe (op:=.Lt) (p:=⟨181,15,181,49⟩) (kc (p:=⟨181,15,181,30⟩) q (j8 q (i:=0) C C) (jD (p:=⟨181,15,181,19⟩) q F 0 C C) .fi C) (kc (p:=⟨181,33,181,49⟩) q (j8 q (i:=0) (q:=0) C C) (jD (p:=⟨181,33,181,37⟩) q F 0 C C) .po C) C C
   by_cases h:fi<po
   .rw [cM h,Bool.true_or];rw [n,R,cM h]at w;exact aeX w
   .rw [ee h,Q5];rw [n,R,ee h]at w;exact aeW w (aeI F 2 C (kc q (j8 q (i:=0) (q:=0) C C) (jD q F 0 C C) (.uS e) C) (OW q (i:=0) C C e) (aD m (az C)) C)
  .rintro x A⟨rfl,rfl⟩;refine(i12 _ (eV (CY q _) (ro _)) ?_ C);rw [l]
end
section
variable{c:Cx Ob}{j:J}{G:SG}
theorem aey(l:EE c aK ao y e P (.bW (.ref a)))(u:c.B.h₀.get? a=D (lo z aq))(F:iR z s):EI Y c aK ao y e P (s.map .str):=by
 constructor;intro L O x g r S p;refine l.1 L O x _ _ S λh n v ah aj E aH=>?_;obtain rfl:=aH.inv;have G:=E.ready.base _ _ u;have Q:h.heap.IsList a z.toArray:=(i12 _ G C ⟨aq,C⟩);have j:bu c.ρ n z (s.map .str):=F.qd;have q:=j.length;apply I0 Q;have i:=cj.iE (E.ready) {cls:=.type "list_iterator",data:=.fields #[.ref a,.int 0 0]} h.toks;obtain⟨w,X,B,o⟩:=E;have m:=fk G;have H:=Sl (prog:=c.Z) (w:=c.w) c.R.handled h.heap.objs.size a (fH m) z.toArray;simp only [show z.toArray.size=U (s.map T.str)from q]at H;refine p _ n _ _ _ _ _ X B (ah.trans i.same) aj w (o.step i) H (λt v d=>?_) ⟨(i12 _ (eS _ C) C C),Q.at λak e=>eH _ e⟩ (λb f=>?_) (λb f=>?_) (λb f=>?_) (λt l st b f=>by rw [cO.mp f];refine bT st λaC aE=>?_;refine ai (aC) λak aF aE=>?_;exact cW aF) ?_
 .have d:=by simpa using d
  have A:=q▸(cG.mp d).1;refine ai (j.get (dD A)) λaN R aL=>?_;simp only [d]at R;exact bj R▸((aR _ (dD A) aL))
 .exact(cO.mp f)▸(⟨o.free (gS h),aA _ (eS _ C)⟩)
 .rcases cD.mp f with rfl|f
  .exact .inl (.head _)
  .rw [cO.mp f];right;right;exact cW u
 .simp only [lI];rcases cD.mp f with rfl|f
  .exact fG _
  .exact(cO.mp f)▸(jW m)
 .intro _ t x aP aT aX v g r st k;cases v with
  |ref T=>exact agQ st.1 k
  |_=>exact bN k
noncomputable def SG.iS(G:SG)(p:I J):SG:={G with bS:=G.bS.map λQ=>if Q.key=p then{Q with np:=Q.np-1}else Q}
noncomputable def decA(H:I AN)(l:I J):I AN:=H.map λa=>if a.1=l then(a.1,a.2.1-1,a.2.2)else a
noncomputable def er(H:I AN)(l:I J):aS:=match H.find? (λa=>aO (a.1=l))with|D a=>a.2.1|aa=>0
theorem aah(B:G.kn)(O:G.bS[j]?=D Q):G.np j Q (Q.np-1)=G.iS Q.key:=by
 delta SG.np SG.iS
 refine d5 (qv O) λL X e R=>?_;rw [R]
 delta SG.kn at B
 rw [e]at B⊢;simp only [eW,iK]at B⊢;refine gv (gk.mp B) λE F m=>?_;have p:L.map (λh=>if h.key=Q.key then{h with np:=h.np-1}else h)=L:=by
  conv=>rhs;rw [<-zU L]
  exact kj λu z=>by apply ae (aJ λq=>m u.key (fM z) Q.key (.head _) q);rfl
 have T:X.map (λh=>if h.key=Q.key then{h with np:=h.np-1}else h)=X:=by
  conv=>rhs;rw [<-zU X]
  exact kj λu z=>by apply ae (aJ λq=>(gM.mp F).1 (by exact(q)▸(fM z)));rfl
 simp only [p,T,aM dj]
theorem Mp{p:I J}(B:G.kn):(G.iS p).kn:=by
 delta SG.kn SG.iS at*
 simp only [dH];have:((λx=>x.key)∘λQ:Nd=>if Q.key=p then{Q with np:=Q.np-1}else Q)=λQ=>Q.key:=by funext Q;simp only [zO];split<;>rfl
 exact this.symm▸B
theorem Yu{p r:I J}(h:∃Q∈G.bS,Q.key=r):∃Q∈(G.iS p).bS,Q.key=r:=by
 refine ai h λQ z e=>(aR _ (dZ.mpr (aR Q z C)) ?_)
 split<;>exact e
theorem Ef{p:I J}:(G.iS p).al=decA G.al p:=by
 delta SG.al SG.iS decA
 apply ae (dH);simp only [dH];refine kj λQ E=>?_;simp only [zO]
 split<;>rfl
theorem Ni(B:G.kn)(O:G.bS[j]?=D Q):er G.al Q.key=Q.np:=by
 refine d5 (qv O) λL X e E=>?_
 delta SG.kn at B
 simp only [e,eW]at B;refine gv (gk.mp B) λE F m=>?_
 delta er SG.al
 rw [e,eW,iK,Iv];have:(L.map λQ=>((Q.key,Q.np,Q.succ))).find? (λa=>aO (a.1=Q.key))=aa:=by
  rw [Dj];intro a u;refine ai (dZ.mp u) λh z d=>?_;subst d;rw [oG];exact(m h.key (fM z) Q.key (.head _))
 rw [this,agq];simp
end
theorem TS{X:bD Ob}(a:eg p.length=Y)(h:∀y rest,bindArgs S ⟨y::rest,[]⟩=newTuple rest>>=λA=>pure (e0 n [y,A])):Binds X m w S n p [.tup p]:=by
 intro L F y z g s Q H B O b R;rw [h];refine aG (Sv ?_ (by rw [b.length];exact kK a));have f:=cj.push O (sT z 0) s.toks C;exact bN (R _ _ [.ref s.heap.objs.size] f (.one (.tup (aM C) (b.mono f.le))) λi o e=>eH _ e)
def SG.gu(G:SG)(s:I J):SG:=if er (G.iS s).al s=0 then{G.iS s with rl:=G.rl++[s]}else G.iS s
theorem Mv:c_ (G.iS s)=c_ G:=by
 refine ae (dH) ?_;refine kj λQ E=>?_;simp only [zO]
 split<;>rfl
section
variable{i:J}{G:SG}
theorem GV(p:bK c.B c.Z c.w O)(j:n[i]?=D x)(X:y[i]?=D (.obj (.b9 q G)))(f:c.B.h₀.DictOf (strKind c.Z c.w) G.aZ (c_ G)):tQ c n k y G:=
 λT g m r h S=>(dI ((iX p S j X).2.sm) ((iX p S j X).2.nd) (I4 f λo e=>S.base _ o e))
noncomputable def yP:I (af×fc):=[("self",.local),("nodes",.local),("n2i",.local),("node",.local),("nodeinfo",.local),("stat",.local),("successor",.local),("successor_info",.local),("ValueError",.globalImplicit),("_NODE_OUT",.globalImplicit),("_NODE_DONE",.globalImplicit)]
noncomputable def g_:I af:=["self","nodes","n2i","node","nodeinfo","stat","successor","successor_info"]
abbrev A5:bg cz:=p_ 2 (dF (fL 19 7))
abbrev Ew:bg cz:=p_ 4 (iq A5)
theorem UX(p:bK c.B c.Z c.w cl)(F:Fm c.V g_ (U g_) yP)(f:c.B.h₀.DictOf (strKind c.Z c.w) G.aZ (c_ G))(a:G.cX=D n)(o:U G.rl<=900)(m:G.kn){s:I J}(B:∃Q∈G.bS,Q.key=s):
  EX c g_ (U g_) [.obj (.b9 1 G),.t t1,.t (.bW (.ref G.aZ)),.t l,.t t4,.t k,.t (.str s),.un] (iq Ew) [.obj (.b9 1 (G.gu s)),.t t1,.t (.bW (.ref G.aZ)),.t l,.t t4,.t k,.un,.un] .next:=by
 refine ai B λQ z d=>?_;subst d;refine bG (pO z) λt O=>?_;have j:(G.iS Q.key).bS[t]?=D {Q with np:=Q.np-1}:=by
  delta SG.iS;apply ae (jr);rw [O];simp
 have x:er (G.iS Q.key).al Q.key=Q.np-1:=Ni (Mp m) j;refine zx (eM F 7 C (fG _) (HG (GV p (i:=0) C C f) (zv F 2 C C) (zv F 6 C C) O C) C) (zx (QF p 0 C (zv F 7 C C) C (dz _) O (zi 1) C C) ?_);rw [aah m O];have cond:EC c g_ (U g_) [.obj _,.t t1,.t _,.t l,.t t4,.t k,.t _,.t (.bW (.ref Q.i))] (.Compare (.Attribute (.Name "successor_info" ⟨205,19,205,33⟩) "npredecessors" ⟨205,19,205,47⟩) [.Eq] [.Constant _ 0 ⟨205,51,205,52⟩] ⟨205,19,205,52⟩)
   [.obj _,.t t1,.t (.bW (.ref G.aZ)),.t l,.t t4,.t k,.t (.str Q.key),.t _] (aO (Q.np-1=0)):=
  zC (u_ p (CA p (i:=0) C C (dz _) (cN j)) (zv F 7 C C) .np C) (zi 0) C C
 by_cases h:Q.np-1=0
 .simp only [cM h]at cond;refine d5 (Oc c.Z c.w cl 1 (G:=G.iS Q.key) a (G.rl++[Q.key])) λP q i b=>EX.wk (zx (dQ cond (zx (Qz (G':={G.iS Q.key with rl:=G.rl++[Q.key]}) p 0 C (kc p (j8 p (i:=0) C C) (jD p F 0 C C) (.uS a) C) C (zv F 6 C C) C i b (dI C C C) (aD o (az C)) C C C) ⟨i7⟩)) ⟨i7⟩) ?_;have e:G.gu Q.key={G.iS Q.key with rl:=G.rl++[Q.key]}:=by delta SG.gu;rw [x,aM h]
  exact e.symm▸(eV (g9 _) (eV (g9 _) (eV (g9 _) (eV (g9 _) (eV (g9 _) (eV (g9 _) (eV (pJ _) (eV (pJ _) (ro _)))))))))
 .simp only [ee h]at cond;apply EX.wk (zx (dQ cond ⟨i7⟩) ⟨i7⟩);have e:G.gu Q.key=G.iS Q.key:=by delta SG.gu;rw [x,aJ h]
  exact e.symm▸(eV (g9 _) (eV (g9 _) (eV (g9 _) (eV (g9 _) (eV (g9 _) (eV (g9 _) (eV (pJ _) (eV (pJ _) (ro _)))))))))
theorem yk:(G.gu s).self=G.self/\(G.gu s).aZ=G.aZ/\(G.gu s).cX=G.cX/\(G.gu s).po=G.po/\(G.gu s).fi=G.fi/\c_ (G.gu s)=c_ G/\(G.gu s).rl.length<=U G.rl+1/\(G.gu s).bS=(G.iS s).bS:=by
 delta SG.gu
 split
 .exact(LJ C C C C C Mv (by simp) C)
 .exact(LJ C C C C C Mv (fO _ _) C)
theorem Mn(B:G.kn):(G.gu s).kn:=by
 have:=Mp (p:=s) B
 delta SG.kn at*
 exact yk.2.2.2.2.2.2.2.symm▸this
theorem Yt{s r:I J}(h:∃Q∈G.bS,Q.key=r):∃Q∈(G.gu s).bS,Q.key=r:=yk.2.2.2.2.2.2.2.symm▸(Yu h)
def k6(G:SG)(a:I (I J)):SG:=a.foldl (λG s=>G.gu s) G
theorem UW(p:bK c.B c.Z c.w cl)(F:Fm c.V g_ (U g_) yP):∀(h:I _)(G:SG),c.B.h₀.DictOf (strKind c.Z c.w) G.aZ (c_ G)->G.cX=D a->U G.rl+U h<=900->G.kn->(∀s∈h,∃Q∈G.bS,Q.key=s)->
  jE c g_ (U g_) (oV Ew) (iq Ew) (h.map .str) [.obj (.b9 1 G),.t t1,.t (.bW (.ref G.aZ)),.t l,.t t4,.t k,.un,.un] [.obj (.b9 1 (k6 G h)),.t t1,.t (.bW (.ref G.aZ)),.t l,.t t4,.t k,.un,.un] .next:=λT=>T.rec
 (λG E E E E E=>mq)
 (λs h n G f e X m B=>by
  have L:=yk (G:=G) (s:=s);refine j_ (iA F 6 C (fO _ _)) (UX p F f e (cT 0 (.v 0) (.n 900) (.a (.v 0) (.a (.v 1) (.n 1))) (.n 900) C [_,_] X) m (B s gC)) ?_;have:=n _ (L.2.1.symm▸L.2.2.2.2.2.1.symm▸f) (ae L.2.2.1 e) (by exact d_ 0 (.a (.v 2) (.v 1)) (.n 900) (.a (.v 0) (.a (.v 1) (.n 1))) (.n 900) (.v 2) (.a (.v 0) (.n 1)) C [_,_,_] X L.2.2.2.2.2.2.1) (Mn m) λt O=>Yt (B t (fF _ O))
  exact L.2.1▸this)
end
structure RO(c:Cx Ob)(G:SG):Prop where
 d:c.B.h₀.DictOf (strKind c.Z c.w) G.aZ (c_ G)
 s:∀nd∈G.bS,∃vs nn,c.B.h₀.get? nd.su=D (lo vs nn)/\iR vs nd.succ
theorem YB:c_ (G.iW s v)=c_ G:=by
 delta c_ SG.iW
 apply ae (dH);refine kj λQ E=>?_;simp only [zO]
 split<;>rfl
theorem RO.iW{s:I J}(r:RO c G):RO c (G.iW s v):=⟨by simp only [YB];exact r.d,λQ z=>by
 refine ai (dZ.mp z) λh X d=>?_;subst d;have:=r.s h X
 split<;>exact this⟩
theorem RO.gu{s:I J}(r:RO c G):RO c (G.gu s):=by
 have L:=yk (G:=G) (s:=s);refine⟨L.2.1.symm▸L.2.2.2.2.2.1.symm▸r.d,λQ z=>?_⟩;rw [L.2.2.2.2.2.2.2]at z;refine ai (dZ.mp z) λh X d=>?_;subst d;have:=r.s h X
 split<;>exact this
theorem RO.Kl:∀(a:I _)(G:SG),RO c G->RO c (k6 G a):=λT=>T.rec
 (λE r=>r)
 (λs a n G r=>n _ r.gu)
theorem UQ:∀(a:I _)(G:SG),(k6 G a).self=G.self/\(k6 G a).aZ=G.aZ/\(k6 G a).cX=G.cX/\(k6 G a).po=G.po/\(k6 G a).fi=G.fi/\(k6 G a).rl.length<=U G.rl+U a:=λT=>T.rec
 (λG=>(yz C C C C C (dz _)))
 (λs a n G=>by
  have h:=yk (G:=G) (s:=s);have r:=n (G.gu s);refine(yz (ae r.1 h.1) (ae r.2.1 h.2.1) (ae r.2.2.1 h.2.2.1) (ae r.2.2.2.1 h.2.2.2.1) (ae r.2.2.2.2.1 h.2.2.2.2.1) ?_)
  exact d_ 0 (.v 2) (.a (.v 1) (.a (.v 3) (.n 1))) (.v 0) (.a (.v 1) (.n 1)) (.v 2) (.a (.v 0) (.v 3)) C [_,_,_,_] h.2.2.2.2.2.2.1 r.2.2.2.2.2)
theorem Yy:∀(a:I _)(G:SG),G.kn->(k6 G a).kn:=λT=>T.rec
 (λE k=>k)
 (λs a n G k=>n _ (Mn k))
def SG.qe(G:SG)(Q:Nd):SG:={k6 (G.iW Q.key (-2)) Q.succ with fi:=G.fi+1}
theorem UY(p:bK c.B c.Z c.w a)(F:Fm c.V g_ (U g_) yP)(g:c.mg "_NODE_OUT"=D (.int (-1) H))(v:c.mg "_NODE_DONE"=D (.int (-2) A))(j:RO c G)(b:G.cX=D f)(m:G.kn)(z:Q∈G.bS)(x:Q.np=-1)(o:U G.rl+U Q.succ<=900)(i:∀s∈Q.succ,∃u∈G.bS,u.key=s):
  EX c g_ (U g_) [.obj (.b9 1 G),.t e,.t (.bW (.ref G.aZ)),.t (.str Q.key),.un,.un,.un,.un] (iq A5) [.obj (.b9 1 (G.qe Q)),.t e,.t (.bW (.ref G.aZ)),.un,.un,.un,.un,.un] .next:=by
 refine bG (pO z) λq O=>?_;have h:∀t,tQ c g_ (U g_) [.obj (.b9 1 G),.t e,.t (.bW (.ref G.aZ)),.t (.str Q.key),t,.un,.un,.un] G:=λt=>GV p (i:=0) C C j.d;have l:NT a Q "npredecessors" a.p1 1 (.int (-1)):=by exact(x)▸(.np)
 refine zx (Qq F 4 C (eA C) (HF (h _) (zv F 2 C C) (h _) (zv F 3 C C) (λd=>by rw [Ht d O,agp]) (λE E=>.bW _) C C C) zn C C ⟨i7⟩) (zx (eM F 5 C (eA C) (u_ p (CA p (i:=0) C C (dz _) z) (zv F 4 C C) l C) C) (zx (dQ (b:=ay) (zC (zv F 5 C C) (C4 F 9 C g λE E=>.int _ _) C C) ⟨i7⟩) (zx (QI p 0 C (C4 F 10 C v λE E=>.int _ _) (zv F 4 C C) C (dz _) O C) ?_)));rw [Nh m O];have X:({Q with np:=-2})∈(G.iW Q.key (-2)).bS:=dZ.mpr (aR Q z (aM C));exact d5 (j.s Q z) λr y k n=>zx (kM (aey (u_ p (CA p (i:=0) C C (dz _) X) (zv F 4 C C) .su C) k n) (UW p F Q.succ _ j.iW.d b o (FT m) λs B=>Mh (i s B)) C C) (EX.wk (zx (QS p 0 C (jD p F 0 C C) C .fi (zi 1) C (by exact(UQ Q.succ _).2.2.2.2.1.symm▸C) (.fi _)) ⟨i7⟩) (eV (g9 _) (eV (g9 _) (eV (g9 _) (eV (pJ _) (eV (pJ _) (eV (pJ _) (ro _))))))))
noncomputable def uW(u:Nd):I J×au×au×au×I (I J):=(u.key,u.i,u.id,u.su,u.succ)
def SG.sk(G:SG):I (I J×au×au×au×I (I J)):=G.bS.map uW
structure jG(G G':SG):Prop where
 self:G'.self=G.self
 d:G'.d=G.d
 aZ:G'.aZ=G.aZ
 cX:G'.cX=G.cX
 po:G'.po=G.po
 sk:G'.sk=G.sk
theorem jG.refl(G:SG):jG G G:=⟨C,C,C,C,C,C⟩
theorem jG.trans(a:jG G o)(b:jG o h):jG G h:=⟨ae b.self a.self,ae b.d a.d,ae b.aZ a.aZ,ae b.cX a.cX,ae b.po a.po,ae b.sk a.sk⟩
theorem O4(bS:I Nd)(y:Nd->Nd)(h:∀u,uW (y u)=uW u):(bS.map y).map uW=bS.map uW:=ae dH (kj λu E=>h u)
theorem acz(G:SG)(s:I J)(v:aS):jG G (G.iW s v):=⟨C,C,C,C,C,O4 _ _ λu=>by split<;>rfl⟩
theorem acw(G:SG)(s:I J):jG G (G.gu s):=by
 have h:(G.iS s).bS.map uW=G.bS.map uW:=O4 _ _ λu=>by split<;>rfl
 delta SG.gu
 split
 .exact⟨C,C,C,C,C,h⟩
 .exact⟨C,C,C,C,C,h⟩
theorem acy:∀(a:I _)(G:SG),jG G (k6 G a):=λT=>T.rec
 ((.refl))
 (λs a n G=>(acw G s).trans (n _))
theorem GZ(G:SG)(Q:Nd):jG G (G.qe Q):=by
 have h:=(acz G Q.key (-2)).trans (acy Q.succ _);exact⟨h.self,h.d,h.aZ,h.cX,h.po,h.sk⟩
theorem jG.c_(h:jG G o):Mine.Internal.c_ o=Mine.Internal.c_ G:=by
 have e:∀G:SG,Mine.Internal.c_ G=G.sk.map λx=>(ck x.1,.ref x.2.1):=λG=>by delta Mine.Internal.c_ SG.sk;simp only [dH];rfl
 simp only [e,h.sk]
theorem jG.map(h:jG G o)(m:cy)(w:bZ):g5 m w o=g5 m w G:=by
 have e:∀G:SG,(G.bS.map λQ=>(Q.su,fQ Q.succ))=G.sk.map λx=>(x.2.2.2.1,fQ x.2.2.2.2):=λG=>by delta SG.sk;simp only [dH];rfl
 delta g5 j7
 simp only [e,h.sk,h.aZ,h.c_]
theorem jG.ad(h:jG G o)(m:cy)(w:bZ)(O:Cl):(objs m w O 1 o).map (·.1)=(objs m w O 1 G).map (·.1):=by
 have e:∀G:SG,(gP O.N G).map (·.1)=G.sk.flatMap λx=>[x.2.1,x.2.2.1]:=λG=>by
  delta gP SG.sk;apply ae (afT);rw [List.flatMap_map];rfl
 have s:∀G,(fX O.bq G).map (·.1)=G.self::G.d::(match G.cX with|D a=>[a]|aa=>[]):=λG=>by
  delta fX;cases G.cX<;>rfl
 show((fX O.bq o++gP O.N o).map _)=((fX O.bq G++gP O.N G).map _);apply ae (eW);rw [eW,e,e,s,s,h.sk,h.self,h.d,h.cX]
theorem acK{R L:I au}(k:jG G o)(n:ew m w O 0 G y a R)(h:ew m w O 1 o y e P)(v:ew m w O 1 G y a L)
  (Q:∀b∈R,b∉L->∀x,a.get? b=D x->e.get? b=D x):ew m w O 0 o y e R/\P=L:=by
 have d:objs m w O 0 G=objs m w O 1 G++g5 m w G:=by simp [nX,Cg]
 have s:objs m w O 0 o=objs m w O 1 o++g5 m w G:=by exact(k.map m w)▸(C)
 refine⟨⟨h.v,h.sm,h.nd,⟨λE g=>?_,?_,n.ob.nd⟩⟩,(by apply ae (h.ob.ad);rw [v.ob.ad,k.ad])⟩
 .rw [s]at g;rcases fE.mp g with g|g
  .exact h.ob.dY E g
  .refine ai (n.ob.dY E (i0 _ ‹_›)) λi T p=>?_;have z:=n.ob.nd;simp only [n.ob.ad,d,eW]at z;refine(aR i (Q E.1 (by rw [n.ob.ad];exact fM (i0 _ ‹_›)) (λq=>?_) i T) p);rw [v.ob.ad]at q;exact(gk.mp z).2.2 E.1 q E.1 (fM g) C
 .apply ae (n.ob.ad);simp only [d,s,eW,eW,k.ad]
theorem T3{Q:I AN}(p:bK X m w i)
  (b:∀G:SG,G.abs=.bL E Q O q fi->G.kn->e8 X m w u L (.b9 0 G) args n):e8 X m w u L (.bL E Q O q fi) args n:=by
 intro h F g y z x s fp l f a k j t;rw [p.ob]at a;obtain⟨G,e,hS⟩:∃G:SG,G.abs=.bL E Q O q fi/\ew m w i 0 G y s.heap fp:=a;exact b G e (FQ hS.nd) h F g y z x s fp l f (p.ob.symm▸hS) k j t
inductive rU:SG->I (I J)->SG->Prop
 |nil{G:SG}:rU G [] G
 |cons{G G':SG}{nd:Nd}{ps:I (I J)}:nd∈G.bS->nd.np=-1->G.rl.length+nd.succ.length<=900->(∀s∈nd.succ,∃n∈G.bS,n.key=s)->rU (G.qe nd) ps G'->rU G (nd.key::ps) G'
theorem rU.sk(d:rU G S o):jG G o:=by
 induction d with
 |nil=>exact .refl _
 |cons _ _ _ _ _ n=>exact(GZ _ _).trans n
theorem RO.qe(r:RO c G):RO c (G.qe Q):=⟨(RO.Kl Q.succ _ r.iW).d,(RO.Kl Q.succ _ r.iW).s⟩
theorem Mq{G:SG}(k:G.kn):(G.qe Q).kn:=Yy Q.succ _ (FT k)
theorem UZ(p:bK c.B c.Z c.w O)(F:Fm c.V g_ (U g_) yP)(g:c.mg "_NODE_OUT"=D (.int (-1) H))(v:c.mg "_NODE_DONE"=D (.int (-2) A)){G o:SG}{S:I _}(d:rU G S o):RO c G->G.cX=D a->G.kn->
  jE c g_ (U g_) (oV A5) (iq A5) (S.map .str) [.obj (.b9 1 G),.t h,.t (.bW (.ref G.aZ)),.un,.un,.un,.un,.un] [.obj (.b9 1 o),.t h,.t (.bW (.ref G.aZ)),.un,.un,.un,.un,.un] .next:=by
 induction d with
 |nil=>intro _ _ _;exact mq
 |cons z x f B d n=>
  intro j s m;refine j_ (iA F 3 C (az C)) (UY p F g v j s m z x f B) ?_;have:=n j.qe (by apply ae ((GZ _ _).cX);exact s) (Mq m);rw [(GZ _ _).aZ]at this;exact this
section
variable{y:Ly Ob}{f:au}
theorem adR(p:bK y.B y.Z y.w O)(k:iD y.B f 19 7 u S g_)(aq:y.mg "_NODE_OUT"=D (.int (-1) b_))(aF:y.mg "_NODE_DONE"=D (.int (-2) bY))(j:rU G x o)(t:G.cX=D bU)(aK:G.kn)(aL:U x<=900):
  e8 y.B y.Z y.w (aN+1) (.ref f) (.b9 0 G) (x.map .str) λbf r=>bf=o.abs/\r=.none:=by
 have L:=j.sk;have d:∀(m:cy)(e:bZ),objs m e O 0 G=objs m e O 1 G++g5 m e G:=λm e=>C;refine JU y.G (o₁:=.b9 1 G) (oM:=λA r=>A=.b9 1 o/\r=.none) k.d (eA C) (TS (eU (by rw [dg];exact aD aL (az C))) λa rest=>?_) (λ{a ah R}n=>?_) (λP w v=>?_) (λ{a ah R aH i}B n w aP aT H bh bx bC=>?_) (λ{a ah R aH bP aC A r}P n v w aE _=>?_)
 .apply ae (qL k.ar k.df _);cases rest<;>rfl
 .rw [p.ob]at n;have n:=n;have u:=n.ob;rw [d]at u;refine(aR _ (by rw [p.ob];exact(⟨n.v,n.sm,n.nd,u.sub (l:=[])⟩)) (λaj b=>?_));simp only [u.ad,eW];exact gj _ b
 .obtain⟨rfl,_⟩:=P;rw [p.ob]at w v;have w:=w;have v:=v;simp only [w.v,v.v,L.self]
 .have F:Fm (di S H f) g_ (U g_) yP:=jM (C) (by show S.scope.names=_;exact aA _ k.sc)
  let c:=(y.up i B).c bh bx (di S H f) aN bC
  have q:bK c.B c.Z c.w O:=p.up B;simp only [p.ob]at n w;have n:=n;have w:=w;have X:r7 (g5 y.Z y.w G) i:=λE aX=>by
   refine ai (n.ob.dY E (i0 _ ‹_›)) λl T s=>?_;have z:=n.ob.nd;simp only [n.ob.ad,d,eW]at z;refine(aR l (aP _ _ T (aT _ (by rw [n.ob.ad];exact fM (i0 _ ‹_›))) λh=>?_) s);rw [w.ob.ad]at h;exact(gk.mp z).2.2 E.1 h E.1 (fM aX) C
  have bz:RO c G:=⟨by
   refine ai (X (G.aZ,j7 y.Z y.w G) (.head _)) λl T s=>?_;exact s i G.aZ T,λQ z=>by
   obtain⟨l,T,a_,bl,bH,bE⟩:=X (Q.su,fQ Q.succ) (.tail _ (dZ.mpr (aR Q z C)))
   exact(gg a_ bl (bH▸T) bE)⟩
  exact XP.ev (c:=c) (XP.mono (Φ:=λak ao=>ak=[.obj (.b9 1 o),.t (.tup (x.map .str)),.t (.bW (.ref G.aZ)),.un,.un,.un,.un,.un]/\ao=.next) (EX.xp (zx (dQ (b:=ay) (zC (kc q (j8 q (i:=0) (q:=1) C C) (jD q F 0 C C) (.uS t) C) zn C C) ⟨i7⟩) (zx (eM F 2 C (eA C) (kc q (j8 q (i:=0) (q:=1) C C) (jD q F 0 C C) .uG C) C) (zx (kM (HL (zv F 1 C C)) (UZ q F aq aF j bz t aK) C C) ⟨i7⟩))) ⟨C,C⟩) λak ao P=>by obtain⟨rfl,rfl⟩:=P;exact(lZ _ _ C (.inr ⟨C,C⟩) C C))
 .obtain⟨rfl,rfl⟩:=P;rw [p.ob]at n w v;obtain⟨bR,rfl⟩:=acK L (n) (w) (v) aE;refine(gx o.abs R ⟨C,C⟩ (p.ob.symm▸(((aR o C bR):∃g,g.abs=.bL o.self o.al (o.cX.map λ_=>o.rl) o.po o.fi/\ew y.Z y.w O 0 g a bP R))) (λaj b=>?_))
  by_cases h:aj∈aC
  .exact .inl h
  .exact .inr ⟨b,h⟩
end
noncomputable def dS(H:I AN)(l:I J):I (I J):=match H.find? (λa=>aO (a.1=l))with|D a=>a.2.2|aa=>[]
def qa(s:I AN×I (I J))(p:I J):I AN×I (I J):=(decA s.1 p,if er (decA s.1 p) p=0 then s.2++[p]else s.2)
def qN(s:I AN×I (I J))(p:I J):I AN×I (I J):=(dS s.1 p).foldl qa (o_ s.1 p (-2),s.2)
def jy(s:I AN×I (I J))(S:I (I J)):I AN×I (I J):=S.foldl qN s
noncomputable def sN:I AN×I (I J)->I (I J)->bw
 |_,[]=>Y
 |s,p::S=>s.1.any (λa=>aO (a.1=p))&&aO (er s.1 p=-1)&&(dS s.1 p).all (λx=>s.1.any λa=>aO (a.1=x))&&aO (s.2.length+(dS s.1 p).length<=900)&&sN (qN s p) S
section
variable{G:SG}{j:J}
theorem CO(B:G.kn)(O:G.bS[j]?=D Q):dS G.al Q.key=Q.succ:=by
 refine d5 (qv O) λL X e E=>?_
 delta SG.kn at B
 simp only [e,eW]at B;refine gv (gk.mp B) λE F m=>?_
 delta dS SG.al
 rw [e,eW,iK,Iv];have:(L.map λQ=>((Q.key,Q.np,Q.succ))).find? (λa=>aO (a.1=Q.key))=aa:=by
  rw [Dj];intro a u;refine ai (dZ.mp u) λh z d=>?_;subst d;rw [oG];exact(m h.key (fM z) Q.key (.head _))
 rw [this,agq,Ru];simp
theorem acM(s:I J):((G.gu s).al,(G.gu s).rl)=qa (G.al,G.rl) s:=by
 delta SG.gu qa
 rw [Ef]
 split
 .simp only [show({G.iS s with rl:=G.rl++[s]}).al=(G.iS s).al from C,Ef]
 .exact Ef.symm▸C
theorem acN:∀(a:I _)(G:SG),((k6 G a).al,(k6 G a).rl)=a.foldl qa (G.al,G.rl):=λT=>T.rec
 (λE=>C)
 (λs a n G=>by
  show((k6 (G.gu s) a).al,(k6 (G.gu s) a).rl)=a.foldl qa _
  rw [n,acM])
theorem Pj(B:G.kn)(O:G.bS[j]?=D Q):((G.qe Q).al,(G.qe Q).rl)=qN (G.al,G.rl) Q.key:=by
 delta qN
 simp only [CO B O];have:=acN Q.succ (G.iW Q.key (-2));rw [Jv]at this;exact this
theorem Ge(h:(G.al.any λa=>aO (a.1=p))=Y):∃Q∈G.bS,Q.key=p:=by
 refine ai (mz.mp h) λa u e=>ai (dZ.mp u) λQ z d=>?_;subst d;exact(aR Q z (dh e))
theorem U0:∀(S:I _)(G:SG),G.kn->sN (G.al,G.rl) S=Y->∃o,rU G S o/\(o.al,o.rl)=jy (G.al,G.rl) S/\o.fi=G.fi+U S:=λT=>T.rec
 (λG E E=>(i12 G (.nil) C (by simp)))
 (λp S n G m h=>by
  have h:(_&&_&&_&&_&&_)=Y:=h;simp only [oq,oG]at h;refine cps λE e=>?_;obtain⟨⟨⟨⟨w,v⟩,R⟩,g⟩,H⟩:=h;obtain⟨Q,z,rfl⟩:=Ge w;refine bG (pO z) λj O=>?_;apply e;rw [Ni m O]at v;rw [CO m O]at R g;rw [<-Pj m O]at H;refine dG (n (G.qe Q) (Mq m) H) λo d a L=>?_;refine(i12 o (.cons z v g (λs B=>Ge (gK.mp R s B)) d) ?_ ?_)
  .apply ae (a);rw [Pj m O];rfl
  .apply ae (L);exact ae (Int.add_assoc _ _ _) (aA _ (Dg 1 (Int.ofNat _))))
end
section
variable{y:Ly Ob}{f:au}
theorem adQ(p:bK y.B y.Z y.w F)(k:iD y.B f 19 7 H ah g_)(u:y.mg "_NODE_OUT"=D (.int (-1) aj))(v:y.mg "_NODE_DONE"=D (.int (-2) w))(S:I _)(t:U S<=900)(A:sN (Q,s) S=Y):
  e8 y.B y.Z y.w (L+1) (.ref f) (.bL E Q (D s) q B) (S.map .str) λX r=>X=.bL E (jy (Q,s) S).1 (D (jy (Q,s) S).2) q (B+U S)/\r=.none:=by
 refine T3 p λG l m=>?_;obtain⟨a,x,n,h,o,R,g⟩:∃a,G.self=E/\G.al=Q/\G.cX=D a/\G.rl=s/\G.po=q/\G.fi=B:=by
  injection l with a b d e f
  cases i:G.cX with
  |none=>rw [i]at d;exact aV C d
  |some T=>rw [i]at d;exact(Fd T a b C (bj d) e f)
 subst n o;refine dG (U0 S G m A) λO d e c=>(adR p k u v d h m t).mono λX r P=>bT P λz j=>?_;subst z j;refine⟨?_,C⟩;simp only [SG.abs_eq,<-e,d.sk.self,d.sk.cX,d.sk.po,h,x,R,c,g]
 rfl
end
theorem LS(u:J):j3 u∈(["_node2info","_ready_nodes","_npassedout","_nfinished"]:I af):=by
 match u with
 |0=>simp [j3]
 |1=>simp [j3]
 |2=>simp [j3]
 |u+3=>simp [j3]
theorem Ye(u:J)(x:af)(h:u<=2):oZ k G c u x=oZ k a o u x:=MM (P:=λu=>oZ k G c u x=oZ k a o u x) C C C u (RP h)
theorem Om{st:J}{h:fT}{v:aB}(B:st<4)(p:q7 k st (dictOf Q n))(d:v=.ref k/\st=0\/v=.none/\st=1\/(∃A,v=.int 0 A)/\2<=st):q7 k (st+1) (dictOf (putL (j3 st) oW (.str (j3 st) h) v Q) b):=by
 refine ym p λm S G c e X L=>?_;obtain rfl:=A4 e;have f:∀a o,v=Fv k a o st->(∀x,oZ k a o st x=oZ k G c st x)->q7 k (st+1) _:=λa o d R=>by
  refine(Ff _ b a o C (d_ 0 (.v 2) (.a (.v 1) (.n 1)) (.v 0) (.v 1) (.v 2) (.a (.v 0) (.n 1)) C [_,_,_] X (OD (j3 st) oW (.str (j3 st) h) v Q)) (λx=>?_))
  by_cases j:x=j3 st
  .subst j;rw [Bk];simp [Ft,d]
  .rw [mV j,L,Ft,aJ j,R]
 rcases d with⟨rfl,rfl⟩|⟨rfl,rfl⟩|⟨⟨A,rfl⟩,i⟩
 .exact f G c C λE=>C
 .exact f G c C λE=>C
 .rcases(Nat.lt_succ_iff_lt_or_eq.mp B).imp (λq=>fS (rL q) i) id with rfl|rfl
  .exact f A c C λx=>Ye 2 x (dz _)
  .exact f G A C λx=>C
theorem aa7{o:bM}(p:q7 k 4 o):iH ⟨t,d,k,aa,[],0,0,[]⟩ o:=by
 refine ym p λQ u G c e X L=>⟨Q,u,G,c,e,aD X (az C),?_,?_,?_,?_,λx a b i h=>?_⟩
 .rw [L];rfl
 .rw [L];rfl
 .rw [L];rfl
 .rw [L];rfl
 .rw [L];simp [Yd,Ft,j3,a,b,i,h]
section
variable{c:Cx Ob}{st:J}
theorem Fw(p:bK c.B c.Z c.w O)(S:aW c.B c.ρ hB g c.V n k y m r h)(j:n[i]?=D x)(X:y[i]?=D (.obj (.gQ E e st))):eE c.V m h x (D (.ref E))/\yd c.Z c.w O E e st (.ref E) h (r i):=by
 refine cps λa kk=>?_;obtain⟨Q,u,v,rfl,d⟩:=S.vars i x _ j X;apply kk;rw [p.ob]at d;exact(d.v)▸(⟨u,d⟩)
theorem KL(p:bK c.B c.Z c.w O)(F:Fm c.V n k G)(i:J)(j:n[i]?=D x)(X:y[i]?=D (.obj (.gQ E h st))):pX c.B c.Z c.w c.A c.ρ c.V n k y (.Name x e) (.bW (.ref E)):=by
 rintro T g s Q H⟨w,m,r,S⟩R;exact bT (Fw p S j X) λu d=>eO (eL w S.ns u (R s.toks _ (.bW _))) (F.eY j)
theorem HK(p:bK c.B c.Z c.w O)(a_:Fm c.V x Q ej)(i:J)(j:x[i]?=D H)(dB:z[i]?=D (.obj (.gQ E d st)))(bl:EE c x Q z e P aj)(G:P[i]?=D (.obj (.gQ E d st)))(s:st≠0)(g:st<4)(aq:aj=.none/\st=1\/aj=.int 0/\2<=st)
  (bY:gY e (D (.Attribute (.Name H aX) (j3 st) bh)) bU.line c.V=pure ay):ES c x Q z (.Assign [.Attribute (.Name H aX) (j3 st) bh] e bU) (P.set i (.obj (.gQ E d (st+1)))) .next:=by
 constructor;intro T aH aP cA dK cZ bC bE;refine xW (bl.1 T aH aP _ _ bC λt m v bH bR y F=>(KL p a_ i j G T m t _ _ y λdO eu aC=>?_)) bY;obtain rfl:=aC.inv;obtain⟨aE,aF,r,l⟩:=y;refine bT (Fw p l j G) λaL aN=>ai aN.ob λk aT u=>ai (u.dY (E,λo=>o=instObj O.bq d) (cN (i:=0) C)) λez w A=>ai (u.dY (d,q7 k st) (cN (i:=1) C)) λcV X B=>?_;dsimp only at w X A B;subst A;refine ym (B) λd8 n cL cQ bx bz aK=>?_;subst bx;have S:=(cG.mp j).1;have R:d∈r i:=by rw [u.ad];exact cN (i:=1) C
 have L:=l.fp i S;refine CC (p.iF l.base) (⟨w,C,C,X⟩) C p.ok.sa p.ok.po (by delta takerIn;rw [p.ok.at_ _ (LS st),z6]) p.ok.hd (by rw [aK];rfl) (d_ 0 (.v 1) (.n 900) (.a (.v 0) (.n 1)) (.n 4) (.v 1) (.v 0) C [_,_] g bz) λa cB cF cH h bf=>?_;have h:gW d t.heap a:=h;have ah:∀{b},b∉r i->b≠d:=λ{b}n q=>n (by exact(q)▸(R));have bP:v=.ref k/\st=0\/v=.none/\st=1\/(∃ak,v=.int 0 ak)/\2<=st:=by
  rcases aq with⟨rfl,e⟩|⟨rfl,e⟩
  .obtain rfl:=F.inv;exact .inr (.inl ⟨C,e⟩)
  .obtain⟨ak,rfl⟩:=F.inv;exact .inr (.inr ⟨⟨_,C⟩,e⟩)
 have cg:yd c.Z c.w O E d (st+1) (.ref E) a (r i):=by
  refine⟨C,k,λb_=>aT s,u.upd (P:=[(E,λo=>o=instObj O.bq d)]) C ?_ h bf (Om g B bP)⟩;show _=(E,λo=>o=instObj O.bq d)::(d,q7 k _)::_
  delta LU
  rw [aJ s,aJ (Du st)]
 refine bE _ m .next (bH.trans (cI a _ C)) bR ⟨aE,aF,_,l.qw j (λb n b_ o e=>(h.2 b (ah n)).trans e) (bD.ir l.inv λao cu o e=>(h.2 ao (ah ((l.tab ao cu).2.2.2.2 i S))).trans e) (Le.refl _) (λb o e=>(h.2 b λq=>?_).trans (l.bJ b o e)) (λb o e=>.inl e) aL ⟨.ref E,C,?_⟩ (λb f=>⟨.inl f,(L b f).2.1⟩)⟩ dj
 .exact aV (ae (aA _ q) ((L d R).2.1)) e
 .exact p.ob.symm▸cg
end
theorem aeA(p:bK c.B c.Z c.w k)(bC:Fm c.V n z cA)(i:J)(j:n[i]?=D H)(X:y[i]?=D (.obj (.gQ E d 0)))
  (bh:gY (.Dict [] [] aF) (D (.Attribute (.Name H aK) (j3 0) aE)) bx.line c.V=pure ay):ES c n z y (.Assign [.Attribute (.Name H aK) (j3 0) aE] (.Dict [] [] aF) bx) (y.set i (.obj (.gQ E d 1))) .next:=by
 constructor;intro ao g s cQ cZ bY S aH;refine xW (wpAny_Dict_empty ?_) bh;have m:=cj.iE S.ready emptyDict s.toks;refine KL p bC i j X ao g {s with heap:=s.heap.push emptyDict} _ _ (S.step m) λaN cB a_=>?_;refine cps λbf f=>?_;obtain rfl:=a_.inv;obtain⟨bl,w,r,a⟩:=S;have Fr:=a.free (gS s);have l:=a.step m;have l:aW c.B c.ρ ao g c.V n z y w r (s.heap.push emptyDict):=l;refine bT (Fw p l j X) λbH bE=>ai bE.ob λbR cF h=>ai (h.dY (E,λo=>o=instObj k.bq d) (cN (i:=0) C)) λdB F T=>ai (h.dY (d,q7 bR 0) (cN (i:=1) C)) λcV G B=>?_;apply f;dsimp only at F G T B;refine cps λbf f=>?_;subst T;refine ym (B) λaL u aP aT aX t L=>?_;subst aX;have A:=(cG.mp j).1;have ad:r i=[E,d]:=by apply ae (h.ad);exact C
 have R:d∈r i:=by rw [ad];exact .tail _ (.head _)
 have x:=l.fp i A;apply f;refine CC (s:={s with heap:=s.heap.push emptyDict,toks:=aN}) (p.iF l.base) (⟨F,C,C,G⟩) C p.ok.sa p.ok.po (by delta takerIn;rw [p.ok.at_ _ (LS 0),z6]) p.ok.hd (by rw [L];rfl) (aD t (az C)) λO b_ cg cu v bz=>?_;have v:gW d (s.heap.push emptyDict) O:=v;have Q:∀{b},b∉r i->b≠d:=λ{b}u q=>u (by rw [q];exact R);have bP:yd c.Z c.w k E d 1 (.ref E) O [E,d,s.heap.objs.size]:=by
  have ah:=ad▸h.nd;have aj:=ad▸(Fr.fp i A);exact⟨C,s.heap.objs.size,λP=>(O3 p a),⟨bO (aR _ ((v.2 E (qm ah 0 1 C C C)).trans F) C) (bO (aR _ bz (Om (gE _) ((Ff aL u aP aT C t L)) (.inl ⟨C,C⟩))) (bO (aR _ ((v.2 _ (λq=>aj (q▸d9 1 C))).trans (eS s.heap C)) (λcH cL e=>(Bt _ (#[]) 0 e (dI C C C) C (λP bU=>by simp at bU) (.nil) xK))) eK)),C,(bS ah aj)⟩⟩
 have ak:=Fr;refine aH _ g .next (cI O _ C) (Le.refl _) ⟨bl,w,_,l.wY j (λb u P o e=>(v.2 b (Q u)).trans e) (bD.ir l.inv λaq aC o e=>(v.2 aq (Q ((l.tab aq aC).2.2.2.2 i A))).trans e) (Le.refl _) (λb o e=>(v.2 b λq=>?_).trans (l.bJ b o e)) (λb o e=>.inl e) bH ⟨.ref E,C,?_⟩ (bO ⟨.inl (by rw [ad];exact .head _),(x _ (by rw [ad];exact .head _)).2.1⟩ (bO ⟨.inl R,(x _ R).2.1⟩ (bO ⟨.inr ak,ak.fz⟩ eK)))⟩ dj
 .exact aV (ae (aA _ q) ((x d R).2.1)) e
 .exact p.ob.symm▸bP
theorem Yg(x:yd m w O E d 4 v e R):∃G,G.abs=.bL E [] aa 0 0/\ew m w O 0 G v e R:=by
 refine ai x.ob λk X u=>(aR ⟨E,d,k,aa,[],0,0,[]⟩ C (⟨x.v,X (nofun),xK,⟨λh g=>?_,u.ad,u.nd⟩⟩));have g:h∈[(E,λo=>o=instObj O.bq d),(d,iH ⟨E,d,k,aa,[],0,0,[]⟩),(k,j7 m w _)]:=g;simp only [cD,dR,or_false]at g;rcases g with rfl|rfl|rfl
 .exact u.dY (E,λo=>o=instObj O.bq d) (cN (i:=0) C)
 .exact ai (u.dY (d,q7 k 4) (cN (i:=1) C)) λo T p=>(aR o T (aa7 p))
 .exact u.dY (k,j7 m w _) (cN (i:=2) C)
section
variable{y:Ly Ob}
noncomputable def nsi:I (af×fc):=[("self",.local),("graph",.local),("node",.local),("predecessors",.local)]
noncomputable def sX:I af:=["self","graph","node","predecessors"]
theorem ad3(p:bK y.B y.Z y.w O)(k:jZ y.B L aN S (dF (fL 19 0)) sX)(Q:S.scope=ef (fL 19 0))(f:Binds y.B y.Z y.w S sX [] [.none]):
  e8 y.B y.Z y.w (u+1) (.ref L) (.gQ E d 0) [] λX r=>X=.bL E [] aa 0 0/\r=.none:=by
 have s:e8 y.B y.Z y.w (u+1) (.ref L) (.gQ E d 0) [] λX r=>X=.gQ E d 4/\r=.none:=by
  refine r9 y.G k (eA C) f (λP w v=>?_) λ{l}B H h e i=>?_
  .obtain⟨rfl,_⟩:=P;rw [p.ob]at w v;simp only [w.v,v.v]
  .have F:Fm (di S H L) sX (U sX) nsi:=jM (C) (by exact aA _ Q)
   let c:=(y.up l B).c h e (di S H L) u i
   have q:bK c.B c.Z c.w O:=p.up B;exact XP.ev (XP.mono (Φ:=λx A=>x=[.obj (.gQ E d 4),.t .none,.un,.un]/\A=.next) (EX.xp (zx (aeA q F 0 C C C) (zx (HK (st:=1) q F 0 C C zn C (nofun) (dN _ _) (.inl ⟨C,C⟩) C) (zx (HK (st:=2) q F 0 C C (zi 0) C (nofun) (dN _ _) (.inr ⟨C,dz _⟩) C) (zx (HK (st:=3) q F 0 C C (zi 0) C (nofun) (fG _) (.inr ⟨C,dN _ _⟩) C) (zx (dQ (b:=ay) (zC (zv F 1 C C) zn C C) ⟨i7⟩) ⟨i7⟩))))) ⟨C,C⟩) λx A P=>by obtain⟨rfl,rfl⟩:=P;exact(lZ _ _ C (.inr ⟨C,C⟩) C C))
 intro h e g n z i j R t o m G b ah;refine s h e g n z i j R t o m G b λaj ak ao aq aT aP T aE aF aC aK aH aL a=>?_;obtain⟨rfl,rfl⟩:=T;rw [p.ob]at a;exact ah aj ak ao aq (.bL E [] aa 0 0) .none ⟨C,C⟩ aE aF aC aK aH aL (by rw [p.ob];exact Yg a)
end
section
variable{c:Cx Ob}
theorem Zr(p:bK c.B c.Z c.w O)(T:dW c.A (aX+2))(aC:(("__init__":af),bx)∈O.fs)(w:∀E ah,e8 c.B c.Z c.w (aX+1) (.ref bx) (.gQ E ah 0) [] λX r=>X=.bL E [] aa 0 0/\r=.none)(S:aW c.B c.ρ hB fz c.V xs k y m a s.heap)
  (aq:∀t j E R,bQ s t->Le fz j->aW c.B c.ρ hB j c.V xs k y m a t.heap->c.B.ob.at_ (.bL E [] aa 0 0) (.ref E) t.heap R->(∀b∈R,e9 c.B hB j c.V xs a b)->Q (.ref E) t):aQ (aI c.Z c.w) c.A (call (.ref O.bq) []) Q bH s:=by
 obtain⟨B,aj,bl,A,os⟩:=s;have G:=p.iF S.base;have i:aW c.B c.ρ hB fz c.V xs k y m a B:=S;have r:=S.ready;refine bT (p.ok.fs _ aC) λaL aT=>i4 (make_core (makes_of G p.ok.Gb) (looks_findIn G aL) (λaE=>bind_fn G aE (beq_iff_eq.mp aT)) (.inl C) ?_);have P:=cj.iE r emptyDict A;have bh:=S.step P;have bf:=bh.step (cj.iE (P.ready r) (instObj O.bq B.objs.size) A);have d:B.get? B.objs.size=aa:=gS ⟨B,aj,bl,A,os⟩;have F:B.get? (B.objs.size+1)=aa:=by
  cases q:B.get? _ with
  |none=>rfl
  |some o=>exact bA (fk q) (h9.mpr (rM _))
 have ak:c.B.ob.at_ (.gQ (B.objs.size+1) B.objs.size 0) (.ref (B.objs.size+1)) ((B.push emptyDict).push (instObj O.bq B.objs.size)) [B.objs.size+1,B.objs.size]:=by
  rw [p.ob];refine(⟨C,0,(bA C),⟨bO (aR _ (by heap_get) C) (bO (aR _ (by heap_get) ⟨[],0,0,0,C,dz _,λbR=>C⟩) eK),C,by simp⟩⟩)
 have h:=S.free d;have v:=S.free F;refine w _ B.objs.size _ c.ρ fz _ [] _ _ [B.objs.size+1,B.objs.size] T.call bf.ready ak (bO (dI v.fz v.h0 v.tab) (bO (dI h.fz h.h0 h.tab) eK)) .nil ?_
 .rintro t j bP aF X bE⟨rfl,rfl⟩aK H aN aP l ao a_ n aH;obtain rfl:=aH.inv;refine⟨C,?_⟩;have x:=λ{b o}e f=>bO (P:=λb=>B.get? b=D o->False) (aV F) (bO (aV d) eK) b f e;have g:∀{b o},B.get? b=D o->((B.push emptyDict).push (instObj O.bq B.objs.size)).get? b=D o:=λe=>eH _ (eH _ e);have z:∀{b},((B.push emptyDict).push _).get? b=aa->B.get? b=aa:=λ{b}e=>by
   cases q:B.get? b with
   |none=>rfl
   |some o=>rw [g q]at e;assumption
  have u:∀{b},b∈[B.objs.size+1,B.objs.size]->B.get? b=aa:=λ{b}f=>by
   cases q:B.get? b with
   |none=>rfl
   |some o=>exact bA f (x q)
  have bz:=i.grow (λb f o e=>aN b (x e) f o (g e)) aP H λb o e=>by
   rcases ao b o e with q|q|q
   .exact .inl q
   .exact .inr ⟨z q,l b o e⟩
   .exact .inr ⟨u q,l b o e⟩
  refine aq t j _ aF (bQ.trans (cI _ _ C) aK) H bz a_ λb f=>?_;have bC:B.get? b=aa:=by
   rcases(n b f).1 with q|q
   .exact u q
   .exact z q
  have L:=i.free bC;exact⟨L.hb,(n b f).2,L.loc,L.cell,L.fp,L.tab,L.h0⟩
end
section
set_option tactic.hygienic true
variable{c:Cx Ob}{i:J}
theorem Mw{p:af×aB}(h:(c_ G)[i]?=D p):∃Q,G.bS[i]?=D Q/\p=(ck Q.key,.ref Q.i):=by
 delta c_ at h
 rw [jr]at h;cases e:G.bS[i]? with
 |none=>rw [e]at h;exact aV C h
 |some Q=>rw [e]at h;exact(aR Q C ((bj h).symm))
theorem Qs(l:EE c y aj B e P (.bW (.ref G.aZ)))(ah:(G.aZ==sysModules)=ay)(q:c.B.h₀.DictOf (strKind c.Z c.w) G.aZ (c_ G)):EI ay c y aj B e P (G.bS.map λQ=>.str Q.key):=by
 constructor;intro ao g ak aT aL S R;refine l.1 ao g ak _ _ S λh O v F aC E m=>?_;obtain rfl:=m.inv;have r:=E.ready;refine bG q.dictAt λL p=>?_;have a:=p.at' λo e=>r.base _ o e;apply wpAny_pyIter_dict ah a;obtain⟨w,z,X,k⟩:=E;have s:=a.lt_size;have H:=Walks.dictKeys (knd:=strKind c.Z c.w) c.R.handled h.heap.objs.size G.aZ (fH s) (c_ G) L;rw [(by simp [c_]:U (c_ G)=U (G.bS.map λQ=>T.str Q.key))]at H⊢;refine R _ O _ _ _ _ _ z X (F.trans (cI _ h.toks C)) aC w (k.step (((by simp [c_]:U (G.bS.map λQ=>T.str Q.key)=U (c_ G))).symm▸(cj.iE r {cls:=.type "dict_keyiterator",data:=.fields #[.ref G.aZ,.int 0 0,.int (U (c_ G)) 0,.int L 0]} h.toks))) H (λi v d=>?_) ⟨(i12 _ (eS _ C) C C),a.at' λo e=>eH _ e⟩ (λb f=>?_) (λb f=>?_) (λb f=>?_) (λi l st b f=>by rw [cO.mp f];refine bT st λn j=>?_;refine ai (n) λo x j=>?_;exact cW x) ?_
 .refine d5 d λaN aP aq A=>ai (Mw aq) λQ aE e=>bT (mE e) λn aF=>?_;subst n aF;refine(aR _ (by apply ae (jr);rw [aE];rfl) ?_);obtain⟨t,rfl⟩:∃t,v=.str (ck Q.key) t:=by
   cases v<;>first|exact cY C A|skip
   rename_i aH aK;exact⟨aK,by rw [(by simpa [vA,Value.isStrOf]using A:aH=ck Q.key)]⟩
  exact .str _ _
 .exact(cO.mp f)▸(⟨k.free (gS h),aA _ (eS _ C)⟩)
 .rcases cD.mp f with rfl|f
  .exact .inl (.head _)
  .rw [cO.mp f];right;right;exact d5 p λo aX x j=>cW x
 .simp only [lI];rcases cD.mp f with rfl|f
  .exact fG _
  .exact(cO.mp f)▸(jW s)
 .intro u;exact cY C u
theorem aez(s:EE c w m bl o P (.bW (.ref G.aZ)))(aE:(G.aZ==sysModules)=ay)(aF:c.B.h₀.DictOf (strKind c.Z c.w) G.aZ (c_ G))
  (aK:attributeBase o "values" c.V (eval o c.V)=eval o c.V)(bh:(S.endLine==aH.line)=Y):EI ay c w m bl (.Call (.Attribute o "values" S) [] [] aH) P (G.bS.map λQ=>.bW (.ref Q.i)):=by
 constructor;intro X bz a_ cg bR R ao;refine lM aK (ou _) bh F.plainAttrs_dict F.slot_dict_values F.type_dict_values (s.1 X bz a_ _ _ R λbP bY aL aP aT E aC=>?_);obtain rfl:=aC.inv;have r:=E.ready;refine bG aF.dictAt λL p=>?_;have x:=p.at' λo e=>r.base _ o e;refine(dI x.dictOf.typeIs x.dictOf.mapOf.noDict (kq (C) (jJ (λe s=>bA s dR) lU E λt q b_ aj ak v aq=>?_)));obtain rfl:=aq.i9 C;have r:=v.ready;have x:=p.at' λo e=>r.base _ o e;refine call_meetsIn PySem.F.slot_dict_values x.dictOf.typeIs PySem.F.entry_dict_values (PySem.F.args_dict_values_1 _) (meets_dict_values (strKind c.Z c.w) G.aZ aE) ⟨⟨_,x.dictOf⟩,?_⟩;have a:=v.step (cj.iE r {cls:=.type "dict_values",data:=.fields #[.ref G.aZ]} t.toks);have b:(t.heap.push {cls:=.type "dict_values",data:=.fields #[.ref G.aZ]}).DictAt (strKind c.Z c.w) G.aZ (c_ G) L:=x.push _;have d:(t.heap.push {cls:=.type "dict_values",data:=.fields #[.ref G.aZ]}).IsValuesView t.heap.objs.size G.aZ:=(i12 _ (eS _ C) C C)
 revert a b d
 generalize t.heap.push {cls:=.type "dict_values",data:=.fields #[.ref G.aZ]}=j;intro a b d;obtain⟨h,A⟩:∃h,h={t with heap:=j}:=⟨_,C⟩;have aN:bQ t h:=(bQ.of A);simp only [<-A];have u:j=h.heap:=by rw [A]
 simp only [u]at a b d;clear A u;have a:SR c.B c.ρ X q c.V w m P h.heap:=a;apply wpAny_pyIter_values d b;have y:=cj.iE (a.ready (s:=h)) {cls:=.type "dict_valueiterator",data:=.fields #[.ref G.aZ,.int 0 0,.int (U (c_ G)) 0,.int L 0]} h.toks;obtain⟨aX,ah,bf,z⟩:=a;have g:G.aZ<h.heap.objs.size:=b.lt_size;have H:=Walks.dictValues (prog:=c.Z) (w:=c.w) (knd:=strKind c.Z c.w) c.R.handled h.heap.objs.size G.aZ (fH g) (c_ G) L;have bx:U (c_ G)=U (G.bS.map λQ=>T.bW (.ref Q.i)):=by simp [c_]
 rw [bx]at H y⊢;refine ao _ q _ _ _ _ _ ah bf (((aP.trans aj).trans aN).trans (cI _ h.toks C)) (aT.trans ak) aX (z.step y) H (λi aL d=>?_) ⟨(i12 _ (eS _ C) C C),b.at' λo e=>eH _ e⟩ (λl f=>?_) (λl f=>?_) (λl f=>?_) (λi s st l f=>by rw [cO.mp f];refine bT st λn B=>?_;refine ai (n) λo k B=>?_;exact cW k) ?_
 .refine bG d λbU bE=>ai (Mw bE) λQ bC e=>?_;refine bT (mE e) λn bH=>?_;subst n;subst bH;exact(aR (.bW (.ref Q.i)) (by apply ae (jr);rw [bC];rfl) (.bW _))
 .exact(cO.mp f)▸(⟨z.free (gS h),by exact aA _ (eS _ C)⟩)
 .rcases cD.mp f with rfl|f
  .exact .inl (by exact .head _)
  .rw [cO.mp f];right;right;exact d5 p λo cu k B=>cW k
 .show l<(h.heap.push _).objs.size;rw [lI];rcases cD.mp f with rfl|f
  .exact fG _
  .rw [cO.mp f];exact jW g
 .intro O;exact cY C O
end
section
variable{c:Cx Ob}{qf:cE}{l:I J}{h':cf}
theorem Cd(S:aW c.B c.ρ hB g c.V n k y m r h)(j:n[i]?=D x)(X:y[i]?=D (.obj o)):∃v,eE c.V m h x (D v)/\c.B.ob.at_ o v h (r i):=by
 refine cps λE e=>?_;obtain⟨Q,u,v,rfl,d⟩:=S.vars i x _ j X;exact e ((aR v u d))
theorem Ce(S:aW c.B c.ρ hB g c.V n k y m r h)(j:n[i]?=D x)(z:eE c.V m h x (D v))(l:a∈r i)(B:gW a h h')(t:c.B.ob.at_ X v h' (r i)):
  aW c.B c.ρ hB g c.V n k (y.set i (.obj X)) m (bV r i (r i)) h':=by
 have A:=(cG.mp j).1;have F:=S.fp i A;have s:∀{b},b∉r i->b≠a:=λ{b}u q=>u (by exact(q)▸(l));exact S.qw j (λb u E o e=>ae (B.2 b (s u)) e) (bD.ir S.inv λP d o e=>ae (B.2 P (s ((S.tab P d).2.2.2.2 i A))) e) (Le.refl _) (λb o e=>ae (B.2 b λq=>(aV ((aA _ q).trans ((F a l).2.1)) e)) (S.bJ b o e)) (λb o e=>.inl e) z ⟨v,C,t⟩ (λb f=>⟨.inl f,(F b f).2.1⟩)
theorem GB(p:bK c.B c.Z c.w O)(S:aW c.B c.ρ hB g c.V n k y m r h)(j:n[i]?=D x)(X:y[i]?=D (.obj (.set s))):
  ∃a u,eE c.V m h x (D (.ref a))/\r i=[a]/\u<=U s/\h.SetOf (vA c.Z c.w) a (λk=>s.any (λx=>aO (ck x=k))) u:=by
 refine ai (Cd S j X) λv b d=>?_;rw [p.ob]at d;obtain⟨a,u,rfl,L,f,e⟩:=(d);exact(lZ a u b L f e)
theorem aeR(a:bK c.B c.Z c.w aE)(F:Fm c.V n k G)(i t:J)(j:n[i]?=D x)(l:i<k)(O:G[t]?=D (("set":af),.globalImplicit))(B:gY (.Call (.Name "set" r) [] [] pos) (D (.Name x X)) p.line c.V=pure ay):
  ES c n k y (.Assign [.Name x X] (.Call (.Name "set" r) [] [] pos) p) (y.set i (.obj (.set []))) .next:=by
 constructor;intro Q aj ak aC aF e S R;refine bT (c.bi 15 "set" _ C) λq g=>kr (ku (nV c.G S.1 S.ready.base (F.kn t O nofun) q g (F.kg t O) (IP (C) (jJ (λb s=>bA s dR) lU S λh o ah yZ m E u=>?_)))) B;obtain rfl:=u.i9 C;refine call_set_0 λv=>?_;have d:(h.heap.push {cls:=.type "set",dict:=aa,data:=.set #[] 0 (.fresh 0 0 v)}).SetOf (vA c.Z c.w) h.heap.objs.size (λP=>ay) 0:=
  (XZ _ _ 0 _ (eS _ C) (dI C C C) C (λb z=>by simp at z) (λk=>by simp) (gE _) (C) C)
 have f:=cj.iE E.ready {cls:=.type "set",dict:=aa,data:=.set #[] 0 (.fresh 0 0 v)} h.toks;obtain⟨w,ao,aq,E⟩:=E;exact gh (av:=.obj _) w e (E.step f) j l (F.loc j l) ⟨_,C,(a.ob.symm▸((⟨_,0,C,C,dz _,by simpa using d⟩)))⟩ (.sM (E.free (gS h))) λH L T A=>R H o .next ((yZ.trans f.same).trans T) m ⟨w,L,_,A⟩ dj
set_option tactic.hygienic true in
theorem Qu(p:bK c.B c.Z c.w ah)(F:Fm c.V n k aj)(i:J)(q:EE c n k y qf P (.str l))(j:n[i]?=D x)(X:P[i]?=D (.obj (.set s))):EC c n k y (.Compare qf [.In] [.Name x ak] ao) P (aO (l∈s)):=by
 constructor;intro T g t Q B S R;refine Ad (q.1 T g t _ _ S λh a f v o E O=>?_) C;obtain⟨L,rfl⟩:=O.inv;obtain⟨w,u,r,E⟩:=E;refine A8 (GB p E j X) λf A d m m H=>eO (eL w E.ns d (wpAny_inSet_of (tJ ..) C H ?_)) (F.eY j);have z:cj c.B a h a {h with toks:=h.toks+1}:=cj.tok E.ready _;have e:(s.any λx=>aO (ck x=ck l))=aO (l∈s):=by
  rw [oz];simp only [mz,oG];exact⟨λG=>ai G λx j e=>sR e▸j,λb=>(aR l b C)⟩
 exact e.symm▸(x6 (R _ a (v.trans z.same) o ⟨w,u,r,E.step z⟩))
theorem acs(h:h'.SetOf (vA k w) a (λq=>(s.any λx=>aO (ck x=q))||aO (q=ck l)) u):h'.SetOf (vA k w) a (λq=>(s++[l]).any λx=>aO (ck x=q)) u:=by
 have e:(λq=>(s.any λx=>aO _)||aO _)=λq=>(s++[l]).any λx=>aO (ck x=q):=funext λq=>by
  simp only [List.any_append,Iq,List.any_nil,Dd];exact aA _ (decide_eq_decide.mpr eq_comm)
 exact e▸h
theorem aeQ(p:bK c.B c.Z c.w b_)(F:Fm c.V h m bR)(i:J)(j:h[i]?=D x)(ao:y[i]?=D (.obj (.set s)))(z:EE c h m y e P (.str l))(aj:P[i]?=D (.obj (.set s)))(L:dP e=Y)(T:(ah.endLine==u.line)=Y)(aC:U s<=1000):
  ES c h m y (.Expr (.Call (.Attribute (.Name x a_) "add" ah) [e] [] u) bf) (P.set i (.obj (.set (s++[l])))) .next:=by
 constructor;intro bC bE bH aT bP aX S X;have Q:∀R∈[e],∀x O,R≠.Starred x O:=λR G=>by exact(cO.mp G)▸(g7 L)
 have t:=kI (pos:=u) (V:=c.V) [e] Q;refine tL (cps λE ak=>?_) (by delta interactive;exact S.1.kind.symm▸C) C;obtain⟨w,H,aq,b⟩:=S;refine A8 (GB p b j ao) λa n g E E o=>ak (lM C (yM t (az C)) T PySem.F.plainAttrs_set PySem.F.slot_set_add PySem.F.type_set_add (eO (eL w b.ns g (dI o.typeIs o.noDict (kq t (jJ Q (qO z.1 lU (g7 L)) ⟨w,H,aq,b.uD j g⟩ λbh A bU aE aF f aK=>?_)))) (F.eY j)));obtain⟨_,aL,bl,f⟩:=f;refine A8 (GB p f j aj) λbx bz r d q aH=>?_;obtain rfl:=ko (bj ((f.locked j).det r));refine ai aK.ja λv k aN=>?_;subst k;refine bG aN.inv λbY k=>?_;subst k;refine call_set_add (tJ ..) C aH (by exact d_ 0 (.a (.a (.v 1) (.n 1)) (.n 1)) (.n 4096) (.v 0) (.n 1000) (.v 1) (.v 0) C [_,_] aC q) λh' aP B=>X _ A .next (aE.trans (cI h' _ C)) aF ⟨w,aL,_,Ce (f.unlock) j r (d▸.head _) aP (p.ob.symm▸(⟨a,_,C,d,?_,acs B⟩))⟩ dj
 simp only [cC]
 split
 .exact z0 q
 .exact ju q
noncomputable def jK(r:I (I J×aS))(l:I J):bg aS:=(r.find? λx=>aO (x.1=l)).map (·.2)
noncomputable def oU(r:I (I J×aS))(l:I J)(i:aS):I (I J×aS):=if r.any (λx=>aO (x.1=l))then r.map (λx=>if x.1=l then(x.1,i)else x)else r++[(l,i)]
noncomputable def lT(r:I (I J×aS))(l:I J):I (I J×aS):=r.filter λx=>aO (x.1≠l)
theorem ab'{a b:I J}:ck a=ck b<->a=b:=⟨sR,(aA _)⟩
theorem fU.get{P:I _}{r:I _}(h:fU P r):(∃t i,valueAt P (ck l)=D (.int i t)/\jK r l=D i)\/(valueAt P (ck l)=aa/\jK r l=aa):=
 fU.rec (.inr ⟨C,C⟩) (λ{H i t P r}E n=>by
  by_cases q:H=l
  .exact .inl (gg t i (aA (qF IL) (Iz (cM (aA ck q)))) (aA (qF IL) (Iz (cM q))))
  .have a:valueAt ((ck H,.int i t)::P) _=valueAt P _:=aA (qF IL) (Iw (λe=>q (sR (dh e))));have b:jK ((H,i)::r) l=jK r l:=aA (qF IL) (Iw λe=>q (dh e))
   exact(a)▸(b)▸(n)) h
theorem fU.any{P:I _}{r:I _}(h:fU P r):P.any (λx=>aO (x.1=ck l))=r.any (λx=>aO (x.1=l)):=
 fU.rec C (λ{H _ _ _ _}E n=>by apply ae (Iq);rw [Iq,n];exact aA (·||_) (decide_eq_decide.mpr ab')) h
theorem fU.append(h':fU k s){P:I _}{r:I _}(h:fU P r):fU (P++k) (r++s):=
 fU.rec h' (λE n=>.cons n) h
theorem fU.abr{i:aS}{A:fT}{P:I _}{r:I _}(h:fU P r):fU (P.map λx=>if x.1=ck l then(x.1,.int i A)else x) (r.map λx=>if x.1=l then(x.1,i)else x):=
 fU.rec .nil (λ{H _ _ _ _}E n=>by
  rw [iK,iK]
  by_cases q:H=l
  .rw [aM q,aM (aA ck q)];exact .cons n
  .rw [aJ q,aJ λe=>q (sR e)];exact .cons n) h
theorem fU.put{i:aS}{P:I _}(h:fU P r):fU (stored P (ck l) (.int i A)) (oU r l i):=by
 delta stored oU
 rw [h.any]
 split
 .exact h.abr
 .exact fU.append (.cons .nil) h
theorem fU.del{P:I _}{r:I _}(h:fU P r):fU (without P (ck l)) (lT r l):=
 fU.rec .nil (λ{H i A P r}E n=>by
  by_cases q:H=l
  .have t:without ((ck H,.int i A)::P) _=without P (ck l):=zQ (by simp [q]);have b:lT ((H,i)::r) l=lT r l:=zQ (by simp [q]);simp only [t,b];exact n
  .have t:without ((ck H,.int i A)::P) _=(ck H,.int i A)::without P _:=zR (cM λe=>q (sR e));have b:lT ((H,i)::r) l=(H,i)::lT r l:=zR (cM q)
   simp only [t,b];exact .cons n) h
theorem fU.len{P:I _}{r:I _}(h:fU P r):U P=U r:=fU.rec C (λE n=>aA Nat.succ n) h
theorem yU(p:bK c.B c.Z c.w O)(S:aW c.B c.ρ hB g c.V n k y m r h)(j:n[i]?=D x)(X:y[i]?=D (.obj (.kZ P))):
  ∃a l,eE c.V m h x (D (.ref a))/\r i=[a]/\(a==sysModules)=ay/\h.DictOf (vA c.Z c.w) a l/\fU l P:=by
 refine ai (Cd S j X) λv u d=>?_;rw [p.ob]at d;obtain⟨a,l,rfl,L,f,s,q⟩:=(d);exact(LK a l u L f s q)
theorem aeq(p:bK c.B c.Z c.w O)(F:Fm c.V n k G)(i:J)(j:n[i]?=D x)(l:i<k)(B:gY (.Dict [] [] u) (D (.Name x h)) e.line c.V=pure ay):
  ES c n k y (.Assign [.Name x h] (.Dict [] [] u) e) (y.set i (.obj (.kZ []))) .next:=by
 constructor;intro T g s Q H a S R;refine kr (wpAny_Dict_empty ?_) B;have f:=cj.iE S.ready emptyDict s.toks;obtain⟨w,v,r,E⟩:=S;exact gh (av:=.obj _) w a (E.step f) j l (F.loc j l) ⟨_,C,(p.ob.symm▸((⟨_,[],C,C,O3 p E,(Bt emptyDict _ 0 (eS _ C) (dI C C C) C (λo m=>by simp at m) (.nil) xK),.nil⟩:Ao c.Z c.w [] _ _ _)))⟩ (.sM (E.free (gS s))) λt b q A=>R t g .next (f.same.trans q) (Le.refl _) ⟨w,b,_,A⟩ dj
set_option tactic.hygienic true in
theorem Qt(p:bK c.B c.Z c.w G)(F:Fm c.V n k ah)(i:J)(x:EE c n k y qf e (.str l))(j:n[i]?=D d)(Q:e[i]?=D (.obj (.kZ P))):EC c n k y (.Compare qf [.In] [.Name d ak] aj) e (jK P l).isSome:=by
 constructor;intro T g s ao aq S R;refine Ad (x.1 T g s _ _ S λh a o q f E O=>?_) C;obtain⟨A,rfl⟩:=O.inv;obtain⟨w,m,r,E⟩:=E;refine uc (yU p E j Q) λo v u aC X H B=>eO (eL w E.ns u (wpAny_in_of (tJ ..) X H.mapOf ?_)) (F.eY j);have z:cj c.B a h a {h with toks:=h.toks+1}:=cj.tok E.ready _;have L:(valueAt v (ck l)).isSome=(jK P l).isSome:=by
  rcases B.get with⟨A,i,t,b⟩|⟨t,b⟩<;>rw [t,b]<;>rfl
 exact L.symm▸(x6 (R _ a (q.trans z.same) f ⟨w,m,r,E.step z⟩))
theorem aer(p:bK c.B c.Z c.w Q)(q:Fm c.V n k ak)(i:J)(j:n[i]?=D e)(X:y[i]?=D (.obj (.kZ P)))(v:EP c n k y x (.str l))(L:jK P l=D E)(z:uK x=Y):EE c n k y (.Subscript (.Name e ao) x h) y (.int E):=by
 constructor;rintro T g s aF G⟨w,m,r,S⟩R;refine cps λ_ o=>uc (yU p S j X) λa aE u H O f B=>o (xS (eO (eL w S.ns u (v.1 T g s _ _ ⟨w,m,r,S⟩ λah aj F=>?_)) (q.eY j)));obtain⟨A,rfl⟩:=F.inv;refine vz f.typeIs PySem.F.slot_dict_getitem.lookup ?_ (wV λa aq aC h d=>by subst d;contradiction);rcases B.get with⟨A,i,t,b⟩|⟨t,b⟩
 .rw [L]at b;obtain rfl:=bj b;exact Ss (tJ ..) f.mapOf t (R _ g _ (cI s.heap _ C) (Le.refl _) ⟨w,m,r,S⟩ (.int _ _))
 .exact aV b L
set_option tactic.hygienic true in
theorem aes(p:bK c.B c.Z c.w aF)(F:Fm c.V n k a_)(i:J)(j:n[i]?=D x)(q:EE c n k H e P (.int z))(Q:P[i]?=D (.obj (.kZ h)))(ah:EP c n k P qf (.str l))(aj:U h<=1000)
  (s:gY e (D (.Subscript (.Name x t) qf r)) o.line c.V=pure ay):ES c n k H (.Assign [.Subscript (.Name x t) qf r] e o) (P.set i (.obj (.kZ (oU h l z)))) .next:=by
 constructor;intro T f v aH aC aK S R;refine wpAny_Assign_Subscript (q.1 T f v _ _ S λd a aE A X E L=>?_) s;obtain⟨w,y,m,E⟩:=E;refine uc (yU p E j Q) λG aP u g O ak B=>eO (eL w E.ns u (ah.1 T a d _ _ ⟨w,y,m,E⟩ λaL aN ao=>?_)) (F.eY j);obtain⟨aT,rfl⟩:=ao.inv;obtain⟨aX,rfl⟩:=L.inv;exact wpAny_setItem_pairs (tJ ..) ak (λh' aq b=>(R _ a .next (A.trans (cI h' _ C)) X ⟨w,y,_,Ce E j u (by exact(g)▸(.head _)) b (p.ob.symm▸((⟨G,_,C,g,O,aq,B.put⟩:Ao c.Z c.w _ _ h' _)))⟩ dj)) (by exact(B.len)▸(rO)▸(aD aj (az C)))
end
section
set_option tactic.hygienic true
theorem G3:Slot "wrapper_descriptor" "__get__" "wrapper_descriptor.__get__":=
 .of (owner:="wrapper_descriptor") (n:="__get__") (by kernel_rfl) (C) (C) (C)
  (by first|exact .inl (C)|exact .inr _) (by exact C)
theorem ad':typeLookup (.type "wrapper_descriptor") "__set__"=pure aa:=by kernel_rfl
theorem ad_:typeLookup (.type "wrapper_descriptor") "__delete__"=pure aa:=by kernel_rfl
theorem Vy:entryFor table "wrapper_descriptor.__get__"=D Builtin.«wrapper_descriptor.__get__»:=Aa (C)
theorem Tv(a b c:aB):argsOk "wrapper_descriptor.__get__" ⟨[a,b,c],[]⟩:=by kernel_rfl
theorem ac1:isSubtype (.type "list_iterator") (.type (".".intercalate ("list_iterator.__next__".cutAt '.').dropLast))=pure Y:=by
 exact C
theorem P8:typeOf (.builtin "list_iterator.__next__")=pure (.type "wrapper_descriptor"):=by
 first|exact h _|(decide+kernel)|kernel_rfl
theorem CG:Slot "list_iterator" "__getattribute__" "object.__getattribute__":=
 .of (owner:="object") (n:="__getattribute__") (by kernel_rfl) (C) (C) (C)
  (by first|exact .inl (C)|exact .inr _) (by exact C)
variable{g:iO GenState}{d:Drawn}{t:J}{os:OsState}
theorem Z0(j:h.get? a=D o)(l:o.cls=.type "list_iterator")(k:i (.ok (.ret (.ref h.objs.size))) ⟨h.push (j5 a),g,d,t,os⟩):
  codeAny (aI m w) L (.call (.builtin "wrapper_descriptor.__get__") ⟨[.builtin "list_iterator.__next__",.ref a,.type "list_iterator"],[]⟩) i ⟨h,g,d,t,os⟩:=by
 have q:(⟨h,g,d,t,os⟩:aU).TypeIs (.ref a) "list_iterator":=(aR _ j l);have n:=ac1;refine qG G3.plain Vy (G3.check _ _ _ _ _ _ _ _ (P8) (Tv _ _ _) ?_)
 repeat(any_goals(first|assumption|wp_step))
theorem ZZ(j:h.get? a=D {cls:=.type "list_iterator",dict:=aa,data:=.fields z,slots:=#[]})(k:Q (.done (.ret (.ref h.objs.size))) ⟨h.push (j5 a),g,d,t,os⟩):
  aQ (aI m w) L (Builtin.«object.__getattribute__» ⟨[.ref a,.str "__next__" n],[]⟩) Q H ⟨h,g,d,t,os⟩:=by
 have q:(⟨h,g,d,t,os⟩:aU).TypeIs (.ref a) "list_iterator":=(aR _ j C);have e:(⟨h,g,d,t,os⟩:aU).TypeIs (.builtin "list_iterator.__next__") "wrapper_descriptor":=P8;have B:typeLookup (.type "list_iterator") "__next__"=pure (D (.builtin "list_iterator.__next__")):=slot_listiter_next.lookup;have i:=G3.lookup;have l:=ad';have x:=ad_
 repeat(any_goals(first|assumption|wp_step))
 apply Z0 j C
 repeat(any_goals(first|assumption|wp_step))
theorem ZX(j:h.get? a=D {cls:=.type "list_iterator",dict:=aa,data:=.fields z,slots:=#[]})(k:Q (.ref h.objs.size) ⟨h.push (j5 a),g,d,t,os⟩):
  aQ (aI m w) L (getAttrBy (.ref a) (.str "__next__" n) Y Y) Q H ⟨h,g,d,t,os⟩:=by
 have q:(⟨h,g,d,t,os⟩:aU).TypeIs (.ref a) "list_iterator":=(aR _ j C);have v:=CG.lookup;have s:=CG.bind (.ref a)
 repeat(any_goals(first|assumption|wp_step))
 refine qG CG.plain agA (CG.check _ _ _ _ _ _ _ _ q (agz _ _) (ZZ j ?_))
 repeat(any_goals(first|assumption|wp_step))
theorem ZW(j:h.get? a=D {cls:=.type "list_iterator",dict:=aa,data:=.fields z,slots:=#[]})(k:Q (.ref h.objs.size) ⟨h.push (j5 a),g,d,t+1,os⟩):
  aQ (aI m w) L (getAttr (.ref a) "__next__" Y) Q H ⟨h,g,d,t,os⟩:=by
 repeat(any_goals(first|assumption|with_reducible apply ZX j|wp_step))
theorem T_(X:s.heap.IsList l items)(R:Q (.ref s.heap.objs.size) {s with heap:=s.heap.push {cls:=.type "list_iterator",data:=.fields #[.ref l,.int 0 0]}}):
  aQ (aI m w) L (call (.builtin "iter") [.ref l]) Q H s:=by
 apply call_function_entry (C) (C) (entryFor_of_fast (C)) (by kernel_rfl);exact aG (iN (a:=[vB l]) (by first|rfl|kernel_rfl!) (aG (I0 X (bN (aR _ C R)))))
end
inductive SX(c:Cx Ob)(m:af->bg aB)(h:cf)(x:af)(fp:I au)(il:I (au×J)):Prop
 |mk(a:au)(ws:I (au×au))(n:J)(ha:eE c.V m h x (D (.ref a)))(f:fp=iT a ws)(nd:(iT a ws).Nodup)(hl:ws.length=il.length)(lv:∀b∈iT a ws,(h.get? b).isSome=Y)(g:h.get? a=D (lo (ws.map λw=>.ref w.1) n))(r:DO h ws il)
theorem Gy(p:bK c.B c.Z c.w O)(S:aW c.B c.ρ hB g c.V n k y m h e)(j:n[i]?=D x)(X:y[i]?=D (.obj (.dJ Q))):SX c m e x (h i) Q:=by
 refine ai (Cd S j X) λv a d=>?_;rw [p.ob]at d;obtain⟨b,G,u,rfl,L,s,X,y,f,r⟩:=(d);exact⟨b,G,u,a,L,L▸s,X,L▸y,f,r⟩
theorem aeB(f:bK c.B c.Z c.w O)(F:Fm c.V n k G)(i:J)(j:n[i]?=D x)(l:i<k)(B:gY (.List [] u) (D (.Name x h)) p.line c.V=pure ay):
  ES c n k y (.Assign [.Name x h] (.List [] u) p) (y.set i (.obj (.dJ []))) .next:=by
 constructor;intro T g s ak ao e S R;refine kr ((rz cU C).1 T g s _ _ S λaj a b aC X Q P q o w E t L d=>?_) B;have m:=by have:=d.length;simpa using this
 subst m;refine gh (av:=.obj (.dJ [])) w e E j l (F.loc j l) ⟨_,C,?_⟩ (.sM t) λr v z A=>R r a .next (q.trans z) o ⟨w,v,_,A⟩ dj
 exact(f.ob)▸((⟨b,[],X,C,C,gM.mpr ⟨dR,xK⟩,C,λaq H=>by simp only [cO.mp H,L];rfl,L,λi aE x ah=>nofun⟩))
theorem o4(a:au)(G:I _)(w:au×au):iT a (G++[w])=iT a G++[w.1,w.2]:=by simp [iT]
theorem Yk{a h:au}{n₃:J}(l:(iT a G).Nodup)(j:U G=Q.length)(c:∀b∈iT a G,(e.get? b).isSome=Y)
  (A:DO e G Q)(v:e.get? h=aa)(F:e.get? H=aa)(X:H≠h)(B:∀b,b≠a->∀o,e.get? b=D o->O.get? b=D o)
  (P:O.get? H=D (j5 h))(s:O.get? h=D {cls:=.type "list_iterator",data:=.fields #[.ref R,.int 0 0]})(L:O.get? a=D (lo ((G++[(H,h)]).map λw=>vB w.1) n₃)):oK 0 (Q++[(R,0)]) (.ref a) O (iT a (G++[(H,h)])):=by
 have n:∀{b d},e.get? d=aa->b∈iT a G->b≠d:=λg f q=>cY (aA mC g) (q▸c _ f);have k:∀{z:J}{w:au×au},G[z]?=D w->w.1≠a/\w.2≠a:=λ{z w}y=>
  have m:∀{b},b∈[w.1,w.2]->b≠a:=λf q=>(gM.mp l).1 (q▸vo.mpr (aR w (cN y) f))
  ⟨m (d9 0 C),m (d9 1 C)⟩
 refine⟨a,_,n₃,C,C,o4 a G (H,h)▸gk.mpr (dI l (.cons (bO X eK) (.cons eK .nil)) (λb f d u=>bO (P:=λd=>∀b∈iT a G,b≠d) (λE=>n F) (bO (λE=>n v) eK) d u b f)),by apply ae (cC);simp only [cC,j];rfl,λb f=>?_,L,λz w r y p=>?_⟩
 .refine(fE.mp (o4 a G (H,h)▸f)).elim (λf=>?_) (bO (P:=λb=>(O.get? b).isSome=Y) (cW P) (bO (cW s) eK) b);obtain⟨o,T⟩:=gG.mp (c b f);exact(vh (b=a)).elim (λq=>q▸cW L) λq=>cW (B b q o T)
 .by_cases i:z<U G
  .have x:=(nC i).symm.trans y;obtain⟨S,o,T,t⟩:=A z w r x ((nC (j▸i)).symm.trans p);exact⟨B _ (k x).1 _ S,o,B _ (k x).2 _ T,t⟩
  .have y:=(kR (iM i)).symm.trans y;have p:=(kR (j▸iM i)).symm.trans p;rw [<-j]at p;generalize z-U G=d at y p;cases d with
   |succ d=>exact aV C y
   |zero=>exact bj y▸bj p▸⟨P,_,s,C,C⟩
theorem aeC(ek:bK c.B c.Z c.w kQ)(F:Fm c.V n y bl)(i t:J)(hx:n[i]?=D x)(cH:ao[i]?=D (.obj (.dJ j)))(aC:bl[t]?=D (("iter":af),.globalImplicit))(d8:EE c n y ao e P (.bW (.ref R)))(bU:tR c n y P R lG)(dB:P[i]?=D (.obj (.dJ j)))(a_:dP e=Y)
  (cg:(cA.endLine==u.line)=Y)(bz:U j<=1000):
  ES c n y ao (.Expr (.Call (.Attribute (.Name x jn) "append" cA) [.Attribute (.Call (.Name "iter" r) [e] [] p) "__next__" Ej] [] u) lF) (P.set i (.obj (.dJ (j++[(R,0)])))) .next:=by
 constructor;intro ej mw gU gV gc jo aq bY;have aP:∀m∈[e],∀x p,m≠.Starred x p:=λm k=>by rw [cO.mp k];exact g7 a_
 have aK:=kI (pos:=u) (V:=c.V) [Ra (.Call (.Name "iter" r) [e] [] p) "__next__" Ej] (λm k=>by rw [cO.mp k];exact g7 C);refine tL (cps λaL kk=>?_) (by unfold interactive;rw [aq.1.kind];assumption) C;obtain⟨w,dK,dO,l⟩:=aq;obtain⟨a,aE,aF,aH,_,_,_,_,L,_⟩:=Gy ek l hx cH;refine kk (lM C (ou _) cg R4 PySem.F.slot_list_append PySem.F.type_list_append (eO (eL w l.ns aH (dI (aR _ L C) (λjm cZ=>Sj cZ▸(aR _ L C)) ?_)) (F.eY hx)));have eR:backTo u (starEach [Ra (.Call (.Name "iter" r) [e] [] p) "__next__" Ej] c.V)=[(ay,eval (Ra (.Call (.Name "iter" r) [e] [] p) "__next__" Ej) c.V)]:=C;rw [eR]at aK⊢;refine kq aK (tH (pS (bT (c.bi 16 "iter" (.builtin "iter") C) λe6 eG=>?_)));refine aG (ku (nV c.G w l.base (F.kn t aC nofun) e6 eG (F.kg t aC) (kq (kI (pos:=p) (V:=c.V) [e] aP) (jJ aP (qO d8.1 lU (g7 a_)) ⟨w,dK,dO,l.uD hx aH⟩ λfy eT mu bx bC E bE=>(ai bE.ja λh8 bH bP=>?_)))));subst bH;obtain rfl:=bP.inv;obtain⟨_,bR,s,E⟩:=E;obtain⟨kO,aE,aF,aT,g,b_,O,cu,L,G⟩:=Gy ek E hx dB;obtain rfl:=ko (bj ((E.locked hx).det aT));have E:=E.unlock;refine cps λaL kk=>ai (bU _ _ _ _ _ E) λkP ah cB=>?_;obtain⟨jd,cF,rfl,kh⟩:=cB;obtain⟨B,cL,cQ,cV,os⟩:=fy;apply kk;dsimp only at ah L E G;refine T_ (i12 _ ah C ⟨cF,C⟩) (aG (oE (aG (gH ?_))));have aj:(B.push {cls:=.type "list_iterator",data:=.fields #[.ref R,.int 0 0]}).get? B.objs.size=D {cls:=.type "list_iterator",data:=.fields #[.ref R,.int 0 0]}:=eS B C;refine ZW aj (aG (wpAny_letTemporaryGo (bN (lK ?_))));have ak:(B.push {cls:=.type "list_iterator",data:=.fields #[.ref R,.int 0 0]}).objs.size=B.objs.size+1:=lI ..;have d:=gS ⟨B,cL,cQ,cV,os⟩;have h:B.get? (B.objs.size+1)=aa:=iV λo q=>bA (fk q) (h9.mpr (rM _));have Q:∀b o,B.get? b=D o->((B.push {cls:=.type "list_iterator",data:=.fields #[.ref R,.int 0 0]}).push (j5 B.objs.size)).get? b=D o:=λb o e=>eH _ (eH _ e);have H:=eH (j5 B.objs.size) aj;have z:((B.push {cls:=.type "list_iterator",data:=.fields #[.ref R,.int 0 0]}).push (j5 B.objs.size)).get? (B.objs.size+1)=D (j5 B.objs.size):=ak▸eS _ C;simp only [ak];generalize(B.push {cls:=.type "list_iterator",data:=.fields #[.ref R,.int 0 0]}).push (j5 B.objs.size)=gi at Q z H;have X:B.objs.size+1≠B.objs.size:=agm _;generalize B.objs.size=aN at Q z H d h X;generalize aN+1=eu at z h X;refine IW (hsz:=by simp only [qB,dg,rO,O];exact aD bz (az C)) ⟨aF,Q _ _ L⟩ λez S A=>bG S λeN S=>?_;have aX:=j4 hx;have T:a∈s i:=g.symm▸.head _;have bf:=E.fp i aX;have v:=λb fj o e=>ae (A.2 b fj) (Q b o e)
 exact bY _ eT .next (bx.trans (cI ez _ C)) bC ⟨w,bR,_,E.wY hx (λb fB aL o e=>v b (λq=>fB (q▸T)) o e) (bD.ir E.inv λbh fZ o e=>v bh (λq=>(E.tab bh fZ).2.2.2.2 i aX (q▸T)) o e) (Le.refl _) (λb o e=>v b (eZ (bf a T).2.1 e) o (E.bJ b o e)) (λb o e=>.inl e) aT
  ⟨.ref a,C,ek.ob.symm▸(Yk b_ O cu G d h X v (ae (A.2 _ (eZ h L).symm) z) (ae (A.2 _ (eZ d L).symm) H) (n₃:=eN) (by refine ae (S) ?_;simp [lo]))⟩ λb f=>(fE.mp (o4 a aE (eu,aN)▸f)).elim (λf=>⟨.inl (g.symm▸f),(bf b (g.symm▸f)).2.1⟩) (bO (P:=λb=>(b∈s i\/e9 c.B ej eT c.V n s b)/\eT b=aa) ⟨.inr (E.free h),(E.free h).fz⟩ (bO ⟨.inr (E.free d),(E.free d).fz⟩ eK) b)⟩ dj
theorem T7(T:s.heap.get? b=D (j5 n))
  (e:aQ (aI m w) L (call (.ref b) []) Q H s):aQ (aI m w) L (callWith u (.ref b) [] [] []) Q H s:=by
 refine aG (gH (kT (Q:=λx c=>x=⟨[],[]⟩/\c=s) (Ab ⟨C,C⟩) (λx c v=>aG (oE ?_)) λE E x=>x));obtain⟨rfl,rfl⟩:=v;exact aG (aG (IX T (bN (aG (kT e (λr F h=>aG (gH (wpAny_point (bN h)))) λE E x=>x)))))
theorem JW(T:s.heap.get? b=D (j5 n))(k:s.TypeIs (.ref n) "list_iterator")
  (e:aQ (aI m w) (L.under (.builtin "list_iterator.__next__" ⟨[.ref n],[]⟩)) (Builtin.«list_iterator.__next__» ⟨[.ref n],[]⟩) (λy t=>∃r,y=.done (.ret r)/\Q r t) H s):aQ (aI m w) L (call (.ref b) []) Q H s:=by
 refine i4 (codeAny_of_tree (aG (IX T ?_)));have d:(nH "method-wrapper"==nH "method"||nH "method-wrapper"==nH "builtin_function_or_method"||nH "method-wrapper"==nH "method-wrapper")=Y:=C;have l:(nH "method-wrapper"!=nH "method")=Y:=C;show aQ _ _ (if(nH "method-wrapper"!=nH "method")=Y then(do checkBoundCall "list_iterator.__next__" ⟨[.ref n],[]⟩;return<-again (.builtin "list_iterator.__next__" ⟨[.ref n],[]⟩))else _) _ _ s;apply aG;have i:∀{g:Unit->aU->Prop}{h:aB->aU->Prop},g () s->aQ (aI m w) L.in1 (checkBoundCall "list_iterator.__next__" ⟨[.ref n],[]⟩) g h s:=by
  intro g h j
  repeat(any_goals(first|assumption|wp_step))
 exact i (aG (bN (bN (⟨zM _ (by decide+kernel),z_ entry_listiter_next (kT e (λy t⟨r,a,q⟩=>a▸q) λE E x=>x)⟩))))
section
variable{Z:cy}{w:bZ}{A:c3}{s:aU}
theorem Z1(T:s.heap.get? b=D (j5 n))(k:s.heap.IsListIter n l i)(X:s.heap.IsList l t)(j:t[i]?=D x)
  (R:∀O,O.IsListIter n l (i+1)->gW n s.heap O->Q x {s with heap:=O}):aQ (aI Z w) A (call (.ref b) []) Q H s:=by
 refine dG (id k) λo h e P=>dG X λq r E u=>?_;refine bG (u) λy a=>?_;apply JW T k.typeIs;show aQ _ _ (field (.ref n) 0>>=_) _ _ s;refine aG (DD h P (x:=.ref l) C (aG (DD h P (x:=.int i 0) C (aG (xZ r a ?_)))));simp only [Ip,j];refine aG (wpAny_setField h P (fG _) (bN (aR x C (R _ (i12 _ (pN _ h (agn (RY P _))) (ae (Obj.cls_mapFields ..) e) ?_) (oB ..)))));rw [RY P];exact C
def DL(h:cf)(e:au)(B:aB):Prop:=∃c z o,h.get? e=D c/\c.cls=B/\c.data=.fields z/\z[1]?=D .none/\z[0]?=D o
theorem ZY(B:A.handled=aa)(T:s.heap.get? b=D (j5 n))(k:s.heap.IsListIter n l i)(X:s.heap.IsList l t)(j:t[i]?=aa)
  (S:∀O e,jU n s.heap O->(O.get? n).isSome=Y->s.heap.get? e=aa->DL O e (.type "StopIteration")->H (.ref e) {s with heap:=O}):aQ (aI Z w) A (call (.ref b) []) Q H s:=by
 refine dG (id k) λq h o P=>dG X λx r E u=>?_;refine bG (u) λy a=>?_;apply JW T k.typeIs;show aQ _ _ (field (.ref n) 0>>=_) _ _ s;refine aG (DD h P (x:=.ref l) C (aG (DD h P (x:=.int i 0) C (aG (xZ r a ?_)))));simp only [Ip,j];refine aG (xY (aG (wpAny_setField h P (fO _ _) (aG (aG (rQ (aG (m:=firstArgMember _ _) (iN (a:=Value.none) (by first|rfl|(simp only [firstArgMember];rfl)) (rQ (aG (wpAny_handled ?_)) (by size_fits)))) (by size_fits)))))))
 first|rw [show(A.under (.builtin "list_iterator.__next__" ⟨[.ref n],[]⟩)).handled=aa from B]|rw [B]|skip
 refine aG (bN (wpAny_throw ?_));refine S _ _ (((oB ..).extBut.push _).push _) ?_ ?_ (Fe _ _ _ (eS _ C) C C C C)
 .exact cW (eH _ (eH _ (pN _ h (agn (RY P _)))))
 .exact Heap.get?_none_of_le (by simp only [lI];exact z0 (fq (oB ..).1.symm))
end
theorem aac(x:L.frames=D (G::f))(X:s.heap.FunFrames a (G::f))(g:G.frame=D j)(m:DL s.heap e B)(i:a.StaysIn s.heap)(F:a.get? e=aa)
  (h:∀O o,Heap.LeftW a (G::f) e B o s.heap O->Q () {s with heap:=O}):aQ b L (noteFrame (.ref e) G) (λE t=>aQ b L (setFlight (.ref e) aa) Q H t) H s:=by
 refine v5 m λc z o T l P w n=>?_;subst l
 delta noteFrame
 rw [g];exact aG (DD T P w (wpAny_newEntryW x X g T i F P (Array.getElem?_eq_some_iff.mp w).1 n λO k=>h O o k))
structure gZ{O:Type}(c:Cx O)(fl:I au):Prop where
 fr:∃outer,c.A.frames=D (c.V::outer)/\∀e∈outer,e.scope.kind≠.module/\∃L∈fl,e.frame=D L
 own:c.V.frame=D c.V.locals
 kd:c.V.scope.kind≠.module
 tab:∀L∈fl,L∈c.B.tabs
 dat:∀f h,c.B.inv f h->∀L∈fl,∃o,h.get? L=D o/\∀vs,o.data≠.fields vs
 sl:∀f h h',c.B.inv f h->(∀P∈c.B.tabs,∀o,h.get? P=D o->h'.get? P=D o\/(P∈fl/\∃sl,h'.get? P=D {o with slots:=sl}))->c.B.inv f h'
section
variable{fl:I au}{h:cf}
theorem E2(f:∀H∈fl,a.get? H=aa)(P:∀H∈fl,∃o,h.get? H=D o/\∀z,o.data≠.fields z):∀{l:I c4},(∀e∈l,e.scope.kind≠.module/\∃H∈fl,e.frame=D H)->h.FunFrames a l:=@λT=>T.rec
 (@λE=>dj)
 (@λG r n X=>by
  refine bT (X G gC) λk j=>?_;refine ai (j) λH p g=>?_
  exact ai (P H p) λo i x=>(dI k (lZ H o g (f H p) i x) (n λe m=>X e (fF _ m))))
end
section
variable{c:Cx Ob}{p1 p2 p3:h_}{il:I (au×J)}
theorem UT:∀z,bu F g z (z.map .bW):=λT=>T.rec
 (.nil)
 (λv r n=>.cons (.bW v) (n))
theorem Mb{h:cf}{a:au}{G:I (au×au)}{x:J}(j:U G=U (il++[(su,pos)])+x)(e:x=0):∃t w,G=t++[w]/\U t=U il:=by
 subst e;have:G≠[]:=λq=>by simp only [q]at j;simp at j
 refine(gg G.dropLast _ ((List.dropLast_concat_getLast this).symm) ?_);apply ae (List.length_dropLast);rw [j];simp
theorem Ma(p:bK c.B c.Z c.w aH)(f:Fm c.V e t aN)(j:e[i]?=D x)(ak:k[i]?=D (.obj (.dJ (il++[(R,u)]))))(h:gm c.V)(S:aW c.B c.ρ o g c.V e t k m r s.heap)
  (z:∀n a G w aj,eE c.V m s.heap x (D (.ref a))->r i=iT a (G++[w])->(iT a (G++[w])).Nodup->U G=U il->(∀b∈iT a (G++[w]),(s.heap.get? b).isSome=Y)->s.heap.get? a=D (lo ((G++[w]).map λw=>.ref w.1) aj)->
   (∀(i:J)(w:au×au)(x:au×J),G[i]?=D w->il[i]?=D x->s.heap.get? w.1=D (j5 w.2)/\s.heap.IsListIter w.2 x.1 x.2)->s.heap.get? w.1=D (j5 w.2)->s.heap.IsListIter w.2 R u->
   aQ (aI c.Z c.w) c.A (call (.ref w.1) []) Q H {s with toks:=n}):
  aQ (aI c.Z c.w) c.A (eval (.Call (.Subscript (.Name x aK) (.UnaryOp .USub (.Constant (.int 1) v p1) p2) p3) [] [] aF) c.V) Q H s:=by
 refine cps λa_ v=>?_;obtain⟨a,bf,X,l,B,O,P,ah,L,A⟩:=Gy p S j ak;refine d5 (Mb (h:=s.heap) (a:=a) P C) λG w d E=>?_;subst d;apply v;have q:=A (U il) w (R,u) (by rw [<-E];simp) (by simp);refine aG (xS (eO (eL h S.ns l ((C6 (vf 1)).1 o g s _ _ ⟨h,m,r,S⟩ λn ao F=>?_)) (f.eY j)));obtain⟨aL,rfl⟩:=F.inv;have aC:({s with toks:=n}:aU).heap.IsList a ((G++[w]).map λw=>vB w.1).toArray:=(i12 _ L C ⟨X,C⟩);refine vz aC.typeIs PySem.F.slot_list_getitem.lookup (Lc (ρ:=c.ρ) (fz:=g) (τ:=.bW (.ref w.1)) L (UT _) ?_ λao F=>?_) (wV λa b aP aT aX=>by contradiction)
 .show(if jN (-1)then(seqIndex? (-1) _).bind _ else aa)=_;have aq:seqIndex? (-1) (U (((G++[w]).map λw=>vB w.1).map T.bW))=D (U G):=by
   simp only [dg,dg,cC];exact OZ _
  apply ae (aM (by exact C));rw [aq];simp
 .obtain rfl:=F.inv;exact T7 q.1 (z n a G w X l B O E ah L (λi aE x y j=>A i aE x (ae (nC (cG.mp y).1) y) (ae (nC (cG.mp j).1) j)) q.1 q.2)
theorem aeV(j:bK c.B c.Z c.w gi)(aj:Fm c.V n k fB)(i t:J)(F:n[i]?=D X)(bR:s[i]?=D (.obj (.dJ (il++[(R,u)]))))(L:n[t]?=D P)(ah:t<k)(bU:tR c n k s R bY)(cu:bY[u]?=D l)
  (cZ:gY (.Call (.Subscript (.Name X d8) (.UnaryOp .USub (.Constant (.int 1) v p1) p2) p3) [] [] aF) (D (.Name P aL)) aP.line c.V=pure ay):
  ES c n k s (.Try [.Assign [.Name P aL] (.Call (.Subscript (.Name X d8) (.UnaryOp .USub (.Constant (.int 1) v p1) p2) p3) [] [] aF) aP,.Break ez] (eN::ao) [] [] gc) ((s.set i (.obj (.dJ (il++[(R,u+1)])))).set t (.t (.str l))) .brk:=by
 constructor;rintro eG aC A e6 fy aN⟨h,fj,cQ,S⟩cg;refine Sp (gN (kr (Ma j aj F bR h S λB a G w aH aK g H E aT aX a_ ak bf=>(cps λbh v=>(ai (bU _ _ _ _ _ S) λeR bl bx=>?_))) cZ));obtain⟨fZ,bz,rfl,bC⟩:=bx;refine ai ((bC.qd (ρ:=c.ρ) (fz:=aC)).get (i:=u) (t:=.str l) (by simp [cu])) λbE bH bP=>v (Z1 ak bf (i12 _ bl C ⟨bz,C⟩) (by simpa using bH) λO m r=>?_);have x:=λ{b}f q=>by
  rw [o4,gk]at H;exact H.2.2 b f w.2 (.tail _ (.head _)) q
 have b_:w.1≠w.2:=λq=>by
  rw [o4,gk]at H;have:=H.2.1;rw [q]at this;simp at this
 have Q:∀{b},b≠w.2->∀o,A.heap.get? b=D o->O.get? b=D o:=λ{b}cA o cB=>ae (r.2 b cA) cB;have cF:oK 0 (il++[(R,u+1)]) (.ref a) O (cQ i):=by
  refine⟨a,G++[w],aH,C,g,g▸H,by simp [E],λb f=>?_,Q (x gC) _ aX,λz cH cL y p=>?_⟩
  .by_cases q:b=w.2
   .refine ai m λo T bh=>?_;rw [q,T];rfl
   .exact bG (gG.mp (aT b (g▸f))) λo T=>cW (Q q o T)
  .by_cases e:z<U G
   .rw [nC e]at y;rw [nC (E▸e)]at p;refine bT (a_ z cH cL y p) λdB dK=>?_;refine ai (dK) λo T cV=>?_;have aq:=FI a y;exact⟨Q (x aq.1) _ dB,o,Q (x aq.2) _ T,cV⟩
   .rw [kR (iM e)]at y;rw [kR (E▸iM e),<-E]at p;obtain⟨d,ao⟩:∃d,z-U G=d:=⟨_,C⟩;rw [ao]at y p;cases d with
    |succ d=>simp at y
    |zero=>obtain rfl:=bj y;exact bj p▸(⟨Q b_ _ ak,m⟩)
 exact gh (s:={A with heap:=O,toks:=B}) (av:=.t (.str l)) h aN (Ce S F aK (by simp only [g,o4];simp) r (j.ob.symm▸cF)) L ah (aj.loc L ah) ⟨C,bE,C,bP⟩ .nil λdO ej eu aE=>gN (wpAny_Break (cg dO aC .brk (bQ.trans (cI O B C) eu) (Le.refl _) ⟨h,ej,_,aE⟩ dj))
end
theorem acS:isSubtype (.type "StopIteration") (.type "BaseException")=pure Y:=by exact C
theorem acU:isSubtype (.type ((Manifest.find? "StopIteration").elim "type" λx=>x.metatype)) (.type "tuple")=pure ay:=by
 exact C
theorem acT:isSubtype (.type "StopIteration") (.type "StopIteration")=pure Y:=by exact C
theorem JX(T:s.heap.get? a=D (lo (z++[v]) u))(m:U z<=1000)(R:∀O k,gW a s.heap O->O.get? a=D (lo z k)->Q v {s with heap:=O}):
  aQ (aI h w) L (call (.builtin "list.pop") [.ref a]) Q H s:=by
 refine DA R5 (aR _ T C) PySem.F.entry_list_pop (PySem.F.args_list_pop_1 _) (PySem.MeetsSeq.list_pop_last a (z++[v]).toArray u v (by simp) (by simp only [rO];simp;exact aD m (az C))) ⟨T,?_⟩;obtain⟨k,e⟩:∃k,nF (λn=>n.eraseIdxIfInBounds ((z++[v]).toArray.size-1)) (lo (z++[v]) u)=lo z k:=by
  delta nF lo;dsimp only
  have e:(z++[v]).toArray.eraseIdxIfInBounds ((z++[v]).toArray.size-1)=z.toArray:=by
   simp [List.eraseIdx_append_of_length_le]
  exact(e)▸(⟨_,C⟩)
 exact R _ k (oB ..) (by apply ae (pN _ T (C));exact aA _ (e))
theorem bu.P_:∀{p:I T}{z:I aB},bu F g z (p++[A])->∃o v,z=o++[v]/\bu F g o p/\Den F g v A
 |[],_,h=>h.ja.elim λv x=>(gx ([]) v x.1 (.nil) x.2)
 |y::p,_,h=>h.jx (P:=λz=>∃o v,z=o++[v]/\bu F g o (y::p)/\Den F g v A) λa G O B=>(bu.P_ B).elim λo x=>x.elim λv x=>(gx _ v (aA _ x.1) (.cons O x.2.1) x.2.2)
section
variable{c:Cx Ob}{st:I (I J)}
theorem Yj(p:bK c.B c.Z c.w cu)(ah:Fm c.V n t cB)(j:n[i]?=D aj)(ao:k[i]?=D (.obj (.we il)))(aL:il.length<=900)(eo:gm c.V)(S:aW c.B c.ρ aT Q c.V n t k aq cK s.heap)(aF:(aX.endLine==q9.line)=Y)
  (bx:∀O T,aW c.B c.ρ aT Q c.V n t (k.set i (.obj (.dJ il))) aq T O->aN .next {s with heap:=O}):aQ (aI c.Z c.w) b_ (exec (.Expr (.Call (.Attribute (.Name aj cF) "pop" aX) [] [] q9) bP) c.V) aN bU s:=by
 refine ai (Cd S j ao) λbY u d=>?_;rw [p.ob]at d;refine cps λcg aP=>?_;obtain⟨a,bR,x,rfl,g,H,R,l,L,ak⟩:=(d);refine d5 (Mb (h:=s.heap) (a:=a) (il:=il) (su:=0) (pos:=0) (by apply ae (R);simp) C) λG w aC E=>?_;subst aC;apply aP;rw [g]at H l;refine tL (lM C (ou _) aF R4 R5 agF (eO (eL eo S.ns u (dI (aR _ L C) (λbH aH=>by obtain rfl:=ko aH;exact(aR _ L C)) (kq (C) (Ab ?_)))) (ah.eY j))) (by delta interactive;exact eo.kind.symm▸C) C;rw [eW]at L;refine JX L (by simp only [dg,E];exact aD aL (az C)) λO aK B h=>?_;have A:=(cG.mp j).1;have v:=S.fp i A;have X:a∈cK i:=by rw [g];exact gC
 have sub:∀b∈iT a G,b∈cK i:=λb f=>by simp only [g,o4];exact gj _ f
 have r:=by rw [o4,gk]at H;exact H.1
 have m:∀{z:J}{w:au×au},G[z]?=D w->w.1≠a/\w.2≠a:=λ{z w}y=>by
  have:=(gM.mp r).1;exact⟨λq=>this (vo.mpr (aR w (cN y) (by simp [q]))),λq=>this (vo.mpr (aR w (cN y) (by simp [q])))⟩
 have aE:oK 0 il (.ref a) O (iT a G):=by
  refine⟨a,G,aK,C,C,r,E,λb f=>?_,h,λz bf bh y bl=>?_⟩
  .by_cases q:b=a
   .simp only [q,h];rfl
   .exact ae (aA _ (B.2 b q)) (l b (g▸sub b f))
  .refine bT (ak z bf bh (ae (nC (cG.mp y).1) y) bl) λa_ bz=>?_;refine ai (bz) λo bC bE=>?_;exact⟨ae (B.2 _ (m y).1) a_,o,ae (B.2 _ (m y).2) bC,bE⟩
 refine bx O _ (S.qw j (λb x cA o e=>ae (B.2 b λq=>x (q▸X)) e) (bD.ir S.inv λP F o e=>ae (B.2 P λq=>(S.tab P F).2.2.2.2 i A (q▸X)) e) (Le.refl _) (λb o e=>ae (B.2 b λq=>?_) (S.bJ b o e)) (λb o e=>.inl e) u ⟨.ref a,C,?_⟩ λb f=>⟨.inl (sub b f),(v b (sub b f)).2.1⟩)
 .exact aV (ae (aA _ q) ((v a X).2.1)) e
 .exact p.ob.symm▸aE
theorem UR(p:bK c.B c.Z c.w e6)(F:Fm c.V n k fB)(z:n[X]?=D R)(aK:y[X]?=D (.own ((st++[A]).map .str)))(x:n[j]?=D q)(l:y[j]?=D (.obj (.kZ P)))(aj:X≠j)(ak:jK P A=D dK)(ao:U st<=900)(aq:U P<=900)
  (w:gm c.V)(S:aW c.B c.ρ aN aP c.V n k y aT cV s.heap)(G:(bf.endLine==bh.line)=Y)
  (bx:∀O bR bP,aW c.B c.ρ aN aP c.V n k ((y.set X (.own (st.map .str))).set j (.obj (.kZ (lT P A)))) aT bP O->Q .next {s with heap:=O,toks:=bR}):
  aQ (aI c.Z c.w) gi (exec (.Delete [.Subscript (.Name q bY) (.Call (.Attribute (.Name R eR) "pop" bf) [] [] bh) cL] dO) c.V) Q d8 s:=by
 refine wpAny_Delete (wpAny_deleteEach_cons (wpAny_delete_Subscript (uc (yU p S x l) λad eu d fZ cg cB cF=>(eO (eL w S.ns d ?_) (F.eY x)))));obtain⟨cH,u,cQ,cZ,dB,rfl,L,e,t⟩:=S.vars X R _ z aK;simp only [eW]at e;refine cps λej aC=>?_;refine e5 e.P_ λez eN aE o aF=>?_;subst aE;refine bG (jg aF) λgc ah=>?_;subst ah;apply aC;refine lM C (ou _) G R4 R5 agF (eO (eL w S.ns u (dI (aR _ L C) (λb_ aH=>by obtain rfl:=ko aH;exact(aR _ L C)) (kq (C) (Ab (JX L (by rw [o.length,dg];exact aD ao (az C)) λcu cA B aL=>?_))))) (F.eY z));have E:=S.Cq z u t B aL o;refine uc (yU p E x (by exact(lJ aj)▸(l))) λr h a b a_ i g=>?_;have bl:r=ad:=by
  have:=a.det (d.keep λv bz aX eG bE=>ae (B.2 v λbH=>?_) bE)
  .injection this with this;injection this
  .subst bH;exact(S.fp X (cG.mp z).1 v (by rw [t];exact .head _)).2.2.2 j q x bz aX
 subst bl;have bC:(valueAt h (ck A)).isSome=Y:=by
  rcases g.get with⟨fj,fy,f,m⟩|⟨f,m⟩
  .exact cW f
  .exact aV m ak
 exact wpAny_delItem_slot i.typeIs (C) agB (call_meetsIn agB i.typeIs PySem.F.entry_dict_delitem (PySem.F.args_dict_delitem_2 _ _) (meets_dict_delitem_pairs (vA c.Z c.w) r (k:=ck A) (tJ ..)) (Fc h i (by exact(g.len)▸(rO)▸(aD aq (az C))) bC (λH bU T=>(wpAny_deleteEach_nil (bx H _ _ (Ce E x a (a:=r) (by rw [b];exact .head _) T (p.ob.symm▸((⟨r,_,C,b,a_,bU,g.del⟩:Ao c.Z c.w (lT P A) (.ref r) H _)))))))))
end
section
variable{s:aU}
structure SK(c:Cx Ob)(fz:Fz)(h h':cf)(ex:au):Prop where
 kp:∀b,b≠ex->b∉c.B.tabs->b≠c.V.locals->∀o,h.get? b=D o->h'.get? b=D o
 live:∀b,b∉c.B.tabs->b≠c.V.locals->(h.get? b).isSome=Y->(h'.get? b).isSome=Y
 ns:∀m,h.Ns c.V.locals m->h'.Ns c.V.locals m
 inv:c.B.inv fz h'
theorem WE{v:cf}{e:au}{aC:Flow->aU->Prop}(i:gZ c A)(aH:Fm c.V cu l bf)(d:J)(G:bf[d]?=D (("StopIteration":af),.globalImplicit))(aN:gm c.V)(S:aW c.B c.ρ fy aP c.V cu l e6 gU ez a)
  (k:n∉c.B.tabs/\n≠c.V.locals/\c.B.h₀.get? n=aa)(t:jU n a v)(bh:(v.get? n).isSome=Y)(m:a.get? e=aa)(cL:DL v e (.type "StopIteration"))
  (cV:∀B,SK c aP a B n->aQ (aI c.Z c.w) (c.A.mark (D (.ref e))) (execs (dK::dB) c.V) aC (notedBy (aI c.Z c.w) (c.A.mark (D (.ref e))) c.V (cameBackBy (aI c.Z c.w) c.A c.V y)) {s with heap:=B}):
  aQ (aI c.Z c.w) c.A (noteFrame (.ref e) c.V) (λQ a_=>aQ (aI c.Z c.w) c.A (setFlight (.ref e) aa) (λQ bx=>aQ (aI c.Z c.w) c.A (handleBy (.ref e) c.V (.ExceptHandler (D (.Name "StopIteration" gc)) aa (dK::dB) gi::aq)) aC y bx) y a_) y {s with heap:=v}:=by
 refine ai i.fr λfj bR bU=>?_;have j:∀{b},(a.get? b).isSome=Y->b≠e:=λ{b}f q=>by rw [q,m]at f;exact cY C f
 have X:∀{b}{o},b≠n->a.get? b=D o->v.get? b=D o:=λu e=>t _ _ u e;have ao:=bD.ir S.inv λP x o e=>X (λq=>k.1 (q▸x)) e;have aT:∀H∈c.V.locals::A,∃o,v.get? H=D o/\∀aF,o.data≠.fields aF:=λH p=>by
  rcases cD.mp p with rfl|p
  .exact ji (S.ns.extBut t k.2.1.symm) λo fZ d8 h bz Q=>(aR o h (λaF q=>by rw [bz]at q;contradiction))
  .exact i.dat _ _ ao H p
 have aK:∀{b},b∈e::c.V.locals::A->(rest v (e::c.V.locals::A)).get? b=aa:=(tI _);have bC:=
  E2 (λH p=>aK (fF _ p)) aT λbE m=>by
   rcases cD.mp m with rfl|m
   .exact⟨i.kd,_,gC,i.own⟩
   .refine bT (bU bE m) λl bH=>?_;refine ai (bH) λH p g=>?_;exact⟨l,H,fF _ p,g⟩
 refine aac bR bC i.own cL (uT _) (aK gC) λR h8 p=>sx p λah bP aj ak=>U9 (aj) λbY ej T eu eG aX b_ Q=>wpAny_handleBy_builtin acS acU acT (bT (c.bi 17 "StopIteration" (.type "StopIteration") C) λbl cg=>?_);have L:∀{b o},b∉c.B.tabs->b≠c.V.locals->b≠e->v.get? b=D o->(rest v (e::c.V.locals::A)).get? b=D o:=λ{b o}cA cB cF h=>nZ h λq=>by
  rcases cD.mp q with q|q
  .exact cF q
  .rcases cD.mp q with q|q
   .exact cB q
   .exact cA (i.tab _ q)
 have cH:bF c.B.h₀ R:=λb o q=>by
  have f:=S.f_ b o q;have h:=S.base b o q;exact ah b o (L (S.i_ f) (λr=>aV (ae (aA _ r) S.nL.1) f) (j (cW h)) (X (λr=>aV (ae (aA _ r) k.2.2) q) h))
 refine nV (s:={s with heap:=R}) c.G aN cH (aH.kn d G nofun) bl cg (aH.kg d G) (dI C (aR bY aX b_.1) ?_);refine wpAny_setFlight_noneW ah bP aj.at λB E eN eR aE=>cV B ⟨λb u O w o h=>?_,λb O w f=>?_,λfB cZ=>?_,?_⟩
 .exact E b o (L O w (j (cW h)) (X u h))
 .have cQ:∃o,v.get? b=D o:=by
   by_cases q:b=n
   .exact q▸(gG.mp bh)
   .exact bG (gG.mp f) λo h=>⟨o,X q h⟩
  exact bG cQ λo h=>cW (E b o (L O w (j f) h))
 .exact(Heap.UpToSlots.trans ak λb o h z=>⟨o.slots,aE b o h z⟩:v.UpToSlots B).ns (cZ.extBut t k.2.1.symm)
 .refine i.sl _ a B S.inv λP x o h=>?_;have F:=X (λq=>k.1 (q▸x)) h
  by_cases g:P∈A
  .right
   refine ai (i.dat _ _ ao P g) λgV aL z=>?_;rw [F]at aL;obtain rfl:=bj aL;exact bG (ak P o F z) λdO aq=>⟨g,dO,aE P _ aq z⟩
  .left
   refine E P o (nZ F λq=>?_);rcases cD.mp q with q|q
   .exact j (cW h) q
   .rcases cD.mp q with q|q
    .exact((S.tab P x).2.2.1) q
    .exact g q
end
section
variable{st:I (I J)}
theorem aeU(p:bK c.B c.Z c.w zJ)(bC:gZ c xr)(F:Fm c.V n u cg)(i X j L:J)(x:n[i]?=D d)(b_:y[i]?=D (.obj (.dJ (Q++[(dK,dO)]))))(ej:n[X]?=D eu)(ez:y[X]?=D (.own ((st++[ah]).map .str)))(fB:n[j]?=D gi)(aE:y[j]?=D (.obj (.kZ P)))
  (l:i≠X/\i≠j/\X≠j)(bx:cg[L]?=D (("StopIteration":af),.globalImplicit))(bE:tR c n u y dK bH)(bP:bH[dO]?=aa)(bY:jK P ah=D xt)(cB:U st<=900)(dB:U P<=900)(d8:Q.length<=900)(bf:(fy.endLine==gc.line)=Y)(gV:(eG.endLine==jn.line)=Y)
  (kQ:gY (.Call (.Subscript (.Name d pL) (.UnaryOp .USub (.Constant (.int 1) k aH) aK) aL) [] [] aN) (D (.Name aP aT)) aX.line c.V=pure ay):
  ES c n u y (.Try [.Assign [.Name aP aT] (.Call (.Subscript (.Name d pL) (.UnaryOp .USub (.Constant (.int 1) k aH) aK) aL) [] [] aN) aX,.Break C_]
   (.ExceptHandler (D (.Name "StopIteration" rG)) aa [.Delete [.Subscript (.Name gi rF) (.Call (.Attribute (.Name eu zH) "pop" fy) [] [] gc) zK] rH,.Expr (.Call (.Attribute (.Name d xu) "pop" eG) [] [] jn) xx] xy::xA) [] [] xB)
   ((((y.set i (.obj (.we Q))).set X (.own (st.map .str))).set j (.obj (.kZ (lT P ah)))).set i (.obj (.dJ Q))) .next:=by
 constructor;rintro bl t s xn xo xq⟨w,m,r,S⟩bR;refine Sp (gN (kr (Ma p F x b_ w S λbU a G e cu cA g H ao cF cH cL cQ cV=>(cps λ_ k=>(ai (bE _ _ _ _ _ S) λzI aF cZ=>?_))) kQ));obtain⟨C9,a_,rfl,bh⟩:=cZ;apply k;have A:=(cG.mp x).1;have h:=S.fp i A;have v:e.2∈r i:=by simp only [g,o4];simp
 have z:∀{b},b∈r i->b∉c.B.tabs:=λf q=>(S.tab _ q).2.2.2.2 i A f;refine ZY c.R.handled cQ cV (i12 _ aF C ⟨a_,C⟩) (by simpa [(by have:=(bh.qd (ρ:=c.ρ) (fz:=t)).length;simpa using this)]using bP) λxw R eN eR e6 fj=>WE bC F L bx w S (dI (z v) ((h _ v).2.2.1) ?_) eN eR e6 fj λB K=>?_
 .cases q:c.B.h₀.get? e.2 with
  |none=>rfl
  |some o=>have:=S.f_ _ o q;exact aV ((h _ v).1) this
 have fZ:∀{b},b∈iT a G->b≠e.2:=λ{b}f q=>by
  rw [o4,gk]at H;exact H.2.2 b f e.2 (.tail _ (.head _)) q
 have sub:∀{b},b∈iT a G->b∈r i:=λf=>by simp only [g,o4];exact gj _ f
 have O:∀{b o},b∈iT a G->s.heap.get? b=D o->B.get? b=D o:=λf T=>K.kp _ (fZ f) (z (sub f)) (h _ (sub f)).2.2.1 _ T;have gU:oK 1 Q (.ref a) B (r i):=by
  refine⟨a,G++[e],cu,C,g,g▸H,by simp [ao],λb f=>?_,O gC cH,λak h8 jd E aj=>?_⟩
  .exact K.live b (z f) (h b f).2.2.1 (cF b (g▸f))
  .have jo:ak<U G:=ao▸(cG.mp aj).1;rw [nC jo]at E;refine bT (cL ak h8 jd E aj) λkh kO=>?_;refine ai (kO) λo T kP=>?_;have aq:=FI a E;exact⟨O aq.1 kh,o,O aq.2 T,kP⟩
 have jm:aW c.B c.ρ bl t c.V n u (y.set i (.obj (.we Q))) m (bV r i (r i)) B:=by
  refine S.wZ x (λb lG mu mw o T=>K.kp b (λq=>lG (q▸v)) mu mw o T) (K.ns m S.ns) K.inv (Le.refl _) (λb o T=>K.kp b (λq=>?_) (S.nk T) (λq=>?_) o (S.bJ b o T)) (λb o R=>.inl R) cA ⟨.ref a,C,?_⟩ λb f=>⟨.inl f,(h b f).2.1⟩
  .exact aV (ae (aA _ q) ((h _ v).2.1)) T
  .exact aV (ae (aA _ q) S.nL.2) T
  .exact p.ob.symm▸gU
 refine gN (UR (s:={s with heap:=B,toks:=bU}) p F ej (by exact ae (lJ l.1) ez) fB (by exact ae (lJ l.2.1) aE) l.2.2 bY cB dB w jm bf λlF aC zL nB=>(gN (Yj (il:=Q) (s:={s with heap:=lF,toks:=aC}) p F x ?_ d8 w nB gV λpM C' bz=>?_)))
 .apply ae (lJ l.2.1.symm);rw [lJ l.1.symm,jt (by rw [S.len];exact A)]
 .exact rP (bR _ t .next (cI pM aC C) (Le.refl _) ⟨w,m,_,bz⟩ dj)
end
abbrev Gr:=I J->I (I J)
abbrev Rs:=I (I J×J)
abbrev Kv:=I (I J×aS)
noncomputable def l7(f:Gr):Rs->Kv->bg (bg (I J)×Rs×Kv)
 |[],P=>D (aa,[],P)
 |(A,p)::r,P=>match(f A)[p]? with
  |D l=>D (D l,(A,p+1)::r,P)
  |aa=>if(jK P A).isSome then l7 f r (lT P A)else aa
noncomputable def n5(f:Gr):J->I J->Rs->Kv->I (I J)->bg (I (I J)⊕(I (I J)×Kv))
 |0,_,_,_,_=>aa
 |u+1,Q,r,P,seen=>
  if Q∈seen then match jK P Q with
   |D E=>D (.inl (cut (D E) aa ((r.map (·.1)).reverse)++[Q]))
   |aa=>match l7 f r P with
    |D (D l,s,k)=>n5 f u l s k seen
    |D (aa,_,k)=>D (.inr (seen,k))
    |aa=>aa
  else if r.length<=800/\P.length<=800/\seen.length<=800 then match l7 f ((Q,0)::r) (oU P Q r.length)with
    |D (D l,s,k)=>n5 f u l s k (seen++[Q])
    |D (aa,_,k)=>D (.inr (seen++[Q],k))
    |aa=>aa
   else aa
noncomputable def qQ(f:Gr)(T:J):I (I J)->I (I J)->Kv->bg (bg (I (I J)))
 |[],_,_=>D aa
 |u::G,seen,P=>if u∈seen then qQ f T G seen P else match n5 f T u [] P seen with
  |D (.inl c)=>D (D c)
  |D (.inr (e,k))=>qQ f T G e k
  |aa=>aa
section
variable{g:Gr}{t nd:I J}{p:J}{r:Rs}{kv:Kv}{seen:I (I J)}
theorem Ck:l7 g ((t,p)::r) kv=(match(g t)[p]? with|D l=>D (D l,(t,p+1)::r,kv)|aa=>if(jK kv t).isSome then l7 g r (lT kv t)else aa):=C
theorem GO:n5 g (u+1) nd r kv seen=(if nd∈seen then match jK kv nd with
   |D E=>D (.inl (cut (D E) aa ((r.map (·.1)).reverse)++[nd]))
   |aa=>match l7 g r kv with
    |D (D l,s,k)=>n5 g u l s k seen
    |D (aa,_,k)=>D (.inr (seen,k))
    |aa=>aa
  else if U r<=800/\U kv<=800/\U seen<=800 then match l7 g ((nd,0)::r) (oU kv nd (U r))with
    |D (D l,s,k)=>n5 g u l s k (seen++[nd])
    |D (aa,_,k)=>D (.inr (seen++[nd],k))
    |aa=>aa
   else aa):=C
theorem K6:qQ g u (nd::G) seen kv=(if nd∈seen then qQ g u G seen kv else match n5 g u nd [] kv seen with
  |D (.inl c)=>D (D c)
  |D (.inr (e,k))=>qQ g u G e k
  |aa=>aa):=C
end
noncomputable def BY:I (af×fc):=[("self",.local),("n2i",.local),("stack",.local),("itstack",.local),("seen",.local),("node2stacki",.local),("node",.local),("set",.globalImplicit),("iter",.globalImplicit),("len",.globalImplicit),("StopIteration",.globalImplicit)]
noncomputable def fx:I af:=["self","n2i","stack","itstack","seen","node2stacki","node"]
abbrev Bd:bg cz:=p_ 5 (dF (fL 19 8))
abbrev sA:bg cz:=p_ 1 (iq Bd)
abbrev Be:bg cz:=p_ 1 (lz sA)
def whO(s:bg cz):I cz:=(nh s).2.2.2.1
noncomputable def G9(G:SG)(l:I J):au:=match G.bS.find? (λQ=>aO (Q.key=l))with|D Q=>Q.su|aa=>0
def sE(G:SG)(r:Rs):I (au×J):=(r.map λx=>(G9 G x.1,x.2)).reverse
def m3(G:SG)(r:Rs)(P:Kv)(seen:I (I J))(y:I J):I (AV Ob):=
 [.obj (.b9 2 G),.t (.bW (.ref G.aZ)),.own (((r.map (·.1)).reverse).map .str),.obj (.dJ (sE G r)),.obj (.set seen),.obj (.kZ P),.t (.str y)]
theorem PD{Q:Nd}{t:J}(B:G.kn)(O:G.bS[t]?=D Q):G9 G Q.key=Q.su:=by
 refine d5 (qv O) λL X e E=>?_
 delta SG.kn at B
 simp only [e,eW]at B;refine gv (gk.mp B) λE F m=>?_
 delta G9
 rw [e,Iv];have:L.find? (λa=>aO (a.key=Q.key))=aa:=by
  rw [Dj];intro u z;simp only [oG];exact(m u.key (fM z) Q.key (.head _))
 rw [this];simp
structure Fast(B:bD Ob)(Z:cy)(w:bZ)(cl:Cl)(G:SG):Prop where
 sm:(G.aZ==sysModules)=ay
 kn:G.kn
 st:r7 (rf Z w cl 2 G) B.h₀
section
variable{c:Cx Ob}
theorem Fast.map(K:Fast c.B c.Z c.w O G):c.B.h₀.DictOf (vA c.Z c.w) G.aZ (c_ G):=ai (K.st (G.aZ,j7 c.Z c.w G) (by simp [rf,g5])) λo T p=>p _ _ T
theorem Fast.list(K:Fast c.B c.Z c.w O G)(z:Q∈G.bS):tR c n k y Q.su Q.succ:=OU λh B=>ai (K.st (Q.su,fQ Q.succ) (by simp only [rf,g5,fE,cD,dZ];exact .inr (.inr (aR Q z C)))) λo T p=>(aR o (B _ _ T) p)
theorem Fast.info(K:Fast c.B c.Z c.w O G)(z:Q∈G.bS):r6 c n k y (vM O Q):=OU λe B=>by
 have R:∀E∈j2 O.N Q,E∈rf c.Z c.w O 2 G:=λE g=>gj _ (vo.mpr (aR Q z g));exact ai (K.st (Q.i,qs O.N Q) (R _ (.head _))) λi F t=>ai (K.st (Q.id,λh=>True) (R _ (.tail _ (.head _)))) λr X h=>⟨(aR i (B _ _ F) t),r,B _ _ X⟩
theorem aeZ{st:cz}{rest:I cz}(w:ES c n k y st P .brk)(q:P=X):EX c n k y (st::rest) X .brk:=q▸vg w
theorem Ow(e:bK c.B c.Z c.w a)(j:gZ c m)(F:Fm c.V fx (U fx) BY)(K:Fast c.B c.Z c.w a G){seen:I _}:∀(r:Rs)(P:Kv)(y:I J){o:bg _}{s:Rs}{k:Kv},l7 (dS G.al) r P=D (o,s,k)->(∀x∈r,∃Q∈G.bS,Q.key=x.1)->U r<=801->U P<=801->
  EW c fx (U fx) (lA Be) (lz Be) (whO Be) (U r) (m3 G r P seen y) (m3 G s k seen (o.getD y)) (match o with|D _=>.next|aa=>.brk):=λT=>T.rec
 (λP y o s k h E E E=>by
  cases h
  exact rE (C2 F 2 C C (Cz (gF _) C)) (vg HD))
 (λ(A,p)r n P y o s k h R w v=>by
  refine ai (R (A,p) gC) λQ z l=>?_;subst l;refine bG (pO z) λu O=>?_;have B:=CO K.kn O;have i:=PD K.kn O;have cond:EC c fx (U fx) _ (lA Be) (m3 G ((Q.key,p)::r) P seen y) Y:=C2 F 2 C C (Cz (by simp;exact cT 0 (.v 0) (.n 999999) (.a (.v 0) (.n 1)) (.n 801) C [_] w) (by simp));have h:=ae Ck.symm h;rw [B]at h;have b:sE G ((Q.key,p)::r)=sE G r++[(Q.su,p)]:=by simp [sE,i]
  have L:(((Q.key,p)::r).map (·.1)).reverse=(r.map (·.1)).reverse++[Q.key]:=by simp
  cases t:Q.succ[p]? with
  |some H=>
   simp only [t]at h;cases h;refine C7 cond (aeZ (aeV e F 3 6 C (by rw [<-b];rfl) C (fG _) (K.list z) t C) ?_);simp [m3,sE,i]
  |none=>
   rw [t]at h;dsimp only at h
   split at h
   .rename_i q;refine bG (gG.mp q) λd g=>om cond (fb (aeU (st:=(r.map (·.1)).reverse) e j F 3 2 5 10 C (by rw [<-b];rfl) C (L▸C) C C (by decide) C (K.list z) t g (by simp;exact cT 0 (.v 0) (.n 900) (.a (.v 0) (.n 1)) (.n 801) C [_] w) (aD v (az C)) (by simp [sE];exact cT 0 (.v 0) (.n 900) (.a (.v 0) (.n 1)) (.n 801) C [_] w) C C C) ?_)
     (n _ y h (λx f=>R x (fF _ f)) (e7 ‹_›) (aD (ki _ _) v))
    exact C
   .exact aV C h)
end
theorem Qv(F:Fm c.V n k G)(i t:J)(O:G[t]?=D (("len":af),.globalImplicit))(j:n[i]?=D x)(X:y[i]?=D (.own l))(B:eg l.length=Y):EE c n k y (.Call (.Name "len" p) [.Name x E] [] ah) y (.int (U l)):=by
 constructor;rintro aq v s Q P⟨w,m,L,S⟩R;refine bT (c.bi 0 "len" (.builtin "len") C) λq g=>uc (S.lend j X) λak ao u e H dl z=>ku (nV c.G w S.base (F.kn t O nofun) q g (F.kg t O) (kq (C) (tH (pS (eO (eL w S.ns u (lK (Ou dl B s _ _ e λa A T f d=>bG (qb d) λaj b=>?_))) (F.eY j))))));subst b;exact ai (z _ _ f) λr o h=>R a r _ f.same o ⟨w,m,L,h⟩ (.int _ _)
theorem aeY(h:EC c n k y e P Y)(v:EX c n k P t X (.ret r)):EW c n k e t z u y X (.ret r):=.ret h.1 v.1
theorem Qm(w:EA c n k y h A P)(v:EX c n k P t X (.ret r)):jE c n k h t (A::p) y X (.ret r):=.ret w.1 v.1
theorem aet(w:EA c n k y h e P)(v:EX c n k P t X .cont)(R:jE c n k h t p X O A):jE c n k h t (e::p) y O A:=.go w.1 v.1 (.inr C) R
def Gw(u:J)(l:I cz):cz:=(fV u l).getD (.Pass default)
theorem UH(L:R->z)(lo A:bg aS)(l:I R):cut lo A (l.map L)=(cut lo A l).map L:=by
 delta cut
 simp [List.map_drop]
def oY(G:SG)(l:I J):Prop:=∃Q∈G.bS,Q.key=l
def vI(G:SG):Prop:=∀Q∈G.bS,∀s∈Q.succ,oY G s
theorem wI(m:G.kn)(a:vI G):∀(r:Rs)(P:Kv){o:bg _}{s:Rs}{k:Kv},l7 (dS G.al) r P=D (o,s,k)->(∀x∈r,oY G x.1)->(∀l,o=D l->oY G l)/\(o=aa->s=[])/\(∀x∈s,oY G x.1)/\U s<=U r/\U k<=U P:=λT=>T.rec
 (λP o s k h R=>by cases h;exact(k9 nofun (λE=>C) nofun (dz _) (dz _)))
 (λ(A,p)r n P o s k h R=>by
  refine ai (R (A,p) gC) λQ z e=>?_;subst e;refine bG (pO z) λq O=>?_;have h:=ae Ck.symm h;rw [CO m O]at h;cases t:Q.succ[p]? with
  |some l=>
   simp only [t]at h;cases h;refine(k9 (λH e=>bj e▸(a Q z _ (cN t))) nofun (λx j=>?_) (dz _) (dz _));rcases cD.mp j with rfl|j
   .exact(aR Q z C)
   .exact R x (fF _ j)
  |none=>
   rw [t]at h;dsimp only at h
   split at h
   .exact t_ (n _ h λx j=>R x (fF _ j)) λi b d e L=>(k9 i b d (z0 e) (aD L (ki _ _)))
   .exact aV C (h))
theorem Ex(P:Kv)(l:I J)(E:aS):U (oU P l E)<=U P+1:=by delta oU;split<;>simp
def endsF(G:SG):I (I J)⊕(I (I J)×Kv)->I (AV Ob)->fP->Prop
 |.inl b,y,A=>A=.ret (.list (b.map .str))/\y[0]?=D (.obj (.b9 2 G))
 |.inr (s,P),y,A=>A=.next/\∃Q,y=m3 G [] P s Q
set_option tactic.hygienic true in
theorem OQ(p:bK c.B c.Z c.w aC)(v:gZ c aL)(F:Fm c.V fx (U fx) BY)(K:Fast c.B c.Z c.w aC G)(m:vI G):∀(n:J)(y:I J)(r:Rs)(P:Kv)(seen:I _){o:I _⊕(I _×Kv)},n5 (dS G.al) n y r P seen=D o->oY G y->(∀b∈r,oY G b.1)->U r<=801->U P<=801->
  ∃x u,EW c fx (U fx) (lA sA) (lz sA) [] n (m3 G r P seen y) x u/\endsF G o x u:=λah=>ah.rec
 (λE E E E E h E E E E=>aV C (h))
 (λn aj y r P seen o h aE R w z=>by
  have cond:EC c fx (U fx) (m3 G r P seen y) (lA sA) _ Y:=lD (zb Y) C λE=>C;have i:EC c fx (U fx) _ (uw (fV 0 (lz sA))) (m3 G r P seen y) _:=Qu p F 4 (zv F 6 C C) C C;have T:∀(e:Rs)(q:Kv)(f:I (I J)),ES c fx (U fx) (m3 G r P seen y) (Gw 0 (lz sA)) (m3 G e q f y) .next->(∀b∈e,oY G b.1)->U e<=801->U q<=801->
    (match l7 (dS G.al) e q with|D (D l,s,k)=>n5 (dS G.al) n l s k f|D (aa,_,k)=>D (.inr (f,k))|aa=>aa)=D o->
    ∃x u,EW c fx (U fx) (lA sA) (lz sA) [] (n+1) (m3 G r P seen y) x u/\endsF G o x u:=by
   intro e q f d S A L h
   split at h
   .rename_i l s k t;exact t_ (wI K.kn m e q t S) λa E aF aT aN=>d5 (aj l s k f h (a l C) aF (aD ‹_› ‹_›) (aD ‹_› ‹_›)) λx u ak ao=>(gg x u (om cond (zx d (zx (lE (Ow p v F K e q y t S A L)) fY)) ak) ao)
   .rename_i k t;cases h;refine gv (wI K.kn m e q t S) λE aq E=>?_;cases aq C;exact(gx _ _ (C7 cond (zx d (vg (lE (Ow p v F K e q y t S A L))))) C ⟨y,C⟩)
   .exact aV C (h)
  have h:=ae GO.symm h
  by_cases B:y∈seen
  .rw [aM B]at h;simp only [cM B]at i;cases g:jK P y with
   |some aK=>
    simp only [g]at h;cases h;refine(gg _ _ (aeY cond (hU (dQ i (hU (dQ (jl (Qt p F 5 (zv F 6 C C) C C) (cW g)) (hU (jc (fh (kN (zG F 2 C C) (iJ (aer p F 5 C C (HN F 6 C C) g C)) rC (wO (by simp;exact aD w (az C)) C)) (oi (zr (zv F 6 C C) cU C) C) (GP ?_))))))))) ?_)
    .simp [cut];exact cT 0 (.v 0) (.a (.n 999999) (.v 1)) (.v 0) (.n 801) C [_,_] w
    .refine⟨?_,C⟩;simp only [UH,eW];rfl
   |none=>
    rw [g]at h;exact T r P seen (dQ i (zx (dQ (b:=ay) (jl (Qt p F 5 (zv F 6 C C) C C) (aA _ g)) fY) fY)) R w z h
  .rw [aJ B]at h;simp only [ee B]at i
   split at h
   .rename_i X;refine ai aE λQ H aH=>?_;subst aH
    refine bG (pO H) λaP O=>T ((Q.key,0)::r) (oU P Q.key (U r)) (seen++[Q.key]) (dQ i (zx (aeQ p F 4 C C (zv F 6 C C) C C C (aD X.2.2 (az C)))
     (zx (aeC p F 3 8 C C C (u_ p (K.info H) (HG (GV p (i:=0) C C K.map) (zv F 1 C C) (zv F 6 C C) O C) .su C) (K.list H) C C C (by simp [sE];exact aD w (az C)))
      (zx (aes (z:=U r) p F 5 C (gJ (Qv F 2 9 C C C (eU (by simp;exact aD w (az C)))) (by simp)) C (HN F 6 C C) (aD z (az C)) C)
       (fb (u9 F 2 C C (zv F 6 C C) C C C (eU (by simp;exact aD w (az C)))) ?_))))) (λb j=>?_) (by simp;exact X.1) (by have:=Ex P Q.key (U r);exact d_ 0 (.v 1) (.n 801) (.v 0) (.n 800) (.v 1) (.a (.v 0) (.n 1)) C [_,_] X.2.1 this) h
    .simp [m3,sE,(PD K.kn O)]
    .rcases cD.mp j with rfl|j
     .exact(aR Q H C)
     .exact R b j
   .exact aV C (h))
section
variable{B:bD O}
structure Turn(B:bD O)(tl:I au):Prop where
 tab:∀L∈tl,L∈B.tabs
 dat:∀f h,B.inv f h->∀L∈tl,∃o,h.get? L=D o/\∀vs,o.data≠.fields vs
 sl:∀f h h',B.inv f h->(∀P∈B.tabs,∀o,h.get? P=D o->h'.get? P=D o\/(P∈tl/\∃sl,h'.get? P=D {o with slots:=sl}))->B.inv f h'
def Slots(A:I au)(h O:cf):Prop:=∀H∈A,∃o L,h.get? H=D o/\O.get? H=D {o with slots:=L}
noncomputable def bD.fr(B:bD O)(A:I au)(i:cf):bD O:=
 {B with
  tabs:=B.tabs++A
  inv:=λL a=>B.inv L a/\Slots A i a
  live:=λ{L v}k P s=>by
   rcases fE.mp s with s|s
   .exact B.live k.1 P s
   .exact d5 (k.2 P s) λo h E e=>cW e
  uB:=λ{L u v x}k l q=>⟨B.uB k.1 l λP s=>q P (gj _ s),λH p=>d5 (k.2 H p) λo h e R=>gg o h e (q H (i0 _ p) _ R)⟩}
theorem Slots.refl(X:∀H∈A,∃o,h.get? H=D o/\∀z,o.data≠.fields z):Slots A h h:=λH p=>ai (X H p) λo T E=>(gg o o.slots T T)
theorem Turn.fr(T:Turn B G)(h:∀H∈A,H∉B.tabs)(X:∀H∈A,∃o,b.get? H=D o/\∀n,o.data≠.fields n):Turn (B.fr A b) (A++G)where
 tab:=λH p=>by
  rcases fE.mp p with p|p
  .exact i0 _ p
  .exact gj _ (T.tab H p)
 dat:=λL v k H p=>by
  rcases fE.mp p with p|p
  .refine d5 (k.2 H p) λo sl e R=>ai (X H p) λt l z=>?_;rw [e]at l;obtain rfl:=bj l;exact(aR _ R z)
  .exact T.dat L v k.1 H p
 sl:=λL v a k q=>⟨T.sl L v a k.1 λP s o j=>by
   rcases q P (gj _ s) o j with e|⟨m,e⟩
   .exact .inl e
   .rcases fE.mp m with m|m
    .exact bA s (h P m)
    .exact .inr ⟨m,e⟩,
  λH p=>by
   refine d5 (k.2 H p) λo sl e R=>?_;rcases q H (i0 _ p) _ R with x|⟨_,i,x⟩
   .exact(gg o sl e x)
   .exact(gg o i e x)⟩
theorem Turn.up(T:Turn B G)(h:bF B.h₀ f):Turn (B.up f h) G:=⟨T.tab,T.dat,T.sl⟩
theorem gZ.turn(i:gZ c G):Turn c.B G:=⟨i.tab,i.dat,i.sl⟩
structure DM(B:bD O)(fz:Fz)(h:cf)(fp:I au)(A:c3)(fl tl:I au):Prop where
 fr:∃outer,A.frames=D outer/\∀e∈outer,e.scope.kind≠.module/\∃L∈fl++tl,e.frame=D L
 ok:∀L∈fl,fz L=aa/\B.h₀.get? L=aa/\L∉B.tabs/\L∉fp
 dat:∀L∈fl,∃o,h.get? L=D o/\∀vs,o.data≠.fields vs
 turn:Turn B tl
inductive S5(g h:cf)(e:au)(cls a0:aB):Prop
 |mk(Tb:au)(oT:bM)(ts:iO aB)(c5:g.get? Tb=aa)(c6:Tb≠e)(c7:h.get? Tb=D oT)(c8:oT.data=.fields ts)(mv:∀g':cf,g'.get? Tb=aa->h.TracedW g' e cls a0)
theorem PZ{f h:cf}{e:au}{B o:aB}(A:h.TracedW f e B o):S5 f h e B o:=by
 refine cps λE v=>?_;refine U_ (A) λc z S x p y g b s t R a k l=>?_;exact v (⟨S,x,p,t,R,a,k,λi q=>⟨c,z,S,x,p,y,g,b,s,q,R,a,k,l⟩⟩)
def SA(F:Mk)(g:Fz)(h O:cf)(B:aB)(c:I au):bg T->pT->Prop
 |D A,r=>∃v,r=.ok (.ret v)/\Den F g v A
 |aa,r=>∃e o f,r=.error (.ref e)/\f.get? e=aa/\O.TracedW f e B o/\(∀b,(h.get? b).isSome=Y->(f.get? b).isSome=Y)/\(∀b∈c,(f.get? b).isSome=Y)/\Le g f.get?
def mH(B:bD O)(m:cy)(w:bZ)(u:J)(h:aB)(e:O)(a:I T)(l:aB)(n:O->bg T->Prop):Prop:=
 ∀(L:c3)(F:Mk)(g:Fz)(y:aB)(z:I aB)(i:pT->aU->Prop)(s:aU)(R A G:I au),DM B g s.heap R L A G->dW L u->Ready B g s->B.ob.at_ e y s.heap R->(∀b∈R,g b=aa/\B.h₀.get? b=aa/\b∉B.tabs)->bu F g z a->
  (∀t j c X r o,n X r->bQ s t->Le g j->(∀b,b∉R->b∉B.tabs->b∉A->∀x,s.heap.get? b=D x->t.heap.get? b=D x)->Slots A s.heap t.heap->B.inv j t.heap->Le j t.heap.get?->(∀b x,j b=D x->g b=D x\/s.heap.get? b=aa\/b∈R)->
   B.ob.at_ X y t.heap c->(∀b∈c,(b∈R\/s.heap.get? b=aa)/\j b=aa)->SA F j s.heap t.heap l c r o->i o t)->codeAny (aI m w) L (.call h ⟨y::z,[]⟩) i s
def yc(s:I au)(L:c3):Prop:=∃f,L.frames=D f/\∀e∈f,e.scope.kind≠.module/\∃H∈s,e.frame=D H
theorem Ready.fr(r:Ready B g h)(K:DM B g h.heap R L A G):Ready (B.fr A h.heap) g h where
 bJ:=r.bJ
 base:=r.base
 inv:=⟨r.inv,Slots.refl K.dat⟩
 i_:=λP s=>by
  rcases fE.mp s with s|s
  .exact r.i_ P s
  .exact(K.ok P s).2.1
 nk:=λP s=>by
  rcases fE.mp s with s|s
  .exact r.nk P s
  .exact(K.ok P s).1
theorem JV(h:∀A G h,Turn (B.fr A h) (A++G)->Ak (yc (A++G)) (B.fr A h) j w u L o ak λX r=>n X (D r)):mH B j w u L o ak aK n:=by
 intro e F g y z i s R A G K l O a E x k;refine h A G s.heap (K.turn.fr (λH p=>(K.ok H p).2.2.1) K.dat) e F g y z i s R K.fr l (O.fr K) a (λb f=>(dI ((E b f).1) ((E b f).2.1) (λq=>?_))) x λt v d c X r P T ah Q S ao aq aj aE aC=>?_
 .rcases fE.mp q with q|q
  .exact(E b f).2.2 q
  .exact(K.ok b q).2.2.2 f
 .exact k t v c X _ _ P T ah (λb aF aH m=>Q b aF λq=>(fE.mp q).elim aH m) S.2 S.1 ao aq aj aE (aR d C aC)
theorem fe.fr(G:fe B mg A):fe (B.fr e h) mg A:=⟨G.g,G.b,G.nolimit⟩
theorem jZ.fr(k:jZ B a u S t n):jZ (B.fr A h) a u S t n:=⟨k.ho,k.hd,k.yx,k.Bo,k.Bq,k.lX,k.hg,k.hb⟩
end
theorem bK.fr(p:bK X m w c):bK (X.fr A h) m w c:=⟨p.ob,p.iF,p.ok⟩
noncomputable def MN(G:SG)(P:Kv)(seen:I (I J))(v:AV Ob):I (AV Ob):=[.obj (.b9 2 G),.t (.bW (.ref G.aZ)),.own [],.obj (.dJ []),.obj (.set seen),.obj (.kZ P),v]
def Vu(G:SG):bg (I (I J))->fP->Prop
 |D b,A=>A=.ret (.list (b.map .str))
 |aa,A=>A=.next
set_option tactic.hygienic true in
theorem YA(m:G.kn)(e:vI G):∀(n:J)(y:I J)(r:Rs)(P:Kv)(seen:I _){f:I _}{k:Kv},n5 (dS G.al) n y r P seen=D (.inr (f,k))->oY G y->(∀x∈r,oY G x.1)->U P<=801->U k<=801:=λT=>T.rec
 (λE E E E E E h E E E=>aV C h)
 (λn o y r P seen f k h z R p=>by
  have h:=ae GO.symm h
  split at h
  .split at h
   .exact nc Sum.ctorIdx (bj h) C
   .split at h
    .rename_i l s q t;exact t_ (wI m e r P t R) λa E d u L=>o l s q seen h (a l C) d (aD ‹_› ‹_›)
    .rename_i q t;refine t_ (wI m e r P t R) λE E E E L=>bT (mE (Sum.inr.inj (bj h))) λi j=>?_;subst i j;exact aD ‹_› ‹_›
    .exact aV C h
  .split at h
   .rename_i X;have g:∀x∈(y,0)::r,oY G x.1:=λx b=>by
     rcases cD.mp b with rfl|b
     .exact z
     .exact R x b
    have v:=Ex P y (U r)
    split at h
    .rename_i l s q t;exact t_ (wI m e _ _ t g) λa E d u L=>o l s q _ h (a l C) d (jP 0 (.v 2) (.n 801) (.v 0) (.n 800) (.v 1) (.a (.v 0) (.n 1)) (.v 2) (.v 1) C [_,_,_] X.2.1 v L)
    .rename_i q t;refine t_ (wI m e _ _ t g) λE E E E L=>bT (mE (Sum.inr.inj (bj h))) λi j=>?_;subst i j;exact jP 0 (.v 2) (.n 801) (.v 0) (.n 800) (.v 1) (.a (.v 0) (.n 1)) (.v 2) (.v 1) C [_,_,_] X.2.1 v L
    .exact aV C h
   .exact aV C h)
set_option tactic.hygienic true in
theorem WM(p:bK c.B c.Z c.w O)(d:gZ c S)(F:Fm c.V fx (U fx) BY)(K:Fast c.B c.Z c.w O G)(l:vI G)(T:J):∀(i:I _)(seen:I _)(P:Kv)(v:AV Ob){o:bg _},qQ (dS G.al) T i seen P=D o->(∀e∈i,oY G e)->U P<=801->
  ∃x u,jE c fx (U fx) (oV Bd) (iq Bd) (i.map .str) (MN G P seen v) x u/\Vu G o u/\x[0]?=D (.obj (.b9 2 G)):=λz=>z.rec
 (λseen P v o h E E=>bj h▸((gx _ _ mq C C)))
 (λe i f seen P v o h R B=>by
  have a:EC c fx (U fx) (m3 G [] P seen e) (uw (fV 0 (iq Bd))) _ _:=Qu p F 4 (zv F 6 C C) C C;have h:=ae K6.symm h
  split at h
  .rename_i b;simp only [cM b]at a;exact e5 (f seen P _ h (λH L=>R H (fF _ L)) B) λx u g m n=>(gx x u (aet (iA F 6 C (fG _)) (QV (dQ a (QV aen))) g) m n)
  .rename_i b;simp only [ee b]at a;have j:=R e gC
   split at h
   .rename_i X s;obtain rfl:=bj h;refine cps λE k=>d5 (OQ p d F K l T e [] P seen s j (λE q=>nomatch q) (by simp) B) λx u y m=>bT (m) λt n=>?_;subst t;exact k ((gx x _ (Qm (iA F 6 C (fG _)) (zx (dQ a fY) (hU (lE y)))) C n))
   .rename_i r w s;refine cps λE k=>d5 (OQ p d F K l T e [] P seen s j (λE q=>nomatch q) (by simp) B) λx u y m=>bT m λt A=>?_;subst t;obtain⟨Q,rfl⟩:=A;exact e5 (f r w (.t _) h (λH L=>R H (fF _ L)) (YA K.kn l _ _ _ _ _ s j (λE q=>nomatch q) B)) λx u g m n=>k ((gx x u (j_ (iA F 6 C (fG _)) (zx (dQ a fY) (zx (lE y) fY)) g) m n))
   .exact aV C h)
noncomputable def A3:bg (I (I J))->T
 |D b=>.list (b.map .str)
 |aa=>.none
def lW(H:I AN)(T:J):bg (bg (I (I J))):=qQ (dS H) T (H.map (·.1)) [] []
section
variable{y:Ly Ob}{f:au}
def Ly.fr(y:Ly q)(A:I au)(h:cf):Ly q:=⟨y.B.fr A h,y.Z,y.w,y.mg,y.mb,y.G.fr,y.bi⟩
theorem ew.rest{v:aB}(h:ew m w O 0 G v e R):∃c,ew m w O q G v e c/\∀b∈c,b∈R:=by
 have ob:=h.ob;rw [uN m w O q G]at ob;exact(aR _ ⟨h.v,h.sm,h.nd,ob.sub (l:=[])⟩ (λb f=>by simp only [h.ob.ad,uN m w O q G,eW];exact gj _ f))
theorem ew.apart{v j:aB}{R c:I au}(h:ew m w O 0 G v a R)(o:ew m w O q G j i c):∀b∈(rf m w O q G).map (·.1),b∈R/\b∉c:=λb f=>by
 have nd:=h.ob.nd;rw [h.ob.ad,uN m w O q G,eW,gk]at nd;refine⟨by simp only [h.ob.ad,uN m w O q G,eW];exact i0 _ f,λe=>?_⟩;simp only [o.ob.ad]at e;exact nd.2.2 b e b f C
theorem Fast.up(K:Fast X m w O G)(B:bF X.h₀ g):Fast (X.up g B) m w O G:=⟨K.sm,K.kn,K.st.keep λb E o e=>B b o e⟩
theorem E0(h:yc s L)(p:c.A=L.deeper c.V)(T:Turn c.B s)(own:c.V.frame=D c.V.locals)(kd:c.V.scope.kind=.function):gZ c s where
 fr:=ai h λf e h=>(aR f (ae (aA _ p) (QZ e)) h)
 own:=own
 kd:=by rw [kd];decide
 tab:=T.tab
 dat:=T.dat
 sl:=T.sl
theorem adT(p:bK y.B y.Z y.w ak)(T:Turn y.B l)(k:iD y.B f 19 8 bz S fx)(ah:vI G)(e:J){o:bg _}(s:lW G.al e=D o)(K:Fast y.B y.Z y.w ak G):
  Ak (yc l) y.B y.Z y.w (n+1) (.ref f) (.b9 2 G) [] λaC aL=>aC=.b9 2 G/\aL=A3 o:=by
 refine El y.G k.d (eA C) (.plain λz X=>?_) (λa=>(aR _ a (λaj h=>h))) (λP w v=>?_) (λ{aX a bf bh aN}B E E E E H L j d r=>?_) λP E E Q E E=>(gx _ _ P Q (λaj h=>.inl h))
 .exact bind1 (λaT=>ae (qL k.ar k.df _) C) z X
 .refine bT P λR E=>?_;subst R;rw [p.ob]at w v;simp only [w.v,v.v]
 .have F:Fm (di S H f) fx (U fx) BY:=jM (C) (by show S.scope.names=_;exact aA _ k.sc)
  let c:=(y.up aN B).c (L.deeper (di S H f)) j (di S H f) n r.deeper
  have q:=p.up B;have u:=K.up B;have ao:G.al.map (·.1)=G.bS.map (·.key):=by simp [SG.al]
  unfold lW at s;simp only [ao]at s
  obtain⟨aq,bl,g,m,i⟩:=WM q (E0 (c:=c) d C (T.up B) C (by show S.scope.kind=_;exact aA _ k.sc)) F u ah e (G.bS.map (·.key)) [] [] .un s (λa_ O=>by
   refine ai (dZ.mp O) λaF aH aK=>?_
   subst aK;exact(aR aF aH C)) (by simp)
  rw [dH]at g;refine XP.ev (c:=c) (XP.mono (Φ:=λaE A=>aE[0]?=D (.obj (.b9 2 G))/\vR A (A3 o)) ?_ λaq A P=>(lZ _ _ P.1 P.2 C C));have t:∀{x b},EX c fx (U fx) (MN G [] [] .un) [Gw 5 (dF (fL 19 8)),Gw 6 (dF (fL 19 8))] x b->EX c fx (U fx) (l5 (.b9 2 G) fx []) (dF (fL 19 8)) x b:=λaP=>
   zx (eM F 1 C (eA C) (kc q (j8 q (i:=0) C C) (jD q F 0 C C) .uG C) C)
    (zx (ve F 2 C (eA C) (rz cU C) C) (zx (aeB q F 3 C (eA C) C) (zx (aeR q F 4 7 C (eA C) C C) (zx (aeq q F 5 C (fO _ _) C) aP))))
  cases o with
  |some bx=>
   subst(m);exact EX.xp (t (hU (kM (Qs (zv F 1 C C) u.sm u.map) g C C))) ⟨i,.inl C⟩
  |none=>
   have m:=m;subst m;exact EX.xp (t (zx (kM (Qs (zv F 1 C C) u.sm u.map) g C C) (hU (jc zn)))) ⟨i,.inl C⟩
end
section
variable{c:Cx Ob}
theorem aa6{Q:I DictEntry}(p:iH G (dictOf Q u)):iH {G with cX:=D a,rl:=l} (dictOf (putL "_ready_nodes" oW (.str "_ready_nodes" n) (.ref a) Q) k):=by
 obtain⟨m,S,i,q,e,X,w,v,R,g,H⟩:=p;obtain rfl:=A4 e;exact⟨_,k,i,q,C,by exact(GH Q ⟨_,v⟩)▸(X),by rw [mV Z5];exact w,Bk Q,by rw [mV (iC M9)];exact R,by rw [mV (iC M_)];exact g,λx a b c d=>by rw [mV b];exact H x a b c d⟩
theorem aeP(p:bK c.B c.Z c.w ak)(ao:Fm c.V n k cV)(i:J)(j:n[i]?=D H)(aH:EF c n k O e P (aE.map .str))(aF:P[i]?=D (.obj (.b9 2 G)))(aK:G.cX=aa)
  (aN:gY e (D (.Attribute (.Name H aP) "_ready_nodes" aX)) a_.line c.V=pure ay):
  SP c n k O (.Assign [.Attribute (.Name H aP) "_ready_nodes" aX] e a_) λbx bh=>∃a,bx=P.set i (.obj (.b9 2 {G with cX:=D a,rl:=aE}))/\bh=.next:=by
 constructor;intro aL aT bP cB cH cL bR bU;refine xW (aH.1 aL aT bP _ _ bR λdB y a S L T r ah aj w l Fr aq aC=>(bT (iX p l j aF) λz h=>(eO (eL w l.ns z ?_) (ao.eY j)))) aN;have m:("_ready_nodes":af)∈(["_node2info","_ready_nodes","_npassedout","_nfinished"]:I af):=by simp
 refine ai (h.ob.dY (G.self,λo=>o=instObj ak.bq G.d) (m7 (by simp [fX]))) λcF F t=>ai (h.ob.dY (G.d,iH G) (m7 (cN (i:=1) C))) λcQ X B=>?_;dsimp only at t F X B;refine cps λb_ bl=>?_;subst t;refine e5 (B.has m) λbY u bz bC bE=>?_;subst bz;have ad:r i=[G.self,G.d]:=by apply ae (h.ob.ad);simp [N9,fX,aK]
 have A:=(cG.mp j).1;have R:G.d∈r i:=by exact(ad)▸(.tail _ (.head _))
 have E:G.self∈r i:=ad.symm▸.head _;have x:=l.fp i A;have f:=Fr.fp i A;apply bl;refine CC (p.iF l.base) (⟨F,C,C,X⟩) C p.ok.sa p.ok.po (by delta takerIn;rw [p.ok.at_ _ m,z6]) p.ok.hd bE (aD bC (az C)) λbf cg cu cA v bH=>?_;have s:∀{b},b∉r i->b≠G.d:=λ{b}u q=>u (by exact(q)▸(R));have Q:=h.ob.nd;rw [ad]at Q f;exact bU _ y .next _ .next (aR a C C) (ah.trans (cI bf _ C)) aj ⟨w,T,_,l.wY j (λb u cZ o e=>(v.2 b (s u)).trans e) (bD.ir l.inv λg d o e=>(v.2 g (s ((l.tab g d).2.2.2.2 i A))).trans e) (Le.refl _) (λb o e=>(v.2 b λq=>(aV (ae (aA _ q) ((x G.d R).2.1)) e)).trans (l.bJ b o e)) (λb o e=>.inl e) z ⟨.ref G.self,C,p.ob.symm▸(⟨C,h.sm,h.nd,⟨bO (aR _ ((v.2 G.self (qm Q 0 1 C C C)).trans F) C) (bO (aR _ bH (aa6 B)) (bO (aR _ ((v.2 a λq=>f (q▸d9 1 C)).trans aq) ⟨S,L,C,iR.of aC⟩) eK)),C,bS Q f⟩⟩)⟩ (bO ⟨.inl E,(x _ E).2.1⟩ (bO ⟨.inl R,(x _ R).2.1⟩ (bO ⟨.inr Fr,Fr.fz⟩ eK)))⟩ dj
theorem G4(t:Slots A h O)(p:H∈A)(u:h.Ns H m):O.Ns H m:=by
 refine ji u λo Q L T P r=>d5 (t _ p) λc a e R=>?_;cases bj (ae T.symm e);exact(Bs _ Q L R P r)
theorem aW.EN(i:gZ c G)(S:aW c.B c.ρ s g c.V n k y b r h)(A:e<U n):DM c.B g h (r e) c.A [c.V.locals] G where
 fr:=ai i.fr λf a h=>(aR _ a (λR m=>(cD.mp m).elim (λq=>q.symm▸⟨i.kd,_,.head _,i.own⟩) λm=>match h R m with|⟨k,H,p,x⟩=>⟨k,H,fF _ p,x⟩))
 ok:=λH p=>(cO.mp p).symm▸(k8 S.nL.2 (S.b0 S.nL.1) (λq=>(S.tab _ q).2.2.1 C) (λq=>(S.fp e A _ q).2.2.1 C))
 dat:=λH p=>(cO.mp p).symm▸ji S.ns λo E E T P E=>(aR o T (λE q=>nc agy (ae P.symm q) C))
 turn:=i.turn
theorem ZF(p:bK c.B c.Z c.w bf)(bx:gZ c ak)(aq:Fm c.V n k cZ)(i:J)(e:n[i]?=D aC)(aE:y[i]?=D (.obj (.b9 f G))){a:Ob->bg T->Prop}(bH:(L,d)∈bf.fs)(aK:L∉(["_node2info","_ready_nodes","_npassedout","_nfinished"]:I af))
  (x:∀{h},bF c.B.h₀ h->h.get? d=D ah)(aL:ah.data=.func cV){m:Ob}(bz:∀{u h R},c.B.ob.at_ (.b9 f G) u h R->c.B.ob.at_ m u h R)(aT:mH c.B c.Z c.w c.n (.ref d) m [] dO a)(bl:(bC.endLine==bE.line)=Y)
  (bh:SR c.B c.ρ o g c.V n k y s.heap)
  (aj:∀t j v X r,a X (D r)->bQ s t->Le g j->SR c.B c.ρ o j c.V n k (y.set i (.obj X)) t.heap->Den c.ρ j v r->aF v t)
  (aH:∀t j X q(w:aB),a X aa->bQ s t->Le g j->SR c.B c.ρ o j c.V n k (y.set i (.obj X)) t.heap->aN (.ref q) t):
  aQ (aI c.Z c.w) c.A (eval (.Call (.Attribute (.Name aC dB) L bC) [] [] bE) c.V) aF aN s:=by
 obtain⟨E,aX,dK,l⟩:=bh;refine bT (iX p l e aE) λz B=>BR p aq e E l z B bH aK C (az C) bl (Ab ⟨⟨x l.base,aL⟩,i4 (aT c.A c.ρ g _ [] _ s _ [c.V.locals] ak (l.EN bx (j4 e)) c.R l.ready (bz (p.ob.symm▸B)) (l.uf (j4 e)) .nil λt j d8 X r cQ P S H bP bR bU aP bY a_ A Q=>?_)⟩);have O:SR c.B c.ρ o j c.V n k (y.set i (.obj X)) t.heap:=
  ⟨E,aX,_,l.wZ e (λb cg cu cA b_ x=>bP b cg cu (λf=>cA (cO.mp f)) b_ x) (G4 bR (.head _) l.ns) bU H aP bY z ⟨.ref G.self,C,a_⟩ λb F=>⟨(A b F).1.imp id l.free,(A b F).2⟩⟩
 cases r with
 |some cF=>
  refine ai Q λv cB cH=>?_;subst cB;exact aj t j v X cF P S H O cH
 |none=>
  refine jz Q λq w cL ao cL=>?_;subst ao;exact aH t j X q w P S H O
end
section
variable{B:bD O}{Z:cy}{w:bZ}{A:c3}{ρ:Mk}{V:c4}{xs:I af}{k:J}{lv:I (AV O)}{cls:aB}{st:cz}
def vL(B:bD O)(Z:cy)(w:bZ)(A:c3)(ρ:Mk)(V:c4)(xs:I af)(k:J)(lv:I (AV O))(st:I cz)(cls:aB)(b:I (AV O)->fP->Prop)(l:I (AV O)->Prop):Prop:=
 ∀(T:HB)(g:Fz)(s:aU)(Q:Flow->aU->Prop)(H:aB->aU->Prop),T.lk=[]->SR B ρ T g V xs k lv s.heap->
  (∀t j L x h,b x h->bQ s t->Le g j->SR B ρ T j V xs k x t.heap->FD ρ j L h->Q L t)->
  (∀t j x e a z,l x->bQ s t->Le g j->SR B ρ T j V xs k x t.heap->Heap.MadeExcOf t.heap e a cls z->H (.ref a) {t with heap:=e})->aQ (aI Z w) A (execs st V) Q H s
theorem HA(t:As B Z w A ρ V xs k lv u Ψ)(v:∀P h,Ψ P h->h=.next/\vL B Z w A ρ V xs k P b cls s l):vL B Z w A ρ V xs k lv (u::b) cls s l:=by
 intro T g j Q H a y R S;refine gN (t T g j _ _ a y λc x L P h p q o E d=>(bT (v P h p) λn v=>?_));subst n;obtain rfl:=d.nx;exact v T x c Q H a E (λF r L X h p i e f d=>R F r L X h p (q.trans i) (o.trans e) f d) λF r X O z G p i e f m=>S F r X O z G p (q.trans i) (o.trans e) f m
theorem Qf{b:bw}(s:gn B Z w A ρ V xs k lv e aY b)(j:b=Y->vL B Z w A ρ V xs k aY t cls h n)(v:b=ay->h aY .next)(G:∀lv L,h lv L->True):vL B Z w A ρ V xs k lv [.If e t [] p] cls h n:=by
 intro T g l P ah m S R u;cases b with
 |false=>
  refine gN (Ac (s T g l _ _ S λc a q o E=>rP (rP (R c a .next _ .next (v C) q o E dj))))
 |true=>
  refine gN (Ac (s T g l _ _ S λc a q o E=>(j C T a c _ _ m E (λF r L X d p x i f z=>?_) λF r X O e H p x i f Q=>u F r X O e H p (q.trans x) (o.trans i) f Q)));have y:=R F r L X d p (q.trans x) (o.trans i) f z;cases L<;>first|exact rP y|exact y
theorem T5(HX:fe B afh ae_){bP oM:O->bg T->Prop}(jn:jZ B ao pM S eG xs)(eR:e6.length+1<=U xs)(zH:∀h e,Binds (B.fr h e) Z w S xs C9 e6)
  (xn:∀{y e R},B.ob.at_ o y e R->∃L,B.ob.at_ o₁ y e L/\∀b∈L,b∈R)(rG:∀{y e R cV aH c i r},oM i r->B.ob.at_ o₁ y e R->B.ob.at_ i cV aH c->cV=y/\∀b∈R,b∈c)
  (xy:∀{y e R L cu h G aE}(aT:bF (B.fr h aE).h₀ cu),Turn (B.fr h aE) (h++G)->B.ob.at_ o y e R->B.ob.at_ o₁ y e L->(∀b x,e.get? b=D x->b∉(B.fr h aE).tabs->b∉L->cu.get? b=D x)->(∀b∈R,b∉(B.fr h aE).tabs)->∀H A ρ,yc (h++G) A->dW A (xA+1)->
   vL ((B.fr h aE).up cu aT) Z w (A.deeper (di S H ao)) ρ (di S H ao) xs (U xs) (l5 o₁ xs e6) eG cls (λm h=>∃i r,m[0]?=D (.obj i)/\vR h r/\oM i (D r)) λm=>∃i,m[0]?=D (.obj i)/\oM i aa)
  (xB:∀{y e R L aH cA i r},oM i r->B.ob.at_ o y e R->B.ob.at_ o₁ y e L->B.ob.at_ i y aH cA->(∀b∈R,b∉L->∀x,e.get? b=D x->aH.get? b=D x)->(∀b∈cA,b∈L\/e.get? b=aa)->∃X c,bP X r/\B.ob.at_ X y aH c/\∀b∈c,b∈cA\/(b∈R/\b∉L)):
  mH B Z w (xA+1) (.ref ao) o C9 cls bP:=by
 intro A ρ zL y cg ae5 s R h G K kO aP aX bz HV ez;refine ai (xn aX) λL aF sub=>?_;have eN:=K.turn.fr (λH aj=>(K.ok H aj).2.2.1) K.dat;have z:jZ (B.fr h s.heap) ao pM S eG xs:=jn.fr
 have bf:=λb f=>(dI ((bz b f).1) ((bz b f).2.1) (λq=>by
  rcases fE.mp q with q|q
  .exact(bz b f).2.2 q
  .exact(K.ok b q).2.2.2 f))
 refine JS HX.fr z.ho z.hd z.yx z.Bo z.Bq z.lX z.hg z.hb eR (zH h s.heap) kO (aP.fr K) aF (λb f=>bf b (sub b f)) HV λaT H xx fy fB fZ lG rH aj=>?_;have eu:∀{t:aU}{u:Fz}{m:I (AV O)}{i:O}{r:bg T},m[0]?=D (.obj i)->oM i r->SR ((B.fr h s.heap).up _ aT) ρ ⟨(rest s.heap ((B.fr h s.heap).tabs++L)).get?,[],fy,[]⟩ u (di S H ao) xs (U xs) m t.heap->
   I9 (B.fr h s.heap) zL u s.heap t.heap R L H y (λX=>bP X r)/\(B.fr h s.heap).inv u t.heap/\Le u t.heap.get?/\∀b,(s.heap.get? b).isSome=Y->(t.heap.get? b).isSome=Y:=by
  intro t u m i r aq P a;refine cps λQ dK=>?_;obtain⟨_,HR,afc,a⟩:=a;have kh:=eI (gE _) eR;obtain⟨afg,_,cV,rfl,bh⟩:=a.vars 0 _ _ (dD kh) aq;refine bT (rG P aF bh) λHY lF=>dK ?_;subst HY;exact(k8 (Oo (B:=B.fr h s.heap) aX aF sub (λb f=>⟨(bf b f).1,(bf b f).2.2⟩) lG aj a kh bh (xB P aX aF bh)) a.inv a.bJ (λb f=>(bG (gG.mp f) λx j=>((vh (b∈L)).elim (λbR=>B.ob.live bh b (lF b bR)) λbR=>(vh (b∈(B.fr h s.heap).tabs)).elim ((B.fr h s.heap).live a.inv b) λbl=>cW (a.kept b x (zc j bl bR))))))
 refine xy aT eN aX aF (λb x l d F=>zc l d F) (λb f=>(bf b f).2.2) H A ρ K.fr kO _ fy xx _ _ C rH (λt u ae6 m afd P q bY a ak=>?_) λt u m cQ l afe P q bY a n=>?_
 .refine e5 P λi r aq rF P=>sx (eu aq P a) λcF fj aN Q=>?_;obtain⟨X,c,bE,bH,bC,a_,bU,_⟩:=cF;have gc:=λgi ak=>ez t u c X (D r) _ bE (fB.trans q) (fZ.trans bY) (λb d F g x l=>bH b (λq=>d (sub b q)) (λq=>(fE.mp q).elim F g) x l) fj.2 fj.1 aN bC a_ bU (aR gi C ak);rcases rF with rfl|⟨rfl,rfl⟩
  .obtain⟨gi,rfl,ak⟩:=ak.rt;exact gc _ ak
  .obtain rfl:=ak.nx;exact gc _ .none
 .refine ai P λi aq P=>cps λQ dK=>sx (eu aq P a) λcF mu aN mw=>?_;obtain⟨X,c,bE,bH,bC,a_,bU,nB,pL,ej,HR,gV⟩:=cF;have h8:∀b,b∉R->b∉B.tabs->b∉h->∀x,s.heap.get? b=D x->t.heap.get? b=D x:=λb d F g x l=>bH b (λq=>d (sub b q)) (λq=>(fE.mp q).elim F g) x l;refine bT mu λb_ jd=>ai K.fr λxo xq xr=>dG n.there λxt xu ae' ae2=>dK ?_;have ae3:H≠l:=λq=>jz gV λo Q Q ah Q=>aV (ae (aA _ q) n.new) ah;have jm:∀v∈H::(h++G),∃o,cQ.get? v=D o/\∀cg,o.data≠.fields cg:=λv p=>by
   rcases cD.mp p with rfl|p
   .exact ji gV λo ae7 afa ah zI Q=>(aR o (n.keeps _ _ ah) (λcg q=>by rw [zI]at q;contradiction))
   .exact eN.dat _ _ (bD.ir (B:=B.fr h s.heap) ⟨b_,jd⟩ λP Q o l=>n.keeps _ _ l) v p
  have zJ:cQ.FunFrames (rest cQ (l::H::(h++G))) (di S H ao::xo):=E2 (λv p=>tI _ (fF _ p)) jm λV cB=>by
   rcases cD.mp cB with rfl|cB
   .exact⟨by show S.scope.kind≠_;rw [jn.lX.kind];decide,_,gC,C⟩
   .refine bT (xr V cB) λk zK=>?_;refine ai (zK) λv p E=>?_;exact⟨k,v,fF _ p,E⟩
  refine wpAny_leaving_firstW (QZ xq) zJ C xu (uT _) (tI _ gC) C C C λcH C_=>sx C_ λC' afb HQ cL=>?_;have aC:∀b,b≠H->b∉h->b∉G->∀x,t.heap.get? b=D x->cH.get? b=D x:=λb d F g x j=>by
   refine C' b x (nZ (n.keeps _ _ j) ?_);simp only [cD,fE,not_or];exact(k8 (λq=>(by rw [q,n.new]at j;exact aV C j)) d F g)
  have bx:=K.turn.tab;refine ez {t with heap:=cH} u c X aa _ bE ((fB.trans q).trans (cI _ t.toks C)) (fZ.trans bY) (λb d F g x j=>aC b (λq=>aV (ae (aA _ q) aj) j) g (λq=>F (bx b q)) x (h8 b d F g x j)) (λv p=>?_) ?_ (λb x j=>aC b (λq=>?_) (λq=>?_) (λq=>?_) x (aN b x j)) bC (B.frame a_ (λb x j=>?_) λb f x j=>?_) bU (Bt l (.ref xt) t.heap C n.new ?_ mw (λb f=>B.ob.live a_ b f) aN)
  .refine d5 (jd v p) λo xw gU HT=>ai (K.dat v p) λHU aK dB=>?_;rw [aK]at gU;obtain rfl:=bj gU;exact bG (cL v _ (n.keeps _ _ HT) dB) λcZ aL=>(gg _ cZ aK aL)
  .refine K.turn.sl _ t.heap cH b_ λP jo o ah=>?_
   by_cases E:P∈G
   .refine ai (K.turn.dat _ _ b_ P E) λHU aK dB=>?_;rw [ah]at aK;obtain rfl:=bj aK;exact bG (cL P _ (n.keeps _ _ ah) dB) λcZ aL=>.inr ⟨E,cZ,aL⟩
   .exact .inl (aC P (λq=>(bG (gG.mp (B.live aP.inv P jo)) λae4 HW=>(aV (ae (aA _ q) aj) HW))) (λq=>(K.ok P q).2.2.1 jo) E o ah)
  .exact aV (ae (aA _ q) pL) j
  .exact aV (ej b (i0 _ q)) j
  .exact aV (ej b (gj _ (bx b q))) j
  .have bl:b∉B.tabs:=λq=>aV (aP.i_ b q) j;have kP:=aP.base b x j;have E:b∉h:=λq=>aV ((K.ok b q).2.1) j;exact aC b (λq=>aV (ae (aA _ q) aj) kP) E (λq=>bl (bx b q)) x (h8 b (λq=>(aV ((bz b q).2.1) j)) bl E x kP)
  .have:=nB b f;exact aC b this.1 (λq=>this.2 (i0 _ q)) (λq=>this.2 (gj _ (bx b q))) x j
  .obtain⟨dO,ae8,ae9,HS,H6,H7,H8,HZ⟩:=PZ HQ;refine HZ _ (iV λo QX=>?_)
   by_cases kQ:dO∈H::(h++G)
   .refine ai (jm dO kQ) λH9 QY d8=>bG (cL dO H9 QY d8) λxw aL=>?_;cases bj (ae H7.symm aL);exact d8 _ H8
   .exact aV HS (nZ (n.keeps _ _ QX) λq=>(cD.mp q).elim H6 kQ)
end
theorem aew(h:EE c n k y e P (.str l)):EE c n k y (.JoinedStr [e] p) P (.str l):=⟨λT g s Q H S R=>PySem.wpAny_JoinedStr_one (h.1 T g s Q H S R)⟩
theorem aef(F:Fm c.V xs k aq)(t:J)(O:aq[t]?=D (x,.globalImplicit))(a:OwnCls x d H A c.mg c.B.h₀)(n:ExcBaseFacts bl A bz H)(h:ER c xs k y cpos Q P p)(L:Q.all dP=Y)(X:U p<=1000):
  vL c.B c.Z c.w c.A c.ρ c.V xs k y [.Raise (D (.Call (.Name x np) Q [] cpos)) aa pos] (.ref d) Φ λe=>e=P:=by
 intro bC aP bh bE aT a_ S bx b;refine cps λ_ v=>?_;obtain⟨aX,s,B,q,T,j,w,sub,o,f,r,g,G,l,z,ah,bf,aj,ak,ao,R⟩:=a.obj
 refine v (gN (wpAny_Raise_call_subT (nm:=B) (q:=q) (N:=s) (bs:=T) (hdct:=j) (sn:=w) (sub:=sub) (ab:=o) (col:=f) (dd:=r) (k0:=g) (k1:=G) (k2:=l) (k3:=z) (k5:=ah)
  n (R.hasType n.hasBase) c.R.handled (kI Q (l6 L)) ao (nW c.G S.1 S.ready.base (F.kn t O nofun) a.bound (F.kg t O) ⟨C,(jJ (l6 L) h.1 S λu aE aF aH aC E aL=>?_)⟩)))
 have i:=E.ready.base;exact(yz C (aL.length.symm▸rO.symm▸(aD X (az C))) (i _ _ aj) (ak.keeps i) (R.keeps i) (λaK aN m=>b u aE _ aK aN aF C aH aC E m))
theorem aeJ(p:bK c.B c.Z c.w O)(S:gZ c b_)(F:Fm c.V n k cu)(i t:J)(T:n[i]?=D b)(g:y[i]?=D (.obj (.b9 q G)))(B:(L,a)∈O.fs)(Q:L∉(["_node2info","_ready_nodes","_npassedout","_nfinished"]:I af))
  (aF:∀{h},bF c.B.h₀ h->h.get? a=D ao)(aN:ao.data=.func bl)(o:mH c.B c.Z c.w c.n (.ref a) (.b9 q G) [] bx m)(s:∀X r,m X r->X=.b9 q d/\r=D z)(E:(e.endLine==u.line)=Y)
  (x:n[t]?=D H)(v:t<k)(R:gY (.Call (.Attribute (.Name b ah) L e) [] [] u) (D (.Name H aj)) ak.line c.V=pure ay):
  ES c n k y (.Assign [.Name H aj] (.Call (.Attribute (.Name b ah) L e) [] [] u) ak) ((y.set i (.obj (.b9 q d))).set t (.t z)) .next:=by
 constructor;intro bz bH bP bR cg l aq aC;refine kr (ZF p S F i T g B Q aF aN (λh=>h) o E aq (λaE j aH X r P aK aL A aP=>?_) λaE j X bC bE P=>?_) R
 .refine bT (s _ _ P) λaT aX=>?_;subst aT;cases aX;obtain⟨w,bU,bY,A⟩:=A;exact gh (av:=.t z) w l A x v (F.loc x v) ⟨C,aH,C,aP⟩ .nil λbf a_ bh f=>aC bf j .next (aK.trans bh) aL ⟨w,a_,_,f⟩ dj
 .exact aV C ((s _ _ P).2)
theorem acd(n:ew m w O 0 G y h R)(j:ew m w O 2 G y h L)(v:ew m w O 2 {G with cX:=D a,rl:=l} y e P)(H:G.cX=aa)
  (Q:∀b∈R,b∉L->∀x,h.get? b=D x->e.get? b=D x)(T:∀b∈P,b∈L\/h.get? b=aa):
  ∃c,ew m w O 0 {G with cX:=D a,rl:=l} y e c/\∀b∈c,b∈P\/(b∈R/\b∉L):=by
 have d:=uN m w O 2 G;have S:rf m w O 2 {G with cX:=D a,rl:=l}=rf m w O 2 G:=by
  rfl
 have t:=uN m w O 2 {G with cX:=D a,rl:=l};simp only [S]at t;have k:=n.apart j;have i:=n.ob.nd;simp only [n.ob.ad,d,eW]at i;refine(aR _ (⟨v.v,v.sm,v.nd,⟨λE g=>?_,C,?_⟩⟩) (λb f=>?_))
 .rw [t]at g;rcases fE.mp g with g|g
  .exact v.ob.dY E g
  .refine ai (n.ob.dY E (by rw [d];exact i0 _ g)) λo u p=>?_;have:=k E.1 (fM g);exact(aR o (Q E.1 this.1 this.2 o u) p)
 .rw [t,eW,gk];refine(dI (by have:=v.ob.nd;rw [v.ob.ad]at this;exact this) ((gk.mp i).2.1) (λb f z r q=>?_));subst q;have:=k b r;rw [<-v.ob.ad]at f;rcases T b f with q|q
  .exact this.2 q
  .have s:=n.ob.live b this.1;rw [q]at s;exact cY C s
 .rw [t,eW]at f;rcases fE.mp f with f|f
  .left;rw [v.ob.ad];exact f
  .exact .inr (k b f)
noncomputable def npr:I (af×fc):=[("self",.local),("cycle",.local),("ValueError",.globalImplicit),("CycleError",.globalImplicit)]
noncomputable def pK:I af:=["self","cycle"]
noncomputable def eB(H:I AN):I (I J):=(H.filter λa=>aO (a.2.1=0)).map (·.1)
noncomputable def Fo(H:I AN)(l:I J):bw:=H.any λa=>aO (a.1=l)
def nQ(H:I AN):bw:=H.all λa=>a.2.2.all λs=>Fo H s
theorem Uq(h:nQ G.al=Y):vI G:=λQ z s B=>Ge (gK.mp (gK.mp h (Q.key,Q.np,Q.succ) (dZ.mpr (aR Q z C))) s B)
noncomputable def Co:bg (I (I J))->bg T
 |D _=>aa
 |aa=>D .none
noncomputable def m8:bg (I (I J))->bw
 |D b=>!b.isEmpty&&aO (b.length<=1000)
 |aa=>Y
section
variable{y:Ly Ob}{f eT:au}{al:I AN}
theorem iD.fr{X:bD Ob}(k:iD X a i t u S n):iD (X.fr A h) a i t u S n:=⟨k.d.fr,k.ar,k.sc,k.df,k.kd⟩
theorem iD.up{X:bD Ob}(k:iD X a i t u S n)(B:bF X.h₀ g):iD (X.up g B) a i t u S n:=⟨k.d.up B,k.ar,k.sc,k.df,k.kd⟩
theorem Fast.fr{X:bD Ob}(K:Fast X m w O G):Fast (X.fr A h) m w O G:=⟨K.sm,K.kn,K.st⟩
theorem T4{X:bD Ob}{m:cy}{w:bZ}{O:Cl}{f:aB}(p:bK X m w O)
  (i:∀G:SG,G.abs=.bL E al h q B->G.kn->mH X m w u f (.b9 0 G) args j n):mH X m w u f (.bL E al h q B) args j n:=by
 intro L F g y z x s fp A b K l k a t o v;rw [p.ob]at a;obtain⟨G,e,hS⟩:∃G:SG,G.abs=.bL E al h q B/\ew m w O 0 G y s.heap fp:=a;exact i G e (FQ hS.nd) L F g y z x s fp A b K l k (p.ob.symm▸hS) t o v
theorem ad0(h:bK y.B y.Z y.w b)(k:iD y.B f 19 3 mu S pK)(j:iD y.B eT 19 8 rH nB fx)(ej:(("_find_cycle":af),eT)∈b.fs)(e6:OwnCls "CycleError" d dB fy y.mg y.B.h₀)(cA:ExcBaseFacts pM fy mw dB)
  (h8:nQ al=Y)(bY:J)(kh:lW al bY=D o)(g:m8 o=Y)(cu:U al<=800):
  mH y.B y.Z y.w (a_+2) (.ref f) (.bL bh al aa bl bx) [] (.ref d) λX r=>X=.bL bh al (D (eB al)) bl bx/\r=Co o:=by
 refine T4 h λG cB bz=>?_;obtain⟨cL,cV,n,ez,eR⟩:G.self=bh/\G.al=al/\G.cX=aa/\G.po=bl/\G.fi=bx:=by
  injection cB with a bH gc m f
  exact(k9 a bH (by simpa using gc) m f)
 subst cV;refine T5 y.G (o₁:=.b9 2 G) (oM:=λx r=>(∃a,x=.b9 2 {G with cX:=D a,rl:=eB G.al})/\r=Co o) k.d (eA C) (λfl s=>.plain λz jm=>?_)
  (λ{i s fp}h0=>?_) (λ{i s fp rF O e x r}P w v=>?_) (λ{i s fp cF bf fl dO d8}B cQ h0 w cZ dK H L ah fB aK=>?_) (λ{i s fp cF O pL x r}P h0 v w kO aL=>?_)
 .exact bind1 (λa=>ae (qL k.ar k.df _) C) z jm
 .rw [h.ob]at h0;have h0:=h0;obtain⟨e,s,l⟩:=h0.rest;exact(aR e (h.ob.symm▸s) l)
 .obtain⟨⟨a,rfl⟩,_⟩:=P;rw [h.ob]at w v;have w:=w;have v:=v;refine⟨by simp only [w.v,v.v],λbH t=>?_⟩;rw [w.ob.ad]at t;rw [v.ob.ad];simp only [nX,Cg,N9,fX,n,iK,RE,cD,dR,or_false]at t⊢;exact t.elim .inl λcH=>.inr (.inl cH)
 .have F:Fm (di S H f) pK (U pK) npr:=jM (C) (by show S.scope.names=_;exact aA _ k.sc)
  let bC:=(y.fr fl d8).up bf B
  let c:=bC.c (L.deeper (di S H f)) ah (di S H f) (a_+1) aK.deeper
  have bE:=h.fr.up B;have q:bK c.B c.Z c.w b:=bE;simp only [h.ob]at h0 w;have h0:=h0;have aX:r7 (rf y.Z y.w b 2 G) bf:=λbP bR=>by
   have bU:=h0.apart (w) bP.1 (fM bR);refine ai (h0.ob.dY bP (by rw [uN y.Z y.w b 2 G];exact i0 _ bR)) λeu aL p=>?_;exact(aR eu (cZ _ _ aL (dK _ bU.1) bU.2) p)
  have u:Fast c.B c.Z c.w b G:=(⟨h0.sm,bz,aX⟩);have eG:gZ c (fl++dO):=E0 (c:=c) fB C (cQ.up B) C (by show S.scope.kind=_;exact aA _ k.sc);have eN:∀a,mH c.B c.Z c.w c.n (.ref eT) (.b9 2 {G with cX:=D a,rl:=eB G.al}) [] .none λX r=>X=.b9 2 {G with cX:=D a,rl:=eB G.al}/\r=D (A3 o):=λa=>
   JV λR rG O fj=>by
    have:=adT (y:=bC.fr R O) (n:=a_) (bE.fr) fj ((j.fr.up B).fr) (G:={G with cX:=D a,rl:=eB G.al}) (Uq h8) bY kh (⟨h0.sm,bz,aX⟩);intro L ah aj i z aK l fp ak ao aq aC gi gU gV;exact this L ah aj i z aK l fp ak ao aq aC gi gU λA aF jd e X r P=>gV A aF jd e X r ⟨P.1,aA D P.2⟩
  refine HA (Ψ:=λaH f=>aH=l5 (.b9 2 G) pK []/\f=.next) (ES.ev (c:=c) (dQ (b:=ay) (zC (kc q (j8 q (i:=0) (q:=2) C C) (jD q F 0 C C) (.OI n) C) zn C C) ⟨i7⟩)|>.p ⟨C,C⟩) λb_ R P=>?_;obtain⟨rfl,rfl⟩:=P;refine⟨C,?_⟩;have jn:(eB G.al).map T.str=(G.bS.filter λQ=>aO (Q.np=0)).map λQ=>T.str Q.key:=by
   simp only [eB,SG.al,Iu,dH];rfl
  have fZ:EF c pK (U pK) (l5 (.b9 2 G) pK []) (vW (fV 1 (dF (fL 19 3)))) (l5 (.b9 2 G) pK []) ((eB G.al).map .str):=by
   simp only [jn];exact ny (us:=G.bS) (g:=λQ=>.bW (.ref Q.i)) "i" [] [] (λQ=>.str Q.key) (λQ=>aO (Q.np=0)) F (C) (C) (C)
    (aez (kc q (j8 q (i:=0) (q:=2) C C) (jD q F 0 C C) .uG C) u.sm u.map C C) C
    (λd aE Q aN=>zC (u_ (c:=c.ff _ d) q (Fast.info (c:=c.ff _ d) u aN) (zv aE 0 C C) .np C) (zi 0) C C)
    (λd aE Q aN E=>u_ (c:=c.ff _ d) q (Fast.info (c:=c.ff _ d) u aN) (zv aE 0 C C) .node C) C (by exact aD (by simpa [SG.al]using cu) (az C))
  refine HA (SP.ev (c:=c) (aeP q F 0 C fZ C n C)) λb_ R P=>?_;obtain⟨a,rfl,rfl⟩:=P;refine⟨C,(HA (Ψ:=λaH f=>aH=[.obj (.b9 2 {G with cX:=D a,rl:=eB G.al}),.t (A3 o)]/\f=.next) (ES.ev (c:=c) (aeJ q eG F 0 1 C C ej (by exact nofun) (j.fr.up B).d.ho (j.fr.up B).d.hd (eN a) (λX r P=>P) C C (by exact fG _) C)|>.p ⟨C,C⟩) λb_ R P=>?_)⟩;obtain⟨rfl,rfl⟩:=P;refine⟨C,?_⟩;cases o with
  |none=>
   refine Qf (b:=ay) (aY:=[.obj (.b9 2 {G with cX:=D a,rl:=eB G.al}),.t .none]) (EC.ev (c:=c) (lD (zv F 1 C C) C λE=>C)) nofun (λE=>(lZ _ _ C (.inr ⟨C,C⟩) ⟨a,C⟩ C)) λE E E=>dj
  |some cg=>
   simp only [m8,oq,oG]at g;refine Qf (b:=Y) (aY:=[.obj (.b9 2 {G with cX:=D a,rl:=eB G.al}),.t (.list (cg.map .str))]) (EC.ev (c:=c) (lD (zv F 1 C C) (Cz (by simp;exact aD g.2 (az C)) (by simpa using g.1)) λE=>C)) (λE=>?_) nofun λE E E=>dj;have:=aef (c:=c) (k:=U pK) (xs:=pK) (x:="CycleError") (np:=⟨165,18,165,28⟩) (cpos:=⟨165,18,165,60⟩) (pos:=⟨165,12,165,60⟩) (Φ:=λaP fl=>∃x r,aP[0]?=D (AV.obj x)/\vR fl r/\(∃a,x=.b9 2 {G with cX:=D a,rl:=eB G.al})/\D r=aa) F 3 C (e6.keeps B) cA
    (zr (aew (p:=⟨165,29,165,52⟩) (zs (kk:=0) (p:=⟨165,31,165,51⟩) _ (cS ['n','o','d','e','s',' ','a','r','e',' ','i','n',' ','a',' ','c','y','c','l','e']))) (zr (zv (p:=⟨165,54,165,59⟩) (lv:=[.obj (.b9 2 {G with cX:=D a,rl:=eB G.al}),.t (.list (cg.map .str))]) F 1 C C) cU C) C) C (by exact dN _ _)
   exactλkP aj l jo lF ak ao aq aC=>this kP aj l jo lF ak ao aq λA aF aP O m z P=>aC A aF aP O m z (by exact(P)▸((i12 _ C ⟨a,C⟩ C)))
 .obtain⟨⟨a,rfl⟩,rfl⟩:=P;rw [h.ob]at h0 w v;refine ai (acd (h0) (v) (w) n kO aL) λe kQ lG=>?_;refine(gx _ e ⟨C,C⟩ ?_ lG);exact(h.ob)▸(cL)▸(ez)▸(eR)▸(((aR _ C kQ):∃aT:SG,aT.abs=.bL G.self G.al (D (eB G.al)) G.po G.fi/\ew y.Z y.w b 0 aT i O e))
end
section
variable{Z:cy}{w:bZ}{A:c3}{a:J}
theorem MK(R:s.heap.MapOf (intKind Z w) d L)(h:L a=D (.str x y))(e:∀i,Q (.text x) {s with toks:=i}):
  aQ (aI Z w) A (afp (.ref d) a) Q H s:=by
 exact aG (wpAny_attempt (aG (wpAny_mkInt (Ss (intKind_is ..) R h (aG (iN (C) (aG (iN (C) (bN (e _))))))))))
theorem Zg(B:A.handled=aa)(P:(d==sysModules)=ay)(R:s.heap.MapOf (intKind Z w) d L)(e:L a=aa)(i:∀O h,bF s.heap O->Q .keep {s with heap:=O,toks:=h}):
  aQ (aI Z w) A (afp (.ref d) a) Q H s:=by
 exact aG (wpAny_attempt (aG (wpAny_mkInt (wpAny_getItem_missing_of (intKind_is ..) P B R e λO b p=>(e5 p.there λu G x v E=>aG (Su (b:=Y) (aR _ x v) (C) ((aM C).symm▸(aG (xY (bN (i _ _ p.keeps)))))))))))
theorem WL(b:z)(f:J->z->Sem _):(forIn #[a] b f)=f a b>>=λr=>match r with|.done b=>pure b|.yield b=>pure b:=C
theorem adz(u:a<128)(R:s.heap.MapOf (intKind Z w) d L)(B:A.handled=aa)(e:(d==sysModules)=ay)(i:(L a=aa/\r=[a])\/(∃y,L a=D (.str (ck r) y)/\U r=2))
  (h:∀O G c,bF s.heap O->Q (.done (.ret (.str (ck r) G))) {s with heap:=O,toks:=c}):aQ (aI Z w) A (Builtin.«str.translate» ⟨[.str ⟨#[a]⟩ l,.ref d],[]⟩) Q b s:=by
 refine aG (iN (C) ?_);refine vF C (aG (mj (WL _ _) (aG (vF C (wpAny_ite_true (by simp [u]) ?_)))));rcases i with⟨n,rfl⟩|⟨y,n,v⟩
 .refine aG (Zg B e R n λO P k=>(aG (bN (bN (bN ?_)))));exact aG (tM (bN (h O _ _ k)) (show 1<=sizeLine by decide))
 .refine jL (show∃x H,r=[x,H]from BH (P:=λr=>∃x H,r=[x,H]) (λx H=>⟨x,H,C⟩) r v) λx H S=>?_;subst S;refine aG (MK R n λP=>?_);refine aG (bN (aG (xY (aG (MK (s:={s with toks:=P}) R n λP=>(bN (bN ?_)))))));exact aG (tM (bN (h s.heap _ _ (bF.refl _))) (show 2<=sizeLine by decide))
end
theorem ael(F:Fm c.V n k G)(t i:J)(O:G[t]?=D (x,.globalImplicit))(f:vX[i]?=D (x,v)):EE c n k y (.Name x p) y (.bW v):=
 ⟨λT g s Q H S R=>nV c.G S.1 S.ready.base (F.kn t O nofun) (c.bi i _ _ f).1 (c.bi i _ _ f).2 (F.kg t O) (R s g v (bQ.refl s) (Le.refl _) S (.bW _))⟩
structure DV(y:Ly O):Prop where
 ex:∃d f,y.mg "_special_chars_map"=D (.ref d)/\(d==sysModules)=ay/\(∀{h},bF y.B.h₀ h->h.MapOf (intKind y.Z y.w) d f)/\∀a:J,a<256->(a∉uX/\f a=aa)\/(a∈uX/\∃u,f a=D (.str (ck [92,a]) u))
theorem abi{X:bD q}{e:bZ}{a d:J}{L:aS->bg aB}(i:dW s n)(u:a<128)(P:(d==sysModules)=ay)(R:∀{h},bF X.h₀ h->h.MapOf (intKind m e) d L)
  (g:(a∉uX/\L a=aa)\/(a∈uX/\∃y,L a=D (.str (ck [92,a]) y)))(O:Den F x E (.str [a])):PO X (aI m e) s F (call (.builtin "str.translate") [E,.ref d]) x (.str (lV a)):=by
 refine bG (jg O) λA j=>?_;subst j;intro l Q H r b;have k:(L a=aa/\lV a=[a])\/(∃y,L a=D (.str (ck (lV a)) y)/\U (lV a)=2):=by
  unfold lV;rcases g with⟨w,v⟩|⟨w,y,v⟩
  .exact(aJ w).symm▸(.inl ⟨v,C⟩)
  .exact(aM w).symm▸(.inr (aR y v C))
 exact i4 (qG R8.plain PySem.F.entry_str_translate (R8.check _ _ _ _ _ _ _ _ (tK _ _ _) (PySem.F.args_str_translate_2 _ _) (adz u (R r.base) i.handled P k λt G c B=>(b _ _ _ (cj.keeps (t:=c) r B) (.str _ _)))))
noncomputable def n7:I (af×fc):=[("pattern",.local),("isinstance",.globalImplicit),("str",.globalImplicit),("_special_chars_map",.globalImplicit)]
noncomputable def x7:I af:=["pattern"]
theorem adS(k:H.aZ "escape" 10)(S:DV H)(a:J)(u:a<128):H.F (e+1) "escape" [.str [a]] (.str (lV a)):=by
 refine H.fn 10 x7 n7 k C (C) (C) (dz _) (λy code r=>bind1 λa=>C) λl f G i F=>A8 S.ex λx L p P R g=>⟨q4 x7 [.str [a]],hU (dQ (lD (ta:=.bool Y) (ry F 1 9 C C (zr (zv F 0 C C) (zr (ael F 2 10 C C) cU C) C) C λh z b=>?_) C λE=>C) (hU (jc ?_)))⟩
 .refine e5 b.Hr λv t d n s=>?_;subst d;obtain rfl:=s.inv;exact aa' n
 .refine xj R8 PySem.F.type_str_translate (zv F 0 C C) (zr (C4 F 3 C p λE E=>.bW _) cU C) C C (dN _ _) C λh v z n b=>ai b.ja λo j q=>?_;subst j;obtain rfl:=q.inv;exact abi i u P R (g a (aD u (az C))) n
noncomputable abbrev ade(S:iO aB):bM:={cls:=.none,data:=.fields S}
inductive lN(h:cf)(c P:au):Prop
 |mk(o:bM)(vs:iO aB)(file:af)(tf:fT)(flags:aS)(tg:fT)(X7:bw)(text:aS)(tt:fT)(e1:h.get? c=D o)(e2:o.cls=.type "code")(e3:o.data=.fields vs)(e4:vs[11]?=D (.ref P))(f3:vs.getD 11 .none=.ref P)(f4:vs.getD 18 .none=.str file tf)
  (f5:vs.getD 7 .none=.int flags tg)(f6:vs.getD 9 .none=.bool X7)(f7:vs.getD 10 .none=.int text tt)(f8:c≠P)
def TabAt(h:cf)(P:au)(S:iO aB):Prop:=h.get? P=D (ade S)/\TriplesOk S.toList
theorem lN.keeps(x:lN h c P)(k:∀b o,h.get? b=D o->O.get? b=D o):lN O c P:=by
 cases x with|mk o z f q a v X e d t i w j s B u l m n=>exact .mk o z f q a v X e d (k _ _ t) i w j s B u l m n
theorem lN.tab(x:lN h c P)(A:TabAt h P S):h.TableAt c P S:=by
 cases x with|mk o z _ _ _ _ _ _ _ t b w j=>exact⟨(lZ o z t b w j),A.1⟩
theorem lN.code(x:lN h c P)(A:TabAt h P S):h.IsCode c P S:=by
 cases x with|mk o z f q a v X e d t b w j s B u i l n=>exact⟨o,z,f,q,a,v,X,e,d,_,t,w,s,B,u,i,l,A.1,C,A.2,n⟩
noncomputable abbrev Bg(name E:af)(params:Ag)(body:FuncBody)(scope:je)(H:I (af×au))(doc y i d:aB):bM:=
 {cls:=.type "function",data:=.func {name,qualname:=E,params,body,scope,globals:=jX,closure:=H,closureTuple:=d,code:=i,builtins:=builtinsNs,defaults:=.none,kwdefaults:=.none,annotations:=aa,pyModule:=y,doc}}
section
variable{s:aU}
inductive tP(h h':cf)(pos:h_)(q:af)(ps OA:iO aB)(cv:aB):Prop
 |v9(e:codeAmong pos ps.toList=D cv)(p:OA=ps)
 |new(c':au)(e:codeAmong pos ps.toList=aa)(v:cv=.ref c')(n:h.objs.size<=c')(r:h'.CodeRec cv q)(p:OA.toList=ps.toList++[c9 pos.line,c9 pos.col,.ref c'])
theorem tP.up(x:tP a O u q S A i)(h:j.objs.size<=a.objs.size):tP j O u q S A i:=by
 cases x with
 |v9 e p=>exact .v9 e p
 |new k e v m r p=>exact .new k e v (aD h m) r p
theorem J5(h:G.code=.ref c)(d:lN s.heap c P)(l:TabAt s.heap P S)
  (R:∀i O n A,jU P s.heap O->s.heap.objs.size<=O.objs.size->TabAt O P A->tP s.heap O u q S A i->Q i {s with heap:=O,toks:=n}):
  aQ M L (functionCode G u f o q p v t) Q H s:=by
 cases g:codeAmong u S.toList with
 |some i=>exact wpAny_functionCode_hit h (d.code l) g (R i s.heap s.toks S (λE E E e=>e) (dz _) l (.v9 g C))
 |none=>
  refine wpAny_functionCodeX h (d.code l) (d.tab l) g λk O n j F x E a b E=>R _ O n _ j (e7 (kS F x)) ⟨b.2,?_⟩ (.new k g C F a (by simp));have X:(S++#[c9 u.line,c9 u.col,vB k]).toList=S.toList++[c9 u.line,c9 u.col,.ref k]:=by simp
  simp only [X];exact TriplesOk_snoc _ _ _ _ l.2
theorem ZH(S:closureFor g G=pure H)(aC:G.globals=jX)(L:s.heap.Ns jX ak)(c:G.code=.ref aK)(d:lN s.heap aK P)(k:TabAt s.heap P aj)(y:jX≠P)(ao:s.heap.BuiltinsAt ak P)
  (h:∀i aN aT ah O n A,jU P s.heap O->s.heap.objs.size<=O.objs.size->TabAt O P A->tP s.heap O aq E aj A i->
   aE (.ref O.objs.size) {s with heap:=O.push (Bg R E aH t g H aT ah i aN),toks:=n}):
  aQ bz bC (makeFunction R E aH t g G [] [] [] aq bf) aE bh s:=by
 rw [makeFunction_eq];simp only [List.zip_nil_right,List.filterMap_nil,List.isEmpty_nil,if_true,pure_bind];refine Ks ao λbl bx w q aX F u B T v=>?_
 delta makeTail
 rw [S,aC];refine aG (bN ?_);cases H with
 |nil=>
  refine aG (bN (aG (J5 c d k λi O n A j m a z=>?_)));have e:=L.extBut j y;refine aG (Sq e w q (j _ _ F u) B T v (aG (Sw e ?_)));cases t with
  |expr x=>exact aG (bN (rQ (h i _ .none _ O n A j m a z) (by size_fits)))
  |stmts b=>
   dsimp only;cases aL:docOf b with
   |none=>exact aG (bN (rQ (h i _ .none _ O n A j m a z) (by size_fits)))
   |some aF=>exact aG (Ae (rQ (h i _ _ _ O _ A j m a z) (by size_fits)))
 |cons bE a_=>
  refine aG (wpAny_newTextTuple ?_);have Q:∀l b o,s.heap.get? b=D o->(s.heap.push l).get? b=D o:=λl b o x=>eH _ x;refine aG (J5 c (d.keeps (Q _)) ⟨Q _ _ _ k.1,k.2⟩ λi O n A j m a z=>?_);have p:jU P s.heap O:=λb o aP x=>j b o aP (Q _ b o x);have r:∀l:bM,s.heap.objs.size<=(s.heap.push l).objs.size:=λl=>by simp only [lI];exact fO _ _
  have X:=z.up (r _);have e:=L.extBut p y;refine aG (Sq e w q (p _ _ F u) B T v (aG (Sw e ?_)));have f:=aD (r _) m;cases t with
  |expr x=>exact aG (bN (rQ (h i _ .none _ O n A p f a X) (by size_fits)))
  |stmts b=>
   dsimp only;cases aL:docOf b with
   |none=>exact aG (bN (rQ (h i _ .none _ O n A p f a X) (by size_fits)))
   |some aF=>exact aG (Ae (rQ (h i _ _ _ O _ A p f a X) (by size_fits)))
end
def DK(L:Fz)(q:af)(i:aB):Prop:=∃b o z A,i=.ref b/\L b=D o/\o.data=.fields z/\z[1]?=D (.str q A)
def rT(L:Fz)(f:I (h_×af))(S:iO aB):Prop:=∀x∈f,∀i,codeAmong x.1 S.toList=D i->DK L x.2 i
theorem rT.le(x:rT h f S)(l:Aw h u):rT u f S:=λH L i e=>A9 (x H L i e) λb o z A t a w j=>(qX b o z A t (l b o z w a) w j)
theorem JB{p:h_}(h:TriplesOk l)(e:codeAmong p (l++[c9 a,c9 b,c])=D i):codeAmong p l=D i\/i=c/\(a)=p.line/\b=p.col:=by
 fun_induction TriplesOk l with
 |case1=>
  have e:(if a==(p.line:aS)&&b==(p.col)then D c else aa)=D i:=e
  split at e
  .rename_i q;exact .inr ⟨(bj e).symm,iP (cR.mp q).1,iP (cR.mp q).2⟩
  .exact aV C (e)
 |case2 T A z y x rest n=>
  have e:(if T==(p.line)&&z==(p.col)then D x else codeAmong p (rest++[c9 a,c9 b,c]))=D i:=e
  split at e
  .exact .inl (ae (aM ‹_›) e)
  .exact(n h e).imp (λq=>(aJ ‹_›).trans q) id
 |case3 l w v=>exact h.elim
structure jH(B:bD O)(mg:af->bg aB)(c P:au)(ks:I (h_×af)):Prop where
 tab:P∈B.tabs
 hd:∀{h},bF B.h₀ h->lN h c P
 at_:∀{f h},B.inv f h->∃ps,TabAt h P ps/\rT f ks ps
 put:∀{f f' h h'},B.inv f h->Aw f f'->(∀Q∈B.tabs,Q≠P->∀o,h.get? Q=D o->h'.get? Q=D o)->(∃ps,TabAt h' P ps/\rT f' ks ps)->B.inv f' h'
 ne:jX≠P
 bm:∀{h},bF B.h₀ h->h.BuiltinsAt mg P
theorem AX(h:∀x∈v.names,x.2≠.free):closureFor v G=pure []:=by
 rw [closureFor]
 rw [forIn_yield_id [] (λx j c=>by
  obtain⟨u,e⟩:=x;have:(e==Dl)=ay:=by simpa using h _ j
  simp only [this,Bool.false_eq_true,if_false])]
 rfl
structure I2(h:cf)(f:Fz)(a P:au)(pos:h_)(q:af)(ks:I (h_×af))(cv:aB):Prop where
 kn:(∃x∈ks,x.1=pos)->DK f q cv
 nw:(∀ps,TabAt h P ps->codeAmong pos ps.toList=aa)->∃c' o vs t,cv=.ref c'/\h.get? c'=aa/\c'≠a/\f c'=D o/\o.data=.fields vs/\vs[1]?=D (.str q t)
theorem MS{v:je}{H:I _}
  (bf:fe X bP ez)(K:jH X bP cg aL ao)(aq:∀x∈ao,(z.line:aS)=x.1.line->(z.col:aS)=x.1.col->x.2=E)(bU:G.code=.ref cg)(cB:closureFor v G=pure H)(cF:gm G)(S:aW X cL cH g G bl bx bC bE bH s.heap)
  (aE:∀i d r y O n a f,bQ s {s with heap:=O,toks:=n}->Le g f->aW X cL cH f G bl bx bC bE bH O->O.get? a=D (Bg aj E aC ak v H r y i d)->s.heap.get? a=aa->kW X s.heap O->I2 s.heap f a aL z E ao i->(∀b o,f b=D o->g b=D o\/s.heap.get? b=aa/\b≠a)->
   Q (.ref a) {s with heap:=O,toks:=n}):
  aQ (aI eu cZ) dB (makeFunction aj E aC ak v G [] [] [] z dO) Q d8 s:=by
 refine ai (K.at_ S.inv) λej ah T=>ZH cB cF.globals (bf.g S.base) bU (K.hd S.base) ah K.ne (K.bm S.base) λi d r y O n A j aN l a_=>?_;have w:∀b,b≠aL->∀o,s.heap.get? b=D o->(O.push (Bg aj E aC ak v H r y i d)).get? b=D o:=λb bh o e=>eH _ (j b o bh e);have k:kW X s.heap _:=λb bz o e=>w b (λq=>bz (q▸K.tab)) o e;have R:∀{b},s.heap.objs.size<=b->s.heap.get? b=aa:=λ{b}F=>by
  cases q:s.heap.get? b with
  |none=>rfl
  |some o=>exact bA (fk q) (h9.mpr F)
 cases a_ with
 |v9 e p=>
  subst p;exact aE i d r y _ n _ g (cI _ _ C) (Le.refl _) (S.grow k (K.put S.inv (λ_ _ _ _ e=>e) (λQ bR u o e=>w Q u o e) (aR A ⟨eH _ l.1,l.2⟩ T)) (Le.refl _) λb o e=>.inl e) (eS _ C) (R aN) k
   ⟨λbY=>ai bY λx j t=>((aq x j (aA (λp:h_=>(p.line:aS)) t.symm) (aA (λp:h_=>(p.col:aS)) t.symm))▸T x j i (t▸e)),λcu=>aV (cu A ah) e⟩ λb o e=>.inl e
 |new m e h F cA p=>
  refine ym cA λdK c aF aH b_ aK L=>?_;obtain rfl:=ko (ae h.symm b_);have P:=R F;have B:Le g (k7 g m c):=yr (iV λo q=>aV P (S.bJ _ _ q));have aP:DK (k7 g m c) E i:=qX m c aF aH h qR L.1 L.2;have aT:=fk aK;refine aE i d r y _ n _ _ (cI _ _ C) B (S.grow k (K.put S.inv (λb o _ _ e=>B b o e) (λQ bR u o e=>w Q u o e) (aR A ⟨eH _ l.1,l.2⟩ λx j cQ q=>?_)) B λb o q=>qS q (λq cV=>.inr (q▸cV▸⟨P,eH _ aK⟩)) .inl) (eS _ C) (R aN) k
   ⟨λ_=>aP,λ_=>(XX m c aF aH h P (fH aT) qR L.1 L.2)⟩ λb o q=>qS q (λq _=>.inr (q▸⟨P,fH aT⟩)) .inl
  rw [p]at q;rcases JB ah.2 q with q|⟨q,t,aX⟩
  .exact(T.le λb o _ _ e=>B b o e) x j cQ q
  .exact(aq x j t aX)▸(q)▸(h)▸(aP)
theorem F0{g:Fz}{V:c4}{k:J}{y:I _}{l mb:af->bg aB}{c P:au}{q:Ag}{v:je}{H:I _}{s:aU}{E:aB->aU->Prop}{Q:aB->aU->Prop}{m:af->bg aB}{r:J->I au}
  (G:fe X l mb)(K:jH X l c P f)(z:∀x∈f,(u.line:aS)=x.1.line->(u.col:aS)=x.1.col->x.2=V.qual++"<lambda>")(t:V.code=.ref c)(L:closureFor v V=pure H)(hd:defaultsOf q V=([],[]))(eo:gm V)(S:aW X F hB g V xs k y m r s.heap)
  (h:∀i d p w O n a j,bQ s {s with heap:=O,toks:=n}->Le g j->aW X F hB j V xs k y m r O->O.get? a=D (Bg "<lambda>" (V.qual++"<lambda>") q (.expr e) v H p w i d)->s.heap.get? a=aa->kW X s.heap O->I2 s.heap j a P u (V.qual++"<lambda>") f i->(∀b o,j b=D o->g b=D o\/s.heap.get? b=aa/\b≠a)->Q (.ref a) {s with heap:=O,toks:=n}):
  aQ (aI Z B) A (eval (.Lambda q e v u) V) Q E s:=by
 rw [arm_eval_Lambda,hd];exact aG (bN (aG (gH (bN (MS G K z t L eo S h)))))
section
open Builtin.Re
noncomputable def yl:J->Dy->bg Dy
 |0,_=>aa
 |u+1,m=>let b:=m.runFor reTurnSteps;if b.outcome.isSome then D b else yl u b
noncomputable def EK:bg Sg->bw
 |D .failed=>Y
 |_=>ay
def uH(code:iO J)(e:iO J)(a:J):bw:=(yl 1000 (z8 code e a 0 e.size ay)).any λm=>EK m.outcome
theorem KZ{o:bg Sg}(h:EK o=Y):o=D .failed:=by
 cases o with
 |none=>exact cY C h
 |some x=>cases x with
  |failed=>rfl
  |_=>exact cY C h
theorem O5:Slot "function" "__call__" "function.__call__":=
 .of (owner:="function") (n:="__call__") (by kernel_rfl) (C) (C) (C)
  (by first|exact .inl (C)|exact .inr _) (by exact C)
theorem wR:Slot "re.Pattern" "sub" "re.Pattern.sub":=
 .of (owner:="re.Pattern") (n:="sub") (by kernel_rfl) (C) (C) (C)
  (by first|exact .inl _|exact .inr (C)) (by kernel_rfl)
theorem P9:typeOf (.builtin "re.Pattern.sub")=pure (.type "method_descriptor"):=by kernel_rfl
theorem KJ:entryFor table "re.Pattern.sub"=D Builtin.«re.Pattern.sub»:=Aa (C)
theorem ED:entryFor table "re.Pattern.sub.loop"=D Builtin.«re.Pattern.sub.loop»:=Aa (C)
theorem JF(a b d:aB):argsOk "re.Pattern.sub" ⟨[a,b,d],[]⟩:=by kernel_rfl
section
variable{Z:cy}{w:bZ}{A:c3}{E:aB->aU->Prop}
theorem A7:∀(u p:J)(m:Dy),u<=p->yl u m=D b->Q b s->aQ (aI Z w) A (reDrive p m) Q E s
 |0,_,_,_,h,_=>aV C h
 |u+1,0,_,z,_,_=>by omega
 |u+1,p+1,m,z,h,k=>by
  have h:@ite _ _ _ _ _=D _:=h;show aQ _ _ (@ite _ _ _ _ _) _ _ _
  split
  .rename_i q;rw [aM q]at h;exact bj h▸(bN k)
  .rename_i q;rw [aJ q]at h;exact aG (xY (A7 u p _ (agb ‹_›) h k))
theorem GN{L:J->bw}{f:J->String}:∀l:I J,Q ⟨⟩ s->aQ (aI Z w) A (forIn l R0 λi h=>if L i=Y then do rule (f i);pure (vj R0)else pure (vj R0)) Q E s:=λT=>T.rec
 (λk=>by exact bN k)
 (λi l n k=>by
  rw [Rx];apply aG
  split
  .exact aG (xY (bN (n k)))
  .exact bN (n k))
set_option tactic.hygienic true in
theorem ab8{code:iO J}(h:uH code e a=Y)(k:Q aa s):aQ (aI Z w) A (reRunToEnd (z8 code e a 0 e.size ay)) Q E s:=by
 refine ai ((IK _ _).mp h) λm R T=>?_;exact aG (A7 1000 _ _ (dN _ _) R (aG (GN _ ((KZ T).symm▸(bN k)))))
inductive qJ(h:cf)(p:au)(code:I J)(groups:J):Prop
 |mk(o:bM)(a b:aB)(d:fT)(e:aB)(ct:au)(oc:bM)(n:J)(h1:h.get? p=D o)(h2:o.cls=.type "re.Pattern")(h3:o.dict=aa)(h4:o.data=.fields #[a,b,.int groups d,e,.none,.ref ct,.int 0 0])(h5:h.get? ct=D oc)(h6:oc.data=.seq (code.map λ(x:J)=>c9 (x:aS)).toArray n)
theorem qJ.keeps{p:au}{code:I J}{f:J}(x:qJ h p code f)(k:∀b o,h.get? b=D o->O.get? b=D o):qJ O p code f:=by
 obtain⟨o,a,b,d,e,F,n,u,w,v,R,g,H,m⟩:=x;exact⟨o,a,b,d,e,F,n,u,k _ _ w,v,R,g,k _ _ H,m⟩
theorem zz{code:I J}{l:I J}(P:qJ s.heap p code f)(h:Q ⟨.ref p,.str (ck l) e,code.toArray,l.toArray,0,f,0,U l⟩ s):
  aQ (aI Z w) A (reWholeTarget (.ref p) (.str (ck l) e)) Q E s:=by
 obtain⟨o,b,k,d,n,F,j,u,a,v,R,g,H,m⟩:=P;refine aG (wpAny_fieldsOf a g (aG (iN (a:=(l.toArray,0)) (C) ?_)));refine aG (iN (C) (aG (aG (xZ H m (bN (bN ?_))))));have t:(((D (List.map (λ(x:J)=>c9 (x)) code).toArray).getD #[]).map reRawOf).map (λx=>x.toNat)=code.toArray:=by
  show((code.map λ(x:J)=>c9 x).toArray.map reRawOf).map _=_;simp only [afU];exact aA xN (code.rec C λx r i=>aA (x::·) i)
 exact t.symm▸h
theorem CE(e:x.extract i t=l.toArray)(B:l.length<=sizeLine)(h:Q (.str (ck l) s.toks) {s with toks:=s.toks+1}):aQ (aI Z w) A (reSlice x 0 i t) Q E s:=by
 refine mj (aM (C)) ?_;rw [e];exact tM h B
theorem Hs(X:s.heap.get? H=D (lo z b))(g:U z<=sizeLine)(a:∀i k,jU H s.heap i->i.get? H=D (lo (z++[x]) k)->Q () {s with heap:=i}):aQ (aI Z w) A (updateSeq H λh=>h.push x) Q E s:=by
 have e:∃k,nF (λh=>h.push x) (lo z b)=lo (z++[x]) k:=⟨_,by simp [nF,lo];rfl⟩;exact bG e λk e=>wpAny_updateSeq X C (a _ k (λl o u q=>(oB ..).2 l u|>.trans q) (ae (pN _ X C) (aA D e))) g (aD (fq (Q0 _)) (ju g))
theorem Zj{code:I J}{l:I J}{h:fT}{Q:aB->aU->Prop}(P:qJ s.heap p code f)(z:uH code.toArray l.toArray f=Y)(n:l≠[])(m:U l<=100000)(X:s.heap.get? H=D (lo [] q))
  (e:∀O G c,jU H s.heap O->Q (.str (ck l) G) {s with heap:=O,toks:=c}):
  aQ (aI Z w) A (Builtin.«re.Pattern.sub.loop» ⟨[.ref p,.str (ck l) h,.ref o,c9 1,c9 0,c9 0,c9 0,c9 0,.bool ay,.ref H,.bool ay],[]⟩) (λy t=>∃r,y=.done (.ret r)/\Q r t) E s:=by
 refine aG (zz P (aG (ab8 (z) ?_)));apply mj (aM ((afR.mpr n)));refine aG (CE (l:=l) (by simp) (aD m (az C)) (aG (Hs X (gF _) λi k j L=>?_)));refine aG (CE (l:=[]) (by simp) (gF _) (aG (xZ L C (aG (R3 (ys:=[ck l]) (items:=[Dz (ck l) s.toks].toArray) (i12 _ L C ⟨k,C⟩) (.cons _ _ .nil) ?_ λb x=>?_)))))
 .simp only [str_len];simp [str_len];exact aD m (az C)
 .apply mj (aJ (Q4));have a:z9 (ck []) [ck l]=ck l:=by
   have:=join_nil [l];simpa using this
  exact a.symm▸(bN (aR _ C (e i b x j)))
theorem ac4{code:I J}{f:J}(P:qJ s.heap p code f)(T:s.heap.get? L=D o)(k:o.cls=.type "function")(z:uH code.toArray l.toArray f=Y)(n:l≠[])(m:U l<=100000)
  (a:∀O G c,bF s.heap O->Q (.str (ck l) G) {s with heap:=O,toks:=c}):aQ (aI Z w) A (call (.builtin "re.Pattern.sub") [.ref p,.ref L,.str (ck l) g]) Q E s:=by
 refine i4 (qG wR.plain KJ (wR.check _ _ _ _ _ _ _ _ (by obtain⟨o,d,b,H,e,F,u,X,i,v,_⟩:=P;exact(aR o i v)) (JF _ _ _) ?_));refine aG (iN (a:=[D (.ref L),D (.str (ck l) g),aa]) (C) ?_);refine aG (bN (aG (Af (aR o T k) O5.lookup (aG (bN (aG (bN ?_)))))));refine aG (gH (zz P (aG (aG (Su (T:="str") (b:=ay) (tK _ _ _) (by rw [isSubtype_type];exact C) (bN (aG (DE (bN ?_)))))))));have B:bF s.heap (s.heap.push (lo [] 0)):=bF.push _ _;refine⟨zM _ (by decide+kernel),z_ ED (kT (Q:=λy t=>∃r,y=.done (.ret r)/\Q r t) (Zj (s:={s with heap:=s.heap.push (lo [] 0)}) (P.keeps B) z n m (eS _ C) λO G c j=>?_) (λy t x=>by refine ai x λr e q=>?_;subst e;exact q) λh h x=>x)⟩;refine a O G c λb o e=>j b o (λq=>?_) (B b o e);subst q;exact bA (fk e) (i3 _)
end
example:[42,63,91].all (λa=>uH #[14,14,4,1,1,9,0,64,0,1342177280,0,0,0,0,0,17,0,13,11,9,0,64,0,1342177280,0,0,0,0,0,17,1,1] #[a] 1)=Y:=by decide+kernel
end
section
open Builtin.Re
theorem Oq:PlainAttrs "re.Pattern":=
 ⟨(aR ("object.__getattribute__") (by kernel_rfl) (C)),by kernel_rfl⟩
theorem n8(i:dP e=Y)(h:aQ (aI m w) L (eval e G) (λv c=>aQ (aI m w) L (spliced (backTo u (starEach Q G))) (λz F=>a (v::z) F) H c) H s):
  aQ (aI m w) L (spliced (backTo u (starEach (e::Q) G))) a H s:=(mS (g7 i)).symm▸(pS h)
theorem tX(m:dP e=Y)(h:aQ (aI a w) L (spliced (backTo u (starEach (e::Q) G))) (λz t=>i ⟨z,[]⟩ t) H s):aQ (aI a w) L (evalArgs x Y (backTo u (starEach (e::Q) G)) []) i H s:=by
 rw [mS (g7 m)]at h⊢;exact tH h
structure vO(y:Ly O):Prop where
 ex:∃p,y.mg "_twin_re_1"=D (.ref p)/\∀{h},bF y.B.h₀ h->qJ h p [14,14,4,1,1,9,0,64,0,1342177280,0,0,0,0,0,17,0,13,11,9,0,64,0,1342177280,0,0,0,0,0,17,1,1] 1
noncomputable abbrev vY:I J:=[14,14,4,1,1,9,0,64,0,1342177280,0,0,0,0,0,17,0,13,11,9,0,64,0,1342177280,0,0,0,0,0,17,1,1]
noncomputable def ud:cE->cE×je×Ag×h_
 |.Lambda p e s q=>(e,s,p,q)
 |.GeneratorExp e _ s q=>(e,s,default,q)
 |_=>(default,default,default,default)
def BD:cE:=(xV tV).1
def FW:h_:=(ud BD).2.2.2
def mX:I (h_×af):=[(FW,"_translate.<locals>.<lambda>")]
theorem Mz{G:c4}(k:G.qual="_translate.<locals>."):∀x∈mX,(FW.line:aS)=x.1.line->(FW.col:aS)=x.1.col->x.2=G.qual++"<lambda>":=λx j _ _=>by
 rw [cO.mp j,k];decide+kernel
theorem ac3{H:Ly aj}{G:c4}{L:c3}(e:vO H)(K:jH H.B H.mg a aF mX)(x:dW L u)(F:Fm G x9 13 n9)(q:G.code=.ref a)(k:G.qual="_translate.<locals>."){l:I J}(z:uH vY.toArray l.toArray 1=Y)(n:l≠[])(m:U l<=100000){y:I _}(X:y[9]?=D (.t (.str l))):
  EE (H.c L bh G u x) x9 13 y tV y (.str l):=by
 refine ai e.ex λbC p s=>?_;constructor;intro aH aK aL aN a_ S R;obtain⟨w,i,r,S⟩:=S;obtain⟨o,_,_,_,_,_,_,_,h,v,b,_⟩:=s S.base;refine lM C (ou _) C Oq wR P9 (nW H.G w S.base (F.kn 15 C nofun) p (F.kg 15 C) (dI (aR o h v) (λbz j=>by obtain rfl:=ko j;exact(aR o h b)) (kq (C) (tX C (n8 C (F0 H.G K (Mz k) q (AX ?_) ?_ w S λbP bR ak ao aq aC aE g d c E B aP aT _ _=>?_))))))
 .decide
 .rfl
 .refine n8 C (cps λaX T=>?_);obtain⟨bf,O,bl,bx,rfl,A⟩:=E.vars 9 "stuff" _ C X;refine T (eO (eL w E.ns O (lK (bG (jg A) λt P=>?_))) (F.eY (i:=9) C));subst P;refine ac4 (s E.base) B C z n m λbE bH Q ah=>?_;have f:=cj.keeps (t:=Q) (E.ready) ah;exact R _ g _ (d.trans f.same) c ⟨w,i,r,E.step f⟩ (.str _ _)
end
section
set_option tactic.hygienic true
theorem ET:typeLookup (.type "function") "read"=pure aa:=by kernel_rfl
theorem WI:typeLookup (.type "function") "__getattr__"=pure aa:=by kernel_rfl
theorem zm:Slot "function" "__getattribute__" "object.__getattribute__":=
 .of (owner:="object") (n:="__getattribute__") (by kernel_rfl) (C) (C) (C)
  (by first|exact .inl (C)|exact .inr _) (by exact C)
variable{os:OsState}
theorem abG(j:h.get? a=D ⟨.type "function",D r,.func S,L⟩)(R:h.Ns r m)(e:m "read"=D v)(k:Q (.done (.ret v)) ⟨h,f,d,A,os⟩):
  aQ (aI i w) x (Builtin.«object.__getattribute__» ⟨[.ref a,.str "read" n],[]⟩) Q H ⟨h,f,d,A,os⟩:=by
 have q:(⟨h,f,d,A,os⟩:aU).TypeIs (.ref a) "function":=(aR _ j C);have B:=ET
 repeat(any_goals(first|assumption|(with_reducible apply Sw R;rw [e])|wp_step))
 trace_state
theorem abE(j:h.get? a=D ⟨.type "function",D r,.func S,x⟩)(R:h.Ns r m)(e:m "read"=D v)(B:handedIn v=Y)(k:Q v ⟨h,f,d,A,os⟩):
  aQ (aI i w) L (getAttrBy (.ref a) (.str "read" n) Y ay) Q H ⟨h,f,d,A,os⟩:=by
 have q:(⟨h,f,d,A,os⟩:aU).TypeIs (.ref a) "function":=(aR _ j C);have b:=zm.lookup;have s:=zm.bind (.ref a)
 repeat(any_goals(first|assumption|wp_step))
 exact qG zm.plain agA (zm.check _ _ _ _ _ _ _ _ q (agz _ _) (abG j R e (handed_on B k)))
theorem abC(j:h.get? a=D ⟨.type "function",D r,.func S,L⟩)(R:h.Ns r m)(d:m "read"=D v)(B:handedIn v=Y)(k:Q v ⟨h,f,e,A+1,os⟩):
  aQ (aI i w) x (getAttr (.ref a) "read") Q H ⟨h,f,e,A,os⟩:=aG (Ae (abE j R d B k))
theorem abH(j:h.get? a=D ⟨.type "function",D r,.func S,b⟩)(R:h.Ns r i)(e:i "read"=D v)(B:handedIn v=Y)(k:Q (v,[]) ⟨h,f,d,A+1,os⟩):
  aQ (aI m w) L (getMethod (.ref a) "read" x) Q H ⟨h,f,d,A,os⟩:=by
 have q:(⟨h,f,d,A,os⟩:aU).TypeIs (.ref a) "function":=(aR _ j C);refine aG (Af q zm.lookup ?_);show aQ (aI m w) L (if(Manifest.canonical "object.__getattribute__"!="object.__getattribute__")=Y then _ else _) Q H _;exact aG (Af q WI (aG (Af q ET (aG (abC j R e B (bN k))))))
end
section
open Builtin Builtin.ObjectAttr
set_option tactic.hygienic true
theorem G0:Slot "function" "__setattr__" "object.__setattr__":=
 .of (owner:="object") (n:="__setattr__") (by kernel_rfl) (C) (C) (C)
  (by first|exact .inl (C)|exact .inr _) (by exact C)
theorem ZI:mroOf (.type "function")=pure [.type "function",.type "object"]:=by exact C
theorem acO(j:s.heap.get? a=D ⟨.type "function",aa,.func S,L⟩)
  (r:∀O n,jU a s.heap O->O.get? a=D ⟨.type "function",D s.heap.objs.size,.func S,L⟩->(O.Ns s.heap.objs.size λx=>if x="read"then D v else aa)->Q (.done (.ret .none)) {s with heap:=O,toks:=n}):
  aQ (aI y w) c (Builtin.«object.__setattr__» ⟨[.ref a,.str "read" n,v],[]⟩) Q H s:=by
 rw [osa_eq,refuse_eq];refine aG (aG (Sx (aR _ j C) (aG (iN ZI (bN (aG (Sx (aR _ j C) (aG (iN ET (aG (iN (by rfl) (aG (iN (a:=()) (C) (aG (m:=ownDictForStores (.ref a)) ?_))))))))))))));refine aG (IZ j ?_);dsimp only;refine aG (wpAny_alloc ?_);have t:(s.heap.push emptyDict).get? a=D ⟨.type "function",aa,.func S,L⟩:=eH _ j;have h:=vy (fk j);refine aG (wpAny_update t ?_);have z:=pN (λo=>{cls:=o.cls,dict:=D s.heap.objs.size,data:=o.data,slots:=o.slots}) t C;have f:gW a (s.heap.push emptyDict) ((s.heap.push emptyDict).update a λo=>{cls:=o.cls,dict:=D s.heap.objs.size,data:=o.data,slots:=o.slots}):=oB ..;have l:=ae (f.2 _ h) (eS _ C);have g:∀b o,b≠a->s.heap.get? b=D o->((s.heap.push emptyDict).update a λo=>{cls:=o.cls,dict:=D s.heap.objs.size,data:=o.data,slots:=o.slots}).get? b=D o:=λb o u e=>ae (f.2 b u) (eH _ e);generalize((s.heap.push emptyDict).update a λo=>{cls:=o.cls,dict:=D s.heap.objs.size,data:=o.data,slots:=o.slots})=i at z l g;apply iN (C);dsimp only;refine aG (iN (a:=()) (C) (aG (aG (aG (wpAny_askSetting (bN (aG (Ae (aG (IZ l ?_))))))))));dsimp only;have e:=putName_dict "read" (rN w.params "read") (.str "read" s.toks) v [] 0;have k:(i.update s.heap.objs.size (RZ "read" (rN w.params "read") (.str "read" s.toks) v)).get? s.heap.objs.size=D (dictOf [⟨rN w.params "read",.str "read" s.toks,v⟩] (putN "read" [] 0)):=by
  apply ae (pN _ l (C));exact aA D e
 have d:gW s.heap.objs.size i (i.update s.heap.objs.size (RZ "read" (rN w.params "read") (.str "read" s.toks) v)):=oB ..;refine Sz l (aG (wpAny_lookBehind k (pastItsLine_dict (by exact gE _)) (bN (r _ _ (λb o u e=>(d.2 b λq=>?_).trans (g b o u e)) (ae (d.2 a h.symm) z) (oX _ _ _ k C (λe m=>?_) (λx=>?_))))))
 .subst q;exact bA (fk e) (i3 _)
 .simp only [afX,cO]at m;subst m;exact(cI _ _ C)
 .delta nsFind findBy
  by_cases q:x="read"
  .subst q;exact C
  .have:((Str.ofString "read")==x)=ay:=by rw [beq_eq_false_iff_ne];exact iC q
   apply ae (aA (qF aft) (Array.find?_singleton (p:=λe:DictEntry=>e.key.isStr x)));exact ae (aA (qF aft) (aJ (show¬(Value.isStr (.str "read" s.toks) x)=Y fromλp=>Q4 (this.symm.trans p)))) (aJ q).symm
theorem acL(j:s.heap.get? a=D ⟨.type "function",aa,.func S,L⟩)
  (k:∀O n,jU a s.heap O->O.get? a=D ⟨.type "function",D s.heap.objs.size,.func S,L⟩->(O.Ns s.heap.objs.size λx=>if x="read"then D v else aa)->Q () {s with heap:=O,toks:=n}):
  aQ (aI m w) h (setAttr (.ref a) "read" v) Q H s:=by
 have q:s.TypeIs (.ref a) "function":=(aR _ j C);exact aG (Ae (aG (agO q G0 (i4 (qG G0.plain agE.entry (G0.check _ _ _ _ _ _ _ _ q (agE.args _ _ _) (acO j λO n G l u=>(bN (k O n G l u)))))))))
end
noncomputable def nsR:I (af×fc):=[("size",.local),("at",.free),("octets",.free),("bytes",.globalImplicit)]
noncomputable def xR:I af:=["size","octets","at"]
noncomputable def nT(l:I J):I T:=l.map λi:J=>.int (i:aS)
theorem LY:∀{l:I J}{z:I aB},bu F g z (nT l)->IntsAre z (l.map λi:J=>(i))
 |[],_,d=>d.i9 (P:=λz=>IntsAre z []) .nil
 |_::_,_,d=>d.jx (P:=λz=>IntsAre z _) λE G a b=>a.gR (P:=λv=>IntsAre (v::G) _) λA=>.cons _ A (LY b)
theorem kC.qd{z:I aB}{l:I J}(h:kC z l):bu ρ fz z (nT l):=kC.rec .nil (λE i=>.cons (.int _ _) i) h
theorem kC.of:∀{l:I J}{z:I aB},bu F g z (nT l)->kC z l
 |[],_,d=>d.i9 (P:=λz=>kC z []) .nil
 |_::_,_,d=>d.jx (P:=λz=>kC z _) λE G a b=>a.gR (P:=λv=>kC (v::G) _) λE=>.cons (kC.of b)
noncomputable def lR(l:I J):iO UInt8:=byteArr (l.map λi:J=>(i:aS))
theorem aeO(F:Fm c.V h k b)(t:J)(O:b[t]?=D (("bytes":af),.globalImplicit))(j:EE c h k aj e P (.list (nT l)))(aC:∀i∈l,i<256)(m:U l<=1000)(L:dP e=Y):
  SP c h k aj (.Return (D (.Call (.Name "bytes" p) [e] [] u)) u) λy X=>∃A,y=P/\X=.ret (.bW (.bytes (lR l) A)):=by
 constructor;intro aT bC bh bl bz aX S o;have Q:∀R∈[e],∀x p,R≠.Starred x p:=λR q=>by exact(cO.mp q)▸(g7 L)
 refine bT (c.bi 8 "bytes" (.type "bytes") C) λf g=>IU (ku (nV c.G S.1 S.ready.base (F.kn t O nofun) f g (F.kg t O) (IP (kI [e] Q) (jJ Q (qO j.1 lU (g7 L)) S λbE d z w H E s=>?_))));obtain⟨v,z,rfl,B,r⟩:=s.jx (P:=λah=>∃v G,ah=v::G/\Den _ _ v _/\bu _ _ G _) λv G x ak=>⟨v,G,C,x,ak⟩;obtain rfl:=r.i9 C;refine ji (qc B) λbx z n ao aq a=>?_;subst ao;refine call_bytes_ints (gy E.ready.bJ aq) (LY a) (λn T=>?_) ?_ c.R.handled λa_ A k aF=>?_
 .refine ai (dZ.mp T) λi aH aK=>?_;subst aK;have:=aC i aH;exact⟨my.mpr (eF (.n 0) (.v 0) C [_]),jV.mpr (this)⟩
 .simp only [a.length,rO];simp [nT];exact aD m (az C)
 .obtain⟨aE,aN,aL,aP⟩:=E;exact o _ d _ P _ (aR A C C) (w.trans (cI _ _ C)) H ⟨aE,aN,aL,aP.um aF (Le.refl _) λbH bf e=>.inl e⟩ (.bW _)
section
variable{n:J}
theorem Tz(k n:J):p9 .Add (.int k) (.int n)=D (.int (k+n:J)):=C
theorem subNat(k n:J):kE .Sub (.int (k+n:J)) (.int n)=D (.int k):=by
 have:((k+n):aS)-(n)=(k):=by omega
 exact this.symm▸C
theorem abD(F:Fm c.V xR 1 nsR)(f:∀i∈bs,i<256)(B:k+n<=U bs)(X:U bs<=1000):
  XP c xR 1 [.t (.int n),.t (.list (nT bs)),.own [.int k]] (dF uZ) λx A=>∃t,A=.ret (.bW (.bytes (lR ((bs.drop k).take n)) t))/\x=[.t (.int n),.t (.list (nT bs)),.own [.int (k+n:J)]]:=by
 have s:cut (D ((k):aS)) (D ((k+n:J))) (nT bs)=nT ((bs.drop k).take n):=by
  simp only [J',Rp,show k+n-k=n by exact fS (cT 0 (.v 2) (.v 1) (.a (.v 2) (.v 0)) (.a (.v 0) (.v 1)) C [_,_,_] ((lq (eF (.v 0) (.a (.v 0) (.v 1)) C [_,_])))) (cT 0 (.v 1) (.v 2) (.a (.v 0) (.v 1)) (.a (.v 2) (.v 0)) C [_,_,_] m6)];unfold nT;simp only [List.map_take,List.map_drop]
 refine⟨C0 (Qk F 2 C C (zi 0) C C (zv F 0 C C) C (τ:=.int (k+n:J)) (Tz k n) C C (λE E E=>C)).1 (zA (aeO F 3 C (l:=(bs.drop k).take n) (gJ (kN (zv F 1 C C) (iJ (fh (zF F 2 C C (vf 0) C C) (zv F 0 C C) (subNat k n))) (iJ (zF F 2 C C (vf 0) C C)) (wO (by simp [nT];exact aD X (az C)) s)) C) (λi h=>f i (afW (Dk h))) (by simp;exact jP 0 (.v 3) (.n 1000) (.a (.v 0) (.v 1)) (.v 2) (.v 2) (.n 1000) (.v 3) (.v 1) C [_,_,_,_] B X Z4) C).1 λP A q=>?_)⟩;obtain⟨t,rfl,rfl⟩:=q;exact .inr ⟨nofun,t,C,C⟩
end
theorem gp.put(u:gp l s R)(i:J){P Q:bM->Prop}{X:bM}(A:l[i]?=D (a,P))(k:∀b∈R,b≠a->∀o,s.get? b=D o->h.get? b=D o)(z:h.get? a=D X)(x:Q X):gp (l.set i (a,Q)) h R:=by
 have e:∀{t:J}{E:au×(bM->Prop)},l[t]?=D E->R[t]?=D E.1:=λg=>u.ad▸(ae jr (aA _ g));refine⟨λE g=>?_,ae u.ad ?_,u.nd⟩
 .refine bG (pO g) λt O=>?_
  by_cases q:i=t
  .subst q;exact bj ((jt (cG.mp A).1).symm.trans O)▸(aR X z x)
  .have O:=(lJ q).symm.trans O;exact ai (u.dY E (cN O)) λo T p=>(aR o (k E.1 (cN (e O)) (λr=>q (qn u.nd (e A) (ae (e O) (aA D r)))) o T) p)
 .refine Rr λt=>?_;apply ae (jr);rw [jr]
  by_cases q:i=t
  .subst q;rw [A,jt (cG.mp A).1];rfl
  .rw [lJ q]
noncomputable def y_(S:rR)(H a:au):c4:=newEnv S.scope H S.globals S.closure (S.qualname++".<locals>.") (D a) S.code aa S.builtins
structure AD(st d rd c1 a c2 oc cc:au)(bs:I J)(k:J)(h:cf)(fd:rR)(sl:iO (bg aB))(vs:I aB)(nn:J):Prop where
 rd:h.get? rd=D ⟨.type "function",aa,.func fd,sl⟩
 R:I_ fd c1 c2 cc
 q:fd.qualname="_law_stream.<locals>._law_read"
 c1:h.IsCell c1 (D (.ref a))
 a:∃t n,h.get? a=D (lo [.int (k:aS) t] n)
 c2:h.IsCell c2 (D (.ref oc))
 oc:h.get? oc=D (lo vs nn)
 vs:kC vs bs
 cd:h.CodeRec fd.code fd.qualname
section
variable{st:au}
theorem acR(o:gp (wU st x O y a g n p bs k) e v):∃S L z X,AD st x O y a g n p bs k e S L z X:=by
 refine cps λt f=>?_;refine ai (o.dY _ (d9 2 C)) λE R d=>?_;obtain⟨S,L,rfl,i,q⟩:=d;refine ai (o.dY _ (d9 4 C)) λE H d=>?_;obtain⟨A,u,rfl⟩:=d;refine ai (o.dY _ (d9 6 C)) λE j d=>?_;obtain⟨z,X,rfl,b⟩:=d;refine ai (o.dY _ (d9 7 C)) λP G d=>?_;refine d5 (d) λs l w h=>?_;apply f;exact⟨S,L,z,X,R,i,q,o.dY _ (d9 3 C),(cI A u H),o.dY _ (d9 5 C),j,b,p,P,s,l,i.code,G,w,q▸h⟩
end
structure r5(en:c4)(c1 c2:au):Prop where
 k0:en.kindOf "size"=D .local
 k1:en.kindOf "octets"=D .free
 k2:en.kindOf "at"=D .free
 l1:en.cells.lookup ("octets":af)=D c2
 l2:en.cells.lookup ("at":af)=D c1
theorem r5.n1(H:r5 S y g):S.kindOf "octets"≠D .local:=λq=>nc nG (bj (ae H.k1.symm q)) C
theorem r5.n2(H:r5 S y g):S.kindOf "at"≠D .local:=λq=>nomatch ae H.k2.symm q
theorem r5.oR(H:r5 S y g){P:Prop}(j:xR[i]?=D x)(z:S.kindOf x≠D .local)(l:S.cells.lookup x=D b)(w:i=1->b=g->P)(v:i=2->b=y->P):P:=
 match i,j with
 |0,j=>bA H.k0 (bj j▸z)
 |1,j=>w C (bj ((bj j▸l).symm.trans H.l1))
 |2,j=>v C (bj ((bj j▸l).symm.trans H.l2))
 |_+3,j=>aV C j
section
variable{B:bD Ob}{s:aU}{st:au}{n:J}
theorem acH(r:Ready B u s)(aC:gp (wU st cu cA y a g v cg aH ak) s.heap fp)(m:∀b∈fp,u b=aa/\B.h₀.get? b=aa/\b∉B.tabs)(G:AD st cu cA y a g v cg aH ak s.heap cQ dO aK aq)(H:r5 L y g)(p:s.heap.get? L.locals=aa)
  (bl:aL.Ns L.locals aN)(cB:aN "size"=D (.int n t))(h:bF s.heap aL):
  aW B cL ⟨uo B.tabs a s.heap,[],k7 u v (lo aK aq),[]⟩ (k7 u v (lo aK aq)) L xR 1 [.t (.int n),.t (.list (nT aH)),.own [.int ak]] aN (λi=>if i=2 then [a]else []) aL:=by
 have ad:=aC.ad.symm;refine cps λcV bR=>?_;subst ad;have Q:=aC.nd;have T:=m y (d9 3 C);have O:=m a (d9 4 C);have R:=m g (d9 5 C);have a_:y≠a:=qm Q 3 4 C C C;have ao:g≠a:=qm Q 5 4 C C C;have bf:g≠y:=qm Q 5 3 C C C;refine ai G.c1 λbx c bz=>ai G.c2 λbC ah bE=>jL G.a λbH bP aE=>?_;have aF:∀b o,k7 u v _ b=D o->s.heap.get? b=D o:=λb o e=>qS e (λq w=>q▸w▸G.oc) (r.bJ b o);have F:∀{i b},b∈(if i=2 then [a]else [])->i=2/\b=a:=λ{i b}f=>by
  split at f
  .exact⟨‹_›,cO.mp f⟩
  .exact bA (f) dR
 apply bR;exact{
     len:=C
     base:=λb o e=>h b o (r.base b o e)
     kept:=λb o e=>h b o (Lz e)
     bJ:=λb o e=>h b o (aF b o e)
     ns:=bl
     nL:=⟨XC p,(iV λx e=>aV p (aF _ x e))⟩
     f_:=λb o e=>uq (r.base b o e) (λq=>aV (r.i_ b q) e) (eZ O.2.1 e)
     vars:=λi x cZ j X=>match i,j with
      |0,j=>bj j▸bj X▸⟨_,.inl ⟨H.k0,C⟩,C,_,cB,.int _ _⟩
      |1,j=>bj j▸bj X▸⟨_,.inr ⟨.inr ⟨H.k1,C⟩,g,H.l1,bC,h _ _ ah,bE⟩,C,_,C,.list qR G.vs.qd⟩
      |2,j=>bj j▸bj X▸⟨_,.inr ⟨.inr ⟨H.k2,C⟩,y,H.l2,bx,h _ _ c,bz⟩,a,[.int ak bH],bP,C,h _ _ aE,.cons (.int _ _) .nil,C⟩
      |_+3,j=>aV C j
     own:=λi x S A j z l=>H.oR j z l (λq E=>bA (q▸A) (i3 1)) λq E=>bA (q▸A) (RT (az C))
     jw:=λi x S A j l z=>H.oR j z l (λE q=>⟨_,q▸uq ah R.2.2 ao⟩) λE q=>⟨_,q▸uq c T.2.2 a_⟩
     cell:=λi x S j z l=>H.oR j z l (λE q=>q▸⟨eZ p ah,(qT (qm Q 5 6 C C C) R.1)⟩) λE q=>q▸⟨eZ p c,(qT (qm Q 3 6 C C C) T.1)⟩
     qM:=λi x A j=>match i,j,A with
      |1,j,_=>bj j▸H.n1
      |2,j,_=>bj j▸H.n2
      |_+3,j,_=>aV C j
     inj:=λi d x dK S j aP bU aT b_ aX=>H.oR j bU b_ (λe q=>H.oR aP aT aX (λaj E=>ae e aj.symm) λE w=>bA (ae q.symm w) bf) λe q=>H.oR aP aT aX (λE w=>bA (ae w.symm q) bf) λaj E=>ae e aj.symm
     nodup:=λi d x A bY=>qn (by decide) A bY
     fp:=λi E b f=>(F f).2.symm▸(k8 XB (qT (qm Q 4 6 C C C) O.1) (eZ p aE) (λd x j z l=>H.oR j z l (λE q=>ao q.symm) λE q=>a_ q.symm))
     inv:=bD.uC (yr (m v (d9 6 C)).1) r.inv λP E o e=>h P o e
     tab:=λP k=>(k9 (XD k) (qT (λq=>(m v (d9 6 C)).2.2 (q▸k)) (r.nk P k)) (λq=>aV p (ago (q▸B.live r.inv P k))) (λd x j z l=>H.oR j z l (λE q=>R.2.2 (q▸k)) λE q=>T.2.2 (q▸k)) (λi E q=>O.2.2 ((F q).2▸k)))
     dJ:=λb f=>bA (f) dR
     new:=λb o e=>.inl e
     lock:=λdB cF=>bA (cF) dR
     apart:=λi d E E cH b f bh=>cH (ae (F f).1 (F bh).1.symm)}
theorem abA(G:AD st d O y a g oc p bs k s.heap S h z X):r5 (y_ S L O) y g:=by
 have k:∀{x q},(ef uZ).names.lookup x=q->(y_ S L O).kindOf x=q:=((aA (λc:je=>c.names.lookup _) G.R.scope).trans);have l:∀{x q},([(("octets"),g),(("at"),y)]:I (af×au)).lookup x=q->(y_ S L O).cells.lookup x=q:=((aA _ G.R.nP).trans);exact⟨k (C),k (C),k (C),l C,l C⟩
theorem abK{y:Ly Ob}(RM:dW A (mm+1))(r:Ready y.B fz s)(ob:gp (wU st d rd c1 a c2 oc cc bs k) s.heap fp)(qW:∀b∈fp,fz b=aa/\y.B.h₀.get? b=aa/\b∉y.B.tabs)(X:AD st d rd c1 a c2 oc cc bs k s.heap fd sl vs nn)
  (hb:∀i∈bs,i<256)(hk:k+n<=U bs)(hl:U bs<=1000)
  (h:∀s' t' eT,bQ s s'->(∀b,b∉fp->b∉y.B.tabs->∀o,s.heap.get? b=D o->s'.heap.get? b=D o)->y.B.inv eT s'.heap->Le fz eT->Le eT s'.heap.get?->(∀b o,eT b=D o->fz b=D o\/s.heap.get? b=aa)->gp (wU st d rd c1 a c2 oc cc bs (k+n)) s'.heap fp->R (.ok (.ret (.bytes (lR ((bs.drop k).take n)) t'))) s'):
  codeAny (aI y.Z y.w) A (.call (.ref rd) ⟨[.int n t],[]⟩) R s:=by
 have lX:=X.R.scope;apply agK RM.d X.rd C (lX▸C) (lX▸C) X.R.body X.cd;have Xs:bindArgs fd ⟨[Sh n t],[]⟩=pure [(("size":af),Sh n t)]:=ae (qL X.R.params X.R.UU _) C;apply mj (Xs);refine bN (agS (λx hx=>?_) (λx hx=>?_) (λXT LF Fb=>⟨(y.G.nolimit r.base).fresh _ Fb,codeAny_func ?_⟩) (lX▸C))
 .rw [lX]at hx
  revert x;decide+kernel
 .rw [lX,cO.mp hx];show(ef uZ).names.lookup ("size":af)=_;decide+kernel
 generalize hL:s.heap.objs.size=L at LF Fb;have Lu:=hL▸gS s;have E:=abA (L:=L) X;refine(abD (c:=y.c (A.deeper (y_ fd L rd)) ⟨0,0⟩ (y_ fd L rd) mm RM.deeper) (jM (C) ((aA Scope.names lX).trans C)) hb hk hl).1 _ _ _ _ _ C ⟨⟨(aA Scope.kind lX).trans C,X.R.W8,X.R.TV⟩,_,_,(acH r ob qW X E Lu LF C λb o e=>Fb.extBut b o (eZ Lu e) (eH _ e))⟩ λs' f' f lv' fl P q l S' d=>?_;refine cps λEs t7=>?_;obtain⟨t',rfl,rfl⟩:=P;obtain⟨v,rfl,U7⟩:=d.rt;obtain rfl:=U7.inv;apply t7;refine cps λEs t7=>?_;obtain⟨_,m',WS,S'⟩:=S';obtain⟨ov,v7,a',vs',n',XK,Xp,dv,Xz⟩:=S'.vars 2 "at" _ C C;have ad:=ob.ad.symm;subst ad;refine ai (X.c1) λo1 g1 d1=>?_;have g1:=S'.kept _ _ (uq g1 (qW c1 (d9 3 C)).2.2 (qm ob.nd 3 4 C C C));have XM:ov=D (.ref a):=by
  rcases v7 with⟨q,_⟩|⟨_,c',XG,o',XJ,Xy⟩
  .exact bA q E.n2
  .cases bj (ae E.l2.symm XG);cases bj (ae g1.symm XJ);exact(afs (ae d1.symm Xy)).symm
 have ea:=Sj (bj (ae XM.symm XK));subst ea;obtain⟨v,rfl,dw⟩:=dv.ja;obtain⟨t0,rfl⟩:=qb dw;have K3:=qW oc (d9 6 C);have nf:∀{b o},(if b=oc then aa else f' b)=D o->b≠oc/\f' b=D o:=λ{b o}e=>by
  by_cases q:b=oc
  .rw [aM q]at e;exact aV C (e)
  .rw [aJ q]at e;exact⟨q,e⟩
 refine ai (ob.dY _ (d9 6 C)) λo6 g6 p6=>?_;apply t7;refine h s' t' (λb=>if b=oc then aa else f' b) (bQ.trans (cI XT _ C) q) (λb q1 q2 o e=>S'.kept b o (uq e q2 λq=>q1 (q▸d9 4 C))) (y.B.uB S'.inv (λb o w hw e=>ae (aJ λq=>?_) e) λP dX o e=>e) (λb o e=>(aJ (eZ K3.1 e)).trans (l _ _ (ug (eZ K3.1 e) e))) (λb o e=>S'.bJ _ _ (nf e).2) (λb o e=>bT (nf e) λn e=>(S'.new b o e).elim (λq=>.inl ((aJ n).symm.trans q)) λq=>.inr (iV λo' q'=>aV q (uq q' (S'.nk e) λr=>aV ((S'.fp 2 (az C) a (Xz▸.head _)).2.1) (r▸e)))) (ob.put 4 C (λb hb n o e=>S'.kept b o (uq e (qW b hb).2.2 n)) Xp (cI t0 n' C));subst q;have:=bj ((l _ _ qR).symm.trans e);subst this;exact nomatch hw
end
noncomputable abbrev Cx.y(c:Cx q):Ly q:=⟨c.B,c.Z,c.w,c.mg,c.mb,c.G,c.bi⟩
section
variable{K:J}{st:au}{n:J}
theorem abJ(p:bK c.B c.Z c.w cV)(aH:1<=c.n)(bx:Fm c.V h K cg)(i:J)(j:h[i]?=D x)(X:y[i]?=D (.obj (.bB st bs k)))(aN:EP c h K y e (.int n))(L:dP e=Y)(bR:(A.endLine==pos.line)=Y)
  (f:∀i∈bs,i<256)(B:k+n<=U bs)(O:U bs<=1000)(F:SR c.B c.ρ hB g c.V h K y s.heap)
  (aK:∀t P eT,bQ s t->Le g eT->SR c.B c.ρ hB eT c.V h K (y.set i (.obj (.bB st bs (k+n)))) t.heap->Q (.bytes (lR ((bs.drop k).take n)) P) t):
  aQ (aI c.Z c.w) c.A (eval (.Call (.Attribute (.Name x dB) "read" A) [e] [] pos) c.V) Q E s:=by
 refine cps λdX v=>?_;obtain⟨w,m,r,l⟩:=F;obtain⟨bU,z,dK,rfl,a⟩:=l.vars i x _ j X;apply v;rw [p.ob]at a;refine cps λcB R=>?_;obtain⟨ah,aj,ak,ao,aq,aC,aE,aF,u⟩:=(a);subst ah;refine Kw (acR u) λS aL cF cZ G=>?_;apply R;refine aG (eO (eL w l.ns z (aG (oE ?_))) (bx.eY j))
 delta methodCall
 rw [yM (kI [e] (λbY T=>by exact(cO.mp T)▸(g7 L))) (az C)];refine aG (gH (cps λdX v=>(ai (u.dY _ gC) λcA aT aX=>?_)));obtain⟨cH,cL,rfl⟩:=aX;refine ai (u.dY _ (fF _ gC)) λcQ a_ bf=>v ?_;refine abH aT (bf _ _ a_) (aM C) C (aG (iN (MT bR) (xU (fd:=S) (o:=⟨.type "function",aa,.func S,aL⟩) ?_)));rw [(mS (g7 L))];refine tH (pS (aN.1 hB g {s with toks:=s.toks+1} _ _ ⟨w,m,r,l⟩ λbh b_ bl=>(bG (qb bl) λcu aP=>?_)));subst aP;refine lK (⟨⟨G.rd,C⟩,?_⟩);have qW:=l.uf (j4 j);show aQ _ c.A _ Q E {s with toks:=bh};exact i4 (abK (y:=c.y) (c.R.less aH) (aW.ready l) u qW G f B O λt P eT bz bC bE H bP q bH=>(aK t P eT (bQ.trans (cI _ _ C) bz) H ⟨w,m,_,l.qw j bC bE H bP (λb o e=>(q b o e).imp id .inl) z ⟨_,C,(p.ob.symm▸((⟨C,aj,ak,ao,aq,aC,aE,aF,bH⟩:yf st bs (k+n) (.ref st) t.heap (r i))))⟩ λb f=>⟨.inl f,iV λo e=>(q b o e).elim (aV (qW b f).1) λd=>cY (aA mC d) (u.live b f)⟩⟩))
theorem QM(ek:bK c.B c.Z c.w ak)(z:1<=c.n)(F:Fm c.V h K aC)(i j:J)(H:h[i]?=D x)(X:y[i]?=D (.obj (.bB st bs k)))(Q:EP c h K y e (.int n))(L:dP e=Y)(a:(apos.endLine==u.line)=Y)
  (hb:∀i∈bs,i<256)(B:k+n<=U bs)(m:U bs<=1000)(g:h[j]?=D E)(v:j<K)(s:gY (.Call (.Attribute (.Name x o) "read" apos) [e] [] u) (D (.Name E b)) p.line c.V=pure ay):
  SP c h K y (.Assign [.Name E b] (.Call (.Attribute (.Name x o) "read" apos) [e] [] u) p) λq d=>∃t,q=(y.set i (.obj (.bB st bs (k+n)))).set j (.t (.bW (.bytes (lR ((bs.drop k).take n)) t)))/\d=.next:=by
 constructor;intro aq aE aL aN ao r S R;refine kr (abJ ek z F i H X Q L a hb B m S λaK P l T O A=>?_) s;obtain⟨w,aF,aH,A⟩:=A;exact gh (av:=.t _) w r A g v (F.loc g v) ⟨C,_,C,.bW _⟩ .nil λah G aj f=>R ah l .next _ .next (aR P C C) (T.trans aj) O ⟨w,G,_,f⟩ dj
end
structure Inv(tabs:I au)where
 eJ:Fz->cf->Prop
 live:∀{f h},eJ f h->∀P∈tabs,(h.get? P).isSome=Y
 of:∀{f f' h h'},eJ f h->Aw f f'->(∀P∈tabs,∀o,h.get? P=D o->h'.get? P=D o)->eJ f' h'
noncomputable def bD.re(B:bD q)(mO:Inv B.tabs):bD q:={B with inv:=mO.eJ,live:=mO.live,uB:=mO.of}
theorem aW.re(S:aW B ρ hB g G n k y m r h)(i:mO.eJ g h):aW (B.re mO) ρ hB g G n k y m r h:=
 {S with vars:=λi x E j d=>match S.vars i x E j d with|⟨Q,a,e⟩=>⟨Q,a,e⟩,inv:=i}
theorem fe.re(G:fe B O A):fe (B.re mO) O A:=⟨G.g,G.b,G.nolimit⟩
theorem ZT(e:q.defaults=[])(b:q.kw_defaults=[])(a:annTrees q aa G=[])
  (h:aQ M L (makeFunction R (qualnameIn G R R) q (.stmts i) s G [] [] [] u u.line) (λv t=>aQ M L (DG G R v) (λE k=>Q .next k) H t) H l):
  aQ M L (exec (.FunctionDef R q i [] aa [] s aa R u) G) Q H l:=by
 simp only [exec_def];refine aG (oE (aG (gH ?_)));rw [defaultsOf_eq,e,b,a];exact aG (bN (aG (gH (bN (gH (aG (bN (kT h (λv t O=>aG (oE (aG (IV (kT O (λE E m=>bN m) λE E x=>x))))) λE E x=>x))))))))
noncomputable def aai:I (af×fc):=[("octets",.cell),("_law_read",.local),("stream",.local),("at",.cell)]
noncomputable def u5:I af:=["octets","_law_read","stream","at"]
theorem adf(a:TabAt h P S)(b:TabAt h P e):S=e:=by
 have:=a.1.symm.trans b.1;injection this with this
 injection this with _ _ this _
 exact(Data.fields.inj this)
section
variable{B:bD Ob}{st:au}
theorem acQ(S:aW B b_ x L G u5 4 l ao aF h)(R:G.kindOf "octets"≠D .local)(m:G.kindOf "at"≠D .local)(T:G.cells.lookup ("octets":af)=D g)(e:G.cells.lookup ("at":af)=D y)(bl:l[0]?=D (.t (.bW (.ref bP))))(aP:l[3]?=D (.own [.int 0]))
  (F:e9 B x L G u5 cF st)(E:h.get? st=D ⟨.type "function",cZ,.func cV,cu⟩)(i:L O=D cH)(w:L p=D cA)(aX:O≠p)(f:h.get? n=aa)(bE:x.b O=aa)(bH:O∉B.tabs)(bC:x.b p=aa)(bR:p∉B.tabs):
  ∃a t u,h.get? a=D (lo [.int 0 t] u)/\h.IsCell y (D (.ref a))/\h.IsCell g (D (.ref bP))/\(a≠st/\y≠st/\g≠st)/\[st,n,O,y,a,g,p].Nodup/\∀k∈[st,n,O,y,a,g,p],x.b k=aa/\k∉B.tabs:=by
 refine cps λbY aq=>?_;obtain⟨cL,aC,a,cB,aE,rfl,s,aH,aj⟩:=S.vars 3 "at" _ C aP;obtain⟨cg,aK,_,v,rfl,aL⟩:=S.vars 0 "octets" _ C bl;refine ai aH.ja λcQ j aN=>?_;subst j;refine bG (qb aN) λt j=>?_;subst j;have X:∀{b:af}{v:aB}{c:au},G.kindOf b≠D .local->G.cells.lookup b=D c->eE G ao h b _->h.IsCell c (D v):=λu aT a=>a.elim (λq=>bA q.1 u) λ⟨_,_,ak,bf⟩=>bj (ae aT.symm ak)▸bf;refine ai (X m e aC) λbh P bx=>ai (X R T aK) λbz d a_=>aq ?_;have Q:a∈aF 3:=aj▸.head _;have z:=S.fp 3 (az C) a Q;have o:=S.cell 3 "at" y C m e;have H:=S.cell 0 "octets" g C R T;have r:a≠st:=λq=>nc agy (aA RX (bj (ae s.symm (ae (aA h.get? q) E)))) C;have A:y≠st:=λq=>F.cell 3 "at" C m (q▸e);have ah:g≠st:=λq=>F.cell 0 "octets" C R (q▸T);refine(Bt a t aE s (aR bh P bx) (aR bz d ((aL.inv)▸a_)) (dI r A ah) ?_ ?_)
 .exact .cons (bO (eZ f E) (bO (eZ F.fz i).symm (bO A.symm (bO r.symm (bO ah.symm (bO (eZ F.fz w).symm eK))))))
   (.cons (bO (eZ f (S.bJ _ _ i)).symm (bO (eZ f P).symm (bO (eZ f s).symm (bO (eZ f d).symm (bO (eZ f (S.bJ _ _ w)).symm eK)))))
   (.cons (bO (eZ o.2 i) (bO (eZ z.2.1 i) (bO (eZ H.2 i) (bO aX eK))))
   (.cons (bO (λq=>z.2.2.2 3 "at" C m (q▸e)) (bO (λq=>bA (S.inj 0 3 _ _ y C C R m (q▸T) e) nofun) (bO (eZ o.2 w).symm eK)))
   (.cons (bO (λq=>z.2.2.2 0 "octets" C R (q▸T)) (bO (eZ z.2.1 w).symm eK))
   (.cons (bO (eZ H.2 w).symm eK) (.cons eK .nil))))))
 .exact bO ⟨F.hb,F.tab⟩ (bO ⟨iV λb bU=>aV f (S.kept _ _ bU),λq=>aV f (ago (B.live S.inv _ q))⟩ (bO ⟨bE,bH⟩ (bO ⟨S.own 3 "at" _ (az C) C m e,λq=>(S.tab _ q).2.2.2.1 3 "at" C m e⟩
   (bO ⟨z.1,λq=>(S.tab _ q).2.2.2.2 3 (az C) Q⟩ (bO ⟨S.own 0 "octets" _ (az C) C R T,λq=>(S.tab _ q).2.2.2.1 0 "octets" C R T⟩ (bO ⟨bC,bR⟩ eK))))))
end
section
variable{y:Ly Ob}{V:c4}
theorem acV(RM:dW A mm)(fi:∀{f f' h},mO.eJ f h->mO.eJ f' h)(K:jH (y.B.re mO) y.mg cd P [])(hc:V.code=.ref cd)(hq:V.qual="_law_stream.<locals>.")(F:Fm V u5 4 aai)(S:SR y.B ρ hB fz V u5 4 [.t (.bW (.ref oc)),.un,.un,.un] s.heap)(yy:hB.lk=[])
  (LG:hB.b oc=D (lo vs nn))(hi:kC vs bs)(emp:∀{f h},y.B.inv f h->TabAt h P #[]/\mO.eJ f h)
  (hQ:∀s' st d rd c1 a c2 cc,bQ s s'->(∀b o,hB.b b=D o->s'.heap.get? b=D o)->mO.eJ fz s'.heap->r7 (wU st d rd c1 a c2 oc cc bs 0) s'.heap->[st,d,rd,c1,a,c2,cc].Nodup->(∀b∈[st,d,rd,c1,a,c2,cc],hB.b b=aa/\b∉y.B.tabs)->Q (.ret (.ref st)) s'):
  aQ (aI y.Z y.w) A (execs (dF (bB 21)) V) Q E s:=by
 refine gN ((ve (c:=y.c A ρ V mm RM) F 3 C (by decide) (rz (zr (zi 0) cU C) C) C).1 hB fz s _ _ yy S λs₁ eT f yZ l₁ lP d=>?_);obtain rfl:=d.nx;refine cps λdX kk=>?_;obtain⟨eo,m₁,ag7,lP⟩:=lP;refine bT (emp lP.inv) λht hV=>?_;have lP:=lP.re hV;have k0:=F.kn 0 C nofun;have k3:=F.kn 3 C nofun;have n0:V.kindOf "octets"≠D .local:=λq=>nc nG (bj (ae k0.symm q)) C;have n3:V.kindOf "at"≠D .local:=λq=>nc nG (bj (ae k3.symm q)) C;have oR:∀{x:af}{ov:bg aB},V.kindOf x≠D .local->eE V m₁ s₁.heap x ov->∃c,V.cells.lookup x=D c:=λn a=>a.elim (λq=>bA q.1 n) λ⟨_,c,hl,_⟩=>⟨c,hl⟩;refine bG (match lP.vars 0 "octets" _ C C with|⟨_,v7,_⟩=>oR n0 v7) λc2 E_=>bG (match lP.vars 3 "at" _ C C with|⟨_,v7,_⟩=>oR n3 v7) λc1 E9=>kk ?_;have Bp:closureFor (ef uZ) V=pure [(("octets":af),c2),(("at"),c1)]:=by
  refine ae (Eo (λp hp hf=>?_)) ?_
  .have:p.1="octets"\/p.1="at":=by revert p;decide+kernel
   exact this.elim (λq=>q.symm▸E_.symm▸C) λq=>q.symm▸E9.symm▸C
  .show pure [(("octets":af),(V.cells.lookup ("octets":af)).getD 0),(("at":af),(V.cells.lookup ("at":af)).getD 0)]=_;rw [E9,E_];rfl
 have XO:qualnameIn V "_law_read" "_law_read"="_law_stream.<locals>._law_read":=by
  unfold qualnameIn;rw [F.kn 1 C nofun,hq];decide+kernel
 refine gN (ZT C C C (XO.symm▸MS (fe.re y.G) K (λx hx=>nomatch hx) hc Bp eo lP λcv ctv doc pm ag2 ag_ rd qU y9 l₂ AE Xg K8 Yz Xx Nj=>(U8 (Xx.nw λps XN=>by rw [adf XN ht];rfl) λcc oC vC tC Vg Ww BX E1 XR qC=>?_)));have DN:=lP.free K8;have I6:=lP.free Ww;have WU:qU rd=aa:=iV λo e=>(Nj rd o e).elim (λq=>aV DN.fz q) λq=>q.2 C;have AF:=lP.grow (g4:=k7 qU rd _) Yz (fi AE.inv) (l₂.trans (yr WU)) λb o e=>qS e (λq q'=>q▸q'▸.inr ⟨K8,Xg⟩) λe=>(Nj b o e).elim .inl λq=>.inr ⟨q.1,AE.bJ _ _ e⟩;refine gh (av:=.t (.bW (.ref rd))) (fp:=[]) eo yy AF (i:=1) C (by decide) (.inl (F.kn 1 C nofun)) ⟨C,_,C,.bW _⟩ .nil λag9 ag6 abv AF=>gN (kr (F0 (fe.re y.G) K (λx hx=>nomatch hx) hc (AX λx hx=>bA (hx) dR) C eo AF λcv' agV agW pm' ag3 ag' st WY abw wh Jf Xj fst ag4 _ aak=>?_) C);have I7:=AF.free fst;have rW:e9 _ hB WY V u5 _ st:={I7 with fz:=iV λo e=>(aak st o e).elim (λq=>aV I7.fz q) λq=>q.2 C};refine agT (F.kn 2 C nofun) Jf.ns (λLI XI LH=>?_) (eo.kind.symm▸C);have oO:=Jf.OE yy (i:=2) (x:="stream") C (F.kn 2 C nofun) XI LH (av:=.t (.bW (.ref st))) (fp:=[]) ⟨C,_,C,.bW _⟩ .nil;have Lr:=ae (LH.2 st rW.loc) Xj;refine cps λdX kk=>?_;obtain⟨ov1,Xq,_,v1,rfl,U5⟩:=oO.vars 1 "_law_read" _ C C;obtain⟨ov2,Xr,_,v2,rfl,U6⟩:=oO.vars 2 "stream" _ C C;apply kk;have e1:=U5.inv;have e2:=U6.inv;subst e1 e2;refine cps λdX kk=>Ku (acQ oO n0 n3 E_ E9 C C rW Lr (wh _ _ qR) (wh _ _ (ug BX E1)) BX.symm (gS {s with heap:=LI}) DN.hb DN.tab I6.hb I6.tab) λa t n ga w1 w2 VJ nd all=>?_;refine gv (VJ) λsa s1 s2=>?_;refine kk (gN (xW (eO (eL eo oO.ns Xq (eO (eL eo oO.ns Xr (acL Lr λXU aha KY Xl aal=>(gN (IU (eO (IY eo.kind (F.kn 2 C nofun) (Ca oO.ns (KY _ · rW.loc.symm)) (aM C) ?_) (C)))))) (C))) (C)) C));have kp:∀{b o},LI.get? b=D o->b≠st->XU.get? b=D o:=λe n=>KY _ _ n e
 exact cps λdX kk=>jz aal λoD VK VC gD rD=>ai w1 λo1 g1 d1=>ai w2 λo2 g2 d2=>kk (hQ _ st _ rd c1 a c2 cc (yZ.trans (y9.trans (abv.trans (abw.trans (cI _ _ C))))) (λb o e=>kp (oO.kept b o e) (eZ rW.hb e)) (fi (mO.of oO.inv (λ_ _ _ _ e=>e) λP hP o e=>kp e λq=>rW.tab (q▸hP)))
  (bO (aR _ Xl ⟨_,_,C⟩) (bO (aR oD gD (λh b e=>(l0 oD VK VC e rD))) (bO (aR _ (kp (oO.bJ _ _ (wh _ _ qR)) (eZ rW.fz (wh _ _ qR))) ⟨_,_,C,⟨C,C,C,C,C,C,Vg,C,C⟩,C⟩) (bO (aR _ (kp g1 s1) d1) (bO (aR _ (kp ga sa) ⟨t,n,C⟩) (bO (aR _ (kp g2 s2) d2)
   (bO (aR _ (kp (oO.kept _ _ LG) (eZ rW.hb LG)) ⟨vs,nn,C,hi⟩) (bO (aR _ (kp (oO.bJ _ _ (wh _ _ (ug BX E1))) (eZ rW.fz (wh _ _ (ug BX E1)))) ⟨vC,tC,XR,qC⟩) eK)))))))) nd all)
end
section
variable{c:Cx Ob}
end
section
open PySem.Builtin
theorem JE(a b:aB):argsOk "bytes.decode" ⟨[a,b],[]⟩:=by
 kernel_rfl
noncomputable abbrev qZ:af:=⟨[108,97,116,105,110,45,49].toArray⟩
theorem abU{id:String}:_codecs.decodeRoad id b qZ aa []=_codecs.runDecoder id _codecs.latin1Decoder aa Y b 0 []>>=λr=>mkStr ⟨r.1⟩:=C
theorem Zy(P:∀id,_codecs.runDecoder id _codecs.latin1Decoder aa Y b 0 []=pure (x.cps,u)):
  Meets («_codecs.decode.text» ⟨[.bytes b A,.str qZ G,.none,.str d c],[]⟩) (λE i s=>x.length<=sizeLine/\i (.ok (.ret (.str x s.toks))) {s with toks:=s.toks+1}):=by
 refine .of_wp λa w L i s h=>bT h λm e=>?_;show aQ _ _ (Bytes.bytesLike _ _>>=λr=>_) _ _ s;refine aG (iN KBd.like_eq (aG (iN KBd.held_eq ?_)));simp only [abU,P];exact aG (aG (bN (tM (bN (aR _ C e)) m)))
theorem UL:«bytes.decode» ⟨[.bytes (c::b).toArray A,.str qZ y],[]⟩=mkStr (agG "utf-8")>>=λE=>mkStr qZ>>=λe=>mkStr (agG "bytes.decode")>>=λd=>
  call (.builtin "_codecs.decode.text") [.bytes (c::b).toArray A,e,.none,d]>>=λv=>ret v:=by kernel_rfl
theorem Zx(e:∀id,_codecs.runDecoder id _codecs.latin1Decoder aa Y (c::b).toArray 0 []=pure (x.cps,u)):
  Meets («bytes.decode» ⟨[.bytes (c::b).toArray A,.str qZ y],[]⟩) (λE i s=>x.length<=sizeLine/\∀P k,i (.ok (.ret (.str x P))) {s with toks:=k}):=by
 exact .of_wp λl w L i s a=>bT a λm h=>UL▸aG (tM (aG (tM (aG (tM (aG (call_function_meets KBd.kind_text KBd.plain_text KBd.entry_text (KBd.args_text _ _ _ _) (Zy e) ⟨m,bN (aR _ C (h _ _))⟩)) (dN _ _))) (dN _ _))) (dN _ _))
theorem abZ(a:UInt8)(id:String):_codecs.runDecoder id _codecs.latin1Decoder aa Y [a].toArray 0 []=pure (#[a.toNat],1):=by kernel_rfl
theorem ab0(a b:UInt8)(id:String):_codecs.runDecoder id _codecs.latin1Decoder aa Y [a,b].toArray 0 []=pure (#[a.toNat,b.toNat],2):=by kernel_rfl
theorem ab1(a b c:UInt8)(id:String):_codecs.runDecoder id _codecs.latin1Decoder aa Y [a,b,c].toArray 0 []=pure (#[a.toNat,b.toNat,c.toNat],3):=by kernel_rfl
theorem ab2(a b c d:UInt8)(id:String):_codecs.runDecoder id _codecs.latin1Decoder aa Y [a,b,c,d].toArray 0 []=pure (#[a.toNat,b.toNat,c.toNat,d.toNat],4):=by kernel_rfl
theorem UO(P:∀id,_codecs.runDecoder id _codecs.latin1Decoder aa Y (c::b).toArray 0 []=pure (x.cps,u))(m:x.length<=16777216)(e:∀h k,Q (.str x h) {s with toks:=k}):
  aQ (aI a w) L (call (.builtin "bytes.decode") [.bytes (c::b).toArray A,.str qZ y]) Q H s:=
 DA Rg (IT _ _ _) afv (JE _ _) (Zx P) ⟨by assumption,e⟩
theorem u8{i:J}(h:i<256):(i:aS).toNat.toUInt8.toNat=i:=Nat.mod_eq_of_lt h
noncomputable def uL(l:I J):I UInt8:=l.map λi:J=>(i:aS).toNat.toUInt8
theorem Ek(l:I J):lR l=(uL l).toArray:=aA _ dH
theorem ab7(l:I J)(h:∀i∈l,i<256)(w:1<=U l)(R:U l<=3)(id:String):_codecs.runDecoder id _codecs.latin1Decoder aa Y (uL l).toArray 0 []=pure (l.toArray,U l):=by
 have H:∀u,u<3->U l=u+1->_codecs.runDecoder id _codecs.latin1Decoder aa Y (uL l).toArray 0 []=pure (l.toArray,U l):=MM
  (λe=>F7 (P:=λl=>(∀i∈l,i<256)->_codecs.runDecoder id _codecs.latin1Decoder aa Y (uL l).toArray 0 []=pure (l.toArray,U l)) (λa h=>by have:=abZ ((a:aS).toNat.toUInt8) id;rw [u8 (h a (d9 0 C))]at this;exact this) l e h)
  (λe=>BH (P:=λl=>(∀i∈l,i<256)->_codecs.runDecoder id _codecs.latin1Decoder aa Y (uL l).toArray 0 []=pure (l.toArray,U l)) (λa b h=>by have:=ab0 ((a:aS).toNat.toUInt8) ((b:aS).toNat.toUInt8) id;rw [u8 (h a (d9 0 C)),u8 (h b (d9 1 C))]at this;exact this) l e h)
  (λe=>F8 (P:=λl=>(∀i∈l,i<256)->_codecs.runDecoder id _codecs.latin1Decoder aa Y (uL l).toArray 0 []=pure (l.toArray,U l)) (λa b c h=>by have:=ab1 ((a:aS).toNat.toUInt8) ((b:aS).toNat.toUInt8) ((c:aS).toNat.toUInt8) id;rw [u8 (h a (d9 0 C)),u8 (h b (d9 1 C)),u8 (h c (d9 2 C))]at this;exact this) l e h)
 exact H _ (kS (Nat.sub_le_sub_right R 1) (az C)) (tF w).symm
theorem ab6(l:I J)(h:∀i∈l,i<256)(w:1<=U l)(g:U l<=4)(id:String):_codecs.runDecoder id _codecs.latin1Decoder aa Y (uL l).toArray 0 []=pure (l.toArray,U l):=by
 rcases RN g with q|q
 .exact ab7 l h w (rL q) id
 .exact BI (P:=λl=>(∀i∈l,i<256)->_codecs.runDecoder id _codecs.latin1Decoder aa Y (uL l).toArray 0 []=pure (l.toArray,U l)) (λa b c d h=>by
   have:=ab2 ((a:aS).toNat.toUInt8) ((b:aS).toNat.toUInt8) ((c:aS).toNat.toUInt8) ((d:aS).toNat.toUInt8) id;simp only [u8 (h a (d9 0 C)),u8 (h b (d9 1 C)),u8 (h c (d9 2 C)),u8 (h d (d9 3 C))]at this
   exact this) l q h
theorem UN:«bytes.decode» ⟨[.bytes #[] A,.str qZ y],[]⟩=rule "bytes.decode.empty">>=λ_=>retStr Str.empty>>=λx=>pure x:=by kernel_rfl
theorem Zz:Meets («bytes.decode» ⟨[.bytes #[] A,.str qZ y],[]⟩) (λE i s=>∀P k,i (.ok (.ret (.str ⟨#[]⟩ P))) {s with toks:=k}):=.of_wp λm w L i s h=>UN▸aG (xY (aG (aG (tM (bN (bN (aR _ C (h _ _)))) (gF _)))))
theorem UP(h:∀P k,Q (.str ⟨#[]⟩ P) {s with toks:=k}):aQ (aI m w) L (call (.builtin "bytes.decode") [.bytes #[] A,.str qZ y]) Q H s:=
 DA Rg (IT _ _ _) afv (JE _ _) Zz h
variable{c:Cx O}
theorem aei(T:EE c n k y o P (.bW (.bytes (lR l) S)))(X:∀j∈l,j<256)(R:U l<=4)(f:attributeBase o "decode" c.V (eval o c.V)=eval o c.V)(E:(A.endLine==u.line)=Y):
  EE c n k y (.Call (.Attribute o "decode" A) [.Constant (.str "latin-1") x p] [] u) P (.str l):=by
 have m:EE c n k P (.Constant (.str "latin-1") x p) P _:=zs _ C;refine⟨KV f (l6 C) (eA C) E FB.plainAttrs_bytes Rg FB.type_bytes_decode T.1 (zr m cU C).1 (λg v b r d=>?_) λg v z d t=>?_⟩
 .obtain rfl:=d.inv;exact⟨IT _ _ _,λa e=>nc z7 e C⟩
 .obtain rfl:=d.inv;obtain⟨v,z,rfl,s,w⟩:=t.jx (P:=λq=>∃v G,q=v::G/\Den _ _ v _/\bu _ _ G _) λv G B H=>⟨v,G,C,B,H⟩;obtain rfl:=w.i9 C;obtain⟨O,rfl⟩:=jg s;refine PO.give λb Q L r h=>?_;have e:=Ek l;rw [e];clear e m
  revert X R
  cases l with
  |nil=>intro _ _;exact UP λi k=>h _ _ (.str _ _)
  |cons a l=>
   intro X R;exact UO (x:=⟨(a::l).toArray⟩) (ab6 _ X (ju (gF _)) R) (by exact aD R (az C)) λi k=>h _ _ (.str _ _)
theorem aej(w:EE c n k y o P (.bW (.bytes (lR [b]) A)))(f:b<256):EE c n k y (.Subscript o (.Constant (.int 0) u p) z) P (.int b):=by
 constructor;intro T g s Q H S R;refine xS (w.1 T g s _ _ S λa i m q h E O=>(zi 0).1 T i a _ _ E λX r v x B l F=>?_);obtain rfl:=O.inv;refine bG (qb F) λd j=>?_;subst j;refine vz (IT _ _ _) FB.slot_bytes_getitem.lookup ?_ (wV λ_ _ _ _ t=>nc (λe=>(xV e).2.2) t C);refine getItem_bytes (gE _) (by decide) (by simp [uL]) ?_;have e:=u8 f;exact e.symm▸R _ r _ ((q.trans x).trans (cI _ _ C)) (h.trans B) l (.int _ _)
theorem aek(F:Fm c.V n k a)(t:J)(O:a[t]?=D (("len":af),.globalImplicit))(h:EE c n k y e P (.bW (.bytes (lR l) A)))(m:U l<=1000)(L:dP e=Y):EE c n k y (.Call (.Name "len" p) [e] [] u) P (.int (U l)):=by
 refine bT (c.bi 0 "len" (.builtin "len") C) λq g=>⟨KT c.G (F.kn t O nofun) q g (F.kg t O) (l6 (by simp [L])) (zr h cU L).1 λi z b=>?_⟩;obtain⟨v,z,rfl,d,w⟩:=b.jx (P:=λj=>∃v G,j=v::G/\Den _ _ v _/\bu _ _ G _) λv G x H=>(gx (v) (G) (C) (x) (H));obtain rfl:=w.i9 C;obtain rfl:=d.inv;refine PO.give λs Q o r R=>?_;have e:(lR l).size=U l:=by rw [Ek];exact dg _
 exact len_bytes (by rw [e];exact aD m (az C)) (e.symm▸R _ _ (.int _ _))
theorem zbC(h:EE c n k y e P (.bW (.bytes (lR l) A)))(X:1<=U l)(m:U l<=1000)(a:∀x,isTrue e c.V x=do let v<-x;standAt e.pos;holding [v] (truthy v)):EC c n k y e P Y:=by
 constructor;intro T g s Q H S R;rw [a];refine aG (h.1 T g s _ _ S λj b t i o E d=>aG (oE (gH ?_)));obtain rfl:=d.inv;have e:(lR l).size=U l:=by rw [Ek];exact dg _
 apply truthy_bytes (by rw [e];exact aD m (az C));have:(((lR l).size:aS)!=0)=Y:=by rw [e];simp;intro q;rw [q]at X;contradiction
 exact this.symm▸R _ b (i.trans (cI _ _ C)) o E
end
def Ly.FO(H:Ly q)(e:J)(L:af)(o:q)(i:I T)(r:T)(X:q):Prop:=
 ∃a u S,H.mg L=D (.ref a)/\(∀{h},bF H.B.h₀ h->h.get? a=D u)/\u.data=.func S/\DH H.B H.Z H.w e (.ref a) o i r X
section
variable{y:Ly Ob}{k:J}{st:au}{bs:I J}
theorem AO(p:bK y.B y.Z y.w O)(a:y.B.ob.at_ (.bB st bs k) h e R)(b:y.B.ob.at_ (.bB st bs q) g i c):g=h:=by
 rw [p.ob]at a b;simp only [a.v,b.v]
theorem BO(k:y.aZ L i)(Q:ze (ef (bB i)) xs=Y):∃a o h code r,y.mg L=D (.ref a)/\jZ y.B a o (docDef L (gw (bB i)) (dF (bB i)) (ef (bB i)) h code r) (dF (bB i)) xs:=Kz k λa o h code r w v R g=>X0 a o h code r w ⟨v,R,g,C,C,l9 Q,C,C⟩
noncomputable def ZL:I (af×fc):=[("f",.local),("data",.local),("ValueError",.globalImplicit)]
noncomputable def Hx:I af:=["f","data"]
theorem ad8(p:bK y.B y.Z y.w O)(e:y.aZ "read_uint1" 3)(B:∀l∈bs,l<256)(X:U bs<=1000)(f:bs[k]?=D b):y.FO (u+2) "read_uint1" (.bB st bs k) [] (.int b) (.bB st bs (k+1)):=by
 refine A_ (BO (xs:=Hx) e C) λa o h code r w T=>oX a o _ w T.ho T.hd (e8.ob (r9 y.G T (eA C) (.plain λz X=>?_) (λP w v=>?_) λ{i}g H L x s=>?_))
 .exact bind1 (λa=>C) z X
 .refine bT P λn E=>?_;subst n;exact AO p w v
 .have F:Fm (di (docDef "read_uint1" (gw (bB 3)) (dF (bB 3)) (ef (bB 3)) h code r) H a) Hx (U Hx) ZL:=jM C C
  let c:=(y.up i g).c L x (di (docDef "read_uint1" (gw (bB 3)) (dF (bB 3)) (ef (bB 3)) h code r) H a) _ s
  have m:(bs.drop k).take 1=[b]:=by
   have:=cG.mp f;simp only [xF this.1,this.2];rfl
  refine zA (QM (c:=c) (p.up g) (gE _) F 0 1 C C (vf (1)) C C B ((cG.mp f).1) X C (fG _) C).1 λS A q=>ai q λt j d=>?_;subst j d;rw [m];exact .inl ⟨C,eX.p (EX.ev (c:=c) (hU (dQ (zbC (zv F 1 C C) (dz _) (eA C) (λE=>C)) (hU (jc (aej (zv F 1 C C) (B b (cN f)))))))) (lZ _ _ C (.inl C) C C)⟩
noncomputable def ZM:I (af×fc):=[("f",.local),("n",.local),("data",.local),("read_uint1",.globalImplicit),("len",.globalImplicit),("ValueError",.globalImplicit)]
noncomputable def Hy:I af:=["f","n","data"]
theorem W2(u:J):gb .GtE (.int u) (.int 0)=D Y:=C
theorem pV.upd(k:pV X O L i)(B:bF X.h₀ f):pV (X.up f B) O L i:=k.up B
theorem ad4(p:bK y.B y.Z y.w ak)(j:y.aZ "read_uint1" 3)(E:y.aZ "read_string1" 4)(B:∀i∈bs,i<256)(X:U bs<=1000)(e:bs[k]?=D (U l))(s:(bs.drop (k+1)).take (U l)=l)(h:U l<=4):
  y.FO (n+3) "read_string1" (.bB st bs k) [] (.str l) (.bB st bs (k+1+U l)):=by
 refine A_ (BO (xs:=Hy) E (C)) λa o x code r w T=>?_;have b:k+1+U l<=U bs:=by
  have:=aA U s;rw [zT,xH]at this;exact jP 0 (.a (.a (.v 0) (.n 1)) (.v 2)) (.v 1) (.v 2) (.v 4) (.v 4) (.v 3) (.a (.v 3) (.a (.v 0) (.n 1))) (.v 1) C [_,_,_,_,_] (o9 this) Go (lq ((cG.mp e).1))
 refine oX a o _ w T.ho T.hd (e8.ob (r9 y.G T (eA C) (.plain λz X=>?_) (λP w v=>?_) λ{f}g H L m u=>?_))
 .exact bind1 (λa=>C) z X
 .refine bT P λd aE=>?_;subst d;exact AO p w v
 .have F:Fm (di (docDef "read_string1" (gw (bB 4)) (dF (bB 4)) (ef (bB 4)) x code r) H a) Hy (U Hy) ZM:=jM (C) C
  let c:=(y.up f g).c L m (di (docDef "read_string1" (gw (bB 4)) (dF (bB 4)) (ef (bB 4)) x code r) H a) (n+2) u
  have q:=p.up g;refine mU (ad8 (y:=y.up f g) q (pV.upd j g) B X e) λaF aH ao O Q S R=>C0 (eM F 1 C (by exact fO _ _) ⟨KU c.G c.R (i:=0) (F.kn 3 C nofun) O (F.kg 3 C) Q S C (F.eY (i:=0) C) C (l6 C) lU C R λw v=>AO (y:=y.up f g) q w v⟩ C).1 (C0 (xd (c:=c) (zC (zv F 1 C C) (zi 0) (W2 _) C)).1 (zA (QM (c:=c) q (gE _) F 0 2 C C (HN F 1 C C) C C B b X C (fG _) C).1 λaq aC G=>(ai G λt ah aj=>?_)));subst ah aj;rw [s];exact .inl ⟨C,(eX.p (aY:=[.obj (.bB st bs (k+1+U l)),.t (.int (U l)),.t (.bW (.bytes (lR l) t))]) (fl:=.ret (.str l)) (EX.ev (c:=c) (hU (dQ (b:=Y) (zC (aek F 4 C (zv F 2 C C) (by exact aD h (az C)) C) (zv F 1 C C) (aA D (beq_self_eq_true _)) C) (hU (jc (aei (zv F 2 C C) (λi A=>B i (afW (Dk (by exact(s)▸(A))))) h C C)))))) (lZ _ _ C (.inl C) C C))⟩
end
section
variable{fz:Fz}
theorem aeL{i t:aS}(w:EE c n k y a P (.int i))(v:EE c n k P b X (.int t))(O:t≠0):EE c n k y (.BinOp a .Mod b p) X (.int (i.fmod t)):=by
 constructor;intro T fz s Q H S R;refine DB (w.1 T fz s _ _ S λh e g q o E l=>v.1 T e h _ _ E λF r m x B f L=>?_);obtain⟨A,rfl⟩:=qb l;obtain⟨j,rfl⟩:=qb L;exact agw O (R _ r _ ((q.trans x).trans (cI _ _ C)) (o.trans B) f (.int _ _))
theorem adA(w:EE c n k y a P h)(i:EF c n k P b x ts)(l:dP a=Y)(g:dP b=Y)(S:SR c.B c.ρ hB fz c.V n k y s.heap)
  (R:∀s' j A v aZ z X m r,bQ s s'->Le fz j->gm c.V->aW c.B c.ρ hB j c.V n k x m r s'.heap->e9 c.B hB j c.V n r aZ->s'.heap.get? aZ=D (lo z X)->bu c.ρ j z ts->Den c.ρ j v h->s'.heap.IsTuple A #[v,.ref aZ]->Q (.ref A) s'):
  aQ (aI c.Z c.w) c.A (eval (.Tuple [a,b] G aj) c.V) Q ak s:=by
 apply wpAny_Tuple;rw [mS (g7 l)];refine pS (w.1 hB fz s _ _ S λo q v f u E d=>?_);exact(mS (g7 g))▸(pS (i.1 hB q o _ _ E λah t aZ z X m r H B L p F T O=>lK ⟨by rw [rO];simp,(R _ t _ v aZ z X m r ((f.trans H).trans (cI _ _ C)) (u.trans B) L (p.um (bF.push _ _) (Le.refl _) λb ao e=>.inl e) F (eH _ T) O (d.mono B) (i12 _ (eS _ C) C ⟨0,C⟩))⟩))
theorem e9.upd(F:e9 X hB fz G n r d)(i:J):e9 X hB fz G n (bV r i []) d:=
 ⟨F.hb,F.fz,F.loc,F.cell,λt O h=>by
  delta bV at h
  split at h
  .cases h
  .exact F.fp t O h,F.tab,F.h0⟩
theorem z2s(F:Fm c.V n k G)(i h z m:J)(j:n[i]?=D x)(A:i<k)(L:n[h]?=D H)(O:h<k)(bl:G[z]?=D (x,.local))(B:G[m]?=D (H,.local))(aq:EE c n k aL a bx l)(T:EF c n k bx b aK p)(o:dP a=Y)(g:dP b=Y)
  (X:v.line=r.line)(u:(H==x)=ay)(d:[a,b].all (foldedForSure 8)=ay)(y:[a,b].all (constantsAlone 8)=ay):
  ES c n k aL (.Assign [.Tuple [.Name x v,.Name H r] bP cL] (.Tuple [a,b] cQ bY) b_) ((aK.set h (.own p)).set i (.t l)) .next:=by
 refine⟨λcg fz cB cF cH s S R=>?_⟩;have ah:c.V.blockKind=.function:=by
  have:=S.1.kind
  first|exact this|(delta De;simp [this])
 refine ags (adA aq T o g S λaj ak t ao q aC aE bR bU aF aH w E FD aN aP aT aX=>?_) C (PI ah (F.kn z bl nofun) (F.kn m B nofun) X u d y o g);refine agU (items:=#[ao,.ref q]) c.R.handled aX λa_ bf=>?_;have Q:bF aj.heap a_:=λb f e=>bf b f (fH (fk e)) e;exact aG (gH (IV (gh (av:=.own p) w s (E.um Q (Le.refl _) λb f e=>.inl e) L O (F.loc L O) ⟨q,aC,aE,C,Q _ _ aN,aP,C⟩ (.sM FD) λcu cA bz bh=>(aG (gH (IV (gh (av:=.t l) w s bh j A (F.loc j A) ⟨C,_,C,aT⟩ .nil λbE bC bH P=>bN (R bE ak .next (aF.trans ((bQ.trans (cI _ _ C) bz).trans bH)) aH ⟨w,bC,_,P⟩ dj))))))))
end
structure vG(cl:Cl)(a:au):Prop where
 sp:specialIn cl.K (.ref a) "__get__"=D (D (.builtin "function.__get__"))
 ta:takesIn cl.K (.ref a)=D ay
 fn:fnIn cl.K a=Y
def Ar(c:Cx Ob)(n:I af)(k:J)(y:I (AV Ob))(u:h_)(e:I cE)(x:I (AV Ob))(p:I T):Prop:=
 ∀(L:aB)(h:HB)(g:Fz)(s:aU)(Q:Args->aU->Prop)(H:aB->aU->Prop),SR c.B c.ρ h g c.V n k y s.heap->
  (∀t j z,bQ s t->Le g j->SR c.B c.ρ h j c.V n k x t.heap->bu c.ρ j z p->Q ⟨z,[]⟩ t)->aQ (aI c.Z c.w) c.A (evalArgs L Y (backTo u (starEach e c.V)) []) Q H s
section
variable{c:Cx Ob}
theorem Po(a:EE c n k y e P (.list p))(m:U p<=1000)(S:SR c.B c.ρ hB g c.V n k y s.heap)
  (R:∀t j z,bQ s t->Le g j->SR c.B c.ρ hB j c.V n k P t.heap->bu c.ρ j z p->Q z t):aQ (aI c.Z c.w) c.A (eval e c.V) (λv h=>StarOf (aI c.Z c.w) c.A H v Q h) H s:=by
 refine a.1 hB g s _ _ S λh x v q o E d=>ji (qc d) λl z L u i b=>?_;subst u;have ho:=E.ready.bJ _ _ i;refine aG (Af ((aR _ ho C)) PySem.F.slot_list_iter.lookup (bN ⟨C,(wpAny_collect_seq l (.inl C) ho C C (λO B=>?_) (by simp only [qB,b.length];exact aD m (az C)))⟩));obtain⟨w,f,r,A⟩:=E;exact R _ x z (q.trans (cI O _ C)) o ⟨w,f,r,A.um B (Le.refl _) λT X e=>.inl e⟩ b
theorem Tr(h:EE c n k y e P (.list p))(m:U p<=1000):Ar c n k y i [.Starred e a] P p:=by
 intro L T g s Q H S R;exact ks_lone (Po h m S λt u z q l A d=>R t u z q l A d)
theorem JC(w:EE c n k y e P z)(h:EE c n k P a X (.list p))(m:U p<=1000)(L:dP e=Y):Ar c n k y x [e,.Starred a f] X (z::p):=by
 intro j T g s Q O S R;rw [mS (g7 L)];refine tH (pS (w.1 T g s _ _ S λv r B q o E d=>(ks_spliced (Po h m E λt u H i l A b=>lK ?_))));rw [jq];exact R t u _ (q.trans i) (o.trans l) A (.cons (d.mono l) b)
theorem Cv(p:bK c.B c.Z c.w O)(S:aW c.B c.ρ hB g c.V n o y m r h)(j:n[i]?=D x)(X:y[i]?=D (.obj (.bL E Q s q B))):
  eE c.V m h x (D (.ref E))/\c.B.ob.at_ (.bL E Q s q B) (.ref E) h (r i)/\∃G,G.self=E/\ew c.Z c.w O 0 G (.ref E) h (r i):=by
 refine cps λz e=>?_;obtain⟨f,u,v,rfl,d⟩:=S.vars i x _ j X;apply e;have a:=d;rw [p.ob]at d;obtain⟨G,k,l⟩:∃G:SG,G.abs=.bL E Q s q B/\ew c.Z c.w O 0 G v h _:=d;have t:G.self=E:=by injection k
 have b:=l.v;rw [t]at b;subst b;exact(dI u a ⟨G,t,l⟩)
theorem ZG(p:bK c.B c.Z c.w O)(bh:Fm c.V n k jd)(i:J)(hx:n[i]?=D x)(aH:y[i]?=D (.obj (.bL sf Q aq ao R)))(aF:(L,a)∈O.fs)(f:vG O a)(bH:L∉(["_node2info","_ready_nodes","_npassedout","_nfinished"]:I af))(bU:copiedNames.contains L=ay)
  (gi:∀{h},bF c.B.h₀ h->h.get? a=D cB)(gU:cB.data=.func gV)(h:Ar c n k y u es P aK)(aP:P[i]?=D (.obj (.bL sf Q aq ao R)))(aX:e8 c.B c.Z c.w c.n (.ref a) (.bL sf Q aq ao R) aK a_)(m:(backTo u (starEach es c.V)).any (·.1)=Y)
  (bz:SR c.B c.ρ hB g c.V n k y s.heap)
  (bR:∀t j b X r,a_ X r->bQ s t->Le g j->SR c.B c.ρ hB j c.V n k (P.set i (.obj X)) t.heap->Den c.ρ j b r->cQ b t):
  aQ (aI c.Z c.w) c.A (eval (.Call (.Attribute (.Name x cg) L cV) es [] u) c.V) cQ fZ s:=by
 refine cps λe v=>?_;obtain⟨w,aL,aN,l⟩:=bz;refine gv (Cv p l hx aH) λaT e d=>?_;refine ai (d) λG bf H=>?_;refine v (aG (eO (eL w l.ns aT (aG (oE ?_))) (bh.eY hx)));have bl:methodCallForm (U es+U ([]:I Keyword)) (backTo u (starEach es c.V)) (backToKw u (keywordEach [] c.V))=ay:=by
  show((backTo u (starEach es c.V)).all (λx=>!x.1)&&_&&_)=ay;have:(backTo u (starEach es c.V)).all (λx=>!x.1)=ay:=by
   simpa using m
  simp only [this];rfl
 have bx:methodCallPos ay (.Name x cg) c.V cV u=pure u:=by unfold methodCallPos;simp
 unfold methodCall;rw [bl];refine cps λe v=>ai (H.ob.dY (G.self,λA=>A=instObj O.bq G.d) (m7 (.head _))) λh8 F B=>ai (H.ob.dY (G.d,iH G) (m7 (cN (i:=1) C))) λfj S T=>v ?_;dsimp only at B F S T;subst B;rw [bf]at F;refine cps λe v=>d5 (T.none bH) λfB gc d e6=>?_;subst d;refine bT (p.ok.fs _ aF) λcu cA=>v ?_;have z:=p.iF l.base
 refine aG (gH (aG (get_bind z (⟨F,C,C,S⟩) (vD (p.ok.pg L)).1 (findObj_fn p.ok.hd cu f.sp f.ta bU (by assumption)) (vD (p.ok.pg L)).2
  (i4 (fn_get z (beq_iff_eq.mp cA) (handed_on C (bN (aG (iN bx ?_)))))))))
 have ah:=gS s;have cF:=l.free ah;have aj:Le g (k7 g s.heap.objs.size (methodObj (.ref a) (.ref sf))):=yr cF.fz;refine ks_call m (keeps_M f.fn) (h _ hB _ _ _ _ ⟨w,aL,aN,(l.um (h':=s.heap.push (methodObj (.ref a) (.ref sf))) (bF.push _ _) aj λak A cH=>qS cH (λcL o=>cL.symm▸o▸.inr ⟨ah,eS _ C⟩) .inl)⟩ λbC bE bP bY q E cZ=>⟨⟨E.ready.bJ _ _ (q _ _ qR),p.iF E.ready.base⟩,(cps λe v=>?_)⟩);obtain⟨_,b_,dK,E⟩:=E;refine gv (Cv p E hx aP) λdO d8 e=>v (i4 (method_call (E.ready.bJ _ _ (q _ _ qR)) (aX c.A c.ρ bE (.ref sf) bP _ bC (dK i) c.R E.ready d8 (λak f=>?_) cZ λt j b fy X r ej o aC dB ez eG eu eN eR aE=>?_)))
 .exact E.uf ((cG.mp hx).1) ak f
 .exact bR t j b X r ej ((bQ.trans (cI _ _ C) bY).trans o) (aj.trans (q.trans aC)) ⟨w,b_,_,E.qw hx dB ez aC eG eu dO ⟨.ref sf,C,eN⟩ eR⟩ aE
end
noncomputable def mY(a b:I J):bw:=!aO (b<a)
theorem Y6(a b:I J):(mY a b||mY b a)=Y:=by
 by_cases h:b<a
 .exact Dc.mpr (.inr (aA (!·) (ee (RI.mpr (List.le_of_lt h)))))
 .exact Dc.mpr (.inl (aA (!·) (ee h)))
theorem BF{a b:I J}(h:mY a b=Y):a<=b:=RI.mp (of_decide_eq_false ((tq _).mp h))
theorem MF(a b c:I J)(h:mY a b=Y)(O:mY b c=Y):mY a c=Y:=aA (!·) (ee (RI.mpr (List.le_trans (BF h) (BF O))))
abbrev dM(l:I (I J)):I (I J):=l.mergeSort mY
theorem zo(l:I (I J)):(dM l).Perm l:=List.mergeSort_perm l mY
theorem Pg(l:I (I J)):(dM l).Pairwise λa b=>mY a b=Y:=List.pairwise_mergeSort MF Y6 l
theorem Pf{l H:I (I J)}(p:H.Perm l)(e:H.Pairwise λa b=>mY a b=Y):H=dM l:=List.Perm.eq_of_pairwise (λa b _ _ x h=>List.le_antisymm (BF x) (BF h)) e (Pg l) (p.trans (zo l).symm)
theorem Zk:Spec.ltCps a b=aO (a<b):=ltCps_eq a b
theorem O7:∀{l:I _},sortedS (l.map ck)=Y->l.Pairwise λa b=>mY a b=Y
 |[],_=>.nil
 |[x],_=>by simp
 |x::H::r,h=>by
  refine bT (cR.mp (h)) λw v=>?_;have v:=O7 (l:=H::r) v;have w:mY x H=Y:=by delta mY;rw [<-Zk];exact w
  exact afZ.mpr ⟨λE g=>by
   rcases cD.mp g with rfl|g
   .exact w
   .exact MF _ _ _ w ((afZ.mp v).1 E g),v⟩
theorem aa2{a:I af}(p:a.Perm (l.map ck))(h:sortedS a=Y):a=(dM l).map ck:=by
 have e:a=(a.map λs=>s.cps.toList).map ck:=by
  simp only [dH]
  conv=>lhs;rw [<-zU a]
  exact kj λs E=>C
 have Q:(a.map λs=>s.cps.toList).Perm l:=by
  have:=p.map λs:af=>s.cps.toList;simp only [dH]at this;have b:l.map ((λs:af=>s.cps.toList)∘ck)=l:=by
   conv=>rhs;rw [<-zU l]
   exact kj λs E=>by simp [ck]
  rwa [b]at this
 rw [e]at h;have:=Pf Q (O7 h);apply ae (e);rw [this]
theorem JD:∀{l:I _}{z:I aB},StrsAre z (l.map ck)->bu F g z (l.map .str)
 |[],_,h=>by cases h;exact .nil
 |x::r,_,h=>by cases h with|cons _ A h=>exact .cons (.str x A) (JD h)
theorem Km:∀{l:I _}{z:I aB},bu F g z (l.map .str)->StrsAre z (l.map ck)
 |[],_,d=>d.i9 (P:=λz=>StrsAre z []) .nil
 |x::r,_,d=>d.jx (P:=λz=>StrsAre z _) λE G a b=>a.iY (P:=λv=>StrsAre (v::G) _) λA=>.cons (ck x) A (Km b)
theorem acF(g:f.OneLt){T:String}(b:T="list"\/T="tuple")(n:s.heap.get? l=D o)(r:o.cls=.type T)(P:o.data=.seq z.toArray X)(m:KeysOf f (pairsOf z))
  (d:∀u k rest,z=u::k::rest->keyKind' (u::k::rest).toArray=pure oneType')(i:U z<64)
  (A:∀(h:SortSt)(O:cf)(a:au)(e:J),(arrOf h).Perm (pairsOf z)->SortedToK f (arrOf h) (pairsOf z).size->bF s.heap O->O.get? a=D (lo ((arrOf h).map (·.2)).toList e)->s.heap.get? a=aa->Q (.ref a) {s with heap:=O}):
  aQ (aI L F) G (call (.builtin "sorted") [.ref l]) Q S s:=by
 apply Calls.call_function_entry kind_sorted plain_sorted entry_sorted (args_sorted1 _);refine aG (bN (aG (wpAny_collect_seq l b n r P (λv B=>(aG (DE ?_))) (by exact cT 0 (.v 0) (.n 16777216) (.a (.v 0) (.n 1)) (.n 64) C [_] i))));have j:(v.push (seqObj "list" z.toArray 0)).get? v.objs.size=D _:=eS _ C;show aQ _ _ _ _ _ {s with heap:=v.push (seqObj "list" z.toArray 0)};have p:s.heap.get? v.objs.size=aa:=by
  cases q:s.heap.get? v.objs.size with
  |none=>rfl
  |some o=>exact bA (fk (B _ _ q)) (i3 _)
 refine aG (gH (wpAny_call_entry slot_list_sort (aR _ j C) entry_list_sort (list_sort_treeK g j m d i λh H y=>(aR _ C (bG (sortedHeap_at j) λe w=>(bN (aR _ C (A h _ _ e H y (λc E q=>?_) w p)))))) (args_list_sort _)));have x:=B c E q;have t:=fk x;exact(sortedHeap_old (fH t) (by rw [lI];exact jW t)).trans (eH _ x)
theorem MG(r:Ready X g s)(z:s.heap.get? a=aa):Le g (λb=>if b=a then D o else g b):=λb x e=>by
  show(if b=a then _ else g b)=_;apply ae (aJ (λq=>by rw [q]at e;have:=r.bJ a x e;exact aV z this));exact e
theorem cj.one(r:Ready X g s)(k:bF s.heap O)(T:O.get? a=D o)(z:s.heap.get? a=aa):cj X g s (λb=>if b=a then D o else g b) {s with heap:=O,toks:=tk}where
 same:=cI O tk C
 keep:=k.t
 inv:=bD.uC (MG r z) r.inv λP E o e=>k P o e
 le:=MG r z
 bJ:=λb x e=>by
  have e:(if b=a then D o else g b)=D x:=e
  split at e
  .rename_i q;obtain rfl:=bj e;exact ae (aA _ q) T
  .exact k b x (r.bJ b x e)
 new:=λb x e=>by
  have e:=e
  split at e
  .rename_i q;exact q.symm▸.inr z
  .exact .inl e
theorem Ov{T:String}(q:T="list"\/T="tuple")(d:E=.ref a)(i:g a=D o)(k:o.cls=.type T)(P:o.data=.seq z.toArray X)(b:bu F g z (l.map .str))(x:l.length<64):
  PO Q (aI A S) L F (call (.builtin "sorted") [E]) g (.list ((dM l).map .str)):=by
 subst d;intro s ak H r R;have h:=Km b;have j:=by have:=b.length;simpa using this
 refine acF strKind_oneLt q (r.bJ _ _ i) k P h.keysOf (λah aj rest e=>keyKind_strs (by rw [<-e];exact h)) (d_ 0 (.a (.v 1) (.n 1)) (.n 64) (.a (.v 0) (.n 1)) (.n 64) (.v 1) (.v 0) C [_,_] x (iU j)) λc O y e t B v n m=>dG (sorted_out_str h t B) λG w u p=>?_;simp only [(aa2 u p)]at w;have f:=cj.one (tk:=s.toks) r v n m;exact R _ _ _ f (.list (aM C) ((JD w).mono f.le))
theorem abf(d:Den F g E (.tup (l.map .str)))(i:l.length<64):PO X (aI m w) L F (call (.builtin "sorted") [E]) g (.list ((dM l).map .str)):=by
 obtain⟨a,z,u,S,b,rfl⟩:=d.inv;exact Ov (.inr C) C S C C b i
theorem abe(d:Den F g E (.list (l.map .str)))(i:l.length<64):PO X (aI m w) L F (call (.builtin "sorted") [E]) g (.list ((dM l).map .str)):=by
 obtain⟨a,z,u,S,b,rfl⟩:=d.inv;exact Ov (.inl C) C S C C b i
theorem aeS(F:Fm c.V n k G)(t:J)(O:G[t]?=D (("sorted":af),.globalImplicit))(h:EE c n k y e P (.tup (l.map .str)))(i:l.length<64)(L:dP e=Y):EE c n k y (.Call (.Name "sorted" p) [e] [] u) P (.list ((dM l).map .str)):=
 ry F t 6 O C (zr h cU L) (by simp [L]) λg z d=>by refine ai d.ja λv j q=>?_;subst j;exact abf q i
theorem QT(F:Fm c.V n k G)(t:J)(O:G[t]?=D (("sorted":af),.globalImplicit))(h:EE c n k y e P (.list (l.map .str)))(i:l.length<64)(L:dP e=Y):EE c n k y (.Call (.Name "sorted" p) [e] [] u) P (.list ((dM l).map .str)):=
 ry F t 6 O C (zr h cU L) (by simp [L]) λg z d=>by refine ai d.ja λv j q=>?_;subst j;exact abe q i
section
open Builtin.Str
noncomputable def iw(l:I J):af:=⟨l.toArray⟩
def G5(l i:I J)(S:I (I J)):bw:=
 !(aO (l.length<i.length)||aO (strKind (iw l)<strKind (iw i)))&&!(occurrences (iw l) (iw i) 0 l.length (l.length+1)).isEmpty&&partsBetween (iw l) (occurrences (iw l) (iw i) 0 l.length (l.length+1)) i.length==S.map iw&&!i.isEmpty
theorem Py:∀(S:I _)(n:J),bu F g (strsFrom n (S.map iw)) (S.map .str)
 |[],_=>.nil
 |p::S,n=>.cons (.str p _) (Py S _)
theorem abg(O:Den F g E (.str l))(L:Den F g u (.str i))(X:U l<=1000)(h:G5 l i S=Y)(z:U S<=1000):
  PO a (aI m w) e F (call (.builtin "str.split") [E,u]) g (.list (S.map .str)):=by
 refine bG (jg O) λA j=>bG (jg L) λy d=>?_;subst j d;have h:(_&&_&&_&&_)=Y:=h;simp only [oq,tq]at h;have t:=iP h.1.2;intro s Q H r R;apply DA agD (tK _ _ _) PySem.F.entry_str_split (PySem.F.args_str_split_2 _ _) (meets_str_split_sep (iw l) (iw i) A y h.1.1.1 (by have:=h.2;cases i with|nil=>exact cY C (this).symm|cons x r=>rfl) h.1.1.2 (aD X (az C)) (by show U (partsBetween _ (occurrences _ _ 0 l.length (l.length+1)) i.length)<=_;simp only [t,dg];exact aD z (az C)));have q:=R _ _ (.ref s.heap.objs.size) (cj.one (tk:=s.toks+U (S.map iw)) (o:={cls:=.type "list",data:=.seq (strsFrom s.toks (S.map iw)).toArray}) r (bF.push s.heap _) (eS _ C) (gS s));have:=q (.list (aM C) (Py S s.toks));show wants Q H _ {s with toks:=_,heap:=s.heap.push {cls:=.type "list",data:=.seq (strsFrom s.toks _).toArray}};show wants Q H _ {s with toks:=s.toks+U (partsBetween _ _ i.length),heap:=_};exact(t)▸(this)
variable{c:Cx O}
theorem aeH{l i:I J}{S:I (I J)}(T:EE c n k y o P (.str l))(h:EE c n k P e X (.str i))(f:attributeBase o "split" c.V (eval o c.V)=eval o c.V)(L:dP e=Y)(E:(A.endLine==u.line)=Y)
  (a:U l<=1000)(B:G5 l i S=Y)(z:U S<=1000):EE c n k y (.Call (.Attribute o "split" A) [e] [] u) X (.list (S.map .str)):=
 xj agD PySem.F.type_str_split T (zr h cU L) f (by simp [L]) (dN _ _) E λg v x d b=>by
  refine ai b.ja λw j q=>?_;subst j;exact abg d q a B z
theorem aeD{x:I _}(T:EE c n k y o P (.str i))(h:EE c n k P e X (.list (x.map .str)))(f:attributeBase o "join" c.V (eval o c.V)=eval o c.V)(L:dP e=Y)(E:(A.endLine==u.line)=Y)
  (m:(x.map (U ·)).sum+U x*U i<=16777216){r:I J}(s:z9 ⟨i.toArray⟩ (x.map λl=>(⟨l.toArray⟩))=⟨r.toArray⟩):EE c n k y (.Call (.Attribute o "join" A) [e] [] u) X (.str r):=
 xj R6 R_ T (zr h cU L) f (by simp [L]) (dN _ _) E λg v z d b=>by
  refine ai b.ja λw j q=>?_;subst j;exact Ot d q (strs_map x) m s
noncomputable def Z8(G:c4)(c:h_)(e:cE):bg af:=match e with|.Name id u=>if G.kindOf id==D .local&&u.line==c.line then D id else aa|_=>aa
theorem ada(B:G.blockKind=.function)(j:G.kindOf x=D .local)(L:G.kindOf H=D .local)(g:G.kindOf E=D .local)(X:px.line=i.line)(O:px.line=h.line)(k:[x,H,E].eraseDups=[x,H,E])
  (n:[a,b,d].all (foldedForSure 8)=ay)(l:[a,b,d].all (constantsAlone 8)=ay)(t:[a,b,d].all dP=Y):swappedStores [.Tuple [.Name x px,.Name H i,.Name E h] k₁ y] (.Tuple [a,b,d] k₂ ag8) G=pure (D [x,H,E]):=by
 refine(aJ (λq=>?_)).trans ((aJ λq=>?_).trans ?_)
 .rw [B]at q;exact cY C q
 .exact ai (mz.mp q) λe m q=>cY (Pp q) (gK.mp t e m)
 have f:∀{o:af}{Q:h_}{r:I cE}{s:I af},G.kindOf o=D .local->px.line=Q.line->r.filterMap (Z8 G px)=s->
   (zN o Q::r).filterMap _=o::s:=λ{o Q r s}w v R=>
  (Ir (a:=.Name o Q) ((aM (cR.mpr ⟨beq_iff_eq.mpr w,beq_iff_eq.mpr v.symm⟩):(if G.kindOf o==D .local&&Q.line==px.line then D o else aa)=D o))).trans (aA _ R)
 have z:=f j C (f L X (f g O (r:=[]) C));exact(aJ λq=>cY (aA (λu:I af=>u.length !=3) k) ((aA (λp:I af=>(p.length !=3||p.eraseDups.length !=p.length)) z).symm.trans q)).trans ((aJ (cY n)).trans ((aJ (cY l)).trans (aA (λc=>pure _) z)))
theorem z3(F:Fm c.V n k G)(i t m z l j:J)(o:n[i]?=D x)(A:i<k)(L:n[t]?=D h)(O:t<k)(g:n[m]?=D E)(R:m<k)(p:G[z]?=D (x,.local))(aC:G[l]?=D (h,.local))(aH:G[j]?=D (E,.local))(aL:ER c n k y ao [a,b,d] P [q,f,u])(X:e.line=r.line)(w:e.line=B.line)(T:[x,h,E].eraseDups=[x,h,E])
  (ah:[a,b,d].all (foldedForSure 8)=ay)(aj:[a,b,d].all (constantsAlone 8)=ay)(ak:[a,b,d].all dP=Y):
  ES c n k y (.Assign [.Tuple [.Name x e,.Name h r,.Name E B] a_ aT] (.Tuple [a,b,d] aP ao) aX) (((P.set m (.t u)).set t (.t f)).set i (.t q)) .next:=by
 refine⟨λaE aF s Q H aq S aK=>?_⟩;have aN:c.V.blockKind=.function:=by
  have:=S.1.kind
  first|exact this|(delta De;simp [this])|trace_state
 exact KR c.R.handled (Bc aL.1 C) (.cons (λv Q H s=>zp v Q H s) g R (F.loc g R) (.cons (λv Q H s=>zp v Q H s) L O (F.loc L O) (.cons (λv Q H s=>zp v Q H s) o A (F.loc o A) .nil))) C C C (ada aN (F.kn z p nofun) (F.kn l aC nofun) (F.kn j aH nofun) X w T ah aj ak) aE aF s Q H aq S aK
end
noncomputable def jS:bw->I J->bg (I J)
 |ay,[]=>D []
 |Y,[]=>aa
 |Y,c::r=>(jS ay r).map (c::·)
 |ay,c::r=>if c=92 then jS Y r else(jS ay r).map (c::·)
theorem adI:∀{l A:I J}{d:J},jS ay l=D (d::A)->∃e:bw,∃r,l=(if e then [92]else [])++d::r/\jS ay r=D A/\((if e then 92 else d)==92)=e
 |[],A,d,h=>nomatch h
 |c::l,A,d,h=>by
  have h:(if c=92 then jS Y l else(jS ay l).map _)=_:=h
  by_cases q:c=92
  .rw [aM q]at h;cases l with
   |nil=>exact nomatch h
   |cons x r=>
    refine ai (pR.mp h) λP a b=>?_;obtain⟨rfl,rfl⟩:=zP b;exact(gx (Y) (r) (by rw [q];rfl) (a) (C))
  .rw [aJ q]at h;refine ai (pR.mp h) λP a b=>?_;obtain⟨rfl,rfl⟩:=zP b;exact⟨ay,l,C,a,beq_false_of_ne q⟩
theorem adK:∀{l:I J},jS ay l=D []->l=[]
 |[],_=>C
 |c::l,h=>by
  have h:(if c=92 then jS Y l else(jS ay l).map _)=_:=h
  by_cases q:c=92
  .rw [aM q]at h;cases l with
   |nil=>exact aV C (h)
   |cons x r=>exact ai (pR.mp h) λP a b=>nomatch b
  .rw [aJ q]at h;exact ai (pR.mp h) λP a b=>nomatch b
noncomputable def ly(A:I J):I J->J
 |[]=>0
 |x::r=>if x∈A then 0 else ly A r+1
noncomputable def qh:I (I J)->I J->J->bw
 |[],_,_=>Y
 |A::p,w,a=>if w.length<a+ly A (w.drop a)+1 then ay else qh p w (a+ly A (w.drop a)+1)
structure Row where
 b:bw
 i:I J
 t:I J
noncomputable def Row.x(r:Row):I J:=if r.b then 91::(r.i++[93,41])else r.i++[41]
def Row.ok(r:Row):bw:=jS ay r.i==D r.t&&aO (r.x.length<=100)&&(r.b||r.t.length==1&&match r.i with|[]=>ay|h::_=>h !=91&&!aO (h∈[40,41,42,43,63,123,124,94,36,46]))
section
variable{c:Cx O}{text word:I J}{rows:I T}{k at':J}{row inner told:I J}{bt:bw}
noncomputable def yN:I (af×fc):=[("text",.local),("word",.local),("rows",.local),("at",.local),("row",.local),("bracket",.local),("inner",.local),("told",.local),("k",.local),("len",.globalImplicit)]
noncomputable def lC:I af:=["text","word","rows","at","row","bracket","inner","told","k"]
abbrev PU:bg cz:=fV 2 (dF (bB 25))
abbrev pG:I cz:=iq PU
noncomputable abbrev wX(text word:I J)(rows:I T)(at':J)(x w r c Q:AV O):I (AV O):=[.t (.str text),.t (.str word),.t (.list rows),.t (.int at'),x,w,r,c,Q]
abbrev pH(text word:I J)(rows:I T)(at':J)(row:I J)(bt:bw)(inner told:I J)(k:J):I (AV O):=wX text word rows at' (.t (.str row)) (.t (.bool bt)) (.t (.str inner)) (.t (.str told)) (.t (.int k))
theorem Ga{l:I J}{i:J}(X:U l<=100000)(h:l[i]?=D a):i<2^60:=eI (cG.mp h).1 (aD X (az C))
theorem ads(F:Fm c.V lC 9 yN)(X:U inner<=100):∀(A h rest told:I J),inner=h++rest->jS ay rest=D A->U told+U A<=1000->
  EW c lC 9 (lA (D (g8 pG 2))) (lz (D (g8 pG 2))) [] (U A) (pH text word rows at' row bt inner told (U h)) (pH text word rows at' row bt inner (told++A) (U inner)) .next:=λT=>T.rec
 (λh rest told a i B=>by
  have:=adK i;subst this;simp only [jq]at a;subst a;rw [jq]
  exact rE (zC (zv F 8 C C) (rA F 9 C (zv F 6 C C) (eU (aD X (az C))) C) (l8 (ee (Ik _))) C) fY)
 (λd A n h rest told a i B=>by
  refine cps λk f=>?_;obtain⟨e,r,s,l,m⟩:=adI i;have O:inner=h++((if e then [92]else [])++[d])++r:=by apply ae (a);rw [s];simp
  have b:U inner<=100000:=aD X (az C);have G:inner[U h]?=D (if e then 92 else d):=by rw [a,s,oQ];cases e<;>rfl
  have P:inner[U h+e.toNat]?=D d:=by
   rw [O,gX,kR (fO _ _),xO];cases e<;>rfl
  have E:U (h++((if e then [92]else [])++[d]))=U h+e.toNat+1:=by apply ae (cC);rw [cC];cases e<;>rfl
  have x:=n _ r (told++[d]) O l (by rw [cC];show _+1+_<=_;have:U told+(U A+1)<=1000:=B;exact cT 0 (.a (.a (.v 0) (.n 1)) (.v 1)) (.n 1000) (.a (.v 0) (.a (.v 1) (.n 1))) (.n 1000) C [_,_] this);apply f;rw [E,gX]at x;exact om (zC (zv F 8 C C) (rA F 9 C (zv F 6 C C) (eU (aD X (az C))) C) (l8 (cM (jV.mpr (by rw [O,cC,cC,cC];show _<_+(_+1)+_;exact eF (.a (.v 0) (.n 1)) (.a (.a (.v 0) (.a (.v 1) (.n 1))) (.v 2)) C [_,_,_])))) C)
   (zx (sZ F 8 C (dz _) C (Qp (zC (dU (zv F 6 C C) (zv F 8 C C) (jk (Ga b G) G) C) (zs [92] (cS ['\\'])) (Cy (by simpa using m)) C) e.toNat (by cases e<;>rfl)) (uV C))
   (zx (sZ F 7 C (az C) C (dU (zv F 6 C C) (zv F 8 C C) (jk (Ga b P) P) C) (OR (by have:=B;exact aD (aD (iL (dN 1 (U A)) _) this) (az C))))
   (fb (sZ F 8 C (dz _) C (zi 1) (uV C)) C))) x)
theorem adq(F:Fm c.V lC 9 yN)(X:U word<=1000):∀(rest h:I J),word=h++rest->
  EW c lC 9 (lA (D (g8 pG 5))) (lz (D (g8 pG 5))) [] (U rest) (pH text word rows (U h) row bt inner told k) (pH text word rows (U h+ly told rest) row bt inner told k) .next:=λT=>T.rec
 (λh e=>by
  simp only [jq]at e;subst e
  exact rE (aeg (zC (zv F 3 C C) (rA F 9 C (zv F 1 C C) (eU (aD X (az C))) C) (l8 (ee (Ik _))) C)) fY)
 (λx rest n h e=>by
  have G:word[U h]?=D x:=by rw [e,oQ];rfl
  have i:EC c lC 9 _ (lA (D (g8 pG 5))) (pH text word rows (U h) row bt inner told k) _:=
   jl (kL (zC (zv F 3 C C) (rA F 9 C (zv F 1 C C) (eU (aD X (az C))) C) (l8 (cM (jV.mpr (j4 G)))) C) λ_=>kL (zC (dU (zv F 1 C C) (zv F 3 C C) (jk (Ga (aD X (az C)) G) G) C) (zv F 7 C C) (aA D C) C) λ_=>sY) (by rw [Ib,Ic])
  show EW _ _ _ _ _ _ _ _ (pH text word rows (U h+(if x∈told then 0 else ly told rest+1)) row bt inner told k) _
  by_cases m:x∈told
  .rw [aM m];exact rE (jl i (by rw [cM m];rfl)) fY
  .rw [aJ m];have a:=n (h++[x]) (by apply ae (e);rw [gX];rfl);rw [cC,vp,qD (U [x])]at a
   exact om (jl i (by rw [ee m];rfl)) (fb (sZ F 3 C (az C) C (zi 1) (uV C)) C) a)
end
section
variable{r:Row}
theorem Row.un(h:r.ok=Y):jS ay r.i=D r.t:=iP (cR.mp (cR.mp h).1).1
theorem Row.len(h:r.ok=Y):U r.x<=100:=dh (cR.mp (cR.mp h).1).2
theorem Row.sign(h:r.ok=Y)(f:r.b=ay):U r.t=1/\∃a l,r.i=a::l/\a≠91/\a∉[40,41,42,43,63,123,124,94,36,46]:=by
 have:=(cR.mp h).2;rw [f,Q5,cR]at this;refine⟨iP this.1,?_⟩;have v:=this.2;cases A:r.i with
 |nil=>rw [A]at v;exact nomatch v
 |cons a l=>
  rw [A]at v;have v:=cR.mp v;exact(gx (a) (l) (C) (bne_iff_ne.mp v.1) (λm=>by rw [cM m]at v;exact nomatch v.2))
theorem adJ:∀(b:bw)(l A:I J),jS b l=D A->U A<=U l:=by
 intro b l
 induction l generalizing b with
 |nil=>intro A h;cases b with
  |false=>obtain rfl:=bj h;exact dz _
  |true=>exact nomatch h
 |cons c l n=>
  intro A h;have f:∀A,(jS ay l).map (c::·)=D A->U A<=U (c::l):=λA h=>ai (pR.mp h) λP a b=>b▸ju (n ay P a);cases b with
  |true=>exact f A h
  |false=>
   have h:(if c=92 then jS Y l else(jS ay l).map _)=_:=h
   by_cases q:c=92
   .rw [aM q]at h;exact z0 (n Y A h)
   .rw [aJ q]at h;exact f A h
theorem UE(l:I J):cut (D 1) (D (-2)) (91::(l++[93,41]))=l:=by
 have e:U (91::(l++[93,41]))=U l+3:=by apply ae (gB);rw [cC];rfl
 show((91::(l++[93,41])).drop (clipAt (U (91::(l++[93,41]))) (1:J))).take (clipAt (U (91::(l++[93,41]))) (-(2:J))-clipAt (U (91::(l++[93,41]))) (1:J))=l;rw [e,vZ,AW _ _ (az C),vt (by exact eF (.n 1) (.a (.v 0) (.n 3)) C [_])];show(l++[93,41]).take _=l;rw [show U l+3-2-1=U l from C,zW]
theorem UI(l:I J)(a:J):cut aa (D (-1)) (l++[a])=l:=by
 show((l++[a]).drop 0).take (clipAt (U (l++[a])) (-(1:J))-0)=l;rw [AW _ _ (az C),cC];show(l++[a]).take (U l+1-1-0)=l;rw [af_,Nat.sub_zero,zW]
theorem Row.xb(f:r.b=Y):r.x=91::(r.i++[93,41]):=aM f
theorem Row.xs(f:r.b=ay):r.x=r.i++[41]:=aJ (by exact(f)▸(nofun))
theorem abY(h:r.ok=Y):(r.x.take 1==[91])=r.b:=by
 cases f:r.b with
 |true=>rw [Row.xb f];rfl
 |false=>exact e5 (Row.sign h f).2 λa l e u _=>by rw [Row.xs f,e];exact beq_false_of_ne λq=>u (zP q).1
theorem abX:r.x.drop (U (r.x)-1)=[41]:=by
 have L:∀l,(l++[41]).drop (U (l++[41])-1)=[41]:=λl=>by exact(cC)▸(Ro)
 cases f:r.b with
 |true=>rw [Row.xb f,show 91::(r.i++[93,41])=91::(r.i++[93])++[41]by simp];exact L _
 |false=>rw [Row.xs f];exact L _
theorem abW(f:r.b=Y):r.x.drop (U (r.x)-2)=[93,41]:=by
 simp only [Row.xb f,show 91::(r.i++[93,41])=(91::r.i)++[93,41]from C,cC];exact Ro
section
variable{c:Cx O}{text word:I J}{rows:I T}{at':J}{a4 a5 a6 a7 a8:AV O}
theorem ado(F:Fm c.V lC 9 yN)(h:r.ok=Y)(y:U word<=1000)(u:at'<=U word){a:J}(e:at'+ly r.t (word.drop at')=a):
  EX c lC 9 (wX text word rows at' (.t (.str r.x)) a5 a6 a7 a8) pG (pH text word rows (a+1) r.x r.b r.i r.t (U r.i)) (if U word<a+1 then .ret (.bool ay)else .next):=by
 have X:=Row.len h
 have A:U r.i<=100:=aD (by cases f:r.b with
  |true=>rw [Row.xb f,gB,cC];exact eF (.v 0) (.a (.a (.v 0) (.a (.a (.n 0) (.n 1)) (.n 1))) (.n 1)) C [_]
  |false=>simp only [Row.xs f,cC];exact fO _ _) X
 have l:=aD (adJ _ _ _ (Row.un h)) A;have d:ES c lC 9 (wX text word rows at' _ _ a6 a7 a8) (g8 pG 1) (pH text word rows at' r.x r.b r.i [] 0) .next:=
  z3 F 6 7 8 6 7 8 C (az C) C (az C) C (az C) C C C (zr (Qo (lD (zv F 5 C C) C λ_=>C)
   (λf=>kN (zv F 4 C C) (iJ (zi 1)) (iJ (vd (zi 2))) (qu (aD X (az C)) (by rw [Row.xb f];exact UE _)))
   (λf=>kN (zv F 4 C C) rC (iJ (vd (zi 1))) (qu (aD X (az C)) (by exact(Row.xs f)▸(UI _ _))))) (zr (zs [] (cS [])) (zr (zi 0) cU C) C) C) C C C C C C
 have s:EC c lC 9 _ (uw (D (g8 pG 3))) (pH text word rows at' r.x r.b r.i r.t (U r.i)) ay:=jl (b:=ay||(r.b&&(ay&&Y)||ay))
  (nu (zC (kN (zv F 4 C C) (iJ (vd (zi 1))) rC (qu (aD X (az C)) (ae (J_ _ 1 (by decide)) abX))) (zs [41] (cS [')'])) (zg C) C) λ_=>
   nu (kL (lD (zv F 5 C C) C λ_=>C) λf=>kL (zC (kN (zv F 4 C C) (iJ (vd (zi 2))) rC (qu (aD X (az C)) (ae (J_ _ 2 (az C)) (abW f)))) (zs [93,41] (cS [']',')'])) (zg C) C) λ_=>sY) λ_=>zD) (by cases r.b<;>rfl)
 have b:EC c lC 9 (pH text word rows at' r.x r.b r.i r.t (U r.i)) (uw (D (g8 pG 4))) _ ay:=jl (b:=!r.b&&((ay||(ay||ay))&&Y))
  (kL (C1 (lD (zv F 5 C C) C λ_=>C)) λf=>by
   have f:=by simpa using f
   exact bT (Row.sign h f) λw v=>e5 v λa k e n m=>kL (nu (zC (rA F 9 C (zv F 7 C C) (eU (aD l (az C))) C) (zi 1) (by rw [w];rfl) C) λ_=>nu (zC (dU (zv F 4 C C) (zi 0) (jk (i:=0) (by decide) (by rw [Row.xs f,e];rfl)) C) (zs [40,41,42,43,63,123,124,94,36,46] (cS ['(',')','*','+','?','{','|','^','$','.'])) (GQ (ee m)) C) λ_=>zD) λ_=>sY) (by cases r.b<;>rfl)
 have i:=adq (text:=text) (rows:=rows) (row:=r.x) (bt:=r.b) (inner:=r.i) (told:=r.t) (k:=U r.i) F y _ (word.take at') (af3 _ _).symm;rw [zT,vt u,e]at i;have x:EC c lC 9 (pH text word rows (a+1) r.x r.b r.i r.t (U r.i)) (uw (D (g8 pG 7))) _ (aO (U word<a+1)):=
  zC (zv F 3 C C) (rA F 9 C (zv F 1 C C) (eU (aD y (az C))) C) (aA D (decide_eq_decide.mpr jV)) C
 refine zx (eM F 5 C (az C) (xe (kN (zv F 4 C C) rC (iJ (zi 1)) (qu (aD X (az C)) (Et r.x 1))) (zs [91] (cS ['['])) (Cy (abY h)) C) C) (zx d (zx (lE ((ads (c:=c) (text:=text) (word:=word) (rows:=rows) (at':=at') (row:=r.x) (bt:=r.b) F A r.t [] r.i [] C (Row.un h) (by rw [afQ,jv];exact aD l (az C))))) (zx (dQ s fY) (zx (dQ b fY) (zx (lE i) (zx (sZ F 3 C (az C) C (zi 1) (uV C)) ?_))))))
 by_cases q:U word<a+1
 .rw [aM q];exact hU (dQ (jl x (cM q)) (hU (jc (zb ay))))
 .rw [aJ q];exact zx (dQ (jl x (ee q)) fY) fY
theorem adp(F:Fm c.V lC 9 yN)(y:U word<=1000):∀(l:I Row)(at':J)(a4 a5 a6 a7 a8:AV O),(∀r∈l,r.ok=Y)->at'<=U word->
  ∃x h,jE c lC 9 (oV PU) pG (l.map λr=>T.str r.x) (wX text word rows at' a4 a5 a6 a7 a8) x h/\h=if qh (l.map Row.t) word at' then .next else .ret (.bool ay):=λa=>a.rec
 (λat' a4 a5 a6 a7 a8 e u=>(gg (_) (_) (mq) (C)))
 (λr l n at' a4 a5 a6 a7 a8 e u=>by
  have A:=ado (text:=text) (rows:=rows) (a5:=a5) (a6:=a6) (a7:=a7) (a8:=a8) F (e r (.head _)) y u C;have L:qh ((r::l).map Row.t) word at'=if U word<at'+ly r.t _+1 then ay else qh _ word _:=C
  by_cases q:U word<at'+ly r.t (word.drop at')+1
  .rw [aM q]at A;rw [L,aM q];exact⟨_,_,Qm (iA F 4 C (az C)) A,C⟩
  .rw [aJ q]at A;rw [L,aJ q]
   exact d5 (n _ _ _ _ _ _ (λs m=>e s (.tail _ m)) (iM q)) λx h i b=>⟨x,h,j_ (iA F 4 C (az C)) A i,b⟩)
end
noncomputable def ri:I J:=[40,63,62,46,42,63]
def kH(l:I Row):I J:=(l.map λr=>ri++r.x).flatten
noncomputable def CR:I J:=[46,42,41,92,90]
def iI(l:I Row):I J:=sC++(kH l++CR)
def uQ(l:I Row):bw:=l.all Row.ok&&aO (l.length<=10)&&aO ((kH l).length<=500)&&G5 (kH l) ri ([]::l.map Row.x)&&z9 (iw ri) (([]::l.map Row.x).map iw)==iw (kH l)
variable{y:Ly O}{rs:I Row}{word:I J}
theorem Qa(k:y.aZ "_law_takes" 25)(e:uQ rs=Y)(i:U word<=1000):y.F (n+1) "_law_takes" [.str (iI rs),.str word] (.bool (qh (rs.map Row.t) word 0)):=by
 have e:(_&&_&&_&&_&&_)=Y:=e;simp only [oq]at e;refine cps λz f=>?_;obtain⟨⟨⟨⟨w,v⟩,R⟩,g⟩,H⟩:=e;have v:=dh v;have R:=dh R;have X:U (iI rs)<=600:=by
  show U (sC++(kH rs++CR))<=_;simp only [cC,cC];show 4+_+5<=600;exact cT 0 (.a (.a (.n 4) (.v 0)) (.n 5)) (.n 600) (.v 0) (.n 500) C [_] R
 have h:U ([]::rs.map Row.x)<=20:=by simp only [gB,dg];exact cT 0 (.a (.v 0) (.n 1)) (.n 20) (.v 0) (.n 10) C [_] v
 apply f;refine y.fn 25 lC yN k C C C (eA C) (λu code p=>yi λE E=>C) λL j G t F=>?_
 let c:=y.c L j G n t
 have l:cut (D 4) (D (-5)) (iI rs)=kH rs:=by
  show((iI rs).drop (clipAt (U (iI rs)) (4:J))).take (clipAt (U (iI rs)) (-(5:J))-clipAt (U (iI rs)) (4:J))=_;have x:U (iI rs)=U (kH rs)+9:=by show U (sC++(kH rs++CR))=_;rw [cC,cC];show 4+(_+5)=_;exact fS (eF (.a (.n 4) (.a (.v 0) (.n 5))) (.a (.v 0) (.n 9)) C [_]) (eF (.a (.v 0) (.n 9)) (.a (.n 4) (.a (.v 0) (.n 5))) C [_])
  rw [x,vZ,AW _ _ (by decide),vt (aD (az C) (dN 9 _)),show U (kH rs)+9-5-4=U (kH rs)from C];exact zW
 have O:((([]::rs.map Row.x).map (U ·)).sum+U ([]::rs.map Row.x)*U ri)<=16777216:=by
  have B:(([]::rs.map Row.x).map (U ·)).sum<=1000:=by
   have L:∀rs:I Row,((rs.map Row.x).map (U ·)).sum<=U (kH rs):=λrs=>rs.rec (dz _) λr rs o=>by
    show U r.x+_<=U ((ri++r.x)++kH rs);rw [cC,cC];exact iB (dN _ _) o
   exact aD (fq (jv _)) (aD (L rs) (aD R (az C)))
  have:U ri=6:=C;rw [this];exact aD (iB B (IJ 6 h)) (az C)
 have d:EC c lC 9 (wX (iI rs) word (([]::rs.map Row.x).map .str) 0 .un .un .un .un .un) (uw (D (g8 (dF (bB 25)) 1))) (wX (iI rs) word (([]::rs.map Row.x).map .str) 0 .un .un .un .un .un) ay:=
  nu (b₁:=ay) (zC (zv F 0 C C) (fh (fh (zs [40,63,115,58] (cS ['(','?','s',':'])) (aeD (r:=kH rs) (zs ri (cS ['(','?','>','.','*','?'])) (zv F 2 C C) C C C O (iP H)) (pC (by show 4+_<=_;exact cT 0 (.a (.n 4) (.v 0)) (.n 1000000) (.v 0) (.n 500) C [_] R))) (zs [46,42,41,92,90] (cS ['.','*',')','\\','Z'])) (pC (by rw [cC];show 4+_+5<=_;exact cT 0 (.a (.a (.n 4) (.v 0)) (.n 5)) (.n 1000000) (.v 0) (.n 500) C [_] R))) (zg (by rw [gX];exact aA (!·) (beq_self_eq_true (iI rs)))) C) λ_=>
   nu (b₁:=ay) (zC (dU (zv F 2 C C) (zi 0) (fR (i:=0) (by decide) C) C) (zs [] (cS [])) (zg C) C) λ_=>zD
 have s:cut (D 1) aa ((([]::rs.map Row.x).map T.str))=rs.map λr=>T.str r.x:=ae (UG _ 1) (by rw [iK,List.drop_succ_cons,List.drop_zero,dH];rfl);refine d5 (adp (c:=c) (text:=iI rs) (rows:=([]::rs.map Row.x).map .str) F i rs 0 .un .un .un .un .un (gK.mp w) (gF _)) λm A a b=>⟨m,zx (z2 F 2 3 2 3 C (az C) C (az C) C C (zr (aeH (kN (zv F 0 C C) (iJ (zi 4)) (iJ (vd (zi 5))) (qu (aD X (az C)) l)) (zs ri (cS ['(','?','>','.','*','?'])) C C C (aD R (az C)) g (aD h (az C))) (zr (zi 0) cU C) C) C C C C C C) (zx (dQ d fY) ?_)⟩
 by_cases q:qh (rs.map Row.t) word 0=Y
 .rw [aM q]at b;subst b;rw [q];exact zx (kM (jb (kN (zv F 2 C C) (iJ (zi 1)) rC (wO (aD (by rw [dg];exact h) (az C)) s))) a C C) (hU (jc (zb Y)))
 .rw [aJ q]at b;subst b;rw [ow.mpr q];exact hU (kM (jb (kN (zv F 2 C C) (iJ (zi 1)) rC (wO (aD (by rw [dg];exact h) (az C)) s))) a C C)
end
theorem QE(p:bK c.B c.Z c.w a)(aC:u+2<=c.n)(F:Fm c.V n k G)(i t:J)(O:G[t]?=D (L,.globalImplicit))(s:c.mg L=D (.ref a.bq))(T:(("__init__":af),Q)∈a.fs)(aq:∀E d,e8 c.B c.Z c.w (u+1) (.ref Q) (.gQ E d 0) [] λX r=>X=.bL E [] aa 0 0/\r=.none)
  (g:n[i]?=D h)(e:i<k)(B:gY (.Call (.Name L j) [] [] o) (D (.Name h q)) v.line c.V=pure ay):
  SP c n k y (.Assign [.Name h q] (.Call (.Name L j) [] [] o) v) λm A=>∃E,m=y.set i (.obj (.bL E [] aa 0 0))/\A=.next:=by
 constructor;intro aP bC aX bh bl H S R;obtain⟨w,bx,bz,l⟩:=S
 exact kr (ku (nW c.G w l.base (F.kn t O nofun) s (F.kg t O) (callWith_K0 (p.iF l.base) p.ok.Ms (Zr p (c.R.less aC) T aq l λaT P E bf ah aj ak z Fr=>gh (av:=.obj (.bL E [] aa 0 0)) w H ak g e (F.loc g e) ⟨_,C,z⟩ ⟨λb f=>k8 ((Fr b f).hb) ((Fr b f).fz) ((Fr b f).loc) ((Fr b f).cell),λaE a_ aF b f=>(Fr b f).fp aE aF,λao aK f=>(Fr ao f).tab aK⟩
  λaH aL aN x=>R aH P .next _ .next (aR E C C) (ah.trans aN) aj ⟨w,aL,_,x⟩ dj)))) B
theorem HO(p:bK c.B c.Z c.w O)(F:Fm c.V n k aK)(i:J)(j:n[i]?=D x)(ah:y[i]?=D (.obj (.bL E e s q B))){o':Ob}(g:(L,a)∈O.fs)(f:vG O a)(z:L∉(["_node2info","_ready_nodes","_npassedout","_nfinished"]:I af))(o:copiedNames.contains L=ay)
  (T:∀{h},bF c.B.h₀ h->h.get? a=D b)(l:b.data=.func aF)(h:Ar c n k y u Q P t)(d:P[i]?=D (.obj (.bL E e s q B)))(v:e8 c.B c.Z c.w c.n (.ref a) (.bL E e s q B) t λm r=>m=o'/\r=.none)(w:(backTo u (starEach Q c.V)).any (·.1)=Y)
  (H:gY (.Call (.Attribute (.Name x X) L A) Q [] u) aa R.line c.V=pure ay):
  ES c n k y (.Expr (.Call (.Attribute (.Name x X) L A) Q [] u) R) (P.set i (.obj o')) .next:=by
 constructor;intro aL aN aX a_ bf bh S aj;refine tL (ZG p F i j ah g f z o T l h d v w S λak G aP m aT aq ao aC aE aH=>?_) (by delta interactive;exact S.1.kind.symm▸C) H;obtain⟨rfl,_⟩:=aq;exact aj ak G .next ao aC aE dj
theorem QO(p:bK c.B c.Z c.w O)(F:Fm c.V n ao cA)(i:J)(j:n[i]?=D t)(ak:y[i]?=D (.obj (.bL E aE aT q B)))(g:(L,a)∈O.fs)(b:L∉(["_node2info","_ready_nodes","_npassedout","_nfinished"]:I af))
  (T:∀{h},bF c.B.h₀ h->h.get? a=D u)(s:u.data=.func bR)(k:e8 c.B c.Z c.w c.n (.ref a) (.bL E aE aT q B) [] λm o=>m=X/\o=f)(v:(A.endLine==d.line)=Y):
  EE c n ao y (.Call (.Attribute (.Name t bH) L A) [] [] d) (y.set i (.obj X)) f:=by
 constructor;intro bE Q P bU cg R ah;refine cps λbP aj=>?_;obtain⟨w,x,cB,l⟩:=R;refine gv (Cv p l j ak) λz aq aC=>ai aC λG aF S=>?_;apply aj;subst aF
 exact BR p F j w l z S g b C (az C) v (Ab ⟨⟨T l.base,s⟩,i4 (k c.A c.ρ Q (.ref G.self) [] _ P _ c.R l.ready aq (l.uf (j4 j)) .nil λaH r aL bY m b_ aN aP H aX a_ aK bh bl bf bz=>by
  refine cps λcu bx=>?_;refine bT aN λbC e=>?_;subst bC e
  apply bx;exact ah aH r aL aP H ⟨w,x,_,l.qw j aX a_ H aK bh z ⟨.ref G.self,C,bl⟩ bf⟩ bz)⟩)
section
set_option tactic.hygienic true
theorem pD{R:Type}{l:I R}{x:R}(h:l[i]?=D x):l.set i x=l:=by
 refine bG (cG.mp h) λA j=>?_;subst j;exact List.set_getElem_self A
theorem aa5{x:String}(a:OwnCls x d i newId O j)(n:ExcBaseFacts l newId F i)(k:bF j s.heap)(w:s.heap.get? e=D c)(v:c.cls=.ref d)(h:Q Y s):
  aQ M L (excMatches (.ref e) (.ref d)) Q H s:=by
 refine cps λ_ b=>?_;obtain⟨G,p,B,E,T,t,o,sub,q,m,r,g,u,y,z,A,X,f,S,P,R⟩:=a.obj;exact b (wpAny_excMatches_sub_self (k _ _ f) w v (R.hasType n.hasBase) h)
theorem abl(a_:bK c.B c.Z c.w zI)(h:gZ c G)(z:Fm c.V ah k jd)(i j q:J)(g:ah[i]?=D bH)(h8:y[i]?=D (.obj (.bL aT Q aa v B)))(aK:(aX,bR)∈zI.fs)(fj:aX∉(["_node2info","_ready_nodes","_npassedout","_nfinished"]:I af))
  (T:∀{e},bF c.B.h₀ e->e.get? bR=D kO)(mw:kO.data=.func ae_)(xw:mH c.B c.Z c.w c.n (.ref bR) (.bL aT Q aa v B) [] (.ref bC) λbE r=>bE=.bL aT Q (D O) v B/\r=Co ak)(fy:(bY.endLine==cg.line)=Y)
  (cB:jd[q]?=D (("CycleError":af),.globalImplicit))(cF:OwnCls "CycleError" bC jn jo c.mg c.B.h₀)(kh:ExcBaseFacts ae7 jo ae8 jn)(bf:ah[j]?=D cV)(cZ:j<k)(xr:y[j]?=D (.t (.bool ay)))(xA:i≠j)
  (zH:gY (.Call (.Attribute (.Name bH C9) aX bY) [] [] cg) aa HS.line c.V=pure ay)(HV:gY (.Constant (.bool Y) u C_) (D (.Name cV HU)) gU.line c.V=pure ay):
  ES c ah k y (.Try [.Expr (.Call (.Attribute (.Name bH C9) aX bY) [] [] cg) HS] [.ExceptHandler (D (.Name "CycleError" ae6)) aa [.Assign [.Name cV HU] (.Constant (.bool Y) u C_) gU] ae5] [] [] ae9)
   ((y.set i (.obj (.bL aT Q (D O) v B))).set j (.t (.bool ak.isSome))) .next:=by
 constructor;intro bh HR bl afc QX gc gi bx;refine cps λ_ u=>?_;obtain⟨w,ao,bz,l⟩:=gi;refine gv (Cv a_ l g h8) λaC nB pM=>?_;obtain⟨s,rfl,xq⟩:=pM;apply u;have A:=j4 g;have aH:=l.fp i A;refine Sp (gN (tL (BR a_ z g w l aC xq aK fj C (az C) fy (Ab ⟨⟨T l.base,mw⟩,i4 (xw c.A c.ρ HR (.ref s.self) [] _ bl (bz i) [c.V.locals] G (l.EN h A) c.R l.ready nB (l.uf A) .nil λa p zJ bE r afd P bP H aE HQ E bU L b_ n cu=>(bT P λgV cA=>?_))⟩)) (by unfold interactive;exact w.kind.symm▸C) zH));subst gV;have aq:=G4 HQ (.head _) l.ns;cases r with
 |some t=>
  refine ai cu λafh jm ae4=>?_;subst jm;cases ak<;>first|(cases cA;done)|skip
  refine rP (rP (bx a p .next bP H ?_ dj));have x:(y.set i (.obj (.bL s.self Q (D O) v B))).set j (.t (.bool (aa:bg (I (I J))).isSome))=y.set i (.obj (.bL s.self Q (D O) v B)):=pD (ae (lJ xA) xr);exact x.symm▸⟨w,ao,_,l.wZ g (λb d F m o T=>aE b d F (λq=>m (cO.mp q)) o T) aq E H bU L aC ⟨.ref s.self,C,b_⟩ λb f=>⟨(n b f).1.imp id l.free,(n b f).2⟩⟩
 |none=>
  refine Ku cu λx kP kQ lF lG mu cL cQ pL=>?_;subst lF;cases ak<;>first|(cases cA;done)|skip
  refine cps λ_ u=>?_;obtain⟨S,afa,afg,rF,ahb,ae2,ae3,rG⟩:=PZ mu;refine ai h.fr λrH xn xo=>u ?_;have X:∀{b},(kQ.get? b).isSome=Y->b≠x/\b≠S:=λf=>⟨λq=>cY (aA mC lG) (q▸f),λq=>cY (aA mC rF) (q▸f)⟩;have dB:∀{b o},bl.heap.get? b=D o->b≠x/\b≠S:=λT=>X (cL _ (cW T));have fZ:∀aL∈c.V.locals::G,∃o,a.heap.get? aL=D o/\∀xt,o.data≠.fields xt:=λaL fB=>(cD.mp fB).elim (λq=>q.symm▸ji aq λo dK dK T xx dK=>⟨o,T,λ_ q=>nomatch ae xx.symm q⟩) λe=>h.dat _ _ E aL e;have xy:Heap.FlyingW (rest a.heap (x::S::c.V.locals::G)) (c.V::rH) x (.ref bC) kP a.heap:=
   ⟨uT _,tI _ (.head _),E2 (λdO aF=>tI _ (fF _ (fF _ aF))) fZ
    λxB aP=>(cD.mp aP).elim (λq=>q.symm▸⟨h.kd,_,.head _,h.own⟩) λaP=>match xo xB aP with|⟨k,dO,aF,aK⟩=>⟨k,dO,fF _ aF,aK⟩,
    rG _ (tI _ (d9 1 C))⟩
  have cH:∀{b o},b≠x/\b≠S->b≠c.V.locals->b∉G->a.heap.get? b=D o->(rest a.heap (x::S::c.V.locals::G)).get? b=D o:=λd F m T=>nZ T λe=>(cD.mp e).elim d.1 λe=>(cD.mp e).elim d.2 λe=>(cD.mp e).elim F m;have ej:∀{e},(rest a.heap (x::S::c.V.locals::G)).StaysIn e->bF c.B.h₀ e:=λk b o q=>by
   have f:=l.f_ b o q;have eu:=eZ l.nL.1 f;exact k b o (cH (dB (l.base b o q)) eu (λq=>l.i_ f (h.tab b q)) (aE b (λr=>aV (aH b r).1 f) (l.i_ f) (λr=>eu (cO.mp r)) o (l.base b o q)))
  refine wpAny_looks_onW xn h.own xy λafb zK ez=>wpAny_landsW zK λzL aN d8=>ai aN.there λQY C' xu=>?_;have eN:=ej aN.1;refine wpAny_handleBy_cons (codeAny_handlers_test (nW (s:={a with heap:=zL}) c.G w eN (z.kn q cB nofun) cF.bound (z.kg q cB) (aa5 cF kh eN C' xu (codeAny_handlers_suite (lands_againW aN λR eG eR=>?_))))) nofun;have aj:∀{b o},b≠x/\b≠S->b≠c.V.locals->b∉G->a.heap.get? b=D o->R.get? b=D o:=λd F m T=>eG.1 _ _ (cH d F m T);have HW:aW c.B c.ρ bh p c.V ah k (y.set i (.obj (.bL s.self Q (D O) v B))) ao (bV bz i zJ) R:=
   l.wZ g (λb d F m o T=>aj (dB T) m (λq=>F (h.tab b q)) (aE b d F (λq=>m (cO.mp q)) o T)) (((ez.trans d8).trans eR).ns aq)
    (h.sl p a.heap R E λP e6 o T=>(afr (P∈G)).elim (λq=>.inr ⟨q,ai (h.dat _ _ E P q) λae' HY HZ=>((ez.trans d8).trans eR) P o T (bj (ae HY.symm T)▸HZ)⟩) λq=>.inl (aj (X (cL P (c.B.live l.inv P e6))) (l.tab P e6).2.2.1 q T)) H (λb o T=>aj (X (cW (pL b o T))) ((L b o T).elim (λq=>eZ l.nL.2 q) λq=>q.elim (λq r=>cY (aA mC (r▸q)) (B_ l.ns)) λq=>(aH b q).2.2.1) (λt=>(L b o T).elim (λq=>aV (l.tab b (h.tab b t)).2.1 q) λq=>q.elim (λq=>cY (aA mC q) (c.B.live l.inv b (h.tab b t))) λq=>(l.tab b (h.tab b t)).2.2.2.2 i A q) (bU b o T)) L aC
    ⟨.ref s.self,C,c.B.frame b_ (ej eG.1) λb f o T=>aj (X (cQ b f)) ((λ_ r q=>r.elim (λr=>(aH _ r).2.2.1 q) λr=>cY (aA mC (q▸r)) (B_ l.ns)) (cQ b f) (n b f).1) (λt=>(n b f).1.elim (λq=>(l.tab b (h.tab b t)).2.2.2.2 i A q) λq=>cY (aA mC q) (c.B.live l.inv b (h.tab b t))) T⟩ λb f=>⟨(n b f).1.imp id l.free,(n b f).2⟩
  refine gN (KO bf cZ (z.loc bf cZ) (yo (τ:=.bool Y) C) HV bh p {a with heap:=R} _ _ gc ⟨w,ao,_,HW⟩ λH6 HX afe H8 H7 H9 HT=>?_);cases HT.nx;exact rP (bx H6 HX .next ((bP.trans ⟨R,_,C⟩).trans H8) (H.trans H7) H9 dj)
end
section
variable{α:Type}{g:α->I α}{F:α->Prop}{x y t:α}{n:J}
def Gk(g:α->I α)(n:J):α->α->Prop:=n.rec (λx y=>x=y) λ_ H x y=>∃E,H x E/\y∈g E
theorem E4:Gk g (n+1) x y<->∃E,Gk g n x E/\y∈g E:=Ii
theorem W6:Gk g 1 x y<->y∈g x:=⟨λh=>ai h λE e m=>e▸m,λh=>⟨x,C,h⟩⟩
theorem W7(h:Gk g (n+1) x y):∃E,E∈g x/\Gk g n E y:=by
 induction n generalizing y with
 |zero=>exact⟨y,W6.mp h,C⟩
 |succ n e=>exact ai (E4.mp h) λE w m=>ai (e w) λv d t=>(aR (v) (d) (⟨E,t,m⟩))
def Am(g:α->I α)(F:α->Prop):Prop:=∀x,F x->∀y∈g x,F y
def DR(g:α->I α)(F:α->Prop):Prop:=∀x,F x->∀n,¬Gk g (n+1) x x
theorem acP(h:Am g F)(j:F x)(w:Gk g n x y):F y:=by
 induction n generalizing y with
 |zero=>exact w▸j
 |succ n e=>exact ai (E4.mp w) λE w m=>h E (e w) y m
theorem S7(d:Am g F)(p:DR g F)(l:¬F t)(B:∀y∈g t,F y):Am g (λx=>F x\/x=t)/\DR g (λx=>F x\/x=t):=by
 refine⟨λx j y L=>j.elim (λq=>.inl (d x q y L)) λq=>.inl (B y (q▸L)),λx j n w=>j.elim (λq=>p x q n w) λq=>?_⟩;subst q;exact ai (W7 w) λE e h=>l (acP d (B E e) h)
end
section
variable{g:Gr}{t nd l x:I J}{p n:J}{r:Rs}{kv:Kv}{seen dX:I (I J)}{F:I J->Prop}
def Key(kv:Kv)(t:I J):Prop:=∃x∈kv,x.1=t
theorem FP:(jK kv t).isSome=Y<->Key kv t:=by
 delta jK
 rw [Option.isSome_map,afK];exact⟨λh=>ai h λx a b=>⟨x,a,dh b⟩,λh=>ai h λx a b=>(aR (x) (a) (cM b))⟩
theorem Yv(h:jK kv t=aa):¬Key kv t:=λk=>nomatch h▸FP.mpr k
theorem Yw:Key (oU kv l i) t<->Key kv t\/t=l:=by
 delta oU
 by_cases c:kv.any (λx=>aO (x.1=l))=Y
 .rw [aM c];refine⟨λh=>ai h λx j e=>ai (dZ.mp j) λH L q=>?_,λh=>h.elim (λh=>ai h λx j e=>⟨_,fM j,?_⟩) λq=>ai (mz.mp c) λx j e=>⟨_,fM j,?_⟩⟩
  .subst q
   by_cases d:H.1=l
   .rw [aM d]at e;exact .inl ⟨H,L,e⟩
   .rw [aJ d]at e;exact .inl ⟨H,L,e⟩
  .by_cases d:x.1=l
   .rw [aM d];exact e
   .rw [aJ d];exact e
  .rw [aM (dh e),q];exact dh e
 .rw [aJ c];refine⟨λh=>ai h λx j e=>(fE.mp j).elim (λm=>.inl ⟨x,m,e⟩) λm=>.inr (ae e.symm (aA Prod.fst (cO.mp m))),λh=>h.elim (λh=>ai h λx j e=>⟨x,gj _ j,e⟩) λq=>(aR ((l,i)) (i0 _ (.head _)) (q.symm))⟩
theorem FN:Key (lT kv l) t<->Key kv t/\t≠l:=
 ⟨λh=>ai h λx j e=>⟨⟨x,(f9.mp j).1,e⟩,λq=>dh (f9.mp j).2 (ae e q)⟩,λh=>ai h.1 λx j e=>⟨x,f9.mpr ⟨j,cM λq=>h.2 (ae e.symm q)⟩,e⟩⟩
theorem Y_:U (lT kv l)<=U kv:=ki _ _
def Fn(seen:I (I J))(r:Rs)(x:I J):Prop:=x∈seen/\x∉r.map (·.1)
def Ch(g:Gr)(F:I J->Prop)(l:I J)(r:Rs):Prop:=r.rec (λ_=>True) (λa r n l=>(∃q,a.2=q+1/\(g a.1)[q]?=D l/\∀i,i<q->∀H,(g a.1)[i]?=D H->F H)/\n a.1) l
theorem Ug:Ch g F l ((t,p)::r)<->(∃q,p=q+1/\(g t)[q]?=D l/\∀i,i<q->∀H,(g t)[i]?=D H->F H)/\Ch g F t r:=Ii
theorem Ch.mono(h:∀x,F x->k x):∀{r:Rs}{l:I J},Ch g F l r->Ch g k l r
 |[],_,_=>dj
 |a::r,l,c=>⟨dG c.1 λq a b d=>⟨q,a,b,λi A H e=>h H (d i A H e)⟩,Ch.mono h c.2⟩
theorem J1:∀{r:Rs}{l:I J},Ch g F l r->t∈r.map (·.1)->∃k,Gk g (k+1) t l
 |[],_,_,h=>bA (h) dR
 |a::r,l,c,m=>dG c.1 λq H b d=>(cD.mp m).elim (λe=>⟨0,a.1,e,cN b⟩) λm=>bG (J1 c.2 m) λk w=>⟨k+1,a.1,w,cN b⟩
def Top(g:Gr)(F:I J->Prop):Rs->Prop
 |[]=>True
 |(t,p)::r=>(∀i,i<p->∀H,(g t)[i]?=D H->F H)/\Ch g F t r
structure Sk(g:Gr)(seen:I (I J))(r:Rs)(kv:Kv):Prop where
 nd:(r.map (·.1)).Nodup
 sn:∀t∈r.map (·.1),t∈seen
 ky:∀t,Key kv t<->t∈r.map (·.1)
 cl:Am g (Fn seen r)
 nr:DR g (Fn seen r)
 lr:r.length<=seen.length
 lk:kv.length<=seen.length
theorem PV(c:Ch g F l r)(h:F l):Top g F r:=match r with
 |[]=>dj
 |(t,p)::r=>⟨dG c.1 λq a b d=>λi A H e=>(RN (rL (Nat.lt_of_lt_of_eq A a))).elim (λk=>d i k H e) λk=>by subst k;rw [b]at e;exact bj e▸h,c.2⟩
noncomputable def rem(g:Gr)(r:Rs):J:=(r.map λa=>(g a.1).length-a.2).sum
theorem Cr:rem g ((t,p)::r)=U (g t)-p+rem g r:=IG
theorem Ox:∀(r:Rs)(kv:Kv),Sk g seen r kv->Top g (Fn seen r) r->(∃k,l7 g r kv=D (aa,[],k)/\Sk g seen [] k)\/∃l s k,l7 g r kv=D (D l,s,k)/\Sk g seen s k/\Ch g (Fn seen s) l s/\rem g s<rem g r/\(∀x∈s.map (·.1),x∈r.map (·.1))/\∃t∈r.map (·.1),l∈g t:=λr=>r.rec
 (λkv S T=>.inl ⟨_,C,S⟩)
 (λ(t,p)r o kv S T=>by
  have nd:t∉r.map _/\(r.map _).Nodup:=gM.mp S.nd;cases e:(g t)[p]? with
  |some l=>
   refine .inr ⟨l,(t,p+1)::r,kv,?_,⟨S.nd,S.sn,S.ky,S.cl,S.nr,S.lr,S.lk⟩,Ug.mpr ⟨(i12 (p) (C) (e) (T.1)),T.2⟩,?_,λx m=>m,t,.head _,cN e⟩
   .apply ae (Ck);rw [e]
   .rw [Cr,Cr];have:=(cG.mp e).1;exact d_ 0 (.a (.a (.v 2) (.v 3)) (.n 1)) (.a (.v 4) (.v 3)) (.a (.v 2) (.a (.v 0) (.n 1))) (.v 1) (.v 1) (.a (.v 4) (.v 0)) C [_,_,_,_,_] ((lq this)) m6
  |none=>
   have b:l7 g ((t,p)::r) kv=l7 g r (lT kv t):=by
    exact(Ck)▸(e)▸(aM (FP.mpr ((S.ky t).mpr (.head _))))
   have j:¬Fn seen ((t,p)::r) t:=λh=>h.2 (.head _);have i:=S7 S.cl S.nr j (λH L=>bG (pO L) λn A=>T.1 n (eI (cG.mp A).1 (afN.mp e)) H A);have f:λx=>Fn seen ((t,p)::r) x\/x=t=Fn seen r:=funext λx=>propext ⟨λh=>h.elim (λh=>⟨h.1,λm=>h.2 (.tail _ m)⟩) λq=>q▸⟨S.sn t (.head _),nd.1⟩,λh=>(afr _).elim .inr λc=>.inl ⟨h.1,λm=>(cD.mp m).elim c h.2⟩⟩;rw [f]at i;have ST:Sk g seen r (lT kv t):=⟨nd.2,λx m=>S.sn x (.tail _ m),λx=>⟨λh=>(cD.mp ((S.ky x).mp (FN.mp h).1)).resolve_left (FN.mp h).2,λm=>FN.mpr ⟨(S.ky x).mpr (.tail _ m),λq=>nd.1 (q▸m)⟩⟩,i.1,i.2,aga S.lr,aD Y_ S.lk⟩;rw [b]
   exact(o _ ST (PV (T.2.mono λx h=>⟨h.1,λm=>h.2 (.tail _ m)⟩) ⟨S.sn t (.head _),nd.1⟩)).imp id λh=>Ey h λl s k h=>ua h λa u c d y v=>⟨l,s,k,a,u,c,eI d (Cr▸dN _ _),λx m=>.tail _ (y x m),ai v λt m h=>⟨t,.tail _ m,h⟩⟩)
noncomputable def jh(g:Gr)(dX seen:I (I J)):J:=(dX.map λx=>if x∈seen then 0 else 1+(g x).length).sum
theorem U1(h:nd∉seen)(m:nd∈dX):jh g dX (seen++[nd])+(1+U (g nd))<=jh g dX seen:=by
 have t:∀x,(if x∈seen++[nd]then 0 else 1+U (g x))<=if x∈seen then 0 else 1+U (g x):=λx=>by
  by_cases c:x∈seen
  .rw [aM c,aM (gj _ c)];exact dz _
  .rw [aJ c];split<;>omega
 have L:∀dX:I (I J),jh g dX (seen++[nd])<=jh g dX seen:=λdX=>dX.rec (dz _) λx dX n=>iB (t x) n
 induction dX with
 |nil=>exact bA (m) dR
 |cons x dX n=>
  show(if _ then _ else _)+jh g dX _+_<=(if _ then _ else _)+jh g dX _;rcases cD.mp m with q|m
  .subst q;rw [aJ h,aM (i0 _ (.head _))];have:=L dX;exact cT 0 (.a (.a (.n 0) (.v 0)) (.a (.n 1) (.v 2))) (.a (.a (.n 1) (.v 2)) (.v 1)) (.v 0) (.v 1) C [_,_,_] this
  .rw [vp];exact iB (t x) (n m)
theorem Y9{l:I R}:U (cut (D z) aa l)<=U l:=aD (RC ..) (by rw [xH];exact Dr _ _)
def AA(g:Gr)(dX seen:I (I J))(nd:I J):I (I J)⊕I (I J)×Kv->Prop
 |.inl c=>(∃x∈dX,∃k,Gk g (k+1) x x)/\c≠[]/\c.length<=801
 |.inr (s,kv)=>Sk g s [] kv/\(∀x∈seen,x∈s)/\nd∈s/\s.length+jh g dX s<=800
theorem AA.to(h:∀x∈seen,x∈e)(z:nd∈e):∀{o},AA g dX e l o->AA g dX seen nd o
 |.inl _,i=>i
 |.inr (_,_),i=>⟨i.1,λx m=>i.2.1 x (h x m),i.2.1 _ z,i.2.2.2⟩
theorem ab9(E:∀x∈dX,∀R∈g x,R∈dX):∀(n:J)(nd:I J)(r:Rs)(kv:Kv)(seen:I _),Sk g seen r kv->Ch g (Fn seen r) nd r->nd∈dX->(∀t∈r.map (·.1),t∈dX)->jh g dX seen+rem g r<n->U seen+jh g dX seen<=800->
  ∃o,n5 g n nd r kv seen=D o/\AA g dX seen nd o:=λn=>n.rec
 (λ_ _ _ _ _ _ _ _ h=>nomatch h)
 (λn T nd r kv seen S u z s w B=>by
  have e:n5 g (n+1) nd r kv seen=_:=GO
  by_cases c:nd∈seen
  .rw [aM c]at e;cases P:jK kv nd with
   |some X=>
    refine⟨.inl (cut (D X) aa ((r.map _).reverse)++[nd]),by apply ae (e);rw [P],⟨nd,z,J1 u ((S.ky nd).mp (FP.mp (P▸C)))⟩,List.append_ne_nil_of_right_ne_nil _ nofun,?_⟩;rw [cC];have:=Y9 (z:=X) (l:=(r.map (·.1)).reverse);simp only [List.length_reverse,dg]at this;exact ju (aD this (aD S.lr (aD (fO _ _) B)))
   |none=>
    rw [P]at e;rcases Ox _ _ S (PV u (⟨c,λm=>Yv P ((S.ky nd).mpr m)⟩))with h|h
    .exact ai h λk a A=>⟨.inr (seen,k),by rw [e,a],A,λx h=>h,c,B⟩
    .exact Ey h λl ak k h=>ua h λa A b d y v=>ai (T _ _ _ _ A b (ai v λt m i=>E t (s t m) l i) (λt m=>s t (y t m)) (by exact d_ 0 (.a (.a (.v 0) (.v 3)) (.n 1)) (.v 2) (.a (.a (.v 0) (.v 1)) (.n 1)) (.a (.v 2) (.n 1)) (.a (.v 3) (.n 1)) (.v 1) C [_,_,_,_] w h.2.2.2.1) B) λo h j=>⟨o,by apply ae (e);rw [a];exact h,j.to (λx m=>m) c⟩
  .have aj:nd∉r.map (·.1):=λm=>c (S.sn nd m);have L:=U1 (g:=g) c z;have H:U (seen++[nd])=U seen+1:=cC;have f:Fn (seen++[nd]) ((nd,0)::r)=Fn seen r:=funext λx=>propext ⟨λh=>⟨(fE.mp h.1).resolve_right λm=>h.2 (cO.mp m▸.head _),λm=>h.2 (.tail _ m)⟩,λh=>⟨gj _ h.1,λm=>(cD.mp m).elim (λq=>c ((show x=nd from q)▸h.1)) h.2⟩⟩;have ao:Sk g _ ((nd,0)::r) (oU kv nd (U r)):=⟨gM.mpr ⟨aj,S.nd⟩,λt m=>(cD.mp m).elim (λq=>q▸i0 _ (.head _)) λm=>gj _ (S.sn t m),λt=>Yw.trans ⟨λh=>h.elim (λh=>.tail _ ((S.ky t).mp h)) λq=>q▸.head _,λm=>(cD.mp m).elim .inr λm=>.inl ((S.ky t).mpr m)⟩,f▸S.cl,f▸S.nr,H▸ju S.lr,H▸aD (Ex ..) (ju S.lk)⟩;have aq:Top g (Fn _ _) ((nd,0)::r):=⟨λi h=>(nomatch h),f▸u⟩;have ah:U r<=800/\U kv<=800/\U seen<=800:=by
    have G:=aD (fO _ _) B;exact⟨aD S.lr G,aD S.lk G,G⟩
   rw [aJ c,aM ah]at e;have Q:U (seen++[nd])+jh g dX (seen++[nd])<=800:=by exact jP 0 (.a (.v 4) (.v 2)) (.n 800) (.a (.v 0) (.v 1)) (.n 800) (.a (.v 2) (.a (.n 1) (.v 3))) (.v 1) (.v 4) (.a (.v 0) (.n 1)) C [_,_,_,_,_] B L ((iU H))
   have O:∀x∈seen,x∈seen++[nd]:=λx m=>gj _ m;have F:nd∈seen++[nd]:=i0 _ (.head _);have p:=λt m=>(cD.mp m).elim (λq=>q▸z) (s t);rcases Ox _ _ ao aq with h|h
   .exact ai h λk a A=>⟨.inr (seen++[nd],k),by apply ae (e);rw [a],A,O,F,Q⟩
   .refine Ey h λl ak k h=>ua h λa A b d y v=>ai (T _ _ _ _ A b (ai v λt m i=>E t (p t m) l i) (λt m=>p t (y t m)) ?_ Q) λo h j=>⟨o,by apply ae (e);rw [a];exact h,j.to O F⟩;simp only [Cr]at d
    exact m5 0 (.a (.a (.v 3) (.v 5)) (.n 1)) (.v 2) (.a (.a (.v 0) (.v 1)) (.n 1)) (.a (.v 2) (.n 1)) (.a (.v 3) (.a (.n 1) (.v 4))) (.v 0) (.a (.v 5) (.n 1)) (.a (.v 6) (.v 1)) (.v 6) (.v 4) C [_,_,_,_,_,_,_] w L d B4)
theorem U3:jh g dX seen<=jh g dX []:=dX.rec (dz _) λx dX n=>iB (aD (by show(if _ then _ else _)<=_;split;exact gF _;exact dz _) (fq (aJ dR).symm)) n
theorem WN(u:∀x∈dX,∀H∈g x,H∈dX):∀(G:I _)(seen:I _)(kv:Kv),Sk g seen [] kv->(∀x∈G,x∈dX)->U seen+jh g dX seen<=800->
  ∃o,qQ g (jh g dX []+1) G seen kv=D o/\(o=aa->∃s k,Sk g s [] k/\(∀x∈seen,x∈s)/\∀x∈G,x∈s)/\∀c,o=D c->(∃x∈dX,∃l,Gk g (l+1) x x)/\c≠[]/\U c<=801:=λG=>G.rec
 (λ_ _ S _ _=>(i12 (aa) (C) (λ_=>⟨_,_,S,λx m=>m,λx m=>(nomatch m)⟩) (λc e=>(nomatch e))))
 (λnd G n seen kv S z B=>by
  have e:qQ g (jh g dX []+1) (nd::G) seen kv=_:=K6;have X:=λx m=>z x (.tail _ m)
  by_cases c:nd∈seen
  .rw [aM c]at e;exact dG (n _ _ S X B) λo a b d=>⟨o,ae e a,λq=>e5 (b q) λs k A y v=>(gx (s) (k) (A) (y) (λx m=>(cD.mp m).elim (λq=>q▸y _ c) (v x))),d⟩
  .rw [aJ c]at e;refine ai (ab9 u (jh g dX []+1) _ _ _ _ S dj (z nd (.head _)) (λt m=>nomatch m) (RP U3) B) λo a i=>?_;rw [a]at e;cases o with
   |inl c=>exact(i12 (D c) (e) (λq=>(nomatch q)) (λd q=>bj q▸i))
   |inr p=>obtain⟨s,k⟩:=p;exact dG (n _ _ i.1 X i.2.2.2) λo a b d=>⟨o,ae e a,λq=>e5 (b q) λj h A y v=>⟨j,h,A,λx m=>y x (i.2.1 x m),λx m=>(cD.mp m).elim (λq=>q▸y _ i.2.2.1) (v x)⟩,d⟩)
theorem sk0:Sk g [] [] []:=⟨xK,λt m=>(nomatch m),λt=>⟨λh=>ai h λx m=>(bA (m) dR),λm=>nomatch m⟩,λx h=>(nomatch h.1),λx h=>(nomatch h.1),dz _,dz _⟩
theorem Wv(l:nQ H=Y)(B:jh (dS H) (H.map (·.1)) []<=800):∃T o,lW H T=D o/\m8 o=Y/\(o=aa<->∀x∈H.map (·.1),∀k,¬Gk (dS H) (k+1) x x):=by
 have u:∀x∈H.map (·.1),∀h∈dS H x,h∈H.map (·.1):=λx m h L=>by
  delta dS at L
  cases g:H.find? _ with
  |none=>rw [g]at L;exact bA (L) dR
  |some a=>
   rw [g]at L;have:=gK.mp (gK.mp l a (afV g)) h L;exact ai (mz.mp this) λb f i=>dh i▸fM f
 refine dG (WN u _ _ _ sk0 (λx m=>m) ((jv _).symm▸B)) λo a b d=>⟨_,o,a,?_,?_⟩
 .cases o with
  |none=>rfl
  |some c=>exact gv (d c C) λ_ x h=>cR.mpr ⟨by cases c with|nil=>exact bA C x|cons _ _=>rfl,cM (aD h (az C))⟩
 .refine⟨λq x m k w=>e5 (b q) λn s S y v=>S.nr x ⟨v x m,nofun⟩ k w,λe=>?_⟩;cases o with
  |none=>rfl
  |some c=>exact gv (d c C) λr _ _=>ai r λx m w=>bG w λk w=>bA w (e x m k)
end
section
variable{L:I AN}{l x p:I J}{d:aS}{u:AN->AN}
noncomputable def j1(L:I AN)(x:I J):bg AN:=L.find? λa=>aO (a.1=x)
noncomputable def upd(L:I AN)(l:I J)(u:AN->AN):I AN:=L.map λa=>if a.1=l then u a else a
theorem uM:er L x=match j1 L x with|D a=>a.2.1|aa=>0:=C
theorem u0:dS L x=match j1 L x with|D a=>a.2.2|aa=>[]:=C
theorem Bh(h:∀a,(u a).1=a.1):j1 (upd L l u) x=if x=l then(j1 L x).map u else j1 L x:=by
 delta j1 upd
 apply ae (List.find?_map);have e:((λa:AN=>aO (a.1=x))∘λa=>if a.1=l then u a else a)=λa=>aO _:=funext λa=>by
  show aO ((if a.1=l then u a else a).1=x)=_
  by_cases c:a.1=l
  .rw [aM c,h]
  .rw [aJ c]
 rw [e];cases g:L.find? _ with
 |none=>simp
 |some a=>
  have:=dh (afL g:)
  by_cases c:x=l
  .simp [c,this]
  .simp [c,this]
theorem BB(h:∀a,(u a).1=a.1):(upd L l u).map (·.1)=L.map (·.1):=by
 delta upd
 apply ae (dH);exact kj λa _=>by
  show(if a.1=l then u a else a).1=_
  by_cases c:a.1=l
  .rw [aM c,h]
  .exact aA _ (aJ c)
theorem K2(h:x∈L.map (·.1)):∃a,j1 L x=D a:=ai (dZ.mp h) λa u e=>gG.mp (afK.mpr ⟨a,u,cM e⟩)
theorem EU(h:x∉L.map (·.1)):j1 L x=aa:=Dj.mpr λa u e=>h (dZ.mpr ⟨a,u,dh e⟩)
theorem yC:Fo L x=Y<->x∈L.map (·.1):=⟨λh=>ai (mz.mp h) λa u e=>dZ.mpr ⟨a,u,dh e⟩,λh=>ai (dZ.mp h) λa u e=>mz.mpr ⟨a,u,cM e⟩⟩
theorem Ld(h:l∈L.map (·.1)):e_ L l=L:=aM (yC.mpr h)
theorem Lg(h:l∉L.map (·.1)):e_ L l=L++[(l,0,[])]:=aJ λe=>h (yC.mp e)
theorem K0:j1 (e_ L l) x=if x=l/\x∉L.map (·.1)then D (l,0,[])else j1 L x:=by
 by_cases c:l∈L.map (·.1)
 .rw [Ld c,aJ λh=>h.2 (h.1▸c)]
 .rw [Lg c]
  delta j1
  refine ae (Iv) ?_
  by_cases e:x=l
  .subst e;rw [aM ⟨C,c⟩,show List.find? (λa:AN=>aO (a.1=x)) L=aa from EU c];simp
  .rw [aJ λh=>e h.1];have:[(l,(0:aS),([]:I (I J)))].find? (λa=>aO (a.1=x))=aa:=by simp [iC e]
   rw [this,agr]
theorem Mj:(e_ L l).map (·.1)=if l∈L.map (·.1)then L.map (·.1)else L.map (·.1)++[l]:=by
 by_cases c:l∈L.map (·.1)
 .rw [Ld c,aM c]
 .rw [Lg c,aJ c,eW];rfl
theorem Nf:er (e_ L l) x=er L x:=by
 apply ae (uM);rw [uM,K0]
 by_cases c:x=l/\x∉L.map (·.1)
 .rw [aM c,EU c.2]
 .rw [aJ c]
theorem PE:dS (e_ L l) x=dS L x:=by
 apply ae (u0);rw [u0,K0]
 by_cases c:x=l/\x∉L.map (·.1)
 .rw [aM c,EU c.2]
 .rw [aJ c]
theorem Gs(h:∀a,(u a).1=a.1){φ:aS->aS}(i:∀a,(u a).2.1=φ a.2.1)(X:l∈L.map (·.1)):er (upd L l u) x=if x=l then φ (er L x)else er L x:=by
 apply ae (uM);rw [uM,Bh h]
 by_cases c:x=l
 .rw [aM c,aM c];exact bG (K2 (c▸X)) λa e=>e▸i a
 .rw [aJ c,aJ c]
theorem aag(h:∀a,(u a).1=a.1)(i:∀a,(u a).2.1=a.2.1):er (upd L l u) x=er L x:=by
 apply ae (uM);rw [uM,Bh h]
 by_cases c:x=l
 .rw [aM c];cases j1 L x with
  |none=>rfl
  |some a=>exact i a
 .rw [aJ c]
theorem G_(h:∀a,(u a).1=a.1)(i:∀a,(u a).2.2=a.2.2):dS (upd L l u) x=dS L x:=by
 apply ae (u0);rw [u0,Bh h]
 by_cases c:x=l
 .rw [aM c];cases j1 L x with
  |none=>rfl
  |some a=>exact i a
 .rw [aJ c]
theorem aae(h:l∈L.map (·.1)):er (lu L l d) x=er L x+if x=l then d else 0:=
 ae (Gs (u:=λa=>(a.1,a.2.1+d,a.2.2)) (φ:=(·+d)) (λ_=>C) (λ_=>C) h) (by by_cases c:x=l;rw [aM c,aM c];apply ae (aJ c);rw [aJ c,Int.add_zero])
theorem ac8:dS (lu L l d) x=dS L x:=G_ (λ_=>C) λ_=>C
theorem aaf:er (iZ L l p) x=er L x:=aag (λ_=>C) λ_=>C
theorem ac9(h:l∈L.map (·.1)):dS (iZ L l p) x=dS L x++if x=l then [p]else []:=by
 apply ae (u0);rw [u0,show j1 (iZ L l p) x=if x=l then(j1 L x).map (λa=>(a.1,a.2.1,a.2.2++[p]))else j1 L x from Bh λ_=>C]
 by_cases c:x=l
 .rw [aM c,aM c];exact bG (K2 (c▸h)) λa e=>e▸C
 .rw [aJ c,aJ c,jq]
theorem Ng(h:l∈L.map (·.1)):er (o_ L l d) x=if x=l then d else er L x:=Gs (u:=λa=>(a.1,d,a.2.2)) (φ:=λ_=>d) (λ_=>C) (λ_=>C) h
theorem PF:dS (o_ L l d) x=dS L x:=G_ (λ_=>C) λ_=>C
theorem Gq(h:l∈L.map (·.1)):er (decA L l) x=if x=l then er L x-1 else er L x:=Gs (u:=λa=>(a.1,a.2.1-1,a.2.2)) (φ:=(·-1)) (λ_=>C) (λ_=>C) h
theorem ac7:dS (decA L l) x=dS L x:=G_ (λ_=>C) λ_=>C
theorem Ml:(lu L l d).map (·.1)=L.map (·.1):=BB λ_=>C
theorem Mm:(iZ L l p).map (·.1)=L.map (·.1):=BB λ_=>C
theorem BA:(o_ L l d).map (·.1)=L.map (·.1):=BB λ_=>C
theorem Mi:(decA L l).map (·.1)=L.map (·.1):=BB λ_=>C
theorem BQ:x∈(e_ L l).map (·.1)<->x∈L.map (·.1)\/x=l:=by
 rw [Mj]
 by_cases c:l∈L.map (·.1)
 .rw [aM c];exact⟨.inl,λh=>h.elim id λe=>e▸c⟩
 .rw [aJ c,fE,cO]
theorem MZ(h:(L.map (·.1)).Nodup):((e_ L l).map (·.1)).Nodup:=by
 rw [Mj]
 by_cases c:l∈L.map (·.1)
 .rw [aM c];exact h
 .rw [aJ c];exact gk.mpr ⟨h,gM.mpr ⟨nofun,.nil⟩,λa u b f e=>c (cO.mp f▸e▸u)⟩
theorem K1(h:(L.map (·.1)).Nodup){a:AN}(u:a∈L):j1 L a.1=D a:=by
 induction L with
 |nil=>exact bA (u) dR
 |cons b L n=>
  show List.find? _ _=_
  by_cases c:b.1=a.1
  .apply ae (Iz (by exact cM c));rcases cD.mp u with q|q
   .exact q▸C
   .exact bA (fM (f:=Prod.fst) q) (c▸(gM.mp h).1)
  .apply ae (Iw (by exactλq=>c (dh q)));exact n (gM.mp h).2 ((cD.mp u).resolve_left λq=>c (q▸C))
theorem OJ(h:(L.map (·.1)).Nodup):eB L=(L.map (·.1)).filter λx=>aO (er L x=0):=by
 simp only [Iu];refine aA _ (vn λa u=>?_);show _=aO (er L a.1=0);rw [uM,K1 h u]
end
section
variable{L:I AN}{k x p:I J}{ps:I (I J)}
theorem aad(Q:ps.Nodup):er (jI L k ps) x=er L x+if x=k then(U ps:aS)else 0:=by
 have h:∀(ps:I (I J))(L:I AN),er (ps.foldl (λL p=>iZ (e_ L p) p k) L) x=er L x:=λps=>ps.rec (λ_=>C) λp ps n L=>ae (n _) (ae aaf Nf);show er (ps.foldl _ _) x=_;rw [h,aae (BQ.mpr (.inr C)),Nf]
theorem Yx:x∈(jI L k ps).map (·.1)<->x∈L.map (·.1)\/x=k\/x∈ps:=by
 have e:∀(ps:I (I J))(L:I AN),x∈(ps.foldl (λL p=>iZ (e_ L p) p k) L).map _<->x∈L.map _\/x∈ps:=λps=>ps.rec (λ_=>⟨.inl,λh=>h.elim id λh=>bA (h) dR⟩) λp ps n L=>(n _).trans (by rw [Mm,BQ,cD,or_assoc]);apply(e ps _).trans;rw [Ml,BQ,or_assoc]
theorem ZR(h:(L.map (·.1)).Nodup):((jI L k ps).map (·.1)).Nodup:=by
 have e:∀(ps:I _)(L:I AN),(L.map _).Nodup->((ps.foldl (λL p=>iZ (e_ L p) p k) L).map _).Nodup:=λps=>ps.rec (λ_ h=>h) λp ps n L h=>n _ (by rw [Mm];exact MZ h);exact e ps _ (by rw [Ml];exact MZ h)
theorem succ_add(Q:ps.Nodup):dS (jI L k ps) x=dS L x++if x∈ps then [k]else []:=by
 have e:∀(ps:I (I J))(L:I AN),ps.Nodup->dS (ps.foldl (λL p=>iZ (e_ L p) p k) L) x=dS L x++if x∈ps then [k]else []:=λps=>ps.rec (λL _=>by rw [aJ nofun,jq];rfl) λp ps n L Q=>by
  have Q:=gM.mp Q;apply ae (n _ Q.2);rw [ac9 (BQ.mpr (.inr C)),PE,gX];apply aA _
  by_cases c:x=p
  .rw [aM c,aJ (c▸Q.1),aM (c▸.head _),jq]
  .rw [aJ c,RH]
   by_cases d:x∈ps
   .apply ae (aM d);rw [aM (.tail _ d)]
   .apply ae (aJ d);rw [aJ λh=>(cD.mp h).elim c d]
 apply ae (e ps _ Q);rw [ac8,PE]
def gO(P:I (I J))(Q:I J->I (I J)):I AN:=P.foldl (λL k=>jI L k (Q k)) []
variable{P:I (I J)}{Q:I J->I (I J)}
theorem K5(P:I _)(k:I J):gO (P++[k]) Q=jI (gO P Q) k (Q k):=List.foldl_append
theorem Td(f:∀k,(Q k).Nodup)(o:P.reverse.Nodup):er (gO P Q) x=if x∈P then(U (Q x):aS)else 0:=by
 have L:∀i:I (I J),i.Nodup->er (gO i.reverse Q) x=if x∈i then(U (Q x):aS)else 0:=λi=>i.rec (λ_=>C) λk i n h=>by
  have h:=gM.mp h;rw [IE,K5,aad (f k),n h.2]
  by_cases c:x=k
  .subst c;rw [aJ h.1,aM C,aM (.head _),Int.zero_add]
  .rw [aJ c,Int.add_zero]
   by_cases d:x∈i
   .apply ae (aM d);rw [aM (.tail _ d)]
   .apply ae (aJ d);rw [aJ λe=>(cD.mp e).elim c d]
 have:=L _ o;simp only [af1,List.mem_reverse]at this;exact this
theorem AJ(f:∀k,(Q k).Nodup):dS (gO P Q) x=P.filter λk=>aO (x∈Q k):=by
 have L:∀i:I (I J),dS (gO i.reverse Q) x=i.reverse.filter λk=>aO (x∈Q k):=λi=>i.rec C λk i n=>by
  rw [IE,K5,succ_add (f k),n,List.filter_append];apply aA _
  by_cases c:x∈Q k
  .rw [aM c];simp [c]
  .apply ae (aJ c);simp [c]
 have:=L P.reverse
 rwa [af1]at this
theorem vV:((gO P Q).map (·.1)).Nodup:=by
 have e:∀(P:I (I J))(L:I AN),(L.map _).Nodup->((P.foldl (λL k=>jI L k (Q k)) L).map _).Nodup:=λP=>P.rec (λ_ h=>h) λk P n L h=>n _ (ZR h);exact e P [] .nil
theorem tW(R:∀k∈P,∀H∈Q k,H∈P):x∈(gO P Q).map (·.1)<->x∈P:=by
 have e:∀(i:I (I J))(L:I AN),x∈(i.foldl _ L).map _<->x∈L.map _\/x∈i\/∃k∈i,x∈Q k:=λi=>i.rec (λL=>⟨.inl,λh=>h.elim id λh=>h.elim (λh=>nomatch h) λh=>ai h λk m=>nomatch m⟩) λk i n L=>(n _).trans (by
  rw [Yx];constructor
  .rintro((h|h|h)|h|⟨t,m,h⟩)
   .exact .inl h
   .exact .inr (.inl (h▸.head _))
   .exact .inr (.inr ⟨k,.head _,h⟩)
   .exact .inr (.inl (.tail _ h))
   .exact .inr (.inr ⟨t,.tail _ m,h⟩)
  .rintro(h|h|⟨t,m,h⟩)
   .exact .inl (.inl h)
   .rcases cD.mp h with h|h
    .exact .inl (.inr (.inl h))
    .exact .inr (.inl h)
   .rcases cD.mp m with q|m
    .exact .inl (.inr (.inr (q▸h)))
    .exact .inr (.inr ⟨t,m,h⟩))
 refine(e P []).trans ⟨λh=>h.elim (λh=>nomatch h) λh=>h.elim id λh=>ai h λk m q=>R k m x q,λh=>.inr (.inl h)⟩
theorem Jr(f:∀k,(Q k).Nodup)(R:∀k∈P,∀H∈Q k,H∈P):nQ (gO P Q)=Y:=gK.mpr λa u=>gK.mpr λs B=>by
 refine yC.mpr ((tW R).mpr ?_);have:dS (gO P Q) a.1=a.2.2:=by apply ae (u0);rw [K1 vV u]
 rw [<-this,AJ f]at B;exact(f9.mp B).1
end
noncomputable def S4(L:J->J):J:=L 0+(L 1+(L 2+L 3))
theorem mZ{P:J->Prop}(h:t<4)(a:P 0)(b:P 1)(c:P 2)(d:P 3):P t:=by
 cases t with
 |zero=>exact a
 |succ t=>cases t with
  |zero=>exact b
  |succ t=>cases t with
   |zero=>exact c
   |succ t=>cases t with
    |zero=>exact d
    |succ t=>exact bA h (RT (dN 4 t))
theorem SZ(h:∀t,t<4->L t<=f t):S4 L<=S4 f:=
 iB (h 0 (by decide)) (iB (h 1 (by decide)) (iB (h 2 (by decide)) (h 3 (by decide))))
theorem iQ(h:∀t,t<4->f t=g t):S4 f=S4 g:=by
 unfold S4;simp only [h 0 (by decide),h 1 (by decide),h 2 (by decide),h 3 (by decide)]
theorem BG(h:t<4):f t<=S4 f:=by
 exact mZ (P:=λt=>f t<=f 0+(f 1+(f 2+f 3))) h (by exact eF (.v 0) (.a (.v 0) (.a (.v 1) (.a (.v 2) (.v 3)))) C [_,_,_,_]) (by exact eF (.v 0) (.a (.v 1) (.a (.v 0) (.a (.v 2) (.v 3)))) C [_,_,_,_]) (by exact eF (.v 0) (.a (.v 1) (.a (.v 2) (.a (.v 0) (.v 3)))) C [_,_,_,_]) (by exact eF (.v 0) (.a (.v 1) (.a (.v 2) (.a (.v 3) (.v 0)))) C [_,_,_,_])
theorem vS:0<S4 L<->∃t,t<4/\0<L t:=by
 refine⟨λh=>?_,λh=>ai h λt O p=>eI p (BG O)⟩;unfold S4 at h
 by_cases a:0<L 0
 .exact⟨0,by decide,a⟩
 by_cases b:0<L 1
 .exact⟨1,by decide,b⟩
 by_cases c:0<L 2
 .exact⟨2,by decide,c⟩
 exact⟨3,by decide,by exact m5 0 (.a (.n 0) (.n 1)) (.v 3) (.a (.n 0) (.n 1)) (.a (.v 0) (.a (.v 1) (.a (.v 2) (.v 3)))) (.v 0) (.n 0) (.v 1) (.n 0) (.v 2) (.n 0) C [_,_,_,_] h ((iM a)) ((iM b)) ((iM c))⟩
theorem Jc(h:∀t,t<4->f t<=g t){i:J}(A:i<4)(l:f i<g i):S4 f<S4 g:=by
 have n:=h 0 (by decide);have w:=h 1 (by decide);have v:=h 2 (by decide);have R:=h 3 (by decide)
 revert l
 exact mZ (P:=λi=>f i<g i->f 0+(f 1+(f 2+f 3))<g 0+(g 1+(g 2+g 3))) A (λl=>by exact m5 0 (.a (.a (.v 6) (.a (.v 0) (.a (.v 2) (.v 4)))) (.n 1)) (.a (.v 7) (.a (.v 1) (.a (.v 3) (.v 5)))) (.v 0) (.v 1) (.v 2) (.v 3) (.v 4) (.v 5) (.a (.v 6) (.n 1)) (.v 7) C [_,_,_,_,_,_,_,_] w v R l) (λl=>by exact m5 0 (.a (.a (.v 0) (.a (.v 6) (.a (.v 2) (.v 4)))) (.n 1)) (.a (.v 1) (.a (.v 7) (.a (.v 3) (.v 5)))) (.v 0) (.v 1) (.v 2) (.v 3) (.v 4) (.v 5) (.a (.v 6) (.n 1)) (.v 7) C [_,_,_,_,_,_,_,_] n v R l) (λl=>by exact m5 0 (.a (.a (.v 0) (.a (.v 2) (.a (.v 6) (.v 4)))) (.n 1)) (.a (.v 1) (.a (.v 3) (.a (.v 7) (.v 5)))) (.v 0) (.v 1) (.v 2) (.v 3) (.v 4) (.v 5) (.a (.v 6) (.n 1)) (.v 7) C [_,_,_,_,_,_,_,_] n w R l) (λl=>by exact m5 0 (.a (.a (.v 0) (.a (.v 2) (.a (.v 4) (.v 6)))) (.n 1)) (.a (.v 1) (.a (.v 3) (.a (.v 5) (.v 7)))) (.v 0) (.v 1) (.v 2) (.v 3) (.v 4) (.v 5) (.a (.v 6) (.n 1)) (.v 7) C [_,_,_,_,_,_,_,_] n w v l)
def Pw(L:J->J->J)(u:J):J->J->J:=u.rec (λi k=>if i=k then 1 else 0) λ_ P i k=>S4 λt=>P i t*L t k
def Wy(L:J->J->J)(u:J):J->J->Prop:=u.rec (λi k=>i=k) λ_ H i k=>∃t,t<4/\H i t/\0<L t k
section
variable{A:J->J->J}
theorem pA:∀(u i k:J),0<Pw A u i k<->Wy A u i k:=λu=>u.rec
 (λi k=>by
  show 0<(if i=k then 1 else 0)<->i=k
  by_cases h:i=k
  .rw [aM h];exact⟨λ_=>h,λ_=>z5⟩
  .rw [aJ h];exact⟨λq=>bA q (i3 0),λq=>bA q h⟩)
 (λu n i k=>by
  show 0<S4 (λt=>Pw A u i t*A t k)<->∃t,t<4/\Wy A u i t/\0<A t k
  exact vS.trans ⟨λh=>ai h λt O p=>⟨t,O,(n i t).mp (agi p),agh p⟩,
   λh=>dG h λt O w p=>(aR (t) (O) (Nat.mul_pos ((n i t).mpr w) p))⟩)
theorem pI:Wy A (u+1) i k<->∃t,t<4/\Wy A u i t/\0<A t k:=Ii
theorem n_(m u i k:J)(B:k<4):Wy A (u+m) i k<->∃t,Wy A u i t/\Wy A m t k:=by
 induction m generalizing k with
 |zero=>exact⟨λh=>⟨k,h,C⟩,λh=>ai h λt w e=>e▸w⟩
 |succ m n=>
  refine⟨λh=>?_,λh=>?_⟩
  .exact dG (show∃t,t<4/\Wy A (u+m) i t/\0<A t k from h) λt O w p=>ai ((n t O).mp w) λl z x=>⟨l,z,⟨t,O,x,p⟩⟩
  .exact ai h λl z w=>dG (pI.mp w) λt O x p=>((i12 (t) (O) ((n t O).mpr ⟨l,z,x⟩) (p)):∃t,t<4/\Wy A (u+m) i t/\0<A t k)
end
theorem AB(L f:J->J):S4 (λk=>L k+f k)=S4 L+S4 f:=(ae (Dm ..) (aA _ (ae (Dm ..) (aA _ (Dm ..))))).symm
theorem Jd(L:J->J->J):S4 (λk=>S4 λt=>L t k)=S4 λt=>S4 λk=>L t k:=ae (AB (L 0) _) (aA _ (ae (AB (L 1) _) (aA _ (AB (L 2) _))))
theorem ye{v:J->J}(B:k<4):S4 (λt=>if t=k then v t else 0)=v k:=mZ (P:=λk=>S4 (λt=>if t=k then v t else 0)=v k) B C (jv (v 1)) (ae (jv _) (jv (v 2))) (ae (jv _) (ae (jv _) (jv (v 3))))
theorem DU(a:J)(L:J->J):S4 (λt=>a*L t)=a*S4 L:=by
 delta S4;rw [Dq,Dq,Dq]
section
variable{A:J->J->J}{L:J->bw}{n i j:J}
def lam(A:J->J->J)(L:J->bw)(n i:J):J:=S4 λj=>if L j then Pw A n i j else 0
def kF(A:J->J->J)(L:J->bw)(j:J):J:=S4 λk=>if L k then A j k else 0
theorem MB:lam A L (n+1) i=S4 λj=>Pw A n i j*kF A L j:=by
 have e:lam A L (n+1) i=S4 λk=>S4 λj=>Pw A n i j*if L k then A j k else 0:=iQ λk _=>by
  show(if L k=Y then S4 (λj=>Pw A n i j*A j k)else 0)=_
  by_cases h:L k=Y
  .apply ae (aM h);exact iQ λj _=>by rw [aM h]
  .apply ae (aJ h);exact(iQ (g:=λ_=>0) λj _=>by rw [aJ h,xQ]).symm
 apply ae (e);rw [Jd];exact iQ λj _=>DU _ _
theorem MC(p:∀j,j<4->L j=Y->1<=kF A L j)(j:J)(O:j<4):(if L j=Y then Pw A n i j else 0)<=Pw A n i j*kF A L j:=by
 by_cases h:L j=Y
 .rw [aM h];exact af' _ (p j O h)
 .rw [aJ h];exact gF _
theorem YM(p:∀j,j<4->L j=Y->1<=kF A L j):lam A L n i<=lam A L (n+1) i:=by
 simp only [MB];exact SZ (MC p)
theorem YN(p:∀j,j<4->L j=Y->1<=kF A L j)(O:j<4)(v:L j=Y)(e:0<Pw A n i j)(h:2<=kF A L j):lam A L n i<lam A L (n+1) i:=by
 rw [MB];apply Jc (MC p) O;rw [aM v];exact eI ((Nat.lt_mul_iff_one_lt_right e).mpr (by decide:1<2)) (xP _ h)
theorem MA(p:∀j,j<4->L j=Y->1<=kF A L j):∀d,lam A L n i<=lam A L (n+d) i:=λd=>d.rec (dz _) λd h=>aD h (YM p)
theorem Xi(p:∀j,j<4->L j=Y->1<=kF A L j)(O:j<4)(v:L j=Y)(h:2<=kF A L j)(z:4<=n)(R:n<16)(e:0<Pw A n i j):∃k,k<4/\Pw A 4 i k≠Pw A 16 i k:=by
 refine oA λq=>?_;have x:lam A L 4 i=lam A L 16 i:=iQ λk B=>by
  rw [Q9.mp λr=>q (aR (k) (B) (r))]
 have a:=by
  have:=MA (n:=4) (i:=i) p (n-4)
  rwa [pQ z]at this
 have b:=YN p O v e h;have c:=by
  have:=MA (n:=n+1) (i:=i) p (16-(n+1))
  rwa [pQ R]at this
 exact q5 (m5 0 (.n 1) (.n 0) (.v 1) (.v 0) (.v 0) (.v 2) (.a (.v 2) (.n 1)) (.v 3) (.v 3) (.v 1) C [_,_,_,_] ((o9 x)) a b c)
end
section
variable{A:J->J->J}{n i k:J}
structure nM(A:J->J->J)(n:J)(p:J->J):Prop where
 lt:∀m,m<=n->p m<4
 st:∀m,m<n->0<A (p m) (p (m+1))
theorem w7(x:i<4)(B:k<4)(h:Wy A n i k):∃p,p 0=i/\p n=k/\nM A n p:=by
 induction n generalizing k with
 |zero=>exact⟨λ_=>i,C,h,⟨λm _=>x,λm q=>bA q (Nat.not_lt_zero m)⟩⟩
 |succ n b=>
  refine dG (pI.mp h) λt O w q=>dG (b O w) λp T s P=>⟨λm=>if m<=n then p m else k,?_,?_,⟨λm R=>?_,λm R=>?_⟩⟩
  .exact ae (aM (gF n)) T
  .exact aJ (agg n)
  .by_cases c:m<=n
   .rw [aM c];exact P.lt m c
   .rw [aJ c];exact B
  .have a:=rL R;show 0<A _ _;rw [aM a]
   by_cases c:m+1<=n
   .rw [aM c];exact P.st m c
   .rw [aJ c];have e:=fS a (iM c);exact(e)▸(s)▸(q)
theorem m_(P:nM A n p):Wy A n (p 0) (p n):=by
 induction n with
 |zero=>exact(C)
 |succ n e=>exact pI.mpr ⟨p n,P.lt n (rM n),e ⟨λm h=>P.lt m (z0 h),λm h=>P.st m (jW h)⟩,P.st n (fG n)⟩
theorem nM.pre(P:nM A n p){a:J}(h:a<=n):nM A a p:=⟨λm q=>P.lt m (aD q h),λm q=>P.st m (eI q h)⟩
theorem nM.nj(P:nM A n p){b:J}(h:b<=n):nM A (n-b) λm=>p (b+m):=
 ⟨λm q=>P.lt _ (aD (iL q b) (fq (pQ h))),λm q=>P.st _ (eI (zX q b) (fq (pQ h)))⟩
theorem yO{R:Type} [BEq R] [LawfulBEq R]:∀(l P:I R),l.Nodup->(∀x∈l,x∈P)->U l<=U P:=λl=>l.rec
 (λ_ _ _=>gF _)
 (λx l n P Q h=>by
  have Q:=gM.mp Q;have j:=h x (.head _);have:=n _ Q.2 λH L=>(List.mem_erase_of_ne ((λq=>Q.1 (q▸L):H≠x))).mpr (h H (.tail _ L));simp only [List.length_erase_of_mem j]at this
  exact aD (ju this) (fq (tF (List.length_pos_of_mem j))))
theorem GF(Q:J->bw){p:J->J}(h:∀m,m<=(dm 4).countP Q->p m<4/\Q (p m)=Y):∃a b,a<b/\b<=(dm 4).countP Q/\p a=p b:=oA λc=>by
 have:=yO ((dm ((dm 4).countP Q+1)).map p) ((dm 4).filter Q) (List.pairwise_map.mpr (List.Pairwise.imp_of_mem (λu f l e=>c ⟨_,_,l,rL (fm.mp f),e⟩) List.pairwise_lt_range)) λx m=>ai (dZ.mp m) λk B e=>by
  have:=h k (rL (fm.mp B));exact e▸f9.mpr ⟨fm.mpr this.1,this.2⟩
 rw [dg,xJ,<-List.countP_eq_length_filter]at this;exact i3 _ this
theorem Cj{p:J->J}(h:∀m,m<=4->p m<4):∃a b,a<b/\b<=4/\p a=p b:=GF (λ_=>Y) λm q=>⟨h m q,C⟩
theorem aec(h:i<4)(B:k<4)(e:Wy A n i k)(G:8<=n):∃m,4<=m/\m<n/\Wy A m i k:=by
 refine dG (w7 h B e) λp T s P=>e5 (Cj λm q=>P.lt m (aD q (aD (by decide) G))) λa b o H x=>?_;have t:=aD H (aD (by decide) G);refine(i12 (a+(n-b)) (by exact jP 0 (.n 4) (.a (.v 2) (.v 3)) (.n 8) (.v 0) (.v 1) (.n 4) (.v 0) (.a (.v 3) (.v 1)) C [_,_,_,_] G H m6) (by exact d_ 0 (.a (.a (.v 0) (.v 3)) (.n 1)) (.v 2) (.a (.v 0) (.n 1)) (.v 1) (.a (.v 3) (.v 1)) (.v 2) C [_,_,_,_] o ((lq t))) ((n_ _ _ _ _ B).mpr ⟨p a,?_,?_⟩))
 .exact T▸m_ (P.pre (aD (e7 o) t))
 .have w:=m_ (P.nj t);simp only [vq,pQ t,s,<-x]at w;exact w
theorem LP(e:i<4)(B:k<4)(h:Wy A n i k)(g:4<=n):∃m,4<=m/\m<8/\Wy A m i k:=by
 induction n using Nat.strongRecOn with
 |ind n a=>
  by_cases c:n<8
  .exact⟨n,g,c,h⟩
  .exact dG (aec e B h (iM c)) λm x j w=>a m j w x
end
section
variable{al:I AN}{rl:I (I J)}{x p:I J}{P:I (I J)}{Q:I J->I (I J)}{aZ E:I J->bw}
theorem UM:∀(n:I _)(al:I AN)(rl:I _),n.Nodup->(∀H∈n,H∈al.map (·.1))->
  (n.foldl qa (al,rl)).2=rl++n.filter (λH=>aO (er al H=1))/\(n.foldl qa (al,rl)).1.map (·.1)=al.map (·.1)/\(∀x,dS (n.foldl qa (al,rl)).1 x=dS al x)/\∀x,er (n.foldl qa (al,rl)).1 x=if x∈n then er al x-1 else er al x:=λn=>n.rec
 (λal rl _ _=>⟨(jq _).symm,C,λx=>C,λx=>C⟩)
 (λH n e al rl Q B=>by
  have Q:=gM.mp Q;have i:=B H (.head _);refine sx (e (decA al H) (if er (decA al H) H=0 then rl++[H]else rl) Q.2 λE g=>(Mi (L:=al) (l:=H)).symm▸B E (.tail _ g)) λs b c d=>⟨ae s ?_,ae b Mi,λx=>ae (c x) ac7,λx=>ae (d x) ?_⟩
  .rw [(vn λE g=>by rw [Gq i,aJ (show¬E=H fromλq=>Q.1 (q▸g))]),(ae (Gq i) (aM C))]
   by_cases q:er al H=1
   .rw [aM (by rw [q];rfl),zR (by exact cM q),gX];rfl
   .rw [aJ λa=>q (Int.sub_eq_zero.mp a),zQ (by exactλh=>q (dh h))]
  .rw [Gq i]
   by_cases q:x=H
   .subst q;apply ae (aJ Q.1);rw [aM C,aM (.head _)]
   .rw [aJ q]
    by_cases m:x∈n
    .apply ae (aM m);rw [aM (.tail _ m)]
    .apply ae (aJ m);rw [aJ λh=>(cD.mp h).elim q m])
noncomputable def r_(Q:I J->I (I J))(E:I J->bw)(x:I J):J:=(Q x).countP λH=>!E H
theorem UD:∀(l:I _),l.Nodup->E p=ay->l.countP (λH=>!E H)=l.countP (λH=>!(E H||aO (H=p)))+if p∈l then 1 else 0:=λl=>l.rec
 (λ_ _=>C)
 (λH l n Q t=>by
  have Q:=gM.mp Q;have n:=n Q.2 t;rw [Di,Di,n]
  by_cases c:H=p
  .subst c;simp only [aJ Q.1,aM gC,t];rfl
  .have:(p∈H::l)=(p∈l):=propext ⟨λh=>(cD.mp h).resolve_left (iC c),.tail _⟩
   simp only [this,ee c,Dd];exact fS (eF (.a (.a (.v 0) (.v 1)) (.v 2)) (.a (.a (.v 0) (.v 2)) (.v 1)) C [_,_,_]) (eF (.a (.a (.v 0) (.v 2)) (.v 1)) (.a (.a (.v 0) (.v 1)) (.v 2)) C [_,_,_]))
theorem J4:r_ Q E x=0<->∀H∈Q x,E H=Y:=by
 delta r_
 rw [List.countP_eq_zero];exact⟨λh H m=>by have:=h H m;simpa using this,λh H m=>by rw [h H m];exact nofun⟩
structure Rd(P:I (I J))(Q:I J->I (I J))(aZ:I J->bw)(al:I AN)(rl:I (I J)):Prop where
 ks:∀x,x∈al.map (·.1)<->x∈P
 sc:∀x,dS al x=P.filter λk=>aO (x∈Q k)
 cl:∀x∈P,aZ x=Y->∀y∈Q x,aZ y=Y
 np:∀x∈P,er al x=if aZ x then-2 else(r_ Q aZ x:aS)
 nd:rl.Nodup
 rl:∀x,x∈rl<->x∈P/\aZ x=ay/\∀y∈Q x,aZ y=Y
structure Md(P:I (I J))(Q:I J->I (I J))(E:I J->bw)(ps:I (I J))(al:I AN)(rl:I (I J)):Prop where
 ks:∀x,x∈al.map (·.1)<->x∈P
 sc:∀x,dS al x=P.filter λk=>aO (x∈Q k)
 cl:∀x∈P,(E x=Y\/x∈ps)->∀y∈Q x,E y=Y/\y∉ps
 np:∀x∈P,er al x=if E x then-2 else if x∈ps then-1 else(r_ Q E x:aS)
 nd:rl.Nodup
 rl:∀x,x∈rl<->x∈P/\E x=ay/\x∉ps/\∀y∈Q x,E y=Y
 pe:∀p∈ps,E p=ay/\p∈P
 pn:ps.Nodup
theorem Zv(G:∀k,(Q k).Nodup)(z:P.Nodup)(T:Md P Q E (p::S) al rl):Md P Q (λH=>E H||aO (H=p)) S (qN (al,rl) p).1 (qN (al,rl) p).2:=by
 have u:=T.pe p (.head _);have d:=gM.mp T.pn;have r:(dS al p).Nodup:=by rw [T.sc];exact z.filter _
 have l:∀x,x∈dS al p<->x∈P/\p∈Q x:=λx=>by rw [T.sc,f9,rS]
 have t:=UM _ (o_ al p (-2)) rl r λH L=>by rw [BA];exact(T.ks H).mpr ((l H).mp L).1
 have o:∀x,x∈P->p∈Q x->E x=ay/\x∉p::S:=λx s j=>⟨ow.mpr λh=>(T.cl x s (.inl h) p j).2 (.head _),λh=>(T.cl x s (.inr h) p j).2 (.head _)⟩;have y:∀x,r_ Q E x=r_ Q (λH=>E H||aO (H=p)) x+if p∈Q x then 1 else 0:=λx=>UD _ (G x) u.1
 have X:∀x,er _ x=if x=p then-2 else er al x:=λx=>Ng ((T.ks p).mpr u.2)
 have F:qN (al,rl) p=(dS al p).foldl qa (o_ al p (-2),rl):=C;have i:∀x,x≠p->(E x||aO (x=p))=E x:=λx h=>by simp only [ee h,Dd]
 rw [F];refine sx t λa ah aj c=>⟨λx=>by rw [ah,BA];exact T.ks x,λx=>ae (aj x) (ae PF (T.sc x)),λx s h H L=>?_,λx s=>?_,?_,λx=>?_,λq j=>?_,d.2⟩
 .by_cases n:x=p
  .have:=T.cl x s (.inr (n▸.head _)) H L;exact⟨by rw [this.1];rfl,λm=>this.2 (.tail _ m)⟩
  .rw [i x n]at h;have:=T.cl x s (h.imp id (.tail _)) H L;exact⟨by rw [this.1];rfl,λm=>this.2 (.tail _ m)⟩
 .apply ae (c x);rw [X x]
  by_cases n:x=p
  .subst n;rw [aJ λh=>(o x s ((l x).mp h).2).2 (.head _),aM C,aM (by simp)]
  .rw [aJ n,i x n,(T.np x s)]
   by_cases m:x∈dS al p
   .have h:=o x s ((l x).mp m).2;have k:=y x;rw [aM ((l x).mp m).2]at k;have R:x∉S:=λq=>h.2 (fF _ q);apply ae (aM m);rw [h.1,aJ nofun,aJ h.2,aJ nofun,aJ R,k];exact afx (Int.ofNat _) 1
   .have k:=y x;rw [aJ λh=>m ((l x).mpr ⟨s,h⟩)]at k;apply ae (aJ m);rw [k];have:(x∈p::S)=(x∈S):=propext ⟨λh=>(cD.mp h).resolve_left n,.tail _⟩;simp only [this,vq]
 .rw [a];refine gk.mpr ⟨T.nd,r.filter _,λf A v O q=>?_⟩;subst q;have w:=((T.rl f).mp A).2.2.2 p ((l f).mp (f9.mp O).1).2;exact nomatch u.1.symm.trans w
 .rw [a,fE,f9,l,rS,X,T.rl];have k:=y x;constructor
  .rintro(⟨w,e,R,g⟩|⟨⟨w,e⟩,R⟩)
   .exact⟨w,by rw [i x λq=>R (q▸.head _)];exact e,λm=>R (.tail _ m),λH m=>by rw [g H m];rfl⟩
   .have h:=o x w e;have b:x≠p:=λq=>h.2 (q▸.head _);rw [aJ b,T.np x w,h.1,aJ nofun,aJ h.2]at R;rw [aM e]at k;exact⟨w,by rw [i x b];exact h.1,λm=>h.2 (.tail _ m),J4.mp (by exact fS (d_ 0 (.v 1) (.n 0) (.a (.v 1) (.n 1)) (.v 0) (.v 0) (.n 1) C [_,_] ((o9 k)) ((iU (Dh R)))) (eF (.n 0) (.v 0) C [_]))⟩
  .rintro⟨w,e,R,g⟩;have b:x≠p:=λq=>by simp only [cM q,Q6]at e;exact nomatch e
   rw [i x b]at e;have B:x∉p::S:=λm=>(cD.mp m).elim b R
   by_cases m:p∈Q x
   .refine .inr ⟨⟨w,m⟩,?_⟩;rw [aM m,J4.mpr g]at k;apply ae (aJ b);rw [T.np x w,e,aJ nofun,aJ B,k];rfl
   .exact .inl ⟨w,e,B,λH L=>by
     have:=g H L
     rwa [i H λq=>m (q▸L)]at this⟩
 .have:=T.pe q (.tail _ j);exact⟨by rw [i q λt=>d.1 (t▸j)];exact this.1,this.2⟩
theorem Md.len(o:P.Nodup)(T:Md P Q E S al rl):U rl<=U P:=yO _ _ T.nd λx m=>((T.rl x).mp m).1
theorem Zs(f:∀k,(Q k).Nodup)(o:P.Nodup)(h:U P<=400):∀(S:I _)(E:I J->bw)(al:I AN)(rl:I _),Md P Q E S al rl->sN (al,rl) S=Y/\Md P Q (λH=>E H||aO (H∈S)) [] (jy (al,rl) S).1 (jy (al,rl) S).2:=λS=>S.rec
 (λE al rl T=>⟨C,by
  have:(λH=>E H||aO (H∈([]:I (I J))))=E:=funext λH=>by rw [ee nofun,Dd]
  rw [this];exact T⟩)
 (λp S n E al rl T=>by
  have a:=n _ (qN (al,rl) p).1 (qN (al,rl) p).2 (Zv f o T);have u:=T.pe p (.head _);refine⟨?_,?_⟩
  .show(_&&_&&_&&_&&_)=Y;have e:∀x∈P,al.any _=Y:=λx m=>yC.mpr ((T.ks x).mpr m)
   rw [e p u.2,cM (ae (T.np p u.2) (by rw [u.1,aJ nofun,aM (.head _)])),gK.mpr λx m=>e x (by
    have m:x∈dS al p:=m
    rw [T.sc]at m;exact(f9.mp m).1),cM (show U rl+U (dS al p)<=900 by
    exact aD (iB (aD (T.len o) h) (aD (by rw [T.sc];exact ki _ _) h)) (az C))]
   exact a.1
  .have:(λH=>E H||aO (H∈p::S))=λH=>E H||aO (H=p)||aO (H∈S):=funext λH=>by
    rw [Bool.or_assoc];apply aA _;rw [<-Bool.decide_or];exact decide_eq_decide.mpr cD
   rw [this]
   exact a.2)
theorem aa3:∀(S:I _)(al:I AN),(∀H∈S,H∈al.map (·.1))->(iu al S).map (·.1)=al.map (·.1)/\(∀x,dS (iu al S) x=dS al x)/\∀x,er (iu al S) x=if x∈S then-1 else er al x:=λS=>S.rec
 (λal _=>⟨C,λx=>C,λx=>C⟩)
 (λp S n al h=>by
  refine gv (n (o_ al p (-1)) λH L=>(BA).symm▸h H (.tail _ L)) λa b c=>⟨ae a BA,λx=>ae (b x) PF,λx=>ae (c x) ?_⟩;rw [Ng (h p (.head _))]
  by_cases m:x∈S
  .apply ae (aM m);rw [aM (.tail _ m)]
  .apply ae (aJ m)
   by_cases q:x=p
   .apply ae (aM q);rw [aM (q▸.head _)]
   .apply ae (aJ q);rw [aJ λh=>(cD.mp h).elim q m])
theorem abI(f:∀k,(Q k).Nodup)(o:P.Nodup)(h:U P<=400)(i:Rd P Q aZ al rl)(t:S.Perm rl):sN (iu al rl,[]) S=Y/\Rd P Q (λH=>aZ H||aO (H∈S)) (jy (iu al rl,[]) S).1 (jy (iu al rl,[]) S).2:=by
 have e:∀x,x∈S<->x∈rl:=λx=>t.mem_iff;have T:Md P Q aZ S (iu al rl) []:=by
  refine gv (aa3 rl al λH L=>(i.ks H).mpr ((i.rl H).mp L).1) λb l c=>⟨λx=>by exact(b)▸(i.ks x),λx=>ae (l x) (i.sc x),λx s a H L=>?_,λx s=>?_,.nil,λx=>⟨nofun,λh=>bA ((e x).mpr ((i.rl x).mpr ⟨h.1,h.2.1,h.2.2.2⟩)) h.2.2.1⟩,λq m=>?_,t.nodup_iff.mpr i.nd⟩
  .have n:=a.elim (λd=>i.cl x s d H L) λm=>((i.rl x).mp ((e x).mp m)).2.2 H L;exact⟨n,λm=>nomatch ae n.symm ((i.rl H).mp ((e H).mp m)).2.1⟩
  .apply ae (c x);rw [i.np x s]
   by_cases m:x∈rl
   .apply ae (aM m);rw [((i.rl x).mp m).2.1,aJ nofun,aM ((e x).mpr m)]
   .apply ae (aJ m);have:x∉S:=λh=>m ((e x).mp h);rw [aJ this]
  .have:=(i.rl q).mp ((e q).mp m);exact⟨this.2.1,this.1⟩
 exact bT (Zs f o h S aZ _ _ T) λA p=>⟨A,p.ks,p.sc,λx s d H L=>(p.cl x s (.inl d) H L).1,λx s=>(p.np x s),p.nd,λx=>(p.rl x).trans ⟨λh=>⟨h.1,h.2.1,h.2.2.2⟩,λh=>⟨h.1,h.2.1,nofun,h.2.2⟩⟩⟩
theorem Rd.congr(i:Rd P Q aZ al rl)(R:∀k∈P,∀H∈Q k,H∈P)(e:∀x∈P,aZ x=E x):Rd P Q E al rl:=by
 refine⟨i.ks,i.sc,λx s d H L=>(e H (R x s H L)).symm.trans (i.cl x s (ae (e x s) d) H L),λx s=>?_,i.nd,λx=>(i.rl x).trans ⟨λh=>⟨h.1,(e x h.1).symm.trans h.2.1,λH L=>(e H (R x h.1 H L)).symm.trans (h.2.2 H L)⟩,λh=>⟨h.1,ae (e x h.1) h.2.1,λH L=>ae (e H (R x h.1 H L)) (h.2.2 H L)⟩⟩⟩;apply ae (i.np x s);rw [e x s,show r_ Q aZ x=r_ Q E x from afD λH L=>by rw [e H (R x s H L)]]
def Ci(al:I AN)(rl:I (I J))(l:I (I (I J))):bw:=rl.all (λp=>al.any λa=>aO (a.1=p))&&aO (rl.length<=50)&&aO (l.length<=50)&&sN (iu al rl,[]) (dM rl)
noncomputable def n6:J->I AN->I (I J)->I (I (I J))->bg (I (I (I J)))
 |0,_,_,_=>aa
 |u+1,al,rl,l=>if rl.isEmpty then D l else if Ci al rl l then n6 u (jy (iu al rl,[]) (dM rl)).1 (jy (iu al rl,[]) (dM rl)).2 (l++[dM rl])else aa
theorem OP:n6 (u+1) al rl l=if rl.isEmpty then D l else if Ci al rl l then n6 u (jy (iu al rl,[]) (dM rl)).1 (jy (iu al rl,[]) (dM rl)).2 (l++[dM rl])else aa:=C
noncomputable def Dn(Q:I J->I (I J))(u:J):I J->bw:=u.rec (λ_=>ay) λ_ aZ x=>(Q x).all aZ
theorem se:Dn Q (u+1) x=Y<->∀H∈Q x,Dn Q u H=Y:=gK
theorem Kp:∀(u:J)(x:I J),Dn Q u x=Y->Dn Q (u+1) x=Y:=λu=>u.rec (λx h=>nomatch h) λu n x h=>se.mpr λH L=>n H (se.mp h H L)
def lay(P:I (I J))(Q:I J->I (I J))(u:J):I (I J):=P.filter λx=>Dn Q (u+1) x&&!Dn Q u x
theorem yK:x∈lay P Q u<->x∈P/\Dn Q (u+1) x=Y/\Dn Q u x=ay:=by delta lay;rw [f9,oq,tq]
theorem ZS{R:Type} [BEq R] [LawfulBEq R]{l H:I R}(h:l.Nodup)(O:H.Nodup)(e:∀x,x∈l<->x∈H):l.Perm H:=(List.perm_ext_iff_of_nodup h O).mpr e
theorem acE(h:l.Perm H):dM l=dM H:=Pf ((zo l).trans h) (Pg l)
theorem Rd.lay(o:P.Nodup)(i:Rd P Q (Dn Q u) al rl):rl.Perm (lay P Q u):=ZS i.nd (o.filter _) λx=>(i.rl x).trans ((and_congr_right λ_=>and_comm.trans (and_congr_left λ_=>se.symm)).trans yK.symm)
noncomputable def k_(P:I (I J))(Q:I J->I (I J)):J->J->I (I (I J))
 |0,_=>[]
 |k+1,u=>if(lay P Q u).isEmpty then k_ P Q k (u+1)else dM (lay P Q u)::k_ P Q k (u+1)
theorem F5:k_ P Q (k+1) u=if(lay P Q u).isEmpty then k_ P Q k (u+1)else dM (lay P Q u)::k_ P Q k (u+1):=C
theorem Y4(R:∀k∈P,∀H∈Q k,H∈P)(h:lay P Q u=[]):lay P Q (u+1)=[]:=Rq.mpr λx m=>by
 have m:=yK.mp m;have e:=λH L d=>oA λc=>by
  have:H∈lay P Q u:=yK.mpr ⟨L,d,ow.mpr c⟩;rw [h]at this;exact nomatch this
 exact nomatch m.2.2.symm.trans (se.mpr λH L=>e H (R x m.1 H L) (se.mp m.2.1 H L))
theorem Y5(R:∀k∈P,∀H∈Q k,H∈P):∀(k u:J),lay P Q u=[]->k_ P Q k u=[]:=λk=>k.rec (λ_ _=>C) λk n u h=>by
 exact(F5)▸(h)▸(n _ (Y4 R h))
theorem ab4(f:∀k,(Q k).Nodup)(o:P.Nodup)(R:∀k∈P,∀H∈Q k,H∈P)(a:U P<=50):∀(k n:J)(al:I AN)(rl:I _)(l:I _),Rd P Q (Dn Q n) al rl->lay P Q (n+k)=[]->U l+k<=50->n6 (k+1) al rl l=D (l++k_ P Q k n):=λk=>k.rec
 (λn al rl l i h _=>by
  have p:=i.lay o;simp only [show lay P Q n=[]from h]at p;rw [p.eq_nil]
  exact aA _ (jq _).symm)
 (λk j n al rl l i h B=>by
  have p:=i.lay o;apply ae (OP)
  by_cases c:rl=[]
  .subst c;simp only [Y5 R _ _ p.nil_eq.symm,jq];rfl
  .have S:(dM rl).Perm rl:=zo rl;have r:=abI f o (aD a (az C)) i S;have A:Ci al rl l=Y:=by
    show((rl.all (Fo al))&&_&&_&&_)=Y;rw [r.1,gK.mpr λx m=>yC.mpr ((i.ks x).mpr ((i.rl x).mp m).1),cM (aD (yO _ _ i.nd λx m=>((i.rl x).mp m).1) a),cM (show U l<=50 by exact cT 0 (.v 0) (.n 50) (.a (.v 0) (.a (.v 1) (.n 1))) (.n 50) C [_,_] B)];rfl
   have b:=r.2.congr R (E:=Dn Q (n+1)) λx s=>by
    by_cases m:x∈rl
    .rw [cM (S.mem_iff.mpr m),Q6];exact(se.mpr ((i.rl x).mp m).2.2).symm
    .rw [ee λq=>m (S.mem_iff.mp q),Dd]
     by_cases d:Dn Q n x=Y
     .apply ae (d);rw [Kp n x d]
     .apply ae (ow.mpr d);exact(ow.mpr λq=>m ((i.rl x).mpr ⟨s,ow.mpr d,se.mp q⟩)).symm
   apply ae (aJ (by rwa [zS]));rw [aM A,j (n+1) _ _ _ b (by rw [agl];exact h) (by rw [cC];show _+1+k<=50;exact cT 0 (.a (.a (.v 0) (.n 1)) (.v 1)) (.n 50) (.a (.v 0) (.a (.v 1) (.n 1))) (.n 50) C [_,_] B),F5,aJ (by rw [zS];exactλe=>c (by rw [e]at p;exact p.eq_nil)),gX,acE p]
   rfl)
theorem rd0(f:∀k,(Q k).Nodup)(o:P.Nodup)(R:∀k∈P,∀H∈Q k,H∈P):Rd P Q (Dn Q 0) (gO P Q) (eB (gO P Q)):=by
 have j:∀x∈P,er (gO P Q) x=(U (Q x)):=λx m=>ae (Td f (List.pairwise_reverse.mpr (o.imp iC))) (aM m);refine⟨λx=>tW R,λx=>AJ f,λx _ h=>(nomatch h),λx m=>ae (j x m) ?_,?_,λx=>?_⟩
 .exact aA _ (List.countP_eq_length.mpr λH _=>C).symm
 .rw [OJ vV];exact vV.filter _
 .rw [OJ vV,f9,tW R,rS];refine⟨λh=>⟨h.1,C,λH L=>?_⟩,λh=>⟨h.1,?_⟩⟩
  .rw [j x h.1]at h;rw [xG (Dh h.2)]at L;exact bA (L) dR
  .apply ae (j x h.1);rw [Rq.mpr λH L=>nomatch h.2.2 H L];rfl
end
inductive lO(B:bD Ob)(cl:Cl)(f:af)(j:J)(xs:I af):Prop
 |mk(a:J)(ob:bM)(fd:rR)(h1:(f,a)∈cl.fs)(h2:vG cl a)(h3:iD B a 19 j ob fd xs)
theorem lO.up(T:lO X O L t n)(B:bF X.h₀ f):lO (X.up f B) O L t n:=match T with|⟨a,u,S,w,v,R⟩=>⟨a,u,S,w,v,R.up B⟩
theorem lO.fr{X:bD Ob}(T:lO X O L t n):lO (X.fr A h) O L t n:=match T with|⟨a,u,S,w,v,R⟩=>⟨a,u,S,w,v,R.fr⟩
structure Sy(y:Ly Ob)(cl:Cl)(bq:au)(bm:I aB)(Bx newId Fy:String):Prop where
 ek:bK y.B y.Z y.w cl
 OC:OwnCls "CycleError" bq bm newId y.mg y.B.h₀
 FB:ExcBaseFacts Bx newId Fy bm
 mR:lO y.B cl "get_ready" 4 sW
 mI:lO y.B cl "is_active" 5 w_
 mD:lO y.B cl "done" 7 g_
 mP:lO y.B cl "prepare" 3 pK
 mF:lO y.B cl "_find_cycle" 8 fx
 nO:∃t,y.mg "_NODE_OUT"=D (.int (-1) t)
 nD:∃t,y.mg "_NODE_DONE"=D (.int (-2) t)
theorem Sy.up(S:Sy H O d i l k q)(B:bF H.B.h₀ f):Sy (H.up f B) O d i l k q:=⟨S.ek.up B,S.OC.keeps B,S.FB,S.mR.up B,S.mI.up B,S.mD.up B,S.mP.up B,S.mF.up B,S.nO,S.nD⟩
theorem Sy.fr(S:Sy H O d i l k q):Sy (H.fr A h) O d i l k q:=⟨S.ek.fr,S.OC,S.FB,S.mR.fr,S.mI.fr,S.mD.fr,S.mP.fr,S.mF.fr,S.nO,S.nD⟩
def Ai(c:Cx Ob)(O:Cl)(L:af)(o:Ob)(p:I T)(n:Ob->T->Prop):Prop:=
 ∃a u S,(L,a)∈O.fs/\vG O a/\(∀{h},bF c.B.h₀ h->h.get? a=D u)/\u.data=.func S/\e8 c.B c.Z c.w c.n (.ref a) o p n
section
variable{c:Cx Ob}
theorem Sy.gr(S:Sy c.y O d b l k q)(z:1<=c.n)(w:U s<=900)(v:∀p∈s,∃a∈Q,a.1=p):Ai c O "get_ready" (.bL sf Q (D s) po fi) [] λX r=>X=.bL sf (iu Q s) (D []) (po+U s) fi/\r=.tup (s.map .str):=by
 refine cps λx f=>?_;obtain⟨a,u,h,H,i,e⟩:=S.mR;obtain⟨m,R⟩:∃m,c.n=m+1:=⟨c.n-1,by exact fS (m6) ((lq z))⟩;apply f;exact bG S.nO λA g=>(Fe (a) (u) (h) (H) (i) (e.d.ho) (e.d.hd) (R▸adV S.ek e g w v))
theorem Sy.ia(S:Sy c.y O d b l k q)(z:1<=c.n)(w:s.length<=900):Ai c O "is_active" (.bL sf al (D s) po fi) [] λX r=>X=.bL sf al (D s) po fi/\r=.bool (aO (fi<po)||!s.isEmpty):=by
 refine cps λx f=>?_;obtain⟨a,u,h,H,i,e⟩:=S.mI;obtain⟨m,R⟩:∃m,c.n=m+1:=⟨c.n-1,by exact fS (m6) ((lq z))⟩;apply f;exact⟨a,u,h,H,i,e.d.ho,e.d.hd,R▸adW S.ek e w⟩
theorem Sy.dn(h:Sy c.y O d j k n q)(z:1<=c.n)(S:I _)(w:U S<=900)(v:sN (Q,s) S=Y):Ai c O "done" (.bL sf Q (D s) po fi) (S.map .str) λX r=>X=.bL sf (jy (Q,s) S).1 (D (jy (Q,s) S).2) po (fi+U S)/\r=.none:=by
 refine cps λl b=>?_;obtain⟨a,u,i,H,x,e⟩:=h.mD;obtain⟨m,R⟩:∃m,c.n=m+1:=⟨c.n-1,by exact fS (m6) ((lq z))⟩;apply b;exact bG h.nO λA g=>bG h.nD λP f=>⟨a,u,i,H,x,e.d.ho,e.d.hd,R▸adQ h.ek e g f S w v⟩
theorem Sy.pr(S:Sy c.y O d H B ni q)(z:2<=c.n)(w:nQ Q=Y)(v:lW Q fuel=D o)(i:m8 o=Y)(g:U Q<=800):
  ∃a u x,(("prepare":af),a)∈O.fs/\(∀{h},bF c.B.h₀ h->h.get? a=D u)/\u.data=.func x/\mH c.B c.Z c.w c.n (.ref a) (.bL sf Q aa 0 0) [] (.ref d) λX r=>X=.bL sf Q (D (eB Q)) 0 0/\r=Co o:=by
 refine cps λl f=>?_;obtain⟨j,t,p,b,L,e⟩:=S.mP;obtain⟨k,y,E,s,A,n⟩:=S.mF;obtain⟨m,R⟩:∃m,c.n=m+2:=⟨c.n-2,by exact fS (m6) ((lq z))⟩;apply f;exact⟨j,t,p,b,e.d.ho,e.d.hd,R▸ad0 S.ek e n s S.OC S.FB w fuel v i g⟩
end
noncomputable def BV:I (af×fc):=[("sorter",.local),("ring",.local),("groups",.local),("CycleError",.globalImplicit),("sorted",.globalImplicit)]
noncomputable def qx:I af:=["sorter","ring","groups"]
noncomputable abbrev gL(l:I (I (I J))):I T:=l.map λr=>.list (r.map .str)
abbrev Ct:bg cz:=fV 2 (dF (bB 26))
section
variable{c:Cx Ob}{al:I AN}{rl:I (I J)}{rs:I (I (I J))}{po:aS}{rg:AV Ob}
theorem O6(l:I _):U (dM l)=U l:=(zo l).length_eq
theorem ON(S:Sy c.y O d i l k q)(F:Fm c.V qx 3 BV)(z:1<=c.n)(X:U rl<=900):EC c qx 3 [.obj (.bL E al (D rl) po po),rg,.own (gL rs)] (lA Ct) [.obj (.bL E al (D rl) po po),rg,.own (gL rs)] (!rl.isEmpty):=by
 refine v5 (S.ia (sf:=E) (al:=al) (po:=po) (fi:=po) z X) λa u h w v R g H=>?_;have e:(aO (po<po)||!rl.isEmpty)=!rl.isEmpty:=by rw [ee (Ik po),Q5]
 rw [e]at H;exact lD (QO S.ek F 0 C C w (by decide) R g H C) C λ_=>C
theorem abR(S:Sy c.y O d x l k q)(F:Fm c.V qx 3 BV)(z:1<=c.n)(X:U rl<=50)(s:U rs<=50)(B:∀p∈rl,∃a∈al,a.1=p)(P:sN (iu al rl,[]) (dM rl)=Y):
  EX c qx 3 [.obj (.bL E al (D rl) po po),rg,.own (gL rs)] (lz Ct) [.obj (.bL E (jy (iu al rl,[]) (dM rl)).1 (D (jy (iu al rl,[]) (dM rl)).2) (po+U rl) (po+U rl)),rg,.own (gL (rs++[dM rl]))] .next:=by
 have L:=O6 rl;refine v5 (S.gr (sf:=E) (po:=po) (fi:=po) z (aD X (az C)) B) λa o f w v R g H=>v5 (S.dn (sf:=E) (po:=po+U rl) (fi:=po) z (dM rl) (L▸aD X (az C)) P) λb j t h i y n u=>?_;rw [show gL (rs++[dM rl])=gL rs++[.list ((dM rl).map .str)]from eW];have e:(po+U (dM rl))=po+U rl:=by rw [L]
 simp only [e]at u;exact zx (u9 F 2 C C (aeS F 4 C (QO S.ek F 0 C C w (by decide) R g H C) (kS X (az C)) C) C C C (eU (by rw [dg];exact aD s (az C))))
  (fb (HO S.ek F 0 C C h i (by decide) C y n (Tr (zF F 2 C C (C6 (vf 1)) (GR (by rw [cC];exact afM)) C) (by simp only [dg,L];exact aD X (az C))) C u C C) C)
noncomputable def ik:J->I AN->I (I J)->aS->I AN×aS
 |0,al,_,po=>(al,po)
 |u+1,al,rl,po=>if rl.isEmpty then(al,po)else ik u (jy (iu al rl,[]) (dM rl)).1 (jy (iu al rl,[]) (dM rl)).2 (po+rl.length)
theorem Vr:ik (u+1) al rl po=if rl.isEmpty then(al,po)else ik u (jy (iu al rl,[]) (dM rl)).1 (jy (iu al rl,[]) (dM rl)).2 (po+U rl):=C
theorem abS(S:Sy c.y O d x o j q)(F:Fm c.V qx 3 BV)(z:1<=c.n):∀(u:J)(al:I AN)(rl:I _)(po:aS)(rs b:I _),n6 u al rl rs=D b->
  EW c qx 3 (lA Ct) (lz Ct) [] u [.obj (.bL sf al (D rl) po po),rg,.own (gL rs)] [.obj (.bL sf (ik u al rl po).1 (D []) (ik u al rl po).2 (ik u al rl po).2),rg,.own (gL b)] .next:=λT=>T.rec
 (λal rl po rs b h=>aV C h)
 (λu n al rl po rs b h=>by
  simp only [OP]at h;simp only [Vr]
  by_cases m:rl.isEmpty=Y
  .rw [aM m]at h⊢;obtain rfl:=bj h;obtain rfl:=zS.mp m;exact rE (ON S F z (gF _)) fY
  .rw [aJ m]at h⊢
   by_cases l:Ci al rl rs=Y
   .rw [aM l]at h;have l:(_&&_&&_&&_)=Y:=l;simp only [oq]at l;refine cps λk f=>?_;obtain⟨⟨⟨B,X⟩,s⟩,P⟩:=l;have X:=dh X;have g:=λp t=>by
     have:=gK.mp B p t;exact ai (mz.mp this) λa i e=>(aR a i (dh e))
    apply f;exact om (jl (ON S F z (aD X (az C))) (by rw [ow.mpr m];rfl)) (abR S F z X (dh s) g P) (n _ _ _ _ b h)
   .rw [aJ l]at h
    exact aV C h)
end
section
variable{y:Ly Ob}
theorem ad2{code:aB}(S:Sy y L G ah aC aE q)(T:Turn y.B s)(x:jZ y.B a bf (docDef "_law_rounds" (gw (bB 26)) (dF (bB 26)) (ef (bB 26)) h code r) (dF (bB 26)) qx)(w:nQ Q=Y)(v:lW Q bh=D o)(R:m8 o=Y)(g:U Q<=800)(i:n6 m Q (eB Q) []=D b):
  Ak (yc s) y.B y.Z y.w (n+3) (.ref a) (.bL sf Q aa 0 0) [] λX l=>X=.bL sf (ik m Q (eB Q) 0).1 (D []) (ik m Q (eB Q) 0).2 (ik m Q (eB Q) 0).2/\l=.tup [.bool o.isSome,.list (gL b)]:=by
 refine El y.G x (eA C) (.plain λz k=>?_) (λe=>aR _ e (λt f=>f)) (λP w v=>?_) (λ{bl e aN a_ p}B E E E E H aj ak ao u=>?_) λP E E O E E=>gx _ _ P O (λt f=>.inl f)
 .exact bind1 (λa=>C) z k
 .refine bT P λd E=>?_;subst d;rw [S.ek.ob]at w v;exact Cw w v
 .have F:Fm (di (docDef "_law_rounds" (gw (bB 26)) (dF (bB 26)) (ef (bB 26)) h code r) H a) qx (U qx) BV:=jM C C
  let c:=(y.up p B).c (aj.deeper (di (docDef "_law_rounds" (gw (bB 26)) (dF (bB 26)) (ef (bB 26)) h code r) H a)) ak (di (docDef "_law_rounds" (gw (bB 26)) (dF (bB 26)) (ef (bB 26)) h code r) H a) (n+2) u.deeper
  have A:Sy c.y L G ah aC aE q:=S.up B;have aF:gZ c s:=E0 (c:=c) ao C (T.up B) C C;refine mU (A.pr (c:=c) (sf:=sf) (dN _ _) w v R g) λaP aT aX aq aK aH aL=>?_;have j:=abS (c:=c) (sf:=sf) (rg:=.t (.bool o.isSome)) A F (dN _ _) m Q (eB Q) 0 [] b i
  refine XP.ev (c:=c) (EX.xp (aY:=[.obj (.bL sf (ik m Q (eB Q) 0).1 (D []) (ik m Q (eB Q) 0).2 (ik m Q (eB Q) 0).2),.t (.bool o.isSome),.t (.list (gL b))]) (fl:=.ret (.tup [.bool o.isSome,.list (gL b)])) (zx (z2s F 1 2 1 2 C (az C) C (az C) C C (zb ay) (rz cU C) C C C C C C)
   (zx (abl (c:=c) (i:=0) (j:=1) (q:=3) A.ek aF F C C aq (by decide) aK aH aL C C A.OC A.FB C (az C) C nofun C C) (zx (lE j) (hU (jc (HP (zr (zv F 1 C C) (zr (zG F 2 C C) cU C) C) C)))))) (lZ _ _ C (.inl C) C C))
theorem ad1(S:Sy y aF aP aH aC aE aN)(k:y.aZ "_law_rounds" 26)(w:nQ Q=Y)(v:lW Q aq=D o)(R:m8 o=Y)(g:U Q<=800)(s:n6 m Q (eB Q) []=D b):
  ∃a u i,y.mg "_law_rounds"=D (.ref a)/\(∀{h},bF y.B.h₀ h->h.get? a=D u)/\u.data=.func i/\mH y.B y.Z y.w (x+3) (.ref a) (.bL E Q aa 0 0) [] .none λX r=>X=.bL E (ik m Q (eB Q) 0).1 (D []) (ik m Q (eB Q) 0).2 (ik m Q (eB Q) 0).2/\r=D (.tup [.bool o.isSome,.list (gL b)]):=by
 refine A_ (BO (xs:=qx) k C) λa l aK code aL n T=>⟨a,l,_,n,T.ho,T.hd,JV λaT aX h f=>?_⟩;have:=ad2 (n:=x) (sf:=E) S.fr f T.fr w v R g s;intro L F j e z q d p H c A t O G ah;exact this L F j e z q d p H c A t O G λB ak aj ao X r P=>ah B ak aj ao X r ⟨P.1,aA D P.2⟩
end
section
variable{B:bD O}{Z:cy}{w:bZ}{A:c3}{ρ:Mk}{V:c4}{xs:I af}{k:J}{lv aY:I (AV O)}
def Ah(B:bD O)(Z:cy)(w:bZ)(u:J)(L:aB)(e:I T)(p:I T):Prop:=
 ∀(A:c3)(ρ:Mk)(g:Fz)(z:I aB)(i:pT->aU->Prop)(s:aU),dW A u->Ready B g s->bu ρ g z e->
  (∀t j k h X,cj B g s j t->s.heap.get? k=aa->j k=aa->t.heap.get? k=D (lo h X)->bu ρ j h p->i (.ok (.ret (.ref k))) t)->codeAny (aI Z w) A (.call L ⟨z,[]⟩) i s
theorem TY(d:fe B aP bh)(T:∀{h},bF B.h₀ h->h.get? x=D o)(P:o.data=.func S)(j:∀{h},bF B.h₀ h->h.CodeRec S.code S.qualname)
  (y:S.body=.stmts [.Return (D e) aN])(r:S.closure=[])(Q:oN S.scope xs)(aj:S.globals=jX)(f:S.builtins=builtinsNs)(aC:p.length<=U xs)
  (aL:∀z,U z=p.length->bindArgs S ⟨z,[]⟩=pure (e0 xs z))
  (i:∀H A ρ,dW A u->∃k,qH B Z w A ρ (di S H x) xs (U xs) (q4 xs p) e k m):Ah B Z w (u+1) (.ref x) p m:=by
 intro A ρ g z bx s n O l c;refine IQ n.d (T O.base) P (d.nolimit O.base) (j O.base) y (aL z l.length) r ?_ ?_ Q.co Q.gen Q.kind
 .intro E L;have R:=by
   have:E.1∈(e0 xs z).map (·.1):=fM L
   delta e0 at this
   rw [xg]at this;exact Dk this
  rcases Q.names _ R with h|h
  .exact .inl h
  .exact .inr ⟨h,t6 S.scope.names _ [] (.inl h)⟩
 .intro ah G;obtain⟨k,i⟩:=i s.heap.objs.size _ ρ n.deeper;refine gN (IU (i _ g ah _ _ (CH Q aj f O l aC G) λt ao v aq X aT aX q aE bz a FD ak aH=>(d5 (G.done) λa_ bf aF bl=>?_)));have aK:∀b,b∉B.tabs->∀o,s.heap.get? b=D o->t.heap.get? b=D o:=λb f o e=>a.kept b o (by simp [f,e]);have F:=by
   have:=FD.hb;dsimp only at this
   split at this
   .rename_i f;exact bA f FD.tab
   .exact this
  refine c t ao v aq X ⟨bQ.trans (bQ.of aF) q,λb f o e=>aK b f o e,a.inv,aE,a.bJ,λb o e=>?_⟩ F FD.fz ak aH;rcases a.new b o e with q|q
  .exact .inl q
  .right
   dsimp only at q
   split at q
   .rename_i f;exact aV ((a.tab b f).2.1) e
   .exact q
theorem Vh(G:fe B mg aK)(y:dW A u)(j:V.kindOf x=D .globalImplicit)(d:mg x=D (.ref a))(P:(x=="__debug__")=ay)
  (T:∀{h},bF B.h₀ h->h.get? a=D o)(g:o.data=.func aF)(L:∀i∈Q,∀x p,i≠.Starred x p)(h:kA B Z w A ρ V xs k lv b Q aY s)(n:Ah B Z w u (.ref a) s t):
  qH B Z w A ρ V xs k lv (.Call (.Name x p) Q [] b) aY t:=by
 intro aP aE aH aL aN S R;refine ku (nW G S.1 S.ready.base j d P (xU (jJ L h S λc e z q r E m=>⟨⟨T E.ready.base,g⟩,(i4 (n A ρ e z _ c y E.ready m λs' H X v F f ah aj O ao=>?_))⟩)));obtain⟨ak,aq,aC,l⟩:=E;have FD:=l.free ah;exact R s' H X v F aq aC (q.trans f.same) (r.trans f.le) ak (l.step f) ⟨FD.hb,aj,FD.loc,FD.cell,FD.fp,FD.tab,FD.h0⟩ O ao
end
section
variable{c:Cx O}
theorem aeu(w:EE c n k y ah a (.list l))(m:EE c n k a d X (.list H))(B:U l+U H<=1000000):EF c n k y (.BinOp ah .Add d aj) X (l++H):=by
 refine⟨λT g s aq aC S R=>DB (w.1 T g s _ _ S λi x j q o E O=>m.1 T x i _ _ E λF aE t v h f L=>(ji (qc (O.mono h)) λj z ak u p b=>ji (qc L) λt G ao Q A e=>?_))⟩;subst u Q;have r:=f.ready;refine P.add_list (r.bJ _ _ p) (r.bJ _ _ A) ?_ (by simp only [<-b.length,<-e.length]at B;exact kK (eU B));have:=SR.newList (nn:=0) (tk:=F.toks) (q.trans v) (o.trans h) f (b.append e) R;exact MJ z G▸this
end
section
variable{y:Ly Ob}
theorem adP(k:y.aZ "_law_counted" 22)(s:I J)(B:U s<=1000):∃a o S,y.mg "_law_counted"=D (.ref a)/\(∀{e},bF y.B.h₀ e->e.get? a=D o)/\o.data=.func S/\Ah y.B y.Z y.w (n+1) (.ref a) [.str s] (.int (U s)::s.map λ(a:J)=>.int a):=by
 refine A_ (BO (xs:=CZ) k C) λa o b code r i T=>⟨a,o,_,i,T.ho,T.hd,(TY y.G T.ho T.hd T.yx C C T.lX C C (az C) (λz X=>?_) λH L x l=>⟨[.t (.str s)],?_⟩)⟩
 .exact bind1 (λa=>C) z X
 .have F:Fm (di (docDef "_law_counted" (gw (bB 22)) (dF (bB 22)) (ef (bB 22)) b code r) H a) CZ (U CZ) MV:=jM C C;exact(aeu (c:=y.c L x (di _ H a) n l) (oi (zr (rA F 1 C (zv F 0 C C) (eU (aD B (az C))) C) cU C) C) (zf (jT "sign" [] [] _ F C C C (xh (zv F 0 C C)) C (λd h t j=>QJ h 2 C (zv h 0 C C) C) C (aD B (az C)))) (by rw [dg];exact aD (iL B 1) (az C))).1
end
section
open Builtin.Re
noncomputable def Oe:bg Sg->bw
 |D .matched=>Y
 |_=>ay
theorem aaP(h:Oe o=Y):o=D .matched:=by
 cases o with
 |none=>exact cY C h
 |some x=>cases x with
  |matched=>rfl
  |_=>exact cY C h
theorem G2:Slot "re.Match" "group" "re.Match.group":=
 .of (owner:="re.Match") (n:="group") (C) C C C
  (by first|exact .inl _|exact .inr C) (C)
theorem adH:typeOf (.builtin "re.Match.group")=pure (.type "method_descriptor"):=C
theorem Vw:entryFor table "re.Match.group"=D Builtin.«re.Match.group»:=Aa (C)
theorem Tu(a b:aB):argsOk "re.Match.group" ⟨[a,b],[]⟩:=C
theorem aa_:PlainAttrs "re.Match":=
 ⟨aR ("object.__getattribute__") (by kernel_rfl) C,C⟩
def LA(code e:iO J)(start i:J):bw:=(yl 1000 (z8 code e 1 start e.size ay)).any λm=>Oe m.outcome&&(m.start==i&&(m.handed==i+1&&(m.lastmark==1&&m.marks==#[D i,D (i+1)])))
def MR(code e:iO J)(start:J):bw:=(yl 1000 (z8 code e 1 start e.size ay)).any λm=>EK m.outcome
variable{Z:cy}{w:bZ}{A:c3}{E:aB->aU->Prop}{s:aU}
set_option tactic.hygienic true in
theorem ab5{code:iO J}{start:J}(h:MR code e start=Y)(k:Q aa s):aQ (aI Z w) A (reRunToEnd (z8 code e 1 start e.size ay)) Q E s:=ai ((IK _ _).mp h) λm R T=>aG (A7 1000 _ _ (dN _ _) R (aG (GN _ ((KZ T).symm▸bN k))))
noncomputable def ur(m:Dy)(i:J):Dy:={m with start:=i,handed:=i+1,marks:=#[D i,D (i+1)],lastmark:=1}
theorem XE(v:m.start=i)(R:m.handed=i+1)(g:m.lastmark=1)(H:m.marks=#[D i,D (i+1)]):m=ur m i:=by
 delta ur
 rw [<-H,<-g,<-R,<-v]
set_option tactic.hygienic true in
theorem ab3{code:iO J}{start:J}(h:LA code e start i=Y)(k:∀m,Q (D (ur m i)) s):aQ (aI Z w) A (reRunToEnd (z8 code e 1 start e.size ay)) Q E s:=by
 refine cps λb f=>?_;refine ai ((IK _ _).mp h) λm R T=>bT (cR.mp T) λa h=>bT (cR.mp h) λv h=>bT (cR.mp h) λx h=>?_;apply f;exact bT (cR.mp h) λg H=>aG (A7 1000 _ _ (dN _ _) R (aG (GN _ ((aaP a).symm▸bN (XE (iP v) (iP x) (iP g) (iP H)▸k m)))))
noncomputable abbrev BS(a d:aB)(H i:aB)(E:J):bM:={cls:=.type "re.Match",data:=.fields #[a,d,c9 0,c9 E,H,i]}
theorem ZV{i:J}(b:∀H O L,bF s.heap O->s.heap.get? L=aa->(∃h u,O.get? L=D (BS x d H (.ref h) a)/\O.get? h=D {cls:=.type "tuple",data:=.seq [c9 i,c9 (i+1:J),c9 i,c9 (i+1:J)].toArray u})->Q (.ref L) {s with heap:=O}):
  aQ (aI Z w) A (reNewMatch d x 1 0 a (ur m i)) Q E s:=by
 have e:reNewMatch d x 1 0 a (ur m i)=newTuple [c9 i,c9 (i+1:J),c9 i,c9 (i+1:J)]>>=λh=>newFields "re.Match" [x,d,c9 0,c9 a,c9 m.lastindex,h]:=aJ (show¬(Y&&aO _||ay)=Y by rw [ee (h9.mpr (rM _))];decide);refine mj e (aG (Sv ?_ (eA C)));have G:=bF.push s.heap {cls:=.type "tuple",data:=.seq [c9 i,c9 (i+1:J),c9 i,c9 (i+1:J)].toArray};have F:=gS {s with heap:=s.heap.push {cls:=.type "tuple",data:=.seq [c9 i,c9 (i+1:J),c9 i,c9 (i+1:J)].toArray}};exact rQ (b _ _ _ (λl o e=>eH _ (G l o e)) (iV λo e=>aV F (G _ o e)) (gg s.heap.objs.size 0 (eS _ C) (eH _ (eS _ C)))) (eA C)
theorem Xh{l:I J}{G:fT}{u i a:J}(T:s.heap.get? L=D (BS (.str (ck l) G) d H (.ref h) j))(x:s.heap.get? h=D {cls:=.type "tuple",data:=.seq [c9 i,c9 (i+1:J),c9 i,c9 (i+1:J)].toArray u})(k:l[i]?=D a)
  (e:∀c n,Q (.str (ck [a]) c) {s with toks:=n}):aQ (aI Z w) A (call (.builtin "re.Match.group") [.ref L,.int 1 y]) Q E s:=by
 refine i4 (qG G2.plain Vw (G2.check _ _ _ _ _ _ _ _ (aR _ T C) (Tu _ _) ?_));refine aG (iN (a:=()) (by rfl) ?_);dsimp only;refine aG (aG (wpAny_fieldsOf T C (aG (m:=reRawItems (.ref h)) (aG (xZ x C (bN (bN ?_)))))));have t:Array.map reRawOf ((D #[c9 (i:aS),c9 (i+1:J),c9 (i:aS),c9 (i+1:J)]).getD #[])=#[(i:aS),(i+1:J),(i:aS),(i+1:J)]:=by
  show(xN [c9 (i:aS),c9 (i+1:J),c9 (i:aS),c9 (i+1:J)]).map reRawOf=_;apply ae (afU);rfl
 rw [t];refine aG (iN (a:=1) (by rfl) (aG ?_));have X:=cG.mp k;have b:({cps:=(ck l).cps.extract i (i+1)}:af)=ck [a]:=by
  show Str.mk (l.toArray.extract i (i+1))=_;simp only [afH,List.extract,xO,xF X.1,X.2]
  rfl
 show aQ _ _ (mkStr {cps:=(ck l).cps.extract i (i+1)}) _ _ _;rw [b];exact tM (bN (e _ _)) (eA C)
end
section
open Builtin.Re
def YH:Ag:=(ud BD).2.2.1
def FU:cE:=(ud BD).1
def My:je:=(ud BD).2.1
variable{Z:cy}{w:bZ}{A:c3}{E:aB->aU->Prop}{s:aU}
theorem YJ{u i:J}(B:G.scope.kind=.function)(X:G.kindOf "_m"=D .local)(m:s.heap.Ns G.locals h)(R:h "_m"=D (.ref f))
  (T:s.heap.get? f=D (BS (.str (ck l) g) d H (.ref b) v))(k:s.heap.get? b=D {cls:=.type "tuple",data:=.seq [c9 i,c9 (i+1:J),c9 i,c9 (i+1:J)].toArray u})(j:l[i]?=D a)
  (e:∀c n,Q (.str (ck [92,a]) c) {s with toks:=n}):aQ (aI Z w) A (eval FU G) Q E s:=DB (rI (R2 (lM C (ou _) C aa_ G2 adH (eO (IY B X m R ⟨aR _ T C,λq t=>by obtain rfl:=ko t;exact aR _ T C,kq C (tX C (n8 C (So (lK (Xh T k j λc n=>P.truthy_str (show¬((1))>=2^63 by decide) (agt (λo x=>e o x) (eA C)))))))⟩) C))))
def o7(E:af)(doc y i d:aB):rR:={name:="<lambda>",qualname:=E,params:=YH,body:=.expr FU,scope:=My,globals:=jX,closure:=[],closureTuple:=d,code:=i,builtins:=builtinsNs,defaults:=.none,kwdefaults:=.none,annotations:=aa,pyModule:=y,doc}
theorem YI:bindArgs (o7 qual doc pm cv ctv) ⟨[.ref g],[]⟩=pure [(("_m":af),vB g)]:=C
noncomputable abbrev FY:je:={kind:=.function,names:=[("_m",.local)],isGenerator:=ay,isCoroutine:=ay,more:=[]}
theorem FZ:My=FY:=C
theorem YL{S:rR}(h:S.scope=FY):(newEnv S.scope L gl cl q sf cd aa bi).scope.kind=.function/\(newEnv S.scope L gl cl q sf cd aa bi).kindOf "_m"=D .local:=h▸⟨C,C⟩
theorem YK{r y i d:aB}{ak e x:J}(g:A.depth<recursionLimit)(u:s.heap.get? L=D o)(aq:o.data=.func (o7 h r y i d))(aC:s.heap.CodeRec i h)(z:s.heap.NoLimit)
  (T:s.heap.get? f=D (BS (.str (ck H) aN) aP aL (.ref aH) aK))(l:s.heap.get? aH=D {cls:=.type "tuple",data:=.seq [c9 e,c9 (e+1:J),c9 e,c9 (e+1:J)].toArray ak})(k:H[e]?=D x)
  (q:∀O c n,bF s.heap O->p (.str (ck [92,x]) c) {s with heap:=O,toks:=n}):aQ (aI Z w) A (call (.ref L) [.ref f]) p E s:=by
 have B:(o7 h r y i d).scope=FY:=FZ;have X:(o7 h r y i d).body=.expr FU:=C;have G:(o7 h r y i d).qualname=h:=C;have P:(o7 h r y i d).code=i:=C;have ah:(o7 h r y i d).scope.isCoroutine=ay:=aA Scope.isCoroutine FZ;have F:(o7 h r y i d).scope.isGenerator=ay:=aA Scope.isGenerator FZ;have aj:=YI (qual:=h) (doc:=r) (pm:=y) (cv:=i) (ctv:=d) (g:=f);generalize o7 h r y i d=S at*;refine i4 (kla_callFunE g u aq ah F X (G.symm▸P.symm▸aC) (mj aj (bN (agS (λao j=>?_) (λao j=>?_) (λv m a=>⟨z.fresh _ a,kla_codeExpr ?_⟩) (B▸C)))))
 .rw [B]at j;exact cO.mp j▸nofun
 .rw [B,cO.mp j];rfl
 generalize R:s.heap.objs.size=aE at m a;have Q:bF s.heap v:=λaF o b=>a.extBut aF o (eZ (R▸gS s) b) (eH _ b);have t:=YL (gl:=S.globals) (cl:=S.closure) (q:=S.qualname++".<locals>.") (sf:=D L) (cd:=S.code) (bi:=S.builtins) (L:=aE) B;exact YJ t.1 t.2 m C (Q _ _ T) (Q _ _ l) k λc n=>q v c n Q
end
section
open Builtin.Re
noncomputable def v_(code:I J)(l:I J):J->I J->bw
 |d,[]=>MR code.toArray l.toArray d&&aO (d=l.length)
 |d,p::S=>LA code.toArray l.toArray d p&&(aO (d<=p)&&(aO (p<l.length)&&v_ code l (p+1) S))
noncomputable def pF(l:I J):J->I J->I J
 |_,[]=>[]
 |d,p::S=>(l.take p).drop d++(92::l.getD p 0::pF l (p+1) S)
theorem acZ:pF l d (p::S)=(l.take p).drop d++(92::l.getD p 0::pF l (p+1) S):=C
variable{Z:cy}{w:bZ}{A I1:c3}{E:aB->aU->Prop}{R:pT->aU->Prop}
theorem Wq{j h O:cf}(x:jU H j h)(a:jU H h O):jU H j O:=λb o u e=>a b o u (x b o u e)
theorem PC{z:I aB}{G:I af}(h:StrsAre z G)(x A):StrsAre (z++[.str x A]) (G++[x]):=by
 induction h with
 |nil=>exact .cons x A .nil
 |cons H y _ n=>exact .cons H y n
theorem Pz{z:I aB}{G:I af}(h:StrsAre z G):U z=U G:=by
 induction h with
 |nil=>rfl
 |cons H y _ n=>exact aA _ n
theorem abn{R:Type}{l:I J}{a:Unit->Sem R}{Q:R->aU->Prop}{s:aU}{G:I (I J)}{z:I aB}{X:J}(n:s.heap.get? H=D (lo z X))(y:StrsAre z (G.map ck))(j:d<=p)(u:p<U l)(x:U l<=1000)(g:U G<=1000)
  (h:∀(i:cf)(k q:J)(o:I aB)(t:I (I J)),jU H s.heap i->i.get? H=D (lo o k)->StrsAre o (t.map ck)->t.flatten=G.flatten++(l.take p).drop d->U t<=U G+1->(t.map (U ·)).sum<=(G.map (U ·)).sum+1000->aQ (aI Z w) A (a ()) Q E {s with heap:=i,toks:=q}):
  aQ (aI Z w) A (if d<p then(do let b<-reSlice l.toArray 0 d p;let r<-updateSeq H λf=>f.push b;a r)else a ()) Q E s:=by
 have v:U z<=sizeLine:=by rw [Pz y,dg];exact aD g (az C)
 by_cases c:d<p
 .have e:l.toArray.extract d p=((l.take p).drop d).toArray:=by simp [afH,List.extract,Rp]
  have B:U ((l.take p).drop d)<=1000:=by rw [xH,zT];exact jP 0 (.v 2) (.n 1000) (.v 0) (.n 1000) (.v 2) (.v 1) (.v 1) (.v 0) C [_,_,_] x B4 Go
  refine mj (aM c) (aG (CE e (aD B (az C)) (aG (Hs n v λi k F L=>h i k _ _ (G++[(l.take p).drop d]) F L (by rw [eW];exact PC y _ _) (by rw [Rv];simp) (by rw [cC];exact dz _) (by rw [eW,af2];exact iL (by show _+0<=_;exact B) _)))))
 .have m:d=p:=fS j (iM c);refine mj (aJ c) (h s.heap X s.toks z G (λT S _ e=>e) n y (by subst m;rw [vm (by rw [zT];exact z4 _ _),jq]) (rM _) (fO _ _))
theorem Zi{code l:I J}{h₀:cf}(aK:U l<=1000)(aL:I1.in1.depth<recursionLimit)(P:o.data=.func (o7 aP cA dB aE b_))(cZ:L≠li)
  (t:∀{O},jU li h₀ O->qJ O bl code 1/\O.NoLimit/\O.get? L=D o/\O.CodeRec aE aP):∀(S:I J)(d:J)(n:aS)(A:fT)(s:aU)(z:I aB)(G:I (I J))(X:J)(R:pT->aU->Prop),
   v_ code l d S=Y->jU li h₀ s.heap->s.heap.get? li=D (lo z X)->StrsAre z (G.map ck)->U G+2*U S<=1000->(G.map (U ·)).sum+1002*U S<=100000->(S=[]->z≠[])->
   (∀O b c,jU li h₀ O->R (.ok (.ret (.str (ck (G.flatten++pF l d S)) b))) {s with heap:=O,toks:=c})->
  codeAny (aI Z w) I1 (.builtin "re.Pattern.sub.loop" ⟨[.ref bl,.str (ck l) A,.ref L,c9 1,c9 0,c9 n,c9 d,c9 d,.bool ay,.ref li,.bool ay],[]⟩) R s:=λS=>S.rec
 (λd n A s z G X R B x h y g e r k=>by
  have B:=cR.mp B;have P:=dh B.2;subst P;apply z_ ED;rw [afi (by decide+kernel)];refine aG (zz (t x).1 (aG (ab5 B.1 (mj (aJ (show¬Io (U l)<U l from i3 _)) ?_))));refine aG (CE (l:=[]) (by simp) (gF _) (aG (xZ h C ?_)));have aX:z≠[]:=r C;refine mj (aJ (show¬((D z.toArray).getD #[]).isEmpty=Y by cases z with|nil=>exact bA C aX|cons a cQ=>exact nofun)) (aG ?_);refine R3 (i12 _ h C ⟨X,C⟩) y ?_ λbf E=>?_
  .rw [dH,dg];show(G.map (U ·)).sum+U G*0<=_;exact aD (aD (fO _ _) e) (az C)
  .have j:z9 (ck []) (G.map ck)=ck (G.flatten++pF l (U l) []):=ae (join_nil G) (aA ck (jq _).symm)
   exact j▸bN (k s.heap bf E x))
 (λQ S aq d n A s z G X R B x h y g e r k=>by
  have B:=cR.mp B;have ah:=cR.mp B.2;have aj:=cR.mp ah.2;have aF:=dh ah.1;have i:=dh aj.1;rw [gB]at g e;apply z_ ED;rw [afi (by decide+kernel)];refine aG (zz (t x).1 (aG (ab3 B.1 λm=>abn (d:=d) (p:=Q) h y aF i aK (by exact cT 0 (.v 0) (.n 1000) (.a (.v 0) (.m 2 (.a (.v 1) (.n 1)))) (.n 1000) C [_,_] g) λd8 cg cB aH f F aN p aT H a_=>?_)));apply mj (aJ (show¬((1:aS)==0)=Y by decide));refine aG (ZV λcF cH cL T cV v=>(d5 (v) λdK dO v aC=>?_));have q:=t (Wq x F);refine aG (gH (YK aL (T _ _ q.2.2.1) P ?_ (q.2.1.keeps T) v aC (dD i) λcu c E ak=>?_))
  .exact q.2.2.2.keeps T
  have bx:U aH<=sizeLine:=by rw [Pz p,dg];exact aD (show U f<=1000 by exact d_ 0 (.v 2) (.n 1000) (.a (.v 0) (.m 2 (.a (.v 1) (.n 1)))) (.n 1000) (.v 2) (.a (.v 0) (.n 1)) C [_,_,_] g H) (az C)
  refine aG (Hs (ak _ _ (T _ _ aN)) bx λbz bC bE bh=>?_);have bP:jU li h₀ bz:=λbR o u j=>bE bR o u (ak _ _ (T _ _ (F _ _ u (x _ _ u j))));have bH:((ur m Q).handed==(ur m Q).start)=ay:=beq_false_of_ne (agm Q);rw [bH];have bU:(f++[[92,l[Q]]]).flatten++pF l (Q+1) S=G.flatten++pF l d (Q::S):=by
   rw [acZ,Rv,aT,tB,dD i];simp
  exact bN ⟨zM _ (by decide+kernel),aq (Q+1) (n+1) A _ _ (f++[[92,l[Q]]]) bC R aj.2 bP bh (by rw [eW];exact PC p _ _) (by rw [cC];show _+1+_<=_;exact d_ 0 (.a (.a (.v 2) (.n 1)) (.m 2 (.v 1))) (.n 1000) (.a (.v 0) (.m 2 (.a (.v 1) (.n 1)))) (.n 1000) (.v 2) (.a (.v 0) (.n 1)) C [_,_,_] g H) (by rw [eW,af2];show _+2+_<=_;exact d_ 0 (.a (.a (.v 2) (.n 2)) (.m 1002 (.v 1))) (.n 100000) (.a (.v 0) (.m 1002 (.a (.v 1) (.n 1)))) (.n 100000) (.v 2) (.a (.v 0) (.n 1000)) C [_,_,_] e a_) (λ_ bY=>by simp at bY) λO b c ao=>bU▸k O b c ao⟩)
end
section
open Builtin.Re
section
variable{Z:cy}{w:bZ}{A:c3}{E:aB->aU->Prop}{s:aU}
theorem ac0{code l S:I J}{T F i d:aB}{o:bM}(P:qJ s.heap p code 1)(B:v_ code l 0 S=Y)(m:S≠[])(X:U l<=1000)(t:U S<=20)
  (r:A.depth<recursionLimit)(g:s.heap.get? L=D o)(R:o.cls=.type "function")(a:o.data=.func (o7 k T F i d))(n:s.heap.CodeRec i k)(ah:s.heap.NoLimit)(f:∀{O},bF s.heap O->O.NoLimit)
  (v:∀O G c,bF s.heap O->Q (.str (ck (pF l 0 S)) G) {s with heap:=O,toks:=c}):aQ (aI Z w) A (call (.builtin "re.Pattern.sub") [.ref p,.ref L,.str (ck l) h]) Q E s:=by
 refine i4 (qG wR.plain KJ (wR.check _ _ _ _ _ _ _ _ (by obtain⟨o,aj,b,aC,e,ak,ao,aq,z,H,_⟩:=P;exact(aR o z H)) (JF _ _ _) ?_));refine aG (iN (a:=[D (.ref L),D (.str (ck l) h),aa]) (C) ?_);refine aG (bN (aG (Af (aR o g R) O5.lookup (aG (bN (aG (bN ?_)))))));dsimp only;refine aG (gH (zz P (aG (aG (Su (T:="str") (b:=ay) (tK _ _ _) (by rw [isSubtype_type];exact C) (bN (aG (DE (bN ?_)))))))));have u:bF s.heap (s.heap.push (lo [] 0)):=bF.push _ _;have y:s.heap.get? s.heap.objs.size=aa:=gS s;have j:∀{O},jU s.heap.objs.size (s.heap.push (lo [] 0)) O->bF s.heap O:=λx b o e=>x b o (eZ y e) (u _ _ e);exact⟨zM _ (by decide+kernel),Zi (h₀:=s.heap.push (lo [] 0)) (li:=s.heap.objs.size) X r a (eZ y g) (λx=>⟨P.keeps (j x),f (j x),j x _ _ g,n.keeps (j x)⟩) S 0 0 h _ [] [] 0 _ B (λb o _ e=>e) (eS _ C) .nil (aD (fq (jv _)) (aD (xP 2 t) (az C))) (aD (fq (jv _)) (aD (xP 1002 t) (az C))) (λq=>bA q m) λO G c x=>v O G c (j x)⟩
end
theorem ac5{H:Ly bf}(c:vO H)(K:jH H.B H.mg j cH mX)(i:dW L u)(F:Fm G x9 13 n9)(O:G.code=.ref j)(x:G.qual="_translate.<locals>.")(B:v_ vY l 0 h=Y)(q:h≠[])(P:U l<=1000)(T:U h<=20)(X:y[9]?=D (.t (.str l))):
  EE (H.c L cg G u i) x9 13 y tV y (.str (pF l 0 h)):=by
 refine ai c.ex λaT p s=>?_;constructor;intro cL a_ bl cu cA S R;obtain⟨w,m,r,S⟩:=S;obtain⟨o,_,_,_,_,_,_,_,a,v,d,_⟩:=s S.base;refine lM C (ou _) C Oq wR P9 (nW H.G w S.base (F.kn 15 C nofun) p (F.kg 15 C) (dI (aR o a v) (λb e=>by obtain rfl:=ko e;exact aR o a d) (kq C (tX C (n8 C (F0 H.G K (Mz x) O (AX ?_) ?_ w S λbz bH bP bR bU bY b_ n z A E g aX k ah _=>?_))))))
 .decide
 .rfl
 .refine n8 C (cps λbh aj=>?_);obtain⟨bx,ak,bC,bE,rfl,ao⟩:=E.vars 9 "stuff" _ C X;refine aj (eO (eL w E.ns ak (lK (bG (jg ao) λt aq=>?_))) (F.eY (i:=9) C));subst aq;refine A9 (ah.kn (aR (_) (RG _) (C))) λb aC Q aF aH aK aE aN=>ac0 (s E.base) B q P T i.d g C C (Ff b aC Q aF aH (E.bJ _ _ aK) ⟨aE,aN⟩) (H.G.nolimit E.base) (λk=>H.G.nolimit λb o e=>k _ _ (E.base b o e)) λcB cF aL aP=>?_;have f:=cj.keeps (t:=aL) E.ready aP;exact R _ n _ (z.trans f.same) A ⟨w,m,r,E.step f⟩ (.str _ _)
end
section
variable{c:Cx O}{pat:I J}{acc:I T}{l l':I J}
theorem ach(h:aO (a>=b)=d):gb .GtE (.int a) (.int b)=D d:=aA D h
abbrev zd:cz:=g8 (mW (fV 4 R9)) 1
theorem Fg(t:U l<=1000)(h:l[i]?=D a):i<2^60:=eI (cG.mp h).1 (aD t (az C))
theorem Ho(F:Fm c.V x9 13 n9)(h:U pat<=1000){t:J}(G:y[8]?=D (.t (.int t)))(m:y[6]?=D (.t (.int (U pat))))(n:y[0]?=D (.t (.str pat)))(u:pat[t]?=D a)(l:e=⟨[d].toArray⟩)(f:aO (a=d)=b):
  EC c x9 13 y (.BoolOp .And [.Compare (.Name "j" i) [.Lt] [.Name "n" B] x,.Compare (.Subscript (.Name "pat" P) (.Name "j" p5) s) [.Eq] [.Constant (.str e) v k] q] p) y b:=
 jl (kL (zC (zv F 8 C G) (zv F 6 C m) (l8 (cM (jV.mpr (cG.mp u).1))) C) λE=>kL (zC (dU (zv F 0 C n) (zv F 8 C G) (jk (Fg h u) u) C) (zs [d] l) (wM f) C) λE=>sY) (by simp only [Ib,Ic])
theorem P4(F:Fm c.V x9 13 n9)(h:U pat<=1000){t:J}(G:y[8]?=D (.t (.int t)))(m:y[6]?=D (.t (.int (U pat))))(n:y[0]?=D (.t (.str pat)))(u:pat[t]?=D a)(l:e=⟨[d].toArray⟩)(f:(!aO (a=d))=b):
  EC c x9 13 y (.BoolOp .And [.Compare (.Name "j" i) [.Lt] [.Name "n" B] x,.Compare (.Subscript (.Name "pat" P) (.Name "j" p5) s) [.NotEq] [.Constant (.str e) v k] q] p) y b:=
 jl (kL (zC (zv F 8 C G) (zv F 6 C m) (l8 (cM (jV.mpr (cG.mp u).1))) C) λE=>kL (zC (dU (zv F 0 C n) (zv F 8 C G) (jk (Fg h u) u) C) (zs [d] l) (zg (d:=b) (by simp only [<-f,show([a]==[d])=aO (a=d)by rw [oz];simp])) C) λE=>sY) (by simp only [Ib,Ic])
theorem P5(F:Fm c.V x9 13 n9)(t:U pat<=1000):∀(r y:I J),pat=y++(r++93::e)->93∉r->
  EW c x9 13 (lA (D (g8 R9 3))) (lz (D (g8 R9 3))) [] (U r) (L9 pat acc i a7 (.t (.int (U y))) a9 ie fJ fK) (L9 pat acc i a7 (.t (.int (U y+U r:J))) a9 ie fJ fK) .next:=λT=>T.rec
 (λy h _=>rE (P4 F t C C C (by rw [h];exact oQ _ _) (cS [']']) C) fY)
 (λx r n y h u=>by
  have a:=n (y++[x]) (by apply ae (h);rw [gX];rfl) λm=>u (.tail _ m);rw [cC,vp,qD (U [x])]at a
  exact om (P4 F t C C C (by rw [h];exact oQ _ _) (cS [']']) (aA _ (ee ((λq=>u (q▸.head _):¬x=93))))) (fb (eM F 8 C (dN _ _) (fh (zv F 8 C C) (zi 1) (rh C)) C) C) a)
theorem P0(F:Fm c.V x9 13 n9)(t:U pat<=1000){pre b a:I J}{x:J}(h:pat=pre++91::(x::b++93::a))(n:x≠33)(g:93∉b)
  (k:EX c x9 13 (L9 pat acc (U pre+1) (.t (.str [91])) (.t (.int (U pre+2+U b:J))) H f fJ z) (mW (fV 4 R9)) y .next):EX c x9 13 (L9 pat acc (U pre) a7 Q H f fJ z) B9 y .next:=by
 have w:pat=pre++[91]++(x::b++93::a):=by apply ae (h);rw [gX];rfl
 have e:U (pre++[91])=U pre+1:=cC;have P:pat[U pre+1]?=D x:=by rw [<-e,w,oQ];rfl
 have i:ES c x9 13 _ (g8 R9 4) y .next:=
  dQ (zC (zv F 8 C C) (zv F 6 C C) (ach (ee (Rm.mpr (jV.mpr (by rw [w,cC,e,cC];show _<_+((U b+1)+(_+1));exact eF (.a (.a (.a (.v 0) (.n 2)) (.v 1)) (.n 1)) (.a (.a (.v 0) (.n 1)) (.a (.a (.v 1) (.n 1)) (.a (.v 2) (.n 1)))) C [_,_,_]))))) C) k
 refine Hl F t (by rw [h,oQ];rfl) (fb (dQ (b:=ay) (zC (zv F 7 C C) (zs [42] (cS ['*'])) C C) (fb (dQ (b:=ay) (zC (zv F 7 C C) (zs [63] (cS ['?'])) C C) (fb (dQ (b:=Y) (zC (zv F 7 C C) (zs [91] (cS ['['])) C C)
  (zx (eM F 8 C (dN _ _) (zv F 5 C C) C) (zx (dQ (Ho F t C C C P (cS ['!']) (ee n)) fY) ?_))) C)) C)) C)
 by_cases L:x=93
 .subst L;have v:pat=pre++[91,93]++(b++93::a):=by apply ae (h);simp
  have s:=P5 (acc:=acc) (i:=U pre+1) (a7:=.t (.str [91])) (a9:=H) (ie:=f) (fJ:=fJ) (fK:=z) F t b _ v g;rw [(cC)]at s;exact zx (dQ (Ho F t C C C P (cS [']']) C) (fb (eM F 8 C (dN _ _) (fh (zv F 8 C C) (zi 1) (rh C)) C) C)) (zx (lE s) (fb i C))
 .have s:=P5 (acc:=acc) (i:=U pre+1) (a7:=.t (.str [91])) (a9:=H) (ie:=f) (fJ:=fJ) (fK:=z) F t _ _ w λm=>(cD.mp m).elim (λq=>L q.symm) g;rw [e,show U pre+1+U (x::b)=U pre+2+U b by rw [gB];exact fS (eF (.a (.a (.v 0) (.n 1)) (.a (.v 1) (.n 1))) (.a (.a (.v 0) (.n 2)) (.v 1)) C [_,_]) (eF (.a (.a (.v 0) (.n 2)) (.v 1)) (.a (.a (.v 0) (.n 1)) (.a (.v 1) (.n 1))) C [_,_])]at s;exact zx (dQ (Ho F t C C C P (cS [']']) (ee L)) fY) (zx (lE s) (fb i C))
noncomputable def uy(s:I J):I J:=match s with
 |x::_=>if x=94\/x=91 then 92::s else s
 |[]=>[]
theorem P1(F:Fm c.V x9 13 n9)(X:U acc<=100000){x i t:J}(b:∀y,y[9]?=D (.t (.str d))->EE c x9 13 y tV y (.str (x::r)))(n:x≠33)(h:U r<=100):
  EX c x9 13 (L9 pat acc i (.t (.str [91])) (.t (.int t)) (.t (.str d)) f fJ z) ((mW (fV 4 R9)).drop 2) (L9 pat (acc++[.str ([91]++uy (x::r)++[93])]) (t+1) (.t (.str [91])) (.t (.int t)) (.t (.str (uy (x::r)))) f fJ z) .next:=by
 have a:gb .In (.str [x]) (.tup [.str [94],.str [91]])=D (aO (x=94\/x=91)):=by
  show jO (.str [x]) ([[94],[91]].map .str)=_;simp only [Fq];simp
 have j:=ju h;have e:∀s:I J,U s<=200->EX c x9 13 (L9 pat acc (t+1) (.t (.str [91])) (.t (.int t)) _ f fJ z) [g8 (mW (fV 0 (mW (fV 4 (mW (fV 4 R9)))))) 1] _ .next:=λs B=>
  fb (zE F 3 4 C C C (HJ (zj (zs [91] (cS ['['])) (az C) (zj (HH (zv F 9 C C) (aD B (az C))) (aD (ju B) (az C)) (zj (zs [93] (cS [']'])) (by simp;exact aD B (az C)) HM))) (by simp;exact aD B (az C))) C C C (eU (aD X (az C)))) C
 refine zx (eM F 9 C (dN _ _) (b _ C) C) (zx (eM F 5 C (dN _ _) (fh (zv F 8 C C) (zi 1) (rh (d:=(t+1:J)) C)) C)
  (fb (dQ (b:=ay) (C1 (b:=Y) (lD (zv F 9 C C) (aco (aD j (az C)) C) λE=>C)) (fb (dQ (b:=ay) (zC (zv F 9 C C) (zs [33] (cS ['!'])) (Cy (beq_false_of_ne λq=>n (zP q).1)) C)
   (zx (dQ (b:=ay) (zC (dU (zv F 9 C C) (zi (0:J)) (jk (a:=x) (az C) C) C) (zs [33] (cS ['!'])) (wM (ee n)) C)
    (dc:=L9 pat acc (t+1) (.t (.str [91])) (.t (.int t)) (.t (.str (uy (x::r)))) f fJ z) (fl:=.next) ?_) (e _ ?_))) C)) C))
 .by_cases q:x=94\/x=91
  .rw [cM q]at a;rw [show uy (x::r)=[92]++(x::r)from aM q]
   exact fb (dQ (b:=Y) (zC (dU (zv F 9 C C) (zi (0:J)) (jk (a:=x) (az C) C) C) (HP (zr (zs [94] (cS ['^'])) (zr (zs [91] (cS ['['])) cU C) C) C) a C)
    (fb (eM F 9 C (dN _ _) (fh (zs [92] (cS ['\\'])) (zv F 9 C C) (pC (aD (iL j 1) (az C)))) C) C)) C
  .rw [ee q]at a;rw [show uy (x::r)=x::r from aJ q];exact fb (dQ (b:=ay) (zC (dU (zv F 9 C C) (zi (0:J)) (jk (a:=x) (az C) C) C) (HP (zr (zs [94] (cS ['^'])) (zr (zs [91] (cS ['['])) cU C) C) C) a C) fY) C
 .show U (if x=94\/x=91 then 92::x::r else x::r)<=200
  split
  .exact aD (ju j) (az C)
  .exact aD j (az C)
theorem OM{x a b:I J}{s:aU}(n:s.toks≠0)(h:((⟨a.toArray⟩:af)==⟨b.toArray⟩)=ay)(j:U x<=1000)(f:U b<=14)(e:xT ⟨x.toArray⟩ ⟨a.toArray⟩ ⟨b.toArray⟩=⟨l'.toArray⟩)
  (R:∀P k,Q (.str ⟨l'.toArray⟩ P) {s with toks:=k}):aQ (aI m w) L (call (.builtin "str.replace") [.str ⟨x.toArray⟩ A,.str ⟨a.toArray⟩ s.toks,.str ⟨b.toArray⟩ (s.toks+1)]) Q H {s with toks:=s.toks+1+1}:=
 SC.replaceW n (Du _) (fH (fG _)) h (aD j (az C)) (f) (e.symm▸R)
theorem aab(e:(afo x H 0 x.length 1).isEmpty=Y)(h:Q (.bool Y) s):aQ (aI m w) L (compareOp .NotIn (.str H y) (.str x A)) Q a s:=P.notIn_str (e.symm▸h)
theorem abM(F:Fm c.V x9 13 n9)(L:y[9]?=D (.t (.str l)))(e:45∉l)(X:U l<=1000)(s:xT ⟨l.toArray⟩ ⟨#[92]⟩ ⟨#[92,92]⟩=⟨l'.toArray⟩):
  ES c x9 13 y zd (y.set 9 (.t (.str l'))) .next:=by
 constructor;intro T g k Q H a S R;refine cps λE v=>?_;obtain⟨w,u,p,h⟩:=S;obtain⟨A,z,m,n,rfl,d⟩:=h.vars 9 "stuff" _ C L;refine v (bG (jg d) λt j=>?_);subst j;exact Ac (Ad (rI (eO (eL w h.ns z (aab (occ_none e 1 (dz 1)) (x6 (gN (kr (lM C (ou _) C Dx R7 Sa (eO (eL w h.ns z ⟨C,λo q=>nc z7 q C,kq C (tX C (n8 C (rI (n8 C (rI (lK (OM (a:=[92]) (b:=[92,92]) (Du _) C X (az C) s λP r=>gh (av:=.t (.str l')) w a h (i:=9) (by rfl) (by decide) (.inl (F.kn 9 C nofun)) ⟨C,_,C,.str _ _⟩ .nil λi b x f=>rP (R i g .next (bQ.trans (cI _ _ C) x) (Le.refl _) ⟨w,b,_,f⟩ dj))))))))⟩) (F.eY (i:=9) C))) C))))) (F.eY (i:=9) C))) C)
end
section
open Builtin.Str
section
variable{s:aU}
theorem WZ(h:G.code=.ref c)(d:lN s.heap c P)(l:TabAt s.heap P S)
  (R:∀i O n A,jU P s.heap O->s.heap.objs.size<=O.objs.size->TabAt O P A->tP s.heap O u q S A i->Q i {s with heap:=O,toks:=n}):
  aQ M L (genexprCode G u q v) Q H s:=by
 cases g:codeAmong u S.toList with
 |some i=>exact wpAny_genexprCode_hit h (d.code l) g (R i s.heap s.toks S (λE E E e=>e) (dz _) l (.v9 g C))
 |none=>
  refine wpAny_genexprCodeX h (d.code l) (d.tab l) g λk O n j F x E a b E=>R _ O n _ j (e7 (kS F x)) ⟨b.2,?_⟩ (.new k g C F a (by simp));have X:(S++#[c9 u.line,c9 u.col,vB k]).toList=S.toList++[c9 u.line,c9 u.col,.ref k]:=by simp
  simp only [X];exact TriplesOk_snoc _ _ _ _ l.2
end
theorem W0(x:rT h f S)(l:TriplesOk S.toList)(a:tP s O u q S A i)(z:∀x∈f,¬((u.line:aS)=x.1.line/\(u.col:aS)=x.1.col)):rT h f A:=by
 cases a with
 |v9 e p=>exact p.symm▸x
 |new k e v b r p=>
  intro H L d q;rw [p]at q;exact(JB l q).elim (x H L d) λq=>bA q.2 (z H L)
variable{Z:cy}{w:bZ}{A:c3}{E:aB->aU->Prop}{s:aU}
theorem abO{x y z:I J}(e:(occurrences ⟨x.toArray⟩ ⟨y.toArray⟩ 0 (U x) (U x+1)).isEmpty=Y)(k:Q (.str ⟨x.toArray⟩ h) s):
  aQ (aI Z w) A (call (.builtin "str.replace") [.str ⟨x.toArray⟩ h,.str ⟨y.toArray⟩ a,.str ⟨z.toArray⟩ v]) Q E s:=by
 have l:((occurrences ⟨x.toArray⟩ ⟨y.toArray⟩ 0 (⟨x.toArray⟩:af).length ((⟨x.toArray⟩:af).length+1)).isEmpty||(⟨y.toArray⟩:af).length==0&&(⟨z.toArray⟩:af).length==0)=Y:=by
  simp only [str_len,e];rfl
 exact Sm F.slot_str_replace (tK _ _ _) F.entry_str_replace (F.args_str_replace_3 _ _ _) (gives_str_replace _ _ _ h a v λq=>cY q l) ((aM l).symm▸k)
abbrev Lm:cz:=(fV 6 (mW (D zd))).getD (.Pass default)
def E5:cE:=vW (D Lm)
def E6:cE:=(xV E5).1
def Ll:cE:=(ud E6).1
theorem W'{G O:I J}(c:U G<=1000)(L:92∉G)(n:xT ⟨G.toArray⟩ ⟨#[45]⟩ ⟨#[92,45]⟩=⟨O.toArray⟩)(B:h.scope.kind=.function)(X:h.kindOf "s"=D .local)(m:s.heap.Ns h.locals a)(R:a "s"=D (.str ⟨G.toArray⟩ x)):
  aQ (aI Z w) A (eval Ll h) (λH j=>(∃y,H=.str ⟨O.toArray⟩ y)/\Keeps s j) E s:=lM C (ou _) C Dx R7 Sa (lM C (ou _) C Dx R7 Sa (eO (IY B X m R ⟨C,λi q=>nc z7 q C,kq C (tX C (n8 C (rI (n8 C (rI (lK (abO (y:=[92]) (z:=[92,92]) (occ_none L _ (dN _ _)) ⟨C,λi q=>nc z7 q C,kq C (tX C (n8 C (rI (n8 C (rI (lK (OM (Du _) C c (az C) n λP k=>⟨⟨P,C⟩,s.heap,k,C,λb o e=>e⟩)))))))⟩)))))))⟩) C))
end
section
open Builtin.Str
def Ln:je:=(ud E6).2.1
def E7:h_:=(ud E6).2.2.2
noncomputable abbrev W9:je:={kind:=.function,names:=[(".0",.local),("s",.local)],isGenerator:=Y,isCoroutine:=ay,more:=[]}
theorem W_:Ln=W9:=C
theorem Xb:∀x∈mX,¬((E7.line:aS)=x.1.line/\(E7.col:aS)=x.1.col):=by
 decide+kernel
theorem TF(f:O.bare=Y)(R:GenOnlyQ G.size (G.push O) o):AllBare o=AllBare G:=propext ⟨λh H L=>by
 obtain⟨i,A,e⟩:=Array.mem_iff_getElem.mp L;have t:(G.push O)[i]?=D H:=ae (Array.getElem?_push_lt A) (aA D e)
 exact R.elim (λq=>h H (q▸afk t)) λq=>h H (afk (ae (q.1.2 i (fH A)) t)),λh=>(h.push f).moved R⟩
theorem aaS{p:J->J->Prop}{l:I _}{G:af}(h:ItemsOf (λt H=>∃i,p t i/\∃y,H=.str G y) (strValues l).toArray u)(z:u=1):l.map (·.1)=[G]:=by
 subst z;have w:=h.1;have v:=h.2;cases l with
 |nil=>exact bA w (wq C)
 |cons q r=>
  exact xG ((dg _).symm.trans (Dt w))▸ai (v 0 (.str q.1 q.2) C) λk a h=>bG h λg e=>aA (λE=>[E]) (PySem.Value.str.inj e).1
theorem Yn{O:I J}(o:U O<=1000):JoinOk "-" [⟨O.toArray⟩]=Y:=by
 show(!aO (_<0+U O+1))=Y;rw [ee];rfl;exact h9.mpr (aD (rK (aD (fq (jv _)) o) 1) (az C))
variable{c:Cx O}
theorem Xa{G O:I J}(gc:U G<=1000)(aN:U O<=1000)(a_:92∉G)(cH:xT ⟨G.toArray⟩ ⟨#[45]⟩ ⟨#[92,45]⟩=⟨O.toArray⟩)(K:jH c.B c.mg dK P mX)(gi:Fm c.V x9 13 n9)(aF:c.V.code=.ref dK)(ah:gm c.V)(l:aW c.B c.ρ bh cg c.V x9 13 S cQ cZ s.heap)(eu:S[10]?=D (.own [.str G]))
  (eR:∀t A,bQ s t->aW c.B c.ρ bh cg c.V x9 13 S cQ cZ t.heap->Q (.str ⟨O.toArray⟩ A) t):aQ (aI c.Z c.w) c.A (eval E5 c.V) Q rH s:=by
 refine lM C (ou _) C Dx R6 R_ (rI ⟨C,(λw q=>nc z7 q C),kq C (tX C (n8 C ?_))⟩);show aQ _ _ (eval (.GeneratorExp Ll [⟨.Name "s" _,.Name "chunks" _,[],0⟩] Ln E7) c.V) _ _ _;rw [W_];refine cps λh bz=>?_;obtain⟨pL,bC,k,pM,L,rfl,r,cV,aT⟩:=l.vars 10 "chunks" _ C eu;refine bz (ai cV.ja λv z dO=>?_);subst z;refine bG (jg dO) λA z=>?_;subst z;have ej:s.heap.IsList k (xN [Dz ⟨G.toArray⟩ A]):=i12 _ r C ⟨L,C⟩;refine wpAny_GeneratorExp_walksQ c.R.handled C (AX (by decide)) (by decide) C C C c.R.d (eO (eL ah l.ns bC (I0 ej ?_)) (gi.eY (i:=10) C)) (λkP=>C);have u:=bF.push s.heap {cls:=.type "list_iterator",data:=.fields #[.ref k,.int 0 0]};have E:=l.um u (Le.refl _) λb o e=>.inl e;have ao:=eS s.heap (o:={cls:=.type "list_iterator",data:=.fields #[.ref k,.int 0 0]}) C;generalize s.heap.push {cls:=.type "list_iterator",data:=.fields #[.ref k,.int 0 0]}=aK at u E ao⊢;refine⟨c.G.nolimit E.base,ai (K.at_ E.inv) λaL H aP=>WZ aF (K.hd E.base) H λlF n kh bf j kQ bl bx=>?_⟩;have T:kW c.B aK n:=λb f o e=>j b o (λq=>f (q▸K.tab)) e;have a:=E.grow T (K.put E.inv (λ_ _ _ _ e=>e) (λQ h bE o e=>j Q o bE e) (aR bf bl (W0 aP H.2 bx Xb))) (Le.refl _) λb o e=>.inl e;refine Ks (K.bm a.base) λrG kO bH bP h rF bR bU bY b_=>?_;have g:=gS s;have cu:s.heap.objs.size≠P:=ai (K.at_ l.inv) λaL cA h=>(eZ g cA.1).symm;have cB:k≠s.heap.objs.size:=eZ g r;have cF:k≠P:=λq=>(l.tab P K.tab).2.2.2.2 10 (az C) (aT▸q▸.head _);have aj:=j _ _ cu ao;have aq:=j _ _ cF (u _ _ r);apply Sq (ah.globals.symm▸c.G.g a.base) bH bP bR bU bY b_;have cL:=c.G.nolimit a.base;refine⟨s.heap.objs.size,[s.heap.objs.size,k],[s.heap.objs.size],1,_,_,λ_=>Y,λ_ aH=>∃y,aH=.str ⟨O.toArray⟩ y,C,(λX p=>Sl p s.heap.objs.size k cB (xN [Dz ⟨G.toArray⟩ A])),⟨⟨_,aj,C,C⟩,i12 _ aq C ⟨L,C⟩⟩,bO (fk aj) (bO (fk aq) eK),cL,λq=>?_,λmu B=>⟨λX aX i v F d8 p m ak R ez=>?_,λX aX i v F d8 p m h ak R ez=>?_⟩,λw eG mw nB eN x e6 fj dB fB=>?_⟩
 .have f:=c.G.nolimit l.base;have:cStatics<s.heap.objs.size:=let⟨_,fZ,_⟩:=f;fZ.lt
  exact bA (cO.mp q) (fH this)
 .rw [List.forIn_nil];exact bN ⟨C,F.heap,F.toks,C,λb o e=>e⟩
 .have d:v=.str ⟨G.toArray⟩ A:=by
   cases i with
   |zero=>exact(bj m).symm
   |succ i=>exact aV C m
  subst d;exact W' gc a_ cH C C ak R
 .refine lK (SC.joinGen dB.in4_2 (λi t st=>st.1.typeIs) fB (λb f=>?_) (.head _) (λi v d=>ai d λaC h d=>bG d λy e=>cI _ y e) (λt lG R gU=>?_) (az C))
  .show b<eG.objs.size;have x:n.objs.size<w:=x;rw [e6];rcases cD.mp f with q|f
   .exact q▸fG _
   .rcases cD.mp f with q|f
    .exact q▸jW x
    .exact jW (qE (fm.mp f) x)
  .have fy:=aaS gU C;rw [fy];refine⟨Yn aN,λh8 aC=>eR _ h8 ?_ ?_⟩
   .have jd:t.drawn=s.drawn:=R.drawn;have gV:t.os=s.os:=R.os;have jn:AllBare t.gens=AllBare s.gens:=TF eN R.gens;exact⟨t.heap,aC,R1 (by cases t;subst jd gV;rfl) jn⟩
   .have B:∀{b o},n.get? b=D o->b≠s.heap.objs.size->t.heap.get? b=D o:=λ{b o}e jm=>R.heap b o (λq=>(cD.mp q).elim (λq=>fH (fk e) q) λq=>jm (cO.mp q)) (fj b o e);exact l.grow (h':=t.heap) (λb f o e=>B (T b f o (u _ _ e)) (eZ g e)) (bD.ir a.inv λjo aE o e=>B e λq=>cY (aA mC g) (q▸c.B.live l.inv jo aE)) (Le.refl _) λb o e=>.inl e
end
section
open Builtin Builtin.Str
theorem W5(x H:af)(i t:aS)(A y v j:fT):Gives («str.find» ⟨[.str x A,.str H y,.int i v,.int t j],[]⟩) (.int (match occurrences x H (fromIndex x.length i) (min (fromIndex x.length t) x.length) 1 with|k::_=>k|[]=>-1)):=by
 show Gives (match occurrences x H (fromIndex x.length i) (min (fromIndex x.length t) x.length) 1 with|k::_=>retInt k|[]=>do rule "str.find.not-found";retInt (-1)) _;cases occurrences x H _ _ 1 with
 |nil=>exact .rule (.of_eq C)
 |cons k _=>exact .of_eq C
theorem AM{l:I J}(B:hi<=U l):Sd ⟨l.toArray⟩ ⟨[o].toArray⟩ hi i<->i+1<=hi/\l[i]?=D o:=
 ⟨λh=>⟨h.1,Eg.mp ⟨aD h.1 B,h.2⟩⟩,λh=>⟨h.1,(Eg.mpr h.2).2⟩⟩
theorem Wz{l:I J}(v:a0<=p)(t:p+1<=hi)(B:hi<=U l)(h:l[p]?=D o)(R:∀k,a0<=k->k<p->l[k]?≠D o):∃r,occurrences ⟨l.toArray⟩ ⟨[o].toArray⟩ a0 hi 1=p::r:=by
 rw [IM];rcases PySem.StrLaws.occ_first _ _ hi 1 (dz _) (zV a0 (hi+1-a0)) a0 (λx h=>(ID.mp h).1)with⟨_,z⟩|⟨c,a,b,i,n,u,z⟩
 .exact bA ((AM B).mpr ⟨t,h⟩) (z p (ID.mpr ⟨v,by exact d_ 0 (.a (.v 0) (.n 1)) (.a (.v 2) (.v 3)) (.a (.v 0) (.n 1)) (.v 1) (.a (.v 1) (.n 1)) (.a (.v 3) (.v 2)) C [_,_,_,_] t m6⟩))
 .have e:=PySem.StrLaws.range'_split_from i;have:a=p:=by
   rcases Nat.lt_trichotomy a p with q|q|q
   .exact bA ((AM B).mp u).2 (R a e.1 q)
   .exact q
   .exact bA ((AM B).mpr ⟨t,h⟩) (z p (e.2 p v q))
  subst this;generalize(forIn (zV a0 _) ((#[]),a0) (Se _ _ hi 1)).run.fst=E at n⊢;cases g:E.toList with
  |nil=>rw [<-afj,g]at n;exact nomatch n
  |cons s r=>rw [<-afj,g]at n;exact⟨r,by rw [bj n]⟩
theorem WB(x H:af)(o A u:J)(h:A<o):occurrences x H o A u=[]:=by
 rw [IM,agk h];rfl
theorem aaJ(x H:af)(k u:J)(h:0<H.length)(z:u=1):occurrences x H k k u=[]:=by
 subst z;rw [IM,xO];exact aA Q1 ((PySem.StrLaws.occ_none x H k (zV k 1) k (λi h=>fq (cO.mp h).symm)).mpr λi h q=>bA q.1 (Nat.not_le.mpr ((cO.mp h).symm▸RL ‹_›)))
theorem acn:kE .Sub (.int a) (.int b)=D (.int (a-b)):=C
theorem K9(u k:J):fromIndex u (k:aS)=k:=by
 delta fromIndex
 rw [aJ (xE.mpr (qA k)),Rk (qA k),Ip]
noncomputable def yp(l:I J):aS:=match l with|k::_=>k|[]=>-1
variable{c:Cx O}{pat:I J}{acc:I T}{i:J}
theorem aeG{h s₂:I J}(O:t<=U h)(i:yp (occurrences ⟨h.toArray⟩ ⟨s₂.toArray⟩ k t 1)=E)(T:EE c n a y o P (.str h))(q:ER c n a P u [e,x,m] X [.str s₂,.int k,.int t])(f:attributeBase o "find" c.V (eval o c.V)=eval o c.V)(L:[e,x,m].all dP=Y)(b:(A.endLine==u.line)=Y):
  EE c n a y (.Call (.Attribute o "find" A) [e,x,m] [] u) X (.int E):=
 xj PySem.F.slot_str_find PySem.F.type_str_find T q f L (az C) b λak v z s l=>by
  refine bG (jg s) λaC j=>?_;subst j;obtain⟨v,z,rfl,g,w⟩:=l.jx (P:=λd=>∃v G,d=v::G/\Den _ _ v _/\bu _ _ G _) λv G p H=>⟨v,G,C,p,H⟩;refine e5 w.Hr λaF aP B r Q=>?_;subst B;refine bG (jg g) λao j=>bG (qb r) λaq S=>bG (qb Q) λaE ah=>?_;subst j S ah;refine PO.give λaH aK aL aN aj=>Sm F.slot_str_find (tK _ _ _) F.entry_str_find (F.args_str_find_4 _ _ _ _) (W5 _ _ _ _ _ _ _ _) ?_;rw [K9,K9,vt (by exact O)];have R:(match occurrences ⟨h.toArray⟩ ⟨s₂.toArray⟩ k t 1 with|k::_=>(k)|[]=>-1)=E:=by rw [<-i];cases occurrences _ _ k t 1<;>rfl
  rw [R];exact aj _ _ (.int _ _)
end
section
open Builtin Builtin.Str
theorem A2{d p s:I J}(h:d=p++(s++q))(u:a=U p)(f:b=U p+U s):cut (D (a)) (D (b:aS)) d=s:=by
 subst u f;rw [J',h,<-gX,cC.symm,zW,Ro]
variable{c:Cx O}{pat:I J}{acc:I T}
abbrev yu:I cz:=mW (D zd)
theorem adw(K:jH c.B c.mg bf cZ mX)(aF:c.V.code=.ref bf)(F:Fm c.V x9 13 n9)(a:U pat<=1000){p b nj qK:I J}{i:J}(A:i=U p)(h:pat=p++((b++[45])++93::nj))(bR:45∉b)(bU:92∉b)(bY:(b++[45]).head?≠D 33)(bx:xT ⟨(b++[45]).toArray⟩ ⟨#[45]⟩ ⟨#[92,45]⟩=⟨qK.toArray⟩)(bP:U qK<=1000):
  ∃z bH cA cu,∀{rest y g},EX c x9 13 (L9 pat acc z (.t (.str [91])) (.t (.int (i+U b+1:J))) (.t (.str qK)) bH cA cu) rest y g->EX c x9 13 (L9 pat acc i (.t (.str [91])) (.t (.int (i+U b+1:J))) a9 ie fJ fK) (g8 (mW (fV 4 R9)) 0::zd::rest) y g:=by
 have s:U (b++[45])=U b+1:=cC;have j:i+U b+1<U pat:=by rw [h,cC,cC,s,<-A];show _<_+(_+(_+1));exact eF (.a (.a (.a (.v 0) (.v 1)) (.n 1)) (.n 1)) (.a (.v 0) (.a (.a (.v 1) (.n 1)) (.a (.v 2) (.n 1)))) C [_,_,_]
 have l:U (b++[45])<=1000:=by rw [s];exact d_ 0 (.a (.v 2) (.n 1)) (.n 1000) (.v 0) (.n 1000) (.a (.a (.a (.v 1) (.v 2)) (.n 1)) (.n 1)) (.v 0) C [_,_,_] a j
 have b_:92∉b++[45]:=λm=>(fE.mp m).elim bU λm=>nomatch cO.mp m;have cg:∃x,pat[i]?=D x/\x≠33:=by
  rw [h,A,oQ];cases f:b++[45]with
  |nil=>exact bA (aA U f) (by rw [s];exact nofun)
  |cons x r=>exact⟨x,C,λq=>bY (by rw [f,q];rfl)⟩
 obtain⟨x,H,G⟩:=cg;have T:pat[i+U b]?=D 45:=by rw [h,A,gX,<-gX,<-cC,oQ];rfl
 have Q:∀z fJ fK,ES c x9 13 (L9 pat acc z (.t (.str [91])) (.t (.int (i+U b+1:J))) (.t (.str (b++[45]))) (.own [.str (b++[45])]) fJ fK) Lm (L9 pat acc z (.t (.str [91])) (.t (.int (i+U b+1:J))) (.t (.str qK)) (.own [.str (b++[45])]) fJ fK) .next:=λz fJ fK=>by
  constructor;intro cQ ah aj ak ao aq aC aE;obtain⟨w,m,cV,aK⟩:=aC;show aQ _ _ (exec (.Assign [.Name "stuff" _] E5 _) c.V) ak ao aj;exact kr (Xa l bP b_ bx K F aF w aK C λcL t q aN=>gh (av:=.t (.str qK)) w aq aN (i:=9) (by rfl) (by decide) (.inl (F.kn 9 C nofun)) ⟨C,_,C,.str _ _⟩ .nil λaP aT aX a_=>aE aP ah .next (q.trans aX) (Le.refl _) ⟨w,aT,_,a_⟩ dj) C
 have L:∀{y:I (AV O)}{bh bl P bz bC:h_},y[0]?=D (.t (.str pat))->y[5]?=D (.t (.int (i:J)))->y[8]?=D (.t (.int (i+b.length+1:J)))->EE c x9 13 y (.Subscript (.Name "pat" bh) (.Slice (D (.Name "i" bl)) (D (.Name "j" P)) aa bz) bC) y (.str (b++[45])):=λbE aH aL=>
  kN (zv F 0 C bE) (iJ (zv F 5 C aH)) (iJ (zv F 8 C aL)) (qu (aD a (az C)) (A2 h A (by rw [s,A];exact fS (eF (.a (.a (.v 0) (.v 1)) (.n 1)) (.a (.v 0) (.a (.v 1) (.n 1))) C [_,_]) (eF (.a (.v 0) (.a (.v 1) (.n 1))) (.a (.a (.v 0) (.v 1)) (.n 1)) C [_,_]))))
 have n:∀{y rest v R},EX c x9 13 (L9 pat acc i (.t (.str [91])) (.t (.int (i+b.length+1:J))) (.t (.str (b++[45]))) (.own []) (.t (.int (i+1:J))) fK) (yu.drop 2) y .next->EX c x9 13 y rest v R->EX c x9 13 (L9 pat acc i (.t (.str [91])) (.t (.int (i+b.length+1:J))) a9 ie fJ fK) (g8 (mW (fV 4 R9)) 0::zd::rest) v R:=λk r=>
  zx (eM F 9 C (dN _ _) (L C C C) C) (zx (dQ (b:=ay) (zC (zs [45] (cS ['-'])) (zv F 9 C C) (aA D (by rw [show aO (45∈b++[45])=Y from cM (i0 _ (.head _))];rfl)) C)
   (zx (ve F 10 C (by decide) (rz cU C) C) (zx (eM F 11 C (by decide) (nA (b:=ay) (zC (dU (zv F 0 C C) (zv F 5 C C) (jk (Fg a H) H) C) (zs [33] (cS ['!'])) (wM (ee G)) C) (fh (zv F 5 C C) (zi 1) (rh (d:=(i+1:J)) C))) C) k))) r)
 have u:∀{z:J}{fJ fK:AV O},EX c x9 13 (L9 pat acc z (.t (.str [91])) (.t (.int (i+b.length+1:J))) (.t (.str (b++[45]))) (.own [.str (b++[45])]) fJ fK) (yu.drop 5) (L9 pat acc z (.t (.str [91])) (.t (.int (i+b.length+1:J))) (.t (.str qK)) (.own [.str (b++[45])]) fJ fK) .next:=λ{z fJ fK}=>
  zx (kM (s_ F 14 C (zr (fh (Qv F 10 13 C C C C) (zi 1) acn) (zr (zi 0) (zr (vd (zi 1)) cU C) C) C) C C C) mq C C) (fb (Q _ _ _) C)
 have d:∀{z k:J}{E:aS}{a9 ie fK:AV O},yp (occurrences ⟨pat.toArray⟩ ⟨[45].toArray⟩ k (i+b.length+1) 1)=E->EE c x9 13 (L9 pat acc z (.t (.str [91])) (.t (.int (i+b.length+1:J))) a9 ie (.t (.int k)) fK) (vW (D (g8 (lz (D (g8 yu 2))) 0))) (L9 pat acc z (.t (.str [91])) (.t (.int (i+b.length+1:J))) a9 ie (.t (.int k)) fK) (.int E):=λe=>
  aeG (s₂:=[45]) (e7 j) e (zv F 0 C C) (zr (zs [45] (cS ['-'])) (zr (zv F 11 C C) (zr (zv F 8 C C) cU C) C) C) C C C
 have X:∀{z k:J}{a9 ie fK:AV O},yp (occurrences ⟨pat.toArray⟩ ⟨[45].toArray⟩ k (i+b.length+1) 1)=-1->EW c x9 13 (lA (D (g8 yu 2))) (lz (D (g8 yu 2))) [] 0 (L9 pat acc z (.t (.str [91])) (.t (.int (i+b.length+1:J))) a9 ie (.t (.int k)) fK) (L9 pat acc z (.t (.str [91])) (.t (.int (i+b.length+1:J))) a9 ie (.t (.int (-1))) fK) .next:=λe=>
  C7 (lD (zb Y) C λ_=>C) (zx (eM F 11 C (by decide) (d e) C) (vg (dQ (b:=Y) (zC (zv F 11 C C) (zi 0) C C) (vg HD))))
 cases b with
 |nil=>
  exact⟨i,_,_,_,λk=>n (zx (lE (X (aA yp (aaJ ⟨pat.toArray⟩ ⟨[45].toArray⟩ (i+1) 1 z5 C)))) (zx (eM F 12 C (by decide) (L C C C) C) (zx (dQ (b:=Y) (lD (zv F 12 C C) C λ_=>C) (fb (u9 F 10 C C (zv F 12 C C) C C C C) C)) u))) k⟩
 |cons o b=>
  have cB:yp (occurrences ⟨pat.toArray⟩ ⟨[45].toArray⟩ (i+1) (i+(o::b).length+1) 1)=((i+(o::b).length:J):aS):=by
   obtain⟨r,e⟩:=Wz (a0:=i+1) (p:=i+(o::b).length) (hi:=i+(o::b).length+1) (by rw [gB];exact eF (.a (.v 0) (.n 1)) (.a (.v 0) (.a (.v 1) (.n 1))) C [_,_]) (dz _) (e7 j) T λk B cF q=>bR (by
    have e:pat[k]?=(o::b)[k-i]?:=by
     rw [h,gX,kR (by exact d_ 0 (.v 1) (.v 2) (.v 1) (.v 0) (.a (.v 0) (.n 1)) (.v 2) C [_,_,_] ((o9 A)) B),nC (by exact jP 0 (.a (.v 4) (.n 1)) (.a (.v 3) (.n 1)) (.v 0) (.v 1) (.a (.v 2) (.n 1)) (.a (.v 0) (.a (.v 3) (.n 1))) (.a (.v 4) (.v 1)) (.v 2) C [_,_,_,_,_] ((iU A)) cF ((lq (d_ 0 (.v 1) (.v 2) (.v 1) (.v 0) (.a (.v 0) (.n 1)) (.v 2) C [_,_,_] ((o9 A)) B)))),A]
    rw [e]at q
    exact cN q)
   rw [e];rfl
  have cH:cut (D (i:aS)) (D ((i+(o::b).length:J):aS)) pat=o::b:=A2 (p:=p) (q:=[45]++93::nj) (by rw [h,gX]) A (by rw [A]);have S:cut (D ((i+(o::b).length+1:J):aS)) (D ((i+(o::b).length+1:J):aS)) pat=[]:=A2 (p:=p++((o::b)++[45])) (s:=[]) (q:=93::nj) (by rw [h];simp) (by rw [cC,s,A];rfl) (by rw [cC,s,A];rfl)
  exact⟨i+(o::b).length+1,_,_,_,λk=>n (zx (lE (om (lD (zb Y) C λ_=>C) (zx (eM F 11 C (by decide) (d cB) C) (zx (dQ (b:=ay) (zC (zv F 11 C C) (zi 0) (l8 (ee (xE.mpr (qA _)))) C) fY) (zx (u9 F 10 C C (kN (zv F 0 C C) (iJ (zv F 5 C C)) (iJ (zv F 11 C C)) (qu (aD a (az C)) cH)) C C C C)
   (zx (eM F 5 C (by decide) (fh (zv F 11 C C) (zi 1) (rh (d:=(i+(o::b).length+1:J)) C)) C) (fb (eM F 11 C (by decide) (fh (zv F 11 C C) (zi 3) (rh (d:=(i+(o::b).length+3:J)) C)) C) C)))))
   (X (by rw [WB _ _ _ _ _ (by exact eF (.a (.a (.a (.v 0) (.a (.v 1) (.n 1))) (.n 1)) (.n 1)) (.a (.a (.v 0) (.a (.v 1) (.n 1))) (.n 3)) C [_,_])];rfl))))
   (zx (eM F 12 C (by decide) (kN (zv F 0 C C) (iJ (zv F 5 C C)) (iJ (zv F 8 C C)) (qu (aD a (az C)) S)) C) (zx (dQ (b:=ay) (lD (zv F 12 C C) C λ_=>C) (fb (Qk (l₁:=[.str (o::b)]) (l₂:=[.str (o::b)]) (ii:=-1) (j:=0) F 10 C C (vd (zi 1)) C C (zs [45] (cS ['-'])) C (OR (by show(o::b).length+1<=_;exact d_ 0 (.a (.a (.v 1) (.n 1)) (.n 1)) (.n 1000000) (.a (.a (.v 1) (.n 1)) (.n 1)) (.v 0) (.v 0) (.n 1000) C [_,_] ((o9 s)) l)) C C (TA (op:=.Add) C)) C)) u))) k⟩
end
structure Px where
 k:J
 b:I J
 s1:I J
 ps:I J
 r:Row
def wL(d S:I J):I J:=if S.isEmpty then d else pF d 0 S
noncomputable def Px.src(p:Px):I J:=if p.r.b then 91::(p.b++[93])else [p.k]
noncomputable def Row.nt(r:Row):I J:=if r.b then [91]++r.i++[93]else r.i
def TU(b d S i:I J):bw:=
 !b.isEmpty&&b.headD 33 !=33&&!aO (93∈b.tail)&&aO (b.length<=20)&&aO (d.length<=100)&&!d.isEmpty&&
 (if 45∈b then b==b.dropLast++[45]&&!aO (45∈b.dropLast)&&!aO (92∈b.dropLast)&&xT (iw b) (iw [45]) (iw [92,45])==iw d else xT (iw b) (iw [92]) (iw [92,92])==iw d)&&
 (if S.isEmpty then uH vY.toArray d.toArray 1 else v_ vY d 0 S&&aO (S.length<=20))&&
 (!(wL d S).isEmpty&&(wL d S).headD 33 !=33&&aO ((wL d S).length<=100)&&i==uy (wL d S))
def Px.ok(p:Px):bw:=p.r.ok&&if p.r.b then TU p.b p.s1 p.ps p.r.i else !aO (p.k∈[42,63,91])&&aO (p.k<128)&&p.r.i==lV p.k
structure Je(c:Cx O):Prop where
 no:∀l,uH vY.toArray l.toArray 1=Y->l≠[]->l.length<=1000->∀lv:I (AV O),lv[9]?=D (.t (.str l))->EE c x9 13 lv tV lv (.str l)
 ys:∀l ps,v_ vY l 0 ps=Y->ps≠[]->l.length<=1000->ps.length<=20->∀lv:I (AV O),lv[9]?=D (.t (.str l))->EE c x9 13 lv tV lv (.str (pF l 0 ps))
abbrev Av(d:I J)(o:I T)(i:J)(a:J->AV q):I (AV q):=L9 d o i (a 0) (a 1) (a 2) (a 3) (a 4) (a 5)
theorem Lw(h:(!b.isEmpty&&b.headD 33 !=33)=Y):∃x r,b=x::r/\x≠33:=by
 cases b with
 |nil=>exact nomatch h
 |cons x r=>exact⟨x,r,C,bne_iff_ne.mp h⟩
section
variable{c:Cx O}{pat:I J}{acc:I T}
theorem zw(h:EX c x9 13 y B9 (L9 pat acc i e q g n H L) .next):∃b,EX c x9 13 y B9 (Av pat acc i b) .next:=⟨λi=>[e,q,g,n,H,L].getD i .un,h⟩
theorem ady(K:jH c.B c.mg aH bH mX)(aj:c.V.code=.ref aH)(F:Fm c.V x9 13 n9)(n:Je c)(ak:∀a,a<128->CN c "escape" [.str [a]] (.str (lV a)))(t:U pat<=1000)(X:U acc<=100000){p:Px}(A:p.ok=Y){h rest:I J}(e:pat=h++(p.src++rest)):
  ∃aP,EX c x9 13 (L9 pat acc (U h) a7 a8 a9 ie fJ fK) B9 (Av pat (acc++[.str p.r.nt]) (U h+U p.src) aP) .next:=by
 have A:=(cR.mp A).2;cases f:p.r.b with
 |false=>
  have Q:p.src=[p.k]:=aJ (by rw [f];exact nofun);have m:p.r.nt=p.r.i:=aJ (by rw [f];exact nofun);rw [f,aJ nofun]at A;simp only [oq,tq,decide_eq_false_iff_not,rS]at A;rw [Q]at e⊢;rw [m,iP A.2];exact zw (adv F t (by rw [e,oQ];rfl) A.1.1 (ak p.k A.1.2) X)
 |true=>
  have Q:p.src=91::(p.b++[93]):=aM f;have m:p.r.nt=[91]++p.r.i++[93]:=aM f;rw [f,aM C]at A;have A:(_&&_&&_&&_&&_&&_&&_&&_&&_)=Y:=A;simp only [oq]at A;refine cps λbl aE=>?_;obtain⟨⟨⟨⟨⟨⟨⟨⟨aL,ah⟩,P⟩,R⟩,d⟩,r⟩,x⟩,v⟩,⟨⟨aq,aC⟩,u⟩,aF⟩:=A;obtain⟨l,z,T,G⟩:=Lw (cR.mpr ⟨aL,ah⟩);obtain⟨bf,H,s,k⟩:=Lw (cR.mpr ⟨aq,aC⟩);have d:=dh d;have u:=dh u;have B:∀y:I (AV O),y[9]?=D (.t (.str p.s1))->EE c x9 13 y tV y (.str (bf::H)):=λy L=>by
   rw [<-s]
   delta wL
   by_cases q:p.ps.isEmpty=Y
   .rw [aM q]at v⊢;exact n.no _ v (λb=>by rw [b]at r;exact nomatch r) (aD d (az C)) y L
   .rw [aJ q]at v⊢;have v:=cR.mp v;exact n.ys _ _ v.1 (λb=>q (by rw [b];rfl)) (aD d (az C)) (dh v.2) y L
  have o:U H<=100:=by rw [s]at u;exact aD (rM _) u
  have g:93∉z:=λaK=>by rw [T,cM (show 93∈(l::z).tail from aK)]at P;exact nomatch P
  apply aE;rw [Q]at e;have w:pat=h++91::(l::z++93::rest):=by rw [e,T];simp
  have aN:U h+U p.src=U h+2+U z+1:=by rw [Q,T];simp;exact fS (eF (.a (.v 0) (.a (.a (.a (.v 1) (.n 1)) (.n 1)) (.n 1))) (.a (.a (.a (.v 0) (.n 2)) (.v 1)) (.n 1)) C [_,_]) (eF (.a (.a (.a (.v 0) (.n 2)) (.v 1)) (.n 1)) (.a (.v 0) (.a (.a (.a (.v 1) (.n 1)) (.n 1)) (.n 1))) C [_,_])
  rw [aN,m,iP aF,s]
  by_cases q:45∈p.b
  .rw [aM q]at x;simp only [oq,tq,decide_eq_false_iff_not]at x;obtain⟨⟨⟨i,ao⟩,aX⟩,a_⟩:=x;have i:=iP i;have j:=aA U i;rw [cC]at j;have E:U p.b=U z+1:=by rw [T];rfl
   have aT:U h+2+U z=U h+1+U p.b.dropLast+1:=by have:U p.b=U p.b.dropLast+1:=j;exact fS (d_ 0 (.a (.a (.v 3) (.n 2)) (.v 2)) (.a (.a (.a (.v 3) (.n 1)) (.v 1)) (.n 1)) (.v 0) (.a (.v 1) (.a (.n 0) (.n 1))) (.a (.v 2) (.n 1)) (.v 0) C [_,_,_,_] ((iU j)) ((o9 E))) (d_ 0 (.a (.a (.a (.v 3) (.n 1)) (.v 1)) (.n 1)) (.a (.a (.v 3) (.n 2)) (.v 2)) (.a (.v 1) (.a (.n 0) (.n 1))) (.v 0) (.v 0) (.a (.v 2) (.n 1)) C [_,_,_,_] ((o9 j)) ((iU E)))
   refine Kw (adw (acc:=acc) (a9:=a9) (ie:=ie) (fJ:=fJ) (fK:=fK) K aj F t (p:=h++[91]) (b:=p.b.dropLast) (nj:=rest) (qK:=p.s1) (i:=U h+1) (cC (bs:=[91])).symm (by rw [<-i,e];simp) ao aX (by rw [<-i,T];exactλb=>G (bj b)) (by rw [<-i];exact iP a_) (aD d (az C))) λbx bz bC bE bh=>?_;exact zw (P0 F t w G g (by rw [aT];exact bh (P1 F X B k o)))
  .rw [aJ q]at x;have S:cut (D ((U h+1:J):aS)) (D ((U h+2+U z:J):aS)) pat=p.b:=A2 (p:=h++[91]) (q:=93::rest) (by rw [e];simp) (cC (bs:=[91])).symm (by rw [T,cC];simp;exact fS (eF (.a (.a (.v 0) (.n 2)) (.v 1)) (.a (.a (.v 0) (.n 1)) (.a (.v 1) (.n 1))) C [_,_]) (eF (.a (.a (.v 0) (.n 1)) (.a (.v 1) (.n 1))) (.a (.a (.v 0) (.n 2)) (.v 1)) C [_,_]))
   exact zw (P0 F t w G g (zx (eM F 9 C (dN _ _) (kN (zv F 0 C C) (iJ (zv F 5 C C)) (iJ (zv F 8 C C)) (qu (aD t (az C)) S)) C)
    (zx (abM F C q (aD (dh R) (az C)) (iP x)) (P1 F X B k o))))
end
def l_(S:I Px):I J:=(S.map λp=>42::p.src).flatten++[42]
def sP(S:I Px):I T:=(S.map λp=>[T.atom,.str p.r.nt]).flatten++[.atom]
section
variable{c:Cx O}{pat:I J}
theorem acI(p:Px):0<U p.src:=by
 delta Px.src;split<;>exact gE _
theorem adx(K:jH c.B c.mg y ah mX)(j:c.V.code=.ref y)(F:Fm c.V x9 13 n9)(G:Je c)(X:∀a,a<128->CN c "escape" [.str [a]] (.str (lV a)))(t:U pat<=1000):∀(S:I Px)(h:I J)(o:I T)(a:J->AV O),pat=h++l_ S->U o+2*U S<=1000->(∀p∈S,p.ok=Y)->(o=[]\/∃q Q,o=q++[.str Q])->
  ∃n b,EW c x9 13 (lA (fV 3 (dF (bB 12)))) B9 [] n (Av pat o (U h) a) (Av pat (o++sP S) (U pat) b) .next:=λH=>H.rec
 (λh o a i z k u=>by
  have e:pat=h++[42]:=i;have m:U h<U pat:=by rw [e,cC];exact fG _
  have g:U pat=U h+1:=by simp only [e,cC];rfl
  have st:=P7 (a7:=a 0) (a8:=a 1) (a9:=a 2) (ie:=a 3) (fJ:=a 4) (fK:=a 5) F t (by rw [e,oQ];rfl) u (aD (aD (fO _ _) z) (az C));rw [<-g]at st
  exact bG (zw st) λb r=>⟨1,b,om (zC (zv F 5 C C) (zv F 6 C C) (l8 (cM (jV.mpr m))) C) r (rE (zC (zv F 5 C C) (zv F 6 C C) (l8 (ee (Ik _))) C) fY)⟩)
 (λp S d h o a i z k u=>by
  rw [gB]at z;have s:pat=h++(42::(p.src++l_ S)):=by rw [i];show _++((42::p.src++_)++_)=_;rw [gX];rfl
  have v:pat=(h++[42])++(p.src++l_ S):=by rw [s,gX];rfl
  have R:pat=(h++[42]++p.src)++l_ S:=by rw [v,gX (h++[42])]
  have x:U (h++[42])=U h+1:=cC;have A:=acI p;have f:U (h++[42])<U pat:=by rw [v];simp only [cC];exact cT 0 (.a (.a (.v 1) (.a (.n 0) (.n 1))) (.n 1)) (.a (.a (.v 1) (.a (.n 0) (.n 1))) (.a (.v 0) (.v 2))) (.a (.n 0) (.n 1)) (.v 0) C [_,_,_] A
  have B:U h<U pat:=by rw [x]at f;exact cT 0 (.a (.v 0) (.n 1)) (.v 1) (.a (.a (.v 0) (.n 1)) (.n 1)) (.v 1) C [_,_] f
  have st:=P7 (a7:=a 0) (a8:=a 1) (a9:=a 2) (ie:=a 3) (fJ:=a 4) (fK:=a 5) F t (by rw [s,oQ];rfl:pat[U h]?=D 42) u (by exact cT 0 (.v 0) (.n 100000) (.a (.v 0) (.m 2 (.a (.v 1) (.n 1)))) (.n 1000) C [_,_] z);rw [<-x]at st;refine bG (zw st) λb r=>bG (ady (acc:=o++[.atom]) (a7:=b 0) (a8:=b 1) (a9:=b 2) (ie:=b 3) (fJ:=b 4) (fK:=b 5) K j F G X t (by rw [cC];show _+1<=_;exact cT 0 (.a (.v 0) (.n 1)) (.n 100000) (.a (.v 0) (.m 2 (.a (.v 1) (.n 1)))) (.n 1000) C [_,_] z) (k p (.head _)) v) λE l=>?_;rw [<-cC]at l;refine jL (d _ (o++[.atom]++[.str p.r.nt]) E R (by rw [cC,cC];show _+1+1+_<=_;exact cT 0 (.a (.a (.a (.v 0) (.n 1)) (.n 1)) (.m 2 (.v 1))) (.n 1000) (.a (.v 0) (.m 2 (.a (.v 1) (.n 1)))) (.n 1000) C [_,_] z) (λq L=>k q (.tail _ L)) (.inr ⟨o++[.atom],p.r.nt,C⟩)) λn P w=>⟨n+2,P,?_⟩;rw [show o++[.atom]++[.str p.r.nt]++sP S=o++sP (p::S)by simp [sP]]at w
  exact om (zC (zv F 5 C C) (zv F 6 C C) (l8 (cM (jV.mpr B))) C) r (om (zC (zv F 5 C C) (zv F 6 C C) (l8 (cM (jV.mpr f))) C) l w))
end
section
variable{y:Ly O}
theorem ad6(k:y.DC "_translate" 12 (.ref b))(K:jH y.B y.mg b P mX)(t:vO y)(H:∀a,a<128->y.F n "escape" [.str [a]] (.str (lV a)))(S:I Px)(B:U S<=100)(X:U (l_ S)<=1000)(s:∀p∈S,p.ok=Y):
  y.F (n+1) "_translate" [.str (l_ S),.atom,.str [46]] (.list (sP S)):=by
 refine y.WH 12 x9 n9 k C C C (eA C) (λf code o=>TM λE E E=>C) λL x G i F q e=>⟨[.t (.str (l_ S)),.t .atom,.t (.str [46]),.t (.list (sP S)),.un,.t (.int (U (l_ S))),.t (.int (U (l_ S))),.un,.un,.un,.un,.un,.un],QA F 3 C (eA C) (λm=>?_) C ?_⟩
 .exact jL (adx (c:=(y.c L x G n i).re m) K q F (⟨λl w v R j h=>ac3 t K i F q e w v (aD R (az C)) h,λl S w v R g j h=>ac5 t K i F q e w v R g h⟩) H X S [] [] (λE=>.un) C (by show 0+_<=_;exact d_ 0 (.a (.n 0) (.m 2 (.v 0))) (.n 1000) (.v 0) (.n 100) (.v 0) (.n 100) C [_] B B) s (.inl C)) λu d r=>ru (rB 7 (ru (rB 8 (ru (rB 9 (ru (rB 10 (ru (rB 11 (ru (rB 12 (zx (QD F 3 4 C C C (eA C)) (zx (z2 F 5 6 5 6 C (eA C) C (eA C) C C (zr (zi 0) (zr (rA F 13 C (zv F 0 C C) (eU (aD X (az C))) C) cU C) C) C (C) C C C C) (zx (lE r) (zx (xd (zC (zv F 5 C C) (zv F 6 C C) (aA D (beq_self_eq_true _)) C)) (QU 3 C (qy 4 (hU (jc (zG F 3 C C)))))))))) C)) C)) C)) C)) C)) C
 .exact ou _
noncomputable def n4:I (af×fc):=[("pat",.local),("STAR",.local),("parts",.local),("object",.globalImplicit),("_translate",.globalImplicit),("_join_translated_parts",.globalImplicit)]
noncomputable def x4:I af:=["pat","STAR","parts"]
theorem OO(r:Row):r.x=r.nt++[41]:=by
 delta Row.x Row.nt;split<;>simp
theorem abm(S:I Px):qj (S.map (·.r.nt))=sP S:=by
 delta qj sP;rw [dH];rfl
theorem Yo(S:I Px):sC++(qY (S.map (·.r.nt))).flatten++CP=iI (S.map (·.r)):=by
 have e:((S.map (·.r.nt)).map λA=>[40,63,62,46,42,63]++A++[41]).flatten=kH (S.map (·.r)):=by
  delta kH
  rw [dH,dH];exact aA List.flatten (kj λp _=>ae (gX ri _ _) (aA _ (OO p.r).symm))
 delta qY iI
 rw [Rv,e,gX,gX];rfl
theorem ad7(h:y.aZ "translate" 7)(b:y.DC "_translate" 12 (.ref x))(s:y.aZ "_join_translated_parts" 13)(K:jH y.B y.mg x P mX)(i:vO y)(H:∀a,a<128->y.F u "escape" [.str [a]] (.str (lV a)))(S:I Px)(B:U S<=100)(X:U (l_ S)<=1000)(l:U (iI (S.map (·.r)))<=100000)(k:∀p∈S,p.ok=Y):
  y.F (u+2) "translate" [.str (l_ S)] (.str (iI (S.map (·.r)))):=by
 refine y.fn 7 x4 n4 h C C C (eA C) (λo code r=>bind1 λE=>C) λL f G j F=>?_;have e:=Yo S
 have O:=adX (n:=u) s (S.map (·.r.nt)) (λt m=>ai (dZ.mp m) λp n q=>by
  have:=Row.len (cR.mp (k p n)).1;rw [OO,cC]at this
  exact q▸aD (fO _ _) (aD this (az C))) (by rw [dg];exact B) (e.symm▸l)
 rw [abm,e]at O
 exact⟨[.t _,.un,.un],aeT F 1 3 C (fO _ _) C (λm=>(ru (rB 1 (ru (rB 2 (zx (eM F 2 C (fG _) (nv F 4 C (zr (zv F 0 C C) (zr (zv F 1 C C) (zr (zs [46] (cS ['.'])) cU C) C) C) (ad6 b K i H S B X k) C) C)
  (hU (jc (nv F 5 C (zr (zv F 2 C C) (zr (zv F 1 C C) cU C) C) O C))))) C)) C)) C C C⟩
end
noncomputable def gq:I (I J):=[[97,98,45,93],[94,91,97,93],[92,38,124,126],[42,63,97,46],[45,94,93,40],[10,91,98,42]]
noncomputable def Ei(l:I J):I J:=(if 93∈l then [93]else [])++(l.filter λa=>aO (a∉[93,45]))++if 45∈l then [45]else []
noncomputable def s1F(b:I J):I J:=if 45∈b then b.dropLast++[92,45]else b.flatMap λa=>if a=92 then [92,92]else [a]
noncomputable def LB(s:I J):I J:=(dm s.length).filter λi=>aO (s.getD i 0∈[38,124,126])
def JP(b:I J):Px:=let d:=s1F b;let i:=uy (wL d (LB d));⟨0,b,d,LB d,⟨Y,i,(jS ay i).getD []⟩⟩
def ng(k:J):Px:=if k∈[42,63,91]then JP [k]else⟨k,[],[],[],⟨ay,lV k,[k]⟩⟩
def gf(l:I J):Px:=JP (Ei l)
noncomputable def CM:I J->I (I J)
 |[]=>[[]]
 |a::r=>(CM r).map (a::·)++CM r
theorem Wx(q:J->bw):∀l,l.filter q∈CM l:=λl=>l.rec (.head _) λa r n=>by
 show(match q a with|Y=>a::r.filter q|ay=>r.filter q)∈_;cases q a with
 |true=>exact gj _ (fM n)
 |false=>exact i0 _ n
def Ui(k:J):bw:=(ng k).ok&&uQ [(ng k).r]&&(ng k).r.t==[k]
def Uh(o l:I J):bw:=l.isEmpty||(gf l).ok&&uQ [(gf l).r,(gf l).r]&&o.all λa=>aO (a∈(gf l).r.t)==aO (a∈l)
theorem Uk:(gq.all λo=>o.all Ui)=Y:=by decide+kernel
theorem Uj:(gq.all λo=>(CM o).all (Uh o))=Y:=by decide+kernel
section
variable{t w:I J}
theorem acv(t:I J):∀r,ly t r=U r/\r.countP (λx=>aO (x∈t))=0\/ly t r<U r/\r.countP (λx=>aO (x∈t))=(r.drop (ly t r+1)).countP (λx=>aO (x∈t))+1:=λT=>T.rec
 (.inl ⟨C,C⟩)
 (λx r n=>by
  by_cases m:x∈t
  .have e:ly t (x::r)=0:=aM m;exact .inr ⟨e▸gE _,by rw [e,List.countP_cons_of_pos (by exact cM m)];rfl⟩
  .have e:ly t (x::r)=ly t r+1:=aJ m;rw [e,(List.countP_cons_of_neg (by exactλq=>m (dh q)))]
   exact n.imp (λh=>⟨aA (·+1) h.1,h.2⟩) λh=>⟨RW h.1,h.2⟩)
theorem Lo:∀(n a:J),a<=U w->qh (nE n t) w a=aO (n<=(w.drop a).countP λx=>aO (x∈t)):=λn=>n.rec
 (λa _=>(cM (gF _)).symm)
 (λn e a u=>by
  show(if U w<a+ly t _+1 then ay else qh _ w _)=_;have P:U (w.drop a)=U w-a:=xH;rcases acv t _ with h|h
  .rw [h.1,P,aM (by exact cT 0 (.a (.v 1) (.n 1)) (.a (.a (.v 0) (.v 2)) (.n 1)) (.v 1) (.a (.v 2) (.v 0)) C [_,_,_] m6),h.2];exact(ee (Nat.not_succ_le_zero n)).symm
  .have X:=h.1;apply ae (aJ (by exactλr=>q5 (m5 0 (.n 1) (.n 0) (.v 2) (.v 3) (.a (.v 4) (.n 1)) (.v 2) (.a (.v 1) (.n 1)) (.a (.a (.v 0) (.v 4)) (.n 1)) (.a (.v 3) (.v 0)) (.v 1) C [_,_,_,_,_] ((iU P)) h.1 r ((lq u)))));rw [e _ (by exact jP 0 (.a (.a (.v 0) (.v 4)) (.n 1)) (.v 1) (.v 2) (.v 3) (.a (.v 4) (.n 1)) (.v 2) (.a (.v 3) (.v 0)) (.v 1) C [_,_,_,_,_] ((iU P)) h.1 ((lq u))),h.2,List.drop_drop]
   exact decide_eq_decide.mpr ⟨λq=>ju (by simp only [vp]at q;exact q),λq=>by exact agb q⟩)
theorem Xc(k:J):qh [[k]] w 0=aO (k∈w):=by
 refine ae (Lo 1 0 (gF _)) (decide_eq_decide.mpr ?_);refine(Nat.succ_le_iff.trans List.countP_pos_iff).trans ⟨λh=>ai h λa m e=>cO.mp (dh e)▸m,λh=>(aR (k) (h) (cM gC))⟩
theorem Xd{l:I J}(h:∀x∈w,x∈t<->x∈l):qh [t,t] w 0=aO (2<=w.countP λx=>aO (x∈l)):=by
 apply ae (Lo 2 0 (gF _));rw [List.drop_zero,afD (q:=λx=>aO (x∈l)) λx m=>by rw [rS,rS];exact h x m]
theorem O2(h:o∈gq){k:J}(m:k∈o):(ng k).ok=Y/\uQ [(ng k).r]=Y/\(ng k).r.t=[k]:=by
 have:=gK.mp (gK.mp Uk o h) k m;have:=cR.mp this;have w:=cR.mp this.1;exact⟨w.1,w.2,iP this.2⟩
theorem JR(h:o∈gq)(q:J->bw)(z:o.filter q≠[]):(gf (o.filter q)).ok=Y/\uQ [(gf (o.filter q)).r,(gf (o.filter q)).r]=Y/\∀a∈o,a∈(gf (o.filter q)).r.t<->a∈o.filter q:=by
 have:=gK.mp (gK.mp Uj o h) _ (Wx q o);rcases Dc.mp this with e|e
 .exact bA (zS.mp e) z
 .have e:=cR.mp e;have w:=cR.mp e.1;exact⟨w.1,w.2,λa m=>decide_eq_decide.mp (iP (gK.mp e.2 a m))⟩
theorem Pd(k:J):l_ [ng k]=42::(pq k++[42]):=by
 have e:(ng k).src=pq k:=by
  delta ng pq
  by_cases h:k∈[42,63,91]
  .rw [aM h,aM h];rfl
  .rw [aJ h,aJ h];rfl
 show 42::(ng k).src++[]++[42]=_;rw [e,jq];rfl
theorem Pe(l:I J):l_ [gf l,gf l]=42::j0 l++42::j0 l++[42]:=by
 have e:(gf l).src=j0 l:=by
  show 91::Ei l++[93]=_
  delta j0 Ei
  rfl
 show 42::(gf l).src++(42::(gf l).src++[])++[42]=_;rw [e];simp
end
noncomputable def d6:I (af×fc):=("script",.local)::("numbers",.local)::("letters",.cell)::("j",.cell)::("words",.local)::("octets",.local)::("word",.local)::("stream",.cell)::("told",.cell)::("images",.cell)::("stars",.cell)::("stands",.cell)::("sorter",.local)::("k",.cell)::("ring",.local)::("rounds",.cell)::("once",.local)::("powers",.cell)::("turn",.local)::("n",.cell)::("near",.cell)::("late",.cell)::("far",.local)::("due",.local)::("lasting",.cell)::("two",.cell)::("come",.cell)::("turned",.local)::("again",.local)::("groups",.cell)::("last",.cell)::("endless",.local)::("sum",.globalImplicit)::("_law_counted",.globalImplicit)::("_law_stream",.globalImplicit)::("read_string1",.globalImplicit)::("TopologicalSorter",.globalImplicit)::("range",.globalImplicit)::("_law_rounds",.globalImplicit)::("_law_times",.globalImplicit)::("sorted",.globalImplicit)::("translate",.globalImplicit)::("_law_bracket",.globalImplicit)::("max",.globalImplicit)::[]
noncomputable def bX:I af:=["script","numbers","letters","j","words","octets","word","stream","told","images","stars","stands","sorter","k","ring","rounds","once","powers","turn","n","near","late","far","due","lasting","two","come","turned","again","groups","last","endless"]
abbrev bI(i:J):cz:=g8 (dF (bB 28)) i
noncomputable def yT(s:I aS):I aS:=(s.take 4++[1042,9,0,14]).take 4
def qp(s:I aS):I J:=(yT s).map λx=>(x.fmod 1000000).toNat
theorem Gx(s:I aS):U (yT s)=4:=ae zT (vt (cC▸dN 4 _))
theorem aaj(s:I aS):∀x∈qp s,x<1000000:=λx j=>by
 obtain⟨H,E,rfl⟩:=dZ.mp j;exact(Int.toNat_lt (afy _ (by decide))).mpr (Int.fmod_lt_of_pos _ (by decide))
theorem WG(x:aS):(x.fmod 1000000).toNat=x.fmod 1000000:=afB (afy x (by decide))
theorem P6:(10:aS)^(6:aS).toNat=1000000:=C
theorem gd{lv:I (AV q)}{i:J}(h:lv[i]?=D a):lv[i]?.getD AV.un=a:=by rw [h];rfl
theorem gs{y:I (AV q)}(h:y[i]?=D a)(z:j≠i):(y.set j x)[i]?=D a:=ae (lJ z) h
theorem Z_(h:y[i]?=D (.t a))(O:y[t]?=D (.t b)):noOwn y [i,t]=Y:=eP h (eP O C)
theorem zB(h:EI G c n u y e P p)(q:p=us):EI G c n u y e P us:=q▸h
theorem yj(l:I J):(l.map λx:J=>(x:aS)).sum=((l.sum)):=l.rec C λx l n=>by simp only [iK,IG,n,IG];rfl
section
variable{c:Cx O}{lv:I (AV O)}{ns:I J}{ab:I J}
theorem ZQ(s:I aS):(yT s).map (λx=>T.int ((x.fmod 1000000).toNat))=nT (qp s):=by delta nT qp;simp only [dH];rfl
theorem s0(F:Fm c.V bX 32 d6)(s:I aS)(B:U s<=100)(n:lv[0]?=D (.t (.list (s.map .int)))):ES c bX 32 lv (bI 0) (lv.set 1 (.own (nT (qp s)))) .next:=by
 have t:cut aa (D ((4:J))) (s.map T.int)=(s.take 4).map T.int:=by simp only [Et,List.map_take]
 have b:cut aa (D ((4:J))) ((s.take 4).map T.int++[.int 1042,.int 9,.int 0,.int 14])=(yT s).map T.int:=by rw [Et];delta yT;simp
 rw [<-ZQ];refine C3 "x" [] [] _ F C C C (jb (kN (fh (kN (zv F 0 C n) rC (iJ (zi 4)) (wO (by rw [dg];exact aD B (az C)) t)) (oi (zr (zi 1042) (zr (zi 9) (zr (zi 0) (zr (zi 14) cU C) C) C) C) C) (GP (by simp;exact aD (z4 _ _) (az C)))) rC (iJ (zi 4)) (wO (by simp;exact aD (z4 _ _) (az C)) b))) C
  (λd o y E=>gJ (aeL (zv o 0 C C) (fh (zi 10) (zi 6) (OT (TJ (dN _ _)) (by decide) (by decide))) (nofun)) ?_) C (by rw [Gx];exact dN _ _) (i:=1) C (az C) (i':=1) C C (C)
 simp only [P6,WG]
noncomputable def yg(ns:I J):J:=(ns.map (·/256)).sum%6
theorem s1(F:Fm c.V bX 32 d6)(z:∀x∈ns,x<1000000)(X:U ns<=4)(R:gq[yg ns]?=D ab)(w:lv[1]?=D (.t (.list (nT ns)))):ES c bX 32 lv (bI 1) (lv.set 2 (.t (.str ab))) .next:=by
 have B:(ns.map (·/256)).sum<2^2000:=by
  have:∀l:I J,(∀x∈l,x<1000000)->(l.map (·/256)).sum<=U l*1000000:=λl=>l.rec (λ_=>dz _) λx l n h=>by
   rw [iK,IG];exact aD (iB (aD (Nat.div_le_self _ _) (e7 (h x (.head _)))) (n λH m=>h H (.tail _ m))) (fq (ae (qD _ _) (Nat.succ_mul _ _).symm))
  exact kS (this ns z) (kS (IJ _ X) (by decide+kernel))
 refine eM F 2 C (az C) (dU (oi (zr (zs [97,98,45,93] (cS ['a','b','-',']'])) (zr (zs [94,91,97,93] (cS ['^','[','a',']'])) (zr (zs [92,38,124,126] (cS ['\\','&','|','~'])) (zr (zs [42,63,97,46] (cS ['*','?','a','.'])) (zr (zs [45,94,93,40] (cS ['-','^',']','('])) (zr (zs [10,91,98,42] (cS ['\n','[','b','*'])) cU C) C) C) C) C) C) C)
  (fh (gJ (xm F 32 C (zf (jT "x" [] [] (λx:J=>T.int _) F C C C (jb (zv F 1 C w)) C (λd o y i=>fh (zv o 0 C C) (zi (256:J)) (OS (eI (z y i) (by decide+kernel)) (gE _))) C (aD X (az C)))) (ae (aA kG dH.symm) (ints_map _)) C) ?_) (zi _) (GU B (gE _))) (fR (eI (vv _ (gE 5)) (az C)) ?_) C) C
 .rw [<-yj,dH];rfl
 .show(gq.map T.str)[yg ns]?=_;apply ae (jr);rw [R];rfl
end
section
variable{A:J->J->J}{L:J->bw}{n i j k x y:J}
theorem GI(m n i k:J)(B:k<4):Pw A (n+m) i k=S4 λj=>Pw A n i j*Pw A m j k:=by
 induction m generalizing k with
 |zero=>
  exact(ye (v:=Pw A n i) B).symm.trans (iQ λj _=>by
   show _=Pw A n i j*(if j=k then 1 else 0)
   by_cases q:j=k
   .rw [aM q,aM q,RS]
   .rw [aJ q,aJ q,xQ])
 |succ m h=>
  show S4 (λl=>Pw A _ i l*A l k)=S4 λj=>Pw A n i j*S4 λl=>Pw A m j l*A l k;apply ae (iQ λl X=>ae (aA (·*A l k) (h l X)) (ae (II _ _) (DU _ _).symm));apply ae (Jd (λj l=>A l k*(Pw A n i j*Pw A m j l)));exact iQ λj _=>ae (iQ λl _=>by rw [II _,IH]) (DU _ _)
theorem Qc(O:i<4):Wy A 1 i j<->0<A i j:=⟨λh=>dG h λl X e p=>e▸p,λh=>⟨i,O,C,h⟩⟩
structure rX(A:J->J->J)(L:J->bw):Prop where
 up:∀j k,j<4->k<4->0<A j k->L k=Y->L j=Y
 one:∀j,j<4->L j=Y->1<=kF A L j
theorem rX.wk(e:rX A L)(x:i<4)(B:k<4)(w:Wy A n i k)(h:L k=Y):L i=Y:=by
 induction n generalizing k with
 |zero=>exact w▸h
 |succ n a=>exact dG (pI.mp w) λj O w p=>a O w (e.up j k O B p h)
theorem KI(e:kF A L j=1):∃y,y<4/\L y=Y/\∀x,x<4->L x=Y->A j x=if x=y then 1 else 0:=by
 have s:∀x,x<4->L x=Y->A j x<=1:=λx i Q=>e▸by have:=BG (f:=λk=>if L k=Y then A j k else 0) i;rwa [aM Q]at this
 refine ai (vS.mp (show 0<kF A L j from e▸z5)) λy h p=>?_
 by_cases a:L y=Y
 .rw [aM a]at p;refine⟨y,h,a,λx i Q=>?_⟩
  by_cases q:x=y
  .rw [aM q,q];exact fS (s y h a) p
  .rw [aJ q];refine zY λc=>?_
   have t:=Jc (f:=λk=>if k=y then 1 else 0) (g:=λk=>if L k=Y then A j k else 0) (λk B=>by
    by_cases r:k=y
    .rw [aM r,r,aM a];exact p
    .rw [aJ r];exact gF _) i (by exact(aJ q)▸(aM Q)▸(c))
   have o:=by
    have:=BG (f:=λk=>if k=y then 1 else 0) h
    rwa [aM C]at this
   have t:(S4 λk=>if k=y then 1 else 0)<kF A L j:=t;exact q5 (jP 0 (.n 1) (.n 0) (.v 0) (.n 1) (.n 1) (.v 1) (.a (.v 1) (.n 1)) (.v 0) C [_,_] ((iU e)) o t)
 .rw [aJ a]at p;exact bA p (i3 0)
def Ends(A:J->J->J)(L:J->bw)(i:J):Prop:=∀n j,j<4->4<=n->Wy A n i j->L j=Y->kF A L j=1
theorem aaT(v:rX A L)(S:Ends A L i)(O:j<4)(o:4<=n)(w:Wy A n i j)(u:L j=Y)(m:J):∃y,y<4/\L y=Y/\Wy A m j y/\∀x,x<4->L x=Y->Pw A m j x=if x=y then 1 else 0:=by
 induction m with
 |zero=>exact⟨j,O,u,C,λx e Q=>by
   show(if j=x then 1 else 0)=_
   by_cases q:x=j
   .rw [aM q,aM q.symm]
   .rw [aJ q,aJ (iC q)]⟩
 |succ m f=>
  obtain⟨y,h,k,s,r⟩:=f;obtain⟨E,g,b,a⟩:=KI (S _ y h (aD o (fO _ _)) ((n_ m n i y h).mpr ⟨j,w,s⟩) k);refine⟨E,g,b,pI.mpr (i12 (y) (h) (s) (?_)),λx e Q=>?_⟩
  .rw [a E g b,aM C];exact z5
  .refine ae (iQ (f:=λl=>Pw A m j l*A l x) (g:=λl=>if l=y then A l x else 0) λl X=>?_) (ae (ye (v:=λl=>A l x) h) (a x e Q))
   by_cases q:l=y
   .rw [aM q,r l X (q▸k),aM q,RU]
   .rw [aJ q]
    by_cases t:L l=Y
    .rw [r l X t,aJ q,Dv]
    .rw [zY λp=>t (v.up l x X e p Q),xQ]
end
section
variable{A:J->J->J}{L:J->bw}{n i j k x y a b:J}
theorem Hu(h:Wy A (n+1) i k):i<4:=by
 induction n generalizing k with
 |zero=>exact dG (pI.mp h) λj O w p=>(w).symm▸O
 |succ n e=>exact dG (pI.mp h) λj O w p=>e w
theorem sV(O:j<4)(c:J)(w:Wy A c j j)(h:J):Wy A (c*h) j j:=by
 induction h with
 |zero=>exact(C)
 |succ h n=>exact(n_ c (c*h) j j O).mpr (aR (j) (n) (w))
theorem nM.F1(P:nM A n p)(i:rX A L)(l:L (p n)=Y)(h:m<=n):L (p m)=Y:=by
 have w:=m_ (P.nj h);simp only [vq,pQ h]at w;exact i.wk (P.lt m h) (P.lt n (dz n)) w l
theorem abQ(h:rX A L)(S:Ends A L i)(O:p 0=i)(P:nM A n p)(k:L (p n)=Y)(o:a<b)(t:b<=n)(s:p a=p b):Wy A (b-a) (p n) (p n):=by
 have l:1<=b-a:=Ds o;have u:∀m,a<=m->m<=n->Wy A (b-a) (p m) (p m):=λm=>m.rec
  (λe _=>by
   have B:=Nat.le_zero.mp e;subst B;have w:=m_ (P.pre t);simp only [<-s]at w
   exact w)
  (λm T e z=>by
   by_cases q:a=m+1
   .have w:=m_ ((P.pre t).nj (e7 o));rw [vq,pQ (e7 o),<-s,q]at w;exact q▸w
   .have j:=aga z;have w:=T (rL (Nat.lt_of_le_of_ne e q)) j;have R:=P.lt m j;have g:=P.F1 h k j;have Q:=(n_ _ _ _ _ R).mpr ⟨p m,(O▸m_ (P.pre j)),sV R _ w 4⟩;obtain⟨y,G,ah,r⟩:=KI (S _ _ R (aD (RK 4 l) (dN _ _)) Q g);obtain⟨c,f⟩:=zZ l;rw [f]at w;refine ai ((n_ c 1 _ _ R).mp w) λH E x=>?_;have d:=by
     cases c with
     |zero=>exact x▸R
     |succ c=>exact Hu x
    have v:=(Qc R).mp E;have F:=oA λq=>by rw [r H d (h.wk d R x g),aJ q]at v;exact bA v (i3 0)
    have X:=oA λq=>by
     have:=P.st m (agd z);rw [r _ (P.lt (m+1) z) (P.F1 h k z),aJ q]at this;exact bA this (i3 0)
    rw [f,qD]
    exact pI.mpr ⟨p m,R,ae X F.symm▸x,P.st m (agd z)⟩)
 exact u n (aD (e7 o) t) (dz n)
theorem aeb(O:j<4){c:J}(h:1<=c)(g:c<=4)(w:Wy A c j j):Wy A 12 j j:=mZ (P:=λd=>Wy A (d+1) j j->Wy A 12 j j) (eI (RV h z5) g) (λw=>sV O _ w 12) (λw=>sV O _ w 6) (λw=>sV O _ w 4) (λw=>sV O _ w 3) ((tF h).symm▸w)
theorem YR(a:rX A L)(S:Ends A L i)(k:∀j,j<4->L j=Y->Wy A n i j->Wy A 12 j j)(h:x<4)(Q:L x=Y):Pw A (n+12) i x=Pw A n i x:=by
 refine ae (GI 12 n i x h) (ae (iQ (f:=λj=>Pw A n i j*Pw A 12 j x) (g:=λj=>if j=x then Pw A n i j else 0) λj O=>?_) (ye (v:=Pw A n i) h))
 by_cases E:0<Pw A n i j
 .have w:=(pA n i j).mp E
  by_cases v:L j=Y
  .have e:=k j O v w;obtain⟨y,s,l,_,r⟩:=aaT a S O (aD (by decide) (dN 12 n)) ((n_ _ _ _ _ O).mpr ⟨j,w,e⟩) v 12;have b:=oA λq=>by
    have:=(pA 12 j j).mpr e;rw [r j O v,aJ q]at this;exact bA this (i3 0)
   rw [r x h Q,<-b]
   by_cases q:j=x
   .rw [aM q,aM q.symm,RS]
   .rw [aJ q,aJ (iC q),xQ]
  .rw [zY λp=>v (a.wk O h ((pA 12 j x).mp p) Q),aJ λq:j=x=>v (q▸Q),xQ]
 .rw [zY E,Dv];exact(ite_self 0).symm
end
section
variable{A:J->J->J}{L:J->bw}{n i j k x y r s:J}
def DQ(A:J->J->J)(L:J->bw)(r:J):J->Prop:=r.rec (λx=>L x=Y) λ_ p x=>L x=Y\/∀j,j<4->0<A j x->p j
theorem WK(B:∀n,s<=n->∀x,x<4->L x=Y->Pw A (n+12) i x=Pw A n i x):∀(r x:J),x<4->DQ A L r x->∀n,s+r<=n->Pw A (n+12) i x=Pw A n i x:=λr=>r.rec
 (λx e h n z=>B n z x e h)
 (λr a x e h n z=>by
  rcases show L x=Y\/∀j,j<4->0<A j x->DQ A L r j from h with l|h
  .exact B n (aD (fO _ _) z) x e l
  .obtain⟨m,rfl⟩:=zZ z;have b:s+(r+1)+m=s+r+m+1:=by exact fS (eF (.a (.a (.v 0) (.a (.v 1) (.n 1))) (.v 2)) (.a (.a (.a (.v 0) (.v 1)) (.v 2)) (.n 1)) C [_,_,_]) (eF (.a (.a (.a (.v 0) (.v 1)) (.v 2)) (.n 1)) (.a (.a (.v 0) (.a (.v 1) (.n 1))) (.v 2)) C [_,_,_])
   rw [b];show S4 (λj=>Pw A (s+r+m+12) i j*A j x)=S4 λj=>Pw A _ i j*A j x;exact iQ λj O=>by
    by_cases p:0<A j x
    .rw [a j O (h j O p) (s+r+m) (fO _ _)]
    .rw [zY p,xQ,xQ])
theorem Z':∀(r x:J),x<4->(∀p,p r=x->nM A r p->(∀m,m<=r->L (p m)=ay)->False)->DQ A L r x:=λr=>r.rec
 (λx e h=>oA λq=>h _ C ⟨λm _=>e,λm q=>bA q (Nat.not_lt_zero m)⟩ λm _=>ow.mpr q)
 (λr n x e h=>by
  by_cases l:L x=Y
  .exact .inl l
  .refine .inr λj O p=>n j O λq b Q i=>h (λm=>if m<=r then q m else x) (aJ (agg r)) ⟨λm R=>?_,λm R=>?_⟩ λm R=>?_
   .by_cases c:m<=r
    .rw [aM c];exact Q.lt m c
    .rw [aJ c];exact e
   .have a:=rL R;show 0<A _ _;rw [aM a]
    by_cases c:m+1<=r
    .rw [aM c];exact Q.st m c
    .rw [aJ c,fS a (iM c),b];exact p
   .by_cases c:m<=r
    .rw [aM c];exact i m c
    .rw [aJ c];exact ow.mpr l)
end
theorem Uu(H:J->bw)(l:I J):l.countP H+l.countP (λt=>!H t)=U l:=l.rec C λx l n=>by
 rw [Di,Di,gB,<-n];cases H x with
 |false=>exact C
 |true=>exact af9 _ 1 _
section
variable{A:J->J->J}{L:J->bw}{i x:J}
theorem VI(b:rX A L)(g:∀t,t<4->L t=ay->∀u,¬Wy A (u+1) t t)(S:Ends A L i)(f:i<4)(j:x<4):Pw A 16 i x=Pw A 4 i x:=by
 have B:∀u,(dm 4).countP L<=u->∀x,x<4->L x=Y->Pw A _ i x=Pw A u i x:=λu z x j Q=>
  YR b S (λt O v w=>dG (w7 f O w) λp T s P=>by
   refine e5 (GF L (p:=p) λm q=>⟨P.lt m (aD q z),P.F1 b (s.symm▸v) (aD q z)⟩) λa l o h e=>?_;have r:=abQ b S T P (s.symm▸v) o (aD h z) e;rw [s]at r
   exact aeb O (Ds o) (aD (Dr l a) (aD h List.countP_le_length)) r) j Q
 refine WK B _ x j (Z' _ x j λp d P k=>(e5 (GF (λt=>!L t) (p:=p) λm q=>⟨P.lt m q,by show(!L (p m))=Y;rw [k m q];rfl⟩) λa l o h e=>?_)) 4 (fq (Uu L (dm 4)));have w:=m_ ((P.pre h).nj (e7 o));simp only [vq,pQ (e7 o),<-e]at w;obtain⟨c,n⟩:=zZ (Ds o);rw [n,qD]at w;exact g _ (P.lt a (aD (e7 o) h)) (k a (aD (e7 o) h)) c w
end
section
variable{A:J->J->J}{i j k n m:J}
def Al(A:J->J->J)(n j:J):Prop:=∃k,k<4/\Wy A n j k
theorem AK:0<S4 (Pw A n j)<->Al A n j:=vS.trans ⟨λh=>ai h λk B p=>(aR (k) (B) ((pA n j k).mp p)),λh=>ai h λk B w=>(aR (k) (B) ((pA n j k).mpr w))⟩
theorem AL(h:Al A n j)(R:m<=n):Al A m j:=by
 obtain⟨d,rfl⟩:=zZ R;clear R
 induction d with
 |zero=>exact h
 |succ d e=>exact e (ai h λk B w=>dG (pI.mp (show Wy A (m+d+1) j k from w)) λl X t _=>⟨l,X,t⟩)
theorem Js(O:j<4)(h:Al A 4 j)(n:J):Al A n j:=ai h λk B w=>dG (w7 O B w) λp T s P=>e5 (Cj P.lt) λa b o H e=>by
 have u:=P.lt a (aD (e7 o) H);have r:=m_ ((P.pre H).nj (e7 o));simp only [vq,pQ (e7 o),<-e]at r;have z:=T▸m_ (P.pre (aD (e7 o) H));exact AL ⟨p a,u,((n_ _ _ _ _ u).mpr ⟨p a,z,sV u _ r n⟩)⟩ (aD (RK n (Ds o)) (dN _ _))
theorem Jw(O:j<4)(B:k<4)(p:0<A j k)(e:Al A n k):Al A (n+1) j:=ai e λx h w=>⟨x,h,(qD n 1).symm▸(n_ n 1 j x h).mpr ⟨k,(Qc O).mpr p,w⟩⟩
theorem Jt(O:j<4)(e:Al A (n+1) j):∃k,k<4/\0<A j k/\Al A n k:=ai e λx h w=>dG (w7 O h w) λp T s P=>by
 refine⟨p 1,P.lt 1 (ju (gF n)),T▸P.st 0 (gE n),⟨x,h,?_⟩⟩;have r:=m_ (P.nj (b:=1) (ju (gF n)));rw [af_,qD 1 n,s]at r;exact r
def mK(A:J->J->J)(j:J):bw:=aO (0<S4 (Pw A 4 j))
theorem wg:mK A j=Y<->Al A 4 j:=decide_eq_true_iff.trans AK
theorem F2:rX A (mK A)where
 up:=λj k O B p l=>wg.mpr (AL (Jw O B p (wg.mp l)) (by decide))
 one:=λj O l=>dG (Jt (n:=4) O (Js O (wg.mp l) 5)) λk B p a=>by
  apply eI p;have:=BG (f:=λk=>if mK A k=Y then A j k else 0) B
  rwa [aM (wg.mpr a)]at this
theorem UK(O:j<4)(l:mK A j=ay)(n:J):¬Wy A (n+1) j j:=λw=>by
 rw [wg.mpr (AL (n:=(n+1)*4) ⟨j,O,sV O _ w 4⟩ (RK 4 (gE n)))]at l;exact Bool.noConfusion l
theorem TT(e:i<4):(∀x,x<4->Pw A 4 i x=Pw A 16 i x)<->∀n j,j<4->4<=n->n<8->Wy A n i j->mK A j=Y->kF A (mK A) j<2:=by
 refine⟨λh n j O g G w l=>agc λa=>?_,λh x b=>(VI F2 (λj O l=>UK O l) (λn j O g w l=>?_) e b).symm⟩
 .exact ai (Xi F2.one O l a g (eI G (by decide)) ((pA n i j).mpr w)) λk B q=>q (h k B)
 .exact dG (LP e O w g) λm s o t=>fS (rL (h m j O s o t l)) (F2.one j O l)
end
section
variable{A:J->J->J}{i j k n m r:J}
theorem short(e:i<4)(B:k<4)(h:Wy A n i k):∃m,m<4/\Wy A m i k:=by
 induction n using Nat.strongRecOn with
 |ind n x=>
  by_cases c:n<4
  .exact⟨n,c,h⟩
  .refine dG (w7 e B h) λp T s P=>e5 (Cj λm q=>P.lt m (aD q (iM c))) λa b o H l=>?_;have t:=aD H (iM c);refine x (a+(n-b)) (by exact d_ 0 (.a (.a (.v 0) (.v 3)) (.n 1)) (.v 2) (.a (.v 0) (.n 1)) (.v 1) (.a (.v 3) (.v 1)) (.v 2) C [_,_,_,_] o ((lq t))) ((n_ _ _ _ _ B).mpr ⟨p a,?_,?_⟩)
   .exact T▸m_ (P.pre (aD (e7 o) t))
   .have w:=m_ (P.nj t);simp only [vq,pQ t,s,<-l]at w;exact w
theorem Mg(O:j<4):¬Al A (r+1) j<->∀k,k<4->0<A j k->¬Al A r k:=
 ⟨λh k B p a=>h (Jw O B p a),λh a=>dG (Jt O a) λk B p q=>h k B p q⟩
theorem Jx(O:j<4):Al A 0 j:=⟨j,O,C⟩
def pU(A:J->J->J)(i j:J):Prop:=∃n,n<4/\Wy A n i j
def kU(A:J->J->J)(i r j:J):Prop:=∀m,r<=m->¬Wy A m i j
theorem Yp(e:i<4)(O:j<4):kU A i (r+1) j<->∀l,l<4->pU A i l->0<A l j->kU A i r l:=by
 refine⟨λh l X _ p m R w=>h (m+1) (ju R) (pI.mpr ⟨l,X,w,p⟩),λh m R w=>?_⟩;obtain⟨d,rfl⟩:=zZ R;have a:r+1+d=r+d+1:=by exact fS (eF (.a (.a (.v 0) (.n 1)) (.v 1)) (.a (.a (.v 0) (.v 1)) (.n 1)) C [_,_]) (eF (.a (.a (.v 0) (.v 1)) (.n 1)) (.a (.a (.v 0) (.n 1)) (.v 1)) C [_,_])
 rw [a]at w;exact dG (pI.mp w) λl X t p=>h l X (short e X t) p _ (fO _ _) t
theorem Xe(c:pU A i j):¬kU A i 0 j:=λh=>ai c λn _ w=>h n (gF n) w
theorem Lp(e:i<4)(O:j<4):kU A i 4 j<->∀m,4<=m->m<8->¬Wy A m i j:=
 ⟨λh m g _=>h m g,λh m g w=>dG (LP e O w g) λn a l t=>h n a l t⟩
end
noncomputable def cJ(T:I (I J))(i t:J):J:=(T.getD i []).getD t 0
theorem getD_map{R z:Type}(L:R->z){l:I R}(h:i<U l)(d:R)(B:z):(l.map L).getD i B=L (l.getD i d):=by
 apply ae (tB);rw [jr,dD h,tB,dD h];rfl
theorem OG(L:J->J)(h:k<4):((dm 4).map L).getD k 0=L k:=mZ (P:=λk=>((dm 4).map L).getD k 0=L k) h C C C C
theorem yV(A:i<L.length)(B:k<4):cJ (jC L M) i k=S4 λt=>cJ L i t*cJ M t k:=by
 delta cJ jC
 rw [getD_map _ A [] [],OG _ B]
 rfl
theorem PT(L T:I _):U (jC L T)=U L:=dg _
noncomputable def w5:I (I J):=(dm 4).map λk=>(dm 4).map λt=>if t=k then 1 else 0
def yY(T:I (I J))(u:J):I (I J):=u.rec w5 λ_ P=>jC P T
theorem abt(T:I _)(u:J):U (yY T u)=4:=u.rec C λu n=>(PT _ _).trans n
theorem aaO(T:I _):∀(u i k:J),i<4->k<4->cJ (yY T u) i k=Pw (cJ T) u i k:=λu=>u.rec
 (λi k A B=>mZ (P:=λi=>cJ (yY T 0) i k=if i=k then 1 else 0) A (mZ (P:=λk=>cJ _ 0 k=if 0=k then 1 else 0) B C C C C) (mZ (P:=λk=>cJ (yY T 0) 1 k=if 1=k then 1 else 0) B C C C C) (mZ (P:=λk=>cJ (yY T 0) 2 k=if 2=k then 1 else 0) B C C C C) (mZ (P:=λk=>cJ _ 3 k=if 3=k then 1 else 0) B C C C C))
 (λu n i k A B=>ae (yV ((abt T u).symm▸A) B) (iQ λt O=>aA (·*cJ T t k) (n i t A O)))
theorem Tab.mono(A:Tab b M)(h:b<=c):Tab c M:=⟨A.l,λr s=>⟨(A.r r s).1,λx j=>eI ((A.r r s).2 x j) h⟩⟩
theorem Tab.of(A:Tab b M){t k:J}(O:t<4)(B:k<4):cJ M t k<b:=by
 have r:=A.r _ (getD_mem' (d:=[]) (A.l.symm▸O:t<U M));exact r.2 _ (getD_mem' (r.1.symm▸B))
theorem Jb(h:∀t,t<4->f t<b):S4 f<4*b:=by
 have n:=h 0 (by decide);have w:=h 1 (az C);have v:=h 2 (by decide);have R:=h 3 (by decide)
 delta S4;exact m5 0 (.a (.a (.v 0) (.a (.v 2) (.a (.v 3) (.v 4)))) (.n 1)) (.m 4 (.v 1)) (.a (.v 0) (.n 1)) (.v 1) (.a (.v 2) (.n 1)) (.v 1) (.a (.v 3) (.n 1)) (.v 1) (.a (.v 4) (.n 1)) (.v 1) C [_,_,_,_,_] n w v R
theorem nq{L T:I _}(u:Tab b L)(R:Tab c T):Tab (4*(b*c)) (jC L T)where
 l:=ae (PT L T) u.l
 r:=λr s=>ai (dZ.mp s) λm n e=>by
  subst e;have h:=u.r m n;refine⟨ae (dg _) xJ,λx j=>ai (dZ.mp j) λk B e=>?_⟩;subst e;have B:=fm.mp B;exact Jb λt O=>Nat.mul_lt_mul'' (h.2 _ (getD_mem' (h.1.symm▸O))) (R.of O B)
theorem adg:Tab 2 w5:=⟨C,by decide⟩
section
variable{A:J->J->J}{i j k n:J}
def Gj(A:J->J->J)(k j:J):J:=S4 λn=>Pw A n k j
theorem Gl:0<Gj A k j<->pU A k j:=vS.trans ⟨λh=>ai h λn z p=>⟨n,z,(pA n k j).mp p⟩,λh=>ai h λn z w=>⟨n,z,(pA n k j).mpr w⟩⟩
def F3(A:J->J->J)(k j:J):J:=S4 λl=>Pw A 4 k l*Gj A l j
theorem YV(O:j<4):0<F3 A k j<->∃m,4<=m/\m<8/\Wy A m k j:=by
 refine vS.trans ⟨λh=>?_,λh=>?_⟩
 .exact ai h λl X p=>ai (Gl.mp (agh p)) λn z w=>⟨4+n,fO _ _,zX z 4,(n_ n 4 k j O).mpr (aR (l) ((pA 4 k l).mp (agi p)) (w))⟩
 .refine cps λb f=>?_;refine dG h λm a e w=>?_;obtain⟨n,rfl⟩:=zZ a;refine ai ((n_ n 4 k j O).mp w) λl i x=>?_;have X:=by
   cases n with
   |zero=>exact x▸O
   |succ n=>exact Hu x
  apply f;exact⟨l,X,Nat.mul_pos ((pA 4 k l).mpr i) (Gl.mpr ⟨n,Nat.lt_of_add_lt_add_left e,x⟩)⟩
theorem Ws(O:j<4):(S4 λl=>Pw A 8 k l*Pw A 8 l j)=Pw A 16 k j:=(GI 8 8 k j O).symm
theorem Wt(O:j<4):(S4 λl=>Pw A 4 k l*Pw A 4 l j)=Pw A 8 k j:=(GI 4 4 k j O).symm
theorem YU(B:k<4)(O:j<4):0<F3 A k j<->¬kU A k 4 j:=by
 rw [YV O,Lp B O];exact⟨λh q=>dG h λm a b w=>q m a b w,λh=>oA λq=>h λm a b w=>q ⟨m,a,b,w⟩⟩
end
section
variable{f:J->I J}{bq:J->bw}{M:J->J->J}{j k n:J}{x y:I J}
def pZ(f:J->I J):Prop:=∀a b,a<4->b<4->f a=f b->a=b
noncomputable def Pn(f:J->I J)(bq:J->bw):I (I J):=((dm 4).filter bq).map f
noncomputable def Qn(f:J->I J)(M:J->J->J)(x:I J):I (I J):=((dm 4).filter λj=>(dm 4).any λk=>aO (f k=x)&&aO (0<M k j)).map f
theorem sI:x∈Pn f bq<->∃k,k<4/\bq k=Y/\x=f k:=dZ.trans ⟨λh=>ai h λk m e=>(i12 (k) (fm.mp (f9.mp m).1) ((f9.mp m).2) (e.symm)),λh=>dG h λk a b e=>⟨k,f9.mpr ⟨fm.mpr a,b⟩,e.symm⟩⟩
theorem DS(g:pZ f)(B:k<4):Qn f M (f k)=((dm 4).filter λj=>aO (0<M k j)).map f:=aA (List.map f) (vn λj _=>oz.mpr ⟨λh=>ai (mz.mp h) λl m e=>bT (cR.mp e) λa b=>g l k (fm.mp m) B (dh a)▸b,λh=>mz.mpr ⟨k,fm.mpr B,cR.mpr ⟨cM C,h⟩⟩⟩)
theorem yJ(g:pZ f)(B:k<4):y∈Qn f M (f k)<->∃j,j<4/\0<M k j/\y=f j:=by
 rw [DS g B];exact dZ.trans ⟨λh=>ai h λj m e=>⟨j,fm.mp (f9.mp m).1,dh (f9.mp m).2,e.symm⟩,λh=>dG h λj a b e=>⟨j,f9.mpr ⟨fm.mpr a,cM b⟩,e.symm⟩⟩
theorem MY(g:pZ f)(p:J->bw):(((dm 4).filter p).map f).Nodup:=by
 have L:∀l:I J,l.Nodup->(∀a∈l,a<4)->(l.map f).Nodup:=λl=>l.rec (λ_ _=>.nil) λa l n Q e=>gM.mpr ⟨λm=>ai (dZ.mp m) λb h i=>(gM.mp Q).1 (g b a (e b (.tail _ h)) (e a (.head _)) i▸h),n (gM.mp Q).2 λb h=>e b (.tail _ h)⟩;exact L _ (List.nodup_range.filter _) λa m=>fm.mp (f9.mp m).1
theorem MX(g:pZ f):(Pn f bq).Nodup:=MY g bq
theorem wz(g:pZ f)(x:I J):(Qn f M x).Nodup:=MY g _
theorem BK:U (Pn f bq)<=4:=aD (fq (dg _)) (ki _ _)
def Ay(bq:J->bw)(M:J->J->J):Prop:=∀k j,k<4->j<4->0<M k j->bq k=Y/\bq j=Y
theorem sS(g:pZ f)(o:Ay bq M):∀k∈Pn f bq,∀y∈Qn f M k,y∈Pn f bq:=λx m y L=>dG (sI.mp m) λk B c e=>by
 subst e;exact dG ((yJ g B).mp L) λj O p q=>sI.mpr ⟨j,O,(o k j B O p).2,q⟩
theorem A6(g:pZ f):∀(n k:J),k<4->(Dn (Qn f M) n (f k)=Y<->¬Al M n k):=λn=>n.rec
 (λk B=>⟨λh=>(cY C (h)),(bA (Jx B))⟩)
 (λn e k B=>se.trans (xC ⟨λh j O p=>(e j O).mp (h _ ((yJ g B).mpr ⟨j,O,p,C⟩)),λh y L=>dG ((yJ g B).mp L) λj O p a=>a▸(e j O).mpr (h j O p)⟩ (Mg B).symm))
theorem aed(O:j<4):∀{n l:J},Wy M n l j->l<4
 |0,_,w=>w▸O
 |n+1,_,w=>Hu w
theorem Qd(B:k<4)(O:j<4):Wy M (n+1) k j<->∃l,l<4/\0<M k l/\Wy M n l j:=by
 rw [qD n 1,n_ n 1 k j O];exact⟨λh=>ai h λl w v=>dG w λE g e p=>⟨l,aed O v,(e).symm▸p,v⟩,λh=>dG h λl X p v=>(aR (l) (⟨k,B,C,p⟩) (v))⟩
theorem U2(h:E.length<=4)(L:∀x,U (g x)<=4):jh g E []<=800:=by
 have e:∀E:I _,jh g E []<=U E*5:=λE=>E.rec (dz _) λx E n=>by
  show(if _ then _ else _)+jh g E []<=_;rw [aJ dR,gB];have:=L x;exact d_ 0 (.a (.a (.n 1) (.v 2)) (.v 0)) (.r (.a (.v 1) (.n 1)) 5) (.v 0) (.r (.v 1) 5) (.v 2) (.n 4) C [_,_,_] n this
 exact aD (e E) (aD (IJ _ h) (az C))
variable(hf:pZ f)(hM:Ay bq M)
include hf hM
omit hM in
theorem PG(O:j<4)(a:bq j=Y):y∈dS (gO (Pn f bq) (Qn f M)) (f j)<->∃k,k<4/\bq k=Y/\y=f k/\0<M k j:=by
 rw [AJ (wz hf),f9,rS];refine⟨λh=>dG (sI.mp h.1) λk B c e=>(Fc (k) (B) (c) (e) (?_)),λh=>v3 h λk B c e p=>⟨sI.mpr ⟨k,B,c,e⟩,e▸(yJ hf B).mpr (i12 (j) (O) (p) (C))⟩⟩;have m:=h.2;rw [e]at m;exact dG ((yJ hf B).mp m) λl X p q=>hf j l O X q▸p
theorem Lk(O:j<4)(i:bq j=Y):∀(n:J)(y:I J),Gk (dS (gO (Pn f bq) (Qn f M))) n (f j) y<->∃k,k<4/\bq k=Y/\y=f k/\Wy M n k j:=λn=>n.rec
 (λy=>⟨λh=>⟨j,O,i,(h).symm,C⟩,λh=>v3 h λk B c e w=>show f j=y from(w)▸e.symm⟩)
 (λn a y=>E4.trans ⟨λh=>ai h λE w m=>v3 ((a E).mp w) λl X c e v=>by
  subst e;exact v3 ((PG hf X c).mp m) λk B x e p=>(Fc (k) (B) (x) (e) ((Qd B O).mpr ⟨l,X,p,v⟩)),
  λh=>v3 h λk B c e w=>dG ((Qd B O).mp w) λl X p v=>by
  have:=hM k l B X p
  exact⟨f l,(a _).mpr ⟨l,X,this.2,C,v⟩,(PG hf X this.2).mpr ⟨k,B,c,e,p⟩⟩⟩)
theorem abP:(∀x∈(gO (Pn f bq) (Qn f M)).map (·.1),∀k,¬Gk (dS (gO (Pn f bq) (Qn f M))) (k+1) x x)<->∀k,k<4->bq k=Y->¬Al M 4 k:=by
 refine⟨λh k B c a=>ai a λx j w=>dG (w7 B j w) λp T t P=>e5 (Cj P.lt) λa b o H e=>?_,λh x m n w=>dG (sI.mp ((tW (sS hf hM)).mp m)) λk B c e=>?_⟩
 .have w:=m_ ((P.pre H).nj (e7 o));simp only [show p (a+(b-a))=p b from aA p (pQ (e7 o)),<-e]at w;obtain⟨d,s⟩:∃d,b-a=d+1:=⟨_,(tF (Ds o)).symm⟩;rw [s]at w;have u:=P.lt a (by exact d_ 0 (.v 0) (.n 4) (.a (.v 0) (.n 1)) (.v 1) (.v 1) (.n 4) C [_,_] o H);have i:=(hM _ _ u (P.lt (a+1) (by exact d_ 0 (.a (.v 0) (.n 1)) (.n 4) (.a (.v 0) (.n 1)) (.v 1) (.v 1) (.n 4) C [_,_] o H)) (P.st a (by exact d_ 0 (.a (.v 0) (.n 1)) (.n 4) (.a (.v 0) (.n 1)) (.v 1) (.v 1) (.n 4) C [_,_] o H))).1;exact h _ ((tW (sS hf hM)).mpr (sI.mpr ⟨_,u,i,C⟩)) d ((Lk hf hM u i _ _).mpr ⟨_,u,i,C,w⟩)
 .subst e;refine v3 ((Lk hf hM B c _ _).mp w) λl X O e v=>h k B c ?_;rw [<-hf k l B X e]at v;exact AL ⟨k,B,sV B (n+1) v 4⟩ (by exact eF (.n 4) (.r (.a (.v 0) (.n 1)) 4) C [_])
theorem O8:∃T o,lW (gO (Pn f bq) (Qn f M)) T=D o/\m8 o=Y/\(o=aa<->∀k,k<4->bq k=Y->¬Al M 4 k):=
 e5 (Wv (Jr (wz hf) (sS hf hM)) (U2 (aD (yO _ _ vV λx m=>(tW (sS hf hM)).mp m) BK) λx=>by rw [AJ (wz hf)];exact aD (ki _ _) BK)) λT o a b c=>⟨T,o,a,b,c.trans (abP hf hM)⟩
theorem O9:n6 5 (gO (Pn f bq) (Qn f M)) (eB (gO (Pn f bq) (Qn f M))) []=D (k_ (Pn f bq) (Qn f M) 4 0):=
 ab4 (wz hf) (MX hf) (sS hf hM) (aD BK (by decide)) 4 0 _ _ [] (rd0 (wz hf) (MX hf) (sS hf hM)) (Rq.mpr λx m=>bT (yK.mp m) λa b=>dG (sI.mp a) λk B c e=>by
  subst e
  exact(A6 hf 5 k B).mp b.1 (Js B (oA λq=>nomatch b.2.symm.trans ((A6 hf 4 k B).mpr q)) 5)) (by decide)
omit hM in
theorem ME{a:J->J->bw}(u:∀n k,k<4->bq k=Y->(a n k=Y<->Al M n k)):lay (Pn f bq) (Qn f M) n=((dm 4).filter λk=>bq k&&(a n k&&!a (n+1) k)).map f:=by
 delta lay Pn
 apply ae (Iu);rw [Rt];refine aA _ (vn λk m=>?_);have B:=fm.mp m;have d:=λn c=>oz.mpr ((A6 hf n k B).trans (by rw [tq,<-Bool.not_eq_true,u n k B c]));show(Dn _ _ _&&!Dn _ n _&&bq k)=_;rw [Q3];cases c:bq k with
 |false=>rfl
 |true=>simp only [d n c,d (n+1) c,Bool.not_not,Q3 (a n k)]
end
section
variable{A M:J->J->J}{i j k n:J}
theorem Xf(a:i<4)(o:∀k j,k<4->j<4->(0<M k j<->pU A i k/\pU A i j/\0<A j k)):∀(n k:J),k<4->pU A i k->(¬Al M n k<->kU A i n k):=λn=>n.rec
 (λk B c=>⟨(bA (Jx B)),λh=>bA h (Xe c)⟩)
 (λn e k B c=>(Mg B).trans (xC ⟨λh l X d p=>(e l X d).mp (h l X ((o k l B X).mpr ⟨c,d,p⟩)),λh l X p=>(e l X ((o k l B X).mp p).2.1).mpr (h l X ((o k l B X).mp p).2.1 ((o k l B X).mp p).2.2)⟩ (Yp a B).symm))
theorem YS:kU A i (n+1) j/\¬kU A i n j<->Wy A n i j/\∀m,n<m->¬Wy A m i j:=
 ⟨λh=>⟨oA λc=>h.2 λm R w=>(RN R).elim (λq=>h.1 m q w) λq=>c (q▸w),λm R=>h.1 m R⟩,λh=>⟨λm R=>h.2 m R,λf=>f n (dz _) h.1⟩⟩
end
noncomputable def ux(o:I J)(x:J):I J:=(dm (x%4)).map λt=>o.getD (x/4^(t+1)%4) 0
theorem LO(o:I J)(x:J):U (ux o x)<4:=by
 delta ux;rw [dg,xJ];exact vv _ (by decide)
theorem abT(h:m<4):q_ (1,((m+1:J)),1)=(dm m).map (λ(p)=>T.int (p+1:J))/\sQ (1,((m+1:J)),1)=Y:=
 mZ (P:=λm=>q_ (1,((m+1:J):aS),1)=(dm m).map _/\sQ (1,((m+1:J)),1)=Y) h ⟨C,C⟩ ⟨C,C⟩ ⟨C,C⟩ ⟨C,C⟩
noncomputable def sL(o:I J)(G:I (I J)):I J:=o.length::o++(G.map λw=>w.length::w).flatten
theorem wQ{R:Type}{l:I R}{a b d e:R}(h:i≠t):(((l.set i a).set t b).set i d).set t e=(l.set i d).set t e:=by
 simp only [List.set_comm b d (iC h),IF]
section
variable{c:Cx O}
def CF(c:Cx O)(L:af)(e:I T)(p:I T):Prop:=∃a u S,c.mg L=D (.ref a)/\(∀{h},bF c.B.h₀ h->h.get? a=D u)/\u.data=.func S/\Ah c.B c.Z c.w c.n (.ref a) e p
theorem aev(F:Fm c.V n k G)(t:J)(O:G[t]?=D (x,.globalImplicit))(h:ER c n k y u Q P p)(l:CF c x p e)(L:Q.all dP=Y):EF c n k y (.Call (.Name x a) Q [] u) P e:=mU l λi b S w v R g=>⟨Vh c.G c.R (F.kn t O nofun) w (F.kg t O) v R (l6 L) h.1 g⟩
end
section
variable{c:Cx O}{lv:I (AV O)}{ns:I J}{ab:I J}
theorem s2(F:Fm c.V bX 32 d6)(z:∀x∈ns,x<1000000)(X:U ns<=4)(g:U ab=4)(w:lv[1]?=D (.t (.list (nT ns))))(v:lv[2]?=D (.t (.str ab))):ES c bX 32 lv (bI 2) (lv.set 4 (.own ((ns.map (ux ab)).map .str))) .next:=by
 rw [dH];refine C3 "x" ["letters"] [2] _ F C C C (jb (zv F 1 C w)) (eP v C) (λd o x j=>?_) C (aD X (az C)) C (az C) (i':=4) C C C;have p:x<2^2000:=eI (z x j) (by decide);have r:=abT (vv x (by decide))
 refine gJ (C5 (zs [] (cS [])) (gJ (zf (jT "j" ["letters","x"] [1,0] (λt:J=>T.str [ab.getD (x/4^(t+1)%4) 0]) o C C C
  (zB (s_ o 2 C (zr (zi _) (zr (fh (fh (zv o 0 C C) (zi (4:J)) (GU p (gE _))) (zi 1) (rh C)) cU C) C) C r.2 C) r.1) (eP (a:=.str ab) (show D (lv[2]?.getD .un)=_ from aA D (gd v)) C) (λd H t O=>?_) C (by rw [xJ];exact aD (e7 (vv x (by decide:0<4))) (az C)))) ?_) C C C ?_) (aA T.str (uR _))
 .have R:x/4^(t+1)%4<4:=vv _ (by decide);have h:t+1<=4:=aD (Nat.succ_le_of_lt (fm.mp O)) (e7 (vv x (by decide:0<4)));exact dU (zv H 1 C (aA D (gd (lv:=lv) (i:=2) v))) (fh (fh (zv H 2 C C) (fh (zi (4:J)) (zv H 0 C C) (acm (by decide+kernel) (aD h (az C)))) (OS p (Nat.pow_pos (by decide)))) (zi (4:J)) (GU (kS (Nat.div_le_self _ _) p) (gE _))) (jk (eI R (az C)) (by rw [tB,dD (g.symm▸R)];rfl)) C
 .delta ux;rw [dH,dH];rfl
 .rw [uR];exact aD (e7 (LO ab x)) (az C)
theorem s3(F:Fm c.V bX 32 d6)(K:CF c "_law_counted" [.str ab] (nT (U ab::ab)))(v:lv[2]?=D (.t (.str ab))):ES c bX 32 lv (bI 3) (lv.set 5 (.own (nT (U ab::ab)))) .next:=
 ve F 5 C (az C) (aev F 33 C (zr (zv F 2 C v) cU C) K C) C
theorem aaL(F:Fm c.V bX 32 d6)(K:∀w,U w<4->CN c "_law_counted" [.str w] (.list (nT (U w::w)))):∀(G:I _)(lv:I _)(T:I J)(v:AV O),U lv=32->lv[5]?=D (.own (nT T))->lv[6]?=D v->(∀w∈G,U w<4)->U T+4*U G<=1000->
  ∃j,jE c bX 32 (oV (D (bI 4))) (iq (D (bI 4))) (G.map .str) lv ((lv.set 6 j).set 5 (.own (nT (T++(G.map λw=>U w::w).flatten)))) .next:=λi=>i.rec
 (λlv T v X H e h B=>⟨v,by
  rw [pD e,show T++(([]).map λw=>U w::w).flatten=T from jq _,pD H]
  exact mq⟩)
 (λw G n lv T v X H e h B=>by
  have y:=h w (.head _);simp only [gB]at B;have u:(lv.set 6 (.t (.str w)))[5]?=D _:=gs H (by decide);have a:(lv.set 6 _)[6]?=D (.t (.str w)):=jt (by simp only [X];decide);have x:nT T++nT (U w::w)=nT (T++U w::w):=eW.symm;refine bG (n _ (T++U w::w) _ (by apply ae (pP);rw [pP,X]) (jt (by rw [pP,X];decide)) (gs a (by decide)) (λt m=>h t (.tail _ m)) (by simp only [cC,gB];exact d_ 0 (.a (.a (.v 0) (.a (.v 2) (.n 1))) (.m 4 (.v 1))) (.n 1000) (.a (.v 0) (.m 4 (.a (.v 1) (.n 1)))) (.n 1000) (.a (.v 2) (.n 1)) (.n 4) C [_,_,_] B y)) λj r=>⟨j,?_⟩;rw [wQ (by decide),gX]at r
  exact j_ (iA F 6 C (by decide)) (fb (aeh F 5 C (by decide) u (nv F 33 C (zr (zv F 6 C a) cU C) (K w y) C) u (eU (by delta nT;rw [dg];exact aD (by exact cT 0 (.v 0) (.n 1000) (.a (.v 0) (.m 4 (.a (.v 1) (.n 1)))) (.n 1000) C [_,_] B:U T<=1000) (az C))) (eU (by delta nT;rw [dg,gB];exact aD (by exact y:U w+1<=4) (az C)))) (by rw [x])) r)
theorem s4(F:Fm c.V bX 32 d6)(K:∀w,U w<4->CN c "_law_counted" [.str w] (.list (nT (U w::w))))(X:U lv=32)(g:lv[4]?=D (.t (.list (ws.map .str))))(H:lv[5]?=D (.own (nT (U ab::ab))))(m:lv[6]?=D v)(h:∀w∈ws,U w<4)(B:U ws<=4)(u:U ab=4):
  ∃j,ES c bX 32 lv (bI 4) ((lv.set 6 j).set 5 (.own (nT (sL ab ws)))) .next:=
 bG (aaL F K ws lv _ v X H m h (by rw [gB,u];exact m5 0 (.a (.a (.n 4) (.n 1)) (.m 4 (.v 0))) (.n 1000) (.v 0) (.n 4) (.v 0) (.n 4) (.v 0) (.n 4) (.v 0) (.n 4) C [_] B B B B)) λj r=>⟨j,kM (jb (zv F 4 C g)) r C C⟩
end
structure rZ(B:bD Ob)(ρ:Mk)(hB:HB)(fz:Fz)(V:c4)(xs:I af)(k:J)(lv:I (AV Ob))(m:af->bg aB)(cK:J->I au)(h:cf)(o:Ob)(v:aB)(fp:I au):Prop where
 S:aW B ρ hB fz V xs k lv m cK h
 ob:B.ob.at_ o v h fp
 fr:∀b∈fp,e9 B hB fz V xs cK b
theorem rZ.keep(p:rZ X F hB g G n k y m r h o v R)(Q:bF h O):rZ X F hB g G n k y m r O o v R:=
 ⟨p.S.um Q (Le.refl _) λb o e=>.inl e,X.frame p.ob (λb o e=>Q b o (p.S.base b o e)) λb _ o e=>Q b o e,p.fr⟩
theorem rZ.ok(p:rZ X F hB g G n k y m r h o v R):oJ X hB g G n r i R:=
 ⟨λb f=>k8 (p.fr b f).hb (p.fr b f).fz (p.fr b f).loc (p.fr b f).cell,λt _ O b f=>(p.fr b f).fp t O,λP s f=>(p.fr P f).tab s⟩
theorem rZ.no(p:rZ X F hB g G n k y m r h o v R)(e:h.get? b=aa):b∉R:=λq=>cY (aA mC e) (X.ob.live p.ob b q)
section
variable{c:Cx Ob}
theorem acW(eN:bK c.B c.Z c.w fZ)(cA:1<=c.n)(bE:c.y.DC "_law_stream" 21 (.ref S))(K:jH (c.B.re A) c.mg S b_ [])(cg:∀{L cF h},A.eJ L h->A.eJ cF h)(H:∀{L h},c.B.inv L h->TabAt h b_ #[]/\A.eJ L h)
  (F:Fm c.V a G cu)(q i:J)(aT:cu[q]?=D (("_law_stream":af),.globalImplicit))(j:a[i]?=D x)(bx:ak[i]?=D (.own (nT aq)))
  (aL:gm c.V)(l:aW c.B c.ρ aP w c.V a G ak d8 r s.heap)
  (bl:∀t st bz,bQ s t->rZ (c.B.re A) c.ρ aP w c.V a G (ak.set i .un) d8 (bV r i []) t.heap (.bB st aq 0) (.ref st) bz->bC (.ref st) t):
  aQ (aI c.Z c.w) c.A (eval (.Call (.Name "_law_stream" gc) [.Name x bH] [] bP) c.V) bC bU s:=by
 refine cps λ_ bY=>A9 bE λao o aC aE cB aF R dO=>?_;obtain⟨gi,dK,n,ez,e6,rfl,aK,bf,E⟩:=l.vars i x _ j bx;apply bY;have k:=(cG.mp j).1;refine ku (nW c.G aL l.base (F.kn q aT nofun) cB (F.kg q aT) (xU (fd:=docDef "_law_stream" (gw (bB 21)) (dF (bB 21)) (ef (bB 21)) aC (.ref S) aE) (o:=o) ?_));have v:=mS (pos:=bP) (V:=c.V) (e:=.Name x bH) (es:=[]) nofun;rw [v];refine tH (pS (eO (eL aL l.ns dK (lK ⟨⟨aF l.base,R⟩,?_⟩)) (F.eY j)));show aQ (aI c.Z c.w) c.A (call (.ref ao) [.ref n]) _ bU s;have u:=l.fp i k n (by exact(E)▸(RG n));have X:n∉c.B.tabs:=λh=>(l.tab n h).2.2.2.2 i k (by exact(E)▸(RG n));have B:=c.R.less cA;refine i4 (IQ B.d (aF l.base) R (c.G.nolimit l.base) (dO l.base) C (binds:=[(("octets":af),vB n)]) C C (λQ z=>?_) λbR ah=>?_)
 .rw [cO.mp z];have aj:(ef (bB 21)).names.lookup ("octets":af)=D .cell:=C;exact .inr ⟨aj,t6 _ _ [] (.inl aj)⟩
 refine acV (y:=c.y) B.deeper cg K C (C) (jM (C) C) (CH (ρ:=c.ρ) (xs:=u5) (tn:=[.bW (.ref n)]) (vs:=[.ref n]) (fd:=docDef "_law_stream" (gw (bB 21)) (dF (bB 21)) (ef (bB 21)) aC (.ref S) aE) (a:=ao) (s:=s) (s₁:=bR) (l9 (show ze (ef (bB 21)) u5=Y by decide+kernel)) C C l.ready (.cons (.bW _) .nil) (eA C) ah) C (show(if n∈c.B.tabs then aa else s.heap.get? n)=D (lo ez e6)by exact ae (aJ X) aK) (kC.of bf) H λt st d O y T g p cH cL cQ cV bh dB=>?_;have aH:∀b∈[st,d,O,y,T,g,p],s.heap.get? b=aa:=λb f=>bT (dB b f) λv ej=>v▸((aJ ej).symm);refine d5 ah.done λgU gV eG h8=>?_;have cZ:=bQ.trans (bQ.of eG) cH;have aN:=l.forget (i:=i);have P:=λb f=>aN.free (aH b f);have eu:e9 c.B aP w c.V a (bV r i []) n:=by
  refine⟨u.1,u.2.1,u.2.2.1,u.2.2.2,λm eR h=>?_,X,l.b0 u.1⟩
  by_cases e:m=i
  .have e:bV r i [] m=[]:=aM e;rw [e]at h;exact bA (h) dR
  .have q:bV r i [] m=r m:=aJ e;exact l.apart i m k eR (iC e) n (E▸.head _) (q▸h)
 have fj:=bO (P st (d9 0 C)) (bO (P d (d9 1 C)) (bO (P O (d9 2 C)) (bO (P y (d9 3 C)) (bO (P T (d9 4 C)) (bO (P g (d9 5 C)) (bO eu (bO (P p (d9 6 C)) eK)))))));have aX:∀{b},b∈[st,d,O,y,T,g,p]->b≠n:=λf h=>aV (h▸aH _ f) aK;refine bl t st [st,d,O,y,T,g,n,p] cZ ⟨(aN.re (H l.inv).2).grow (h':=t.heap) (λb f o e=>cL b o (by show(if b∈c.B.tabs then aa else s.heap.get? b)=D o;exact(aJ f).trans e)) cQ (Le.refl _) λb o e=>.inl e,?_,λb f=>?_⟩
 .show c.B.ob.at_ _ _ _ _;rw [eN.ob];refine(⟨C,d,O,y,T,g,n,p,cV,C,?_⟩:yf st aq 0 (.ref st) t.heap [st,d,O,y,T,g,n,p]);have e:[st,d,O,y,T,g,p]=[st,d,O,y,T,g]++[p]:=C;exact gv (gk.mp (e▸bh)) λfy fB a_=>(gk (l₁:=[st,d,O,y,T,g]) (l₂:=[n,p])).mpr (dI fy (.cons (bO (aX (d9 6 C)).symm eK) fB) (λx j Q z=>(cD.mp z).elim (λq=>q.symm▸aX (e▸gj _ j)) (a_ x j Q)))
 .have F:=fj b f;exact⟨F.hb,F.fz,F.loc,F.cell,F.fp,F.tab,F.h0⟩
theorem s5(x:bK c.B c.Z c.w O)(z:1<=c.n)(k:c.y.DC "_law_stream" 21 (.ref S))(K:jH (c.B.re A) c.mg S P [])(B:∀{L u h},A.eJ L h->A.eJ u h)(a:∀{L h},c.B.inv L h->TabAt h P #[]/\A.eJ L h)
  (F:Fm c.V bX 32 d6)(X:y[5]?=D (.own (nT bs)))(e:hB.lk=[])(i:SR c.B c.ρ hB g c.V bX 32 y s.heap)
  (R:∀t st,bQ s t->SR (c.B.re A) c.ρ hB g c.V bX 32 ((y.set 5 .un).set 7 (.obj (.bB st bs 0))) t.heap->Q .next t):
  aQ (aI c.Z c.w) c.A (exec (bI 5) c.V) Q H s:=by
 obtain⟨w,m,r,l⟩:=i;exact kr (acW x z k K B a F 34 5 C C X w l λo st v q p=>gh (av:=.obj _) w e p.S (C) (by decide) (.inr (F.kn 7 C nofun)) ⟨.ref st,C,p.ob⟩ p.ok λn b j f=>R n st (q.trans j) ⟨w,b,_,f⟩) C
theorem QL{st:au}(ek:bK c.B c.Z c.w a)(F:Fm c.V n k G)(i t:J)(O:G[t]?=D (L,.globalImplicit))(j:n[i]?=D x)(X:y[i]?=D (.obj (.bB st bs m)))(l:c.y.FO c.n L (.bB st bs m) [] z (.bB st bs b)):
  EE c n k y (.Call (.Name L p) [.Name x s] [] u) (y.set i (.obj (.bB st bs b))) z:=mU l λo q S w v R g=>⟨KU c.G c.R (F.kn t O nofun) w (F.kg t O) v R j (F.eY j) X (l6 C) lU X g λh e=>AO (y:=c.y) ek h e⟩
end
theorem u3{A:af}(B:G.kindOf A=D .cell):gY (.ListComp e f v u) (D (.Name A c)) h G=pure ay:=by
 show pure _=pure ay;rw [B,show(D NameKind.cell==D NameKind.local)=ay from C,Ia,Bool.false_and,Bool.false_and]
def vP(T:I J):J->I (I J)->Prop
 |_,[]=>True
 |m,l::s=>T[m]?=D l.length/\(T.drop (m+1)).take l.length=l/\l.length<=4/\vP T (m+1+l.length) s
noncomputable def Cp:J->I (I J)->J
 |m,[]=>m
 |m,l::s=>Cp (m+1+l.length) s
theorem aaY(h:H[d.length]?=D v):m9 d [i] y H=y.set i v:=by
 delta m9
 apply Rr;intro t;apply ae (Ry);rw [List.getElem?_set]
 by_cases q:i=t
 .subst q;cases X:y[i]? with
  |none=>rw [aM C,aJ (h9.mpr (afN.mp X))];rfl
  |some a=>
   rw [aM C,aM (cG.mp X).1];show D (if i∈[i]then _ else a)=_;rw [aM (.head _)];have:U d+[i].idxOf i=U d:=by rw [List.idxOf_cons_self];rfl
   rw [this,h];rfl
 .rw [aJ q];cases X:y[t]? with
  |none=>rfl
  |some a=>
   show D (if t∈[i]then _ else a)=_;rw [aJ λm=>q (cO.mp m).symm]
section
variable{c:Cx Ob}{st:au}{bs:I J}{lv:I (AV Ob)}
def vQ(c:Cx Ob)(st:au)(bs:I J):Prop:=∀{k:J}{l:I J},bs[k]?=D l.length->(bs.drop (k+1)).take l.length=l->l.length<=4->c.y.FO c.n "read_string1" (.bB st bs k) [] (.str l) (.bB st bs (k+1+l.length))
theorem s6(p:bK c.B c.Z c.w O)(F:Fm c.V bX 32 d6)(d:vQ c st bs){l:I J}(w:bs[m]?=D (U l))(v:(bs.drop (m+1)).take (U l)=l)(R:U l<=4)(j:lv[7]?=D (.obj (.bB st bs m))):
  ES c bX 32 lv (bI 6) ((lv.set 7 (.obj (.bB st bs (m+1+U l)))).set 8 (.t (.str l))) .next:=eM F 8 C (by decide) (QL p F 7 35 C C j (d w v R)) C
theorem abF{c:Cx Ob}(p:bK c.B c.Z c.w O)(d:vQ c st bs)(F:Fm c.V ["sign","stream"] 1 [(".0",.local),("sign",.local),("read_string1",.globalImplicit),("stream",.free)]):∀(s:I _)(j:I J)(m:J)(v:AV Ob),U j=U s->vP bs m s->
  Aq c ["sign","stream"] 1 (.Name "sign" x) [] (.Call (.Name "read_string1" b) [.Name "stream" B] [] u) (j.map λa=>T.str [a]) [v,.obj (.bB st bs m)] (s.map .str) [qk v (j.map λa=>T.str [a]),.obj (.bB st bs (Cp m s))]:=λe=>e.rec
 (λj m v h _=>by
  obtain rfl:=List.length_eq_zero_iff.mp h
  exact .nil)
 (λl s n j m v h i=>by
  cases j with
  |nil=>exact nomatch h
  |cons y j=>exact .go (iA F 0 C (gE 0)).1 KS (QL p F 1 2 C C C (d i.1 i.2.1 i.2.2.1)).1 (n j _ _ (Dt h) i.2.2.2))
theorem s7(p:bK c.B c.Z c.w O)(F:Fm c.V bX 32 d6)(d:vQ c st bs){o:I J}{G:I (I J)}(y:U o=U G)(g:U o=4)(i:vP bs m G)(j:lv[7]?=D (.obj (.bB st bs m)))(h:lv[8]?=D (.t (.str o))):
  ES c bX 32 lv (bI 7) ((lv.set 7 (.obj (.bB st bs (Cp m G)))).set 9 (.t (.list (G.map .str)))) .next:=
 eM F 9 C (by decide) (zf (HE ["sign"] ["stream"] [7] F C C C (xh (zv F 8 C h)) (cR.mpr ⟨aA BW j,C⟩) (λa x=>by
  have e:nS ["sign"] [7] lv=[.un,.obj (.bB st bs m)]:=by show [.un,lv[7]?.getD .un]=_;rw [j];rfl
  exact(e)▸(abF (c:=c.ff _ a) p d x G o m .un y i)) C C (eU (by rw [dg,g];exact az C)) (aaY C))) (u3 (F.kn 9 C nofun))
end
def uY(a:J):I J:=iI [(ng a).r]
noncomputable def iy(o w:I J):I J:=(dm 4).filter λt=>aO (o.getD t 0∈w)
theorem r4:q_ (0,4,1)=(dm 4).map (λ(p:J)=>T.int p):=C
theorem OF:sQ (0,4,1)=Y:=C
theorem oj{c:Cx q}(F:Fm c.V n k G)(t:J)(O:G[t]?=D (("range":af),.globalImplicit)):EI ay c n k y (.Call (.Name "range" p) [.Constant (.int 4) v h] [] u) y ((dm 4).map λ(p:J)=>T.int p):=zB (s_ F t O (zr (zi 4) cU C) C OF C) r4
theorem jj(h:t∈dm 4):t<4/\t<2^60:=⟨fm.mp h,eI (fm.mp h) (az C)⟩
theorem qV{o:I J}(g:U o=4){t:J}(h:t<4):o[t]?=D (o.getD t 0):=by rw [tB,dD (g.symm▸h)];rfl
theorem get_mem{o:I J}(g:U o=4)(h:t<4):o.getD t 0∈o:=cN (qV g h)
theorem get_map{R:Type}{l:I R}{d:R}{L:R->T}(h:t<U l):(l.map L)[t]?=D (L (l.getD t d)):=by apply ae (jr);rw [tB,dD h];rfl
section
variable{c:Cx O}{lv:I (AV O)}{ab:I J}{ws:I (I J)}
theorem s8(F:Fm c.V bX 32 d6)(e:∀r d,∀a∈ab,CN (c.ff r d) "_law_plain" [.str [a]] (.str (pq a)))(i:∀r d,∀a∈ab,CN (c.ff r d) "translate" [.str (42::(pq a++[42]))] (.str (uY a)))(g:U ab=4)(G:lv[8]?=D (.t (.str ab))):
  ES c bX 32 lv (bI 8) (lv.set 10 (.t (.list ((ab.map uY).map .str)))) .next:=by
 rw [dH];exact eM F 10 C (by decide) (zf (jT "sign" [] [] _ F C C C (xh (zv F 8 C G)) C (λh o a u=>nv o 2 C (zr (fh (fh (zs [42] (cS ['*'])) (nv o 3 C (zr (zv o 0 C C) cU C) (e _ h a u) C) (pC (aD (iL (GD a) 1) (az C)))) (zs [42] (cS ['*'])) (pC (by rw [cC];exact aD (rK (iL (GD a) 1) 1) (az C)))) cU C) (i _ h a u) C) C (g▸az C))) (u3 (F.kn 10 C nofun))
theorem s9(F:Fm c.V bX 32 d6)(i:∀r d x B,∀a∈ab,∀w∈ws,CN ((c.ff r d).ff x B) "_law_takes" [.str (uY a),.str w] (.bool (aO (a∈w))))(g:U ab=4)(y:U ws<=4)(L:lv[9]?=D (.t (.list (ws.map .str))))(G:lv[10]?=D (.t (.list ((ab.map uY).map .str)))):
  ES c bX 32 lv (bI 9) (lv.set 11 (.t (mL (ws.map (iy ab))))) .next:=by
 show ES _ _ _ _ _ (lv.set 11 (.t (.list ((ws.map _).map nL)))) _;rw [dH]
 exact eM F 11 C (by decide) (zf (jT "image" ["stars"] [10] _ F C C C (jb (zv F 9 C L)) (eP G C) (λh o w y=>zf (ny "j" ["image","stars"] [0,1] (λt:J=>T.int t) _ o C C C
  (oj o 2 C) (eP C (eP (aA D (gd G)) C))
  (λe H t O=>lD (nv H 2 C (zr (dU (zv H 2 C (aA D (gd (lv:=lv) (i:=10) G))) (zv H 0 C C) (fR (jj O).2 (by rw [dH];exact get_map (d:=0) (g.symm▸(jj O).1))) C) (zr (zv H 1 C C) cU C) C) (i _ h _ e _ (get_mem g (jj O).1) w y) C) C λ_=>C) (λe H t O _=>zv H 0 C C) C (az C))) C (aD y (az C)))) (u3 (F.kn 11 C nofun))
end
theorem Lb(H:I AN)(l:I J):U (e_ H l)<=U H+1:=by delta e_;split<;>simp
theorem Jo(H:I AN)(y:I J):∀(a:I _),U (jI H y a)<=U H+1+U a:=by
 intro a
 delta jI
 have n:U (lu (e_ H y) y a.length)<=U H+1:=by delta lu;rw [dg];exact Lb H y
 generalize lu _ y (U a)=T at n;have:∀(S:I _)(T:I AN)(k:J),U T<=k->U (S.foldl (λH p=>iZ (e_ H p) p y) T)<=k+U S:=by
  intro S
  induction S with
  |nil=>intro T k h;simpa using h
  |cons p S e=>
   intro T k h;have:=e (iZ _ p y) (k+1) (by delta iZ;rw [dg];have:=Lb T p;exact d_ 0 (.v 2) (.a (.v 1) (.n 1)) (.v 0) (.v 1) (.v 2) (.a (.v 0) (.n 1)) C [_,_,_] h this);exact cT 0 (.v 0) (.a (.v 1) (.a (.v 2) (.n 1))) (.v 0) (.a (.a (.v 1) (.n 1)) (.v 2)) C [_,_,_] this
 exact this a T _ n
theorem Jp(y:I J)(e:I _)(h:∀a∈H,U a.2.2<=k):∀a∈jI H y e,U a.2.2<=k+U e:=by
 have L:∀(T:I AN)(l:I J)(k:J),(∀a∈T,U a.2.2<=k)->∀a∈e_ T l,U a.2.2<=k:=λT l k h a u=>by
  delta e_ at u
  split at u
  .exact h a u
  .rcases fE.mp u with u|u
   .exact h a u
   .rw [cO.mp u];simp
 have z:∀a∈lu (e_ H y) y (U e),U a.2.2<=k:=λa u=>by
  refine ai (dZ.mp u) λb f d=>?_;subst d;have:=L H y k h b f
  split<;>exact this
 delta jI
 generalize lu _ y (U e)=T at z;have:∀(S:I (I J))(T:I AN)(k:J),(∀a∈T,U a.2.2<=k)->∀a∈S.foldl (λH p=>iZ (e_ H p) p y) T,U a.2.2<=k+U S:=by
  intro S
  induction S with
  |nil=>intro T k h;simpa using h
  |cons p S n=>
   intro T k h a u
   have:=n (iZ _ p y) (k+1) (λa u=>by
    refine ai (dZ.mp u) λb f d=>?_;subst d;have:=L T p k h b f
    split
    .simp;exact this
    .exact cT 0 (.v 0) (.a (.v 1) (.n 1)) (.v 0) (.v 1) C [_,_] this) a u
   exact cT 0 (.v 0) (.a (.v 1) (.a (.v 2) (.n 1))) (.v 0) (.a (.a (.v 1) (.n 1)) (.v 2)) C [_,_,_] this
 exact this e T k z
def kY(o:I J)(a:J->I J)(H:I AN)(k:J):I AN:=jI H [o.getD k 0] ((a k).map λt=>[o.getD t 0])
section
variable{c:Cx Ob}{lv:I (AV Ob)}{ab:I J}{ws:I (I J)}
def x8(c:Cx Ob)(O:Cl):Prop:=∀E Q(y:I J)(a:I _),Q.length+a.length<=900->(∀h∈Q,h.2.2.length+a.length<=900)->Ai c O "add" (.bL E Q aa 0 0) (.str y::a.map .str) λX r=>X=.bL E (jI Q y a) aa 0 0/\r=.none
theorem s10(p:bK c.B c.Z c.w O)(z:u+2<=c.n)(F:Fm c.V bX 32 d6)(f:c.mg "TopologicalSorter"=D (.ref O.bq))(R:(("__init__":af),q)∈O.fs)(l:∀E d,e8 c.B c.Z c.w (u+1) (.ref q) (.gQ E d 0) [] λX r=>X=.bL E [] aa 0 0/\r=.none):
  SP c bX 32 lv (bI 10) λx A=>∃E,x=lv.set 12 (.obj (.bL E [] aa 0 0))/\A=.next:=QE p z F 12 36 C f R l C (by decide) C
theorem Pr:∀t∈iy ab w,t<4:=λt h=>fm.mp (f9.mp h).1
theorem G7:U (iy ab w)<=4:=aD (ki _ _) (dz _)
theorem Li(h:k<U ws):((ws.map (iy ab)).map nL)[k]?=D (nL (iy ab (ws.getD k []))):=by rw [dH];exact get_map h
theorem S_(p:bK c.B c.Z c.w ak)(K:x8 c ak)(F:Fm c.V bX 32 d6)(g:U ab=4)(y:U ws=4):∀(f:I J)(lv:I _)(Q:I AN)(m:J)(v:AV Ob),U lv=32->lv[8]?=D (.t (.str ab))->lv[11]?=D (.t (mL (ws.map (iy ab))))->lv[12]?=D (.obj (.bL E Q aa 0 0))->lv[13]?=D v->(∀k∈f,k<4)->U Q<=m->(∀a∈Q,U a.2.2<=m)->m+5*U f<=800->
  ∃j,jE c bX 32 (oV (D (bI 11))) (iq (D (bI 11))) (f.map λ(k:J)=>T.int k) lv ((lv.set 13 j).set 12 (.obj (.bL E (f.foldl (kY ab λk=>iy ab (ws.getD k [])) Q) aa 0 0))) .next:=λaq=>aq.rec
 (λlv Q m v X G u s o h H e B=>⟨v,by
  rw [pD o,show([]).foldl (kY ab λk=>iy ab _) Q=Q from C,pD s];exact mq⟩)
 (λk f aj lv Q m v X G u s o h H e B=>by
  have i:=h k (.head _);rw [gB]at B;have S:=gs (x:=.t (.int k)) (j:=13) G (by decide);have l:=gs (x:=.t (.int k)) (j:=13) u (by decide);have n:=gs (x:=.t (.int k)) (j:=13) s (by decide);have w:(lv.set 13 (.t (.int k)))[13]?=D (.t (.int k)):=jt (by rw [X];decide);have x:U ((iy ab (ws.getD k [])).map λt=>[ab.getD t 0])<=4:=by rw [dg];exact G7
  refine v5 (K E Q [ab.getD k 0] ((iy ab (ws.getD k [])).map λt=>[ab.getD t 0]) (by exact jP 0 (.a (.v 0) (.v 3)) (.n 900) (.v 0) (.v 1) (.a (.v 1) (.m 5 (.a (.v 2) (.n 1)))) (.n 800) (.v 3) (.n 4) C [_,_,_,_] H B x) (λa b=>by have:=e a b;exact jP 0 (.a (.v 3) (.v 2)) (.n 900) (.a (.v 0) (.m 5 (.a (.v 1) (.n 1)))) (.n 800) (.v 2) (.n 4) (.v 3) (.v 0) C [_,_,_,_] B x this)) λaH aC aE z R ah d P=>?_;have A:k<2^60:=eI i (az C);have L:U (lv.set 13 (AV.t (T.int k)))=32:=by rw [pP,X]
  refine bG (aj ((lv.set 13 (.t (.int k))).set 12 (.obj (.bL E (kY ab (λk=>iy ab (ws.getD k [])) Q k) aa 0 0))) _ (m+5) (.t (.int k)) (by rw [pP,L]) (gs S (by decide)) (gs l (by decide)) (jt (by rw [L];decide)) (gs w (by decide)) (λao b=>h ao (.tail _ b)) (aD (Jo _ _ _) (aD (iB (ju H) x) (fq (vp m 1 4)))) (λa b=>aD (Jp _ _ e a b) (iL (aD x (az C)) m)) (by exact cT 0 (.a (.a (.v 0) (.n 5)) (.m 5 (.v 1))) (.n 800) (.a (.v 0) (.m 5 (.a (.v 1) (.n 1)))) (.n 800) C [_,_] B)) λj r=>⟨j,?_⟩;rw [wQ (by decide)]at r
  exact j_ (iA F 13 C (by decide)) (fb (HO (c:=c) (o':=.bL E (kY ab (λk=>iy ab (ws.getD k [])) Q k) aa 0 0) p F 12 C n z R (by decide) C ah d
   (JC (dU (zv F 8 C S) (zv F 13 C w) (jk A (qV g i)) C)
    (zf (jT "j" ["told"] [8] (λt=>T.str [ab.getD t 0]) (us:=iy ab (ws.getD k [])) (g:=λt:J=>T.int t) F C C C (jb (dU (zv F 11 C l) (zv F 13 C w) (fR A (Li (y.symm▸i))) C)) (eP S C)
     (λaF q t O=>dU (zv q 1 C (aA D (gd S))) (zv q 0 C C) (jk (eI (Pr t O) (az C)) (qV g (Pr t O))) C) C (aD G7 (az C)))) (by rw [dg];exact aD G7 (az C)) C)
   n (by rw [dH]at P;exact P) C C) C) r)
theorem s11(p:bK c.B c.Z c.w O)(K:x8 c O)(F:Fm c.V bX 32 d6)(g:U ab=4)(y:U ws=4)(X:U lv=32)(G:lv[8]?=D (.t (.str ab)))(u:lv[11]?=D (.t (mL (ws.map (iy ab)))))(h:lv[12]?=D (.obj (.bL E [] aa 0 0)))(s:lv[13]?=D v):
  ∃j,ES c bX 32 lv (bI 11) ((lv.set 13 j).set 12 (.obj (.bL E ((dm 4).foldl (kY ab λk=>iy ab (ws.getD k [])) []) aa 0 0))) .next:=
 bG (S_ p K F g y _ lv [] 0 v X G u h s (λk m=>fm.mp m) (dz _) (λa m=>nomatch m) (az C)) λj r=>⟨j,kM (oj F 37 C) r C C⟩
end
section
variable{c:Cx Ob}
theorem Ql(B:gZ c G)(F:Fm c.V n k bf)(i t:J)(O:bf[t]?=D (L,.globalImplicit))(j:n[i]?=D x)(a_:y[i]?=D (.obj o))(aj:c.mg L=D (.ref a))(T:∀{h},bF c.B.h₀ h->h.get? a=D u)(ak:u.data=.func ao)
  (aC:mH c.B c.Z c.w c.n (.ref a) o [] bU λm r=>m=X/\r=D q):EE c n k y (.Call (.Name L cu) [.Name x d] [] bP) (y.set i (.obj X)) q:=by
 constructor;intro cF p E bR b_ S R;refine ku (nW c.G S.1 S.ready.base (F.kn t O nofun) aj (F.kg t O) (xU (fd:=ao) (o:=u) (mS (e:=.Name x d) nofun▸tH (pS (cps λbY Q=>?_)))));obtain⟨w,P,ah,l⟩:=S;obtain⟨cg,z,e,rfl,aq⟩:=l.vars i x _ j a_;have A:=j4 j;refine Q (eO (eL w l.ns z (lK ⟨⟨T l.base,ak⟩,(i4 (aC c.A c.ρ p e [] _ E (ah i) [c.V.locals] G (l.EN B A) c.R l.ready aq (l.uf A) .nil λaE v cA m r cB aF g H aK aL aN aP aT aX s aH=>?_))⟩)) (F.eY j));obtain⟨rfl,rfl⟩:=aF;refine ai aH λbh bl bx=>?_;subst bl;exact R aE v bh g H ⟨w,P,_,l.wZ j (λb bC bz bE o T=>aK b bC bz (λbH=>bE (cO.mp bH)) o T) (G4 aL (.head _) l.ns) aN H aP aT z ⟨e,C,aX⟩ λb f=>⟨(s b f).1.imp id l.free,(s b f).2⟩⟩ bx
theorem Qi(F:Fm c.V n k G)(i t:J)(j:n[i]?=D x)(A:i<k)(L:n[t]?=D H)(O:t<k)(a:EE c n k b e P (.tup [q,o]))(B:swapsWithSole [.Tuple [.Name x h,.Name H r] E w] e u.line c.V=pure ay)(y:swappedStores [.Tuple [.Name x h,.Name H r] E w] e c.V=pure aa):
  ES c n k b (.Assign [.Tuple [.Name x h,.Name H r] E w] e u) ((P.set i (.t q)).set t (.t o)) .next:=
 ⟨KQ a.1 (KA c.R.handled j A (F.loc j A) L O (F.loc L O)) B y⟩
def DT(c:Cx Ob):Prop:=∀{E:au}{Q:I AN}{T m:J}{o b},nQ Q=Y->lW Q T=D o->m8 o=Y->Q.length<=800->n6 m Q (eB Q) []=D b->
 ∃a u S,c.mg "_law_rounds"=D (.ref a)/\(∀{h},bF c.B.h₀ h->h.get? a=D u)/\u.data=.func S/\mH c.B c.Z c.w c.n (.ref a) (.bL E Q aa 0 0) [] .none λX r=>X=.bL E (ik m Q (eB Q) 0).1 (D []) (ik m Q (eB Q) 0).2 (ik m Q (eB Q) 0).2/\r=D (.tup [.bool o.isSome,.list (gL b)])
theorem s12(i:gZ c [])(F:Fm c.V bX 32 d6)(K:DT c)(w:nQ Q=Y)(v:lW Q fuel=D o)(h3:m8 o=Y)(g:U Q<=800)(s:n6 m Q (eB Q) []=D b)(h:y[12]?=D (.obj (.bL E Q aa 0 0))):
  ES c bX 32 y (bI 12) (((y.set 12 (.obj (.bL E (ik m Q (eB Q) 0).1 (D []) (ik m Q (eB Q) 0).2 (ik m Q (eB Q) 0).2))).set 14 (.t (.bool o.isSome))).set 15 (.t (.list (gL b)))) .next:=
 mU (@K E _ _ _ _ _ w v h3 g s) λx u S a e z l=>Qi F 14 15 C (az C) C (by decide) (Ql i F 12 38 C C h a e z l) C C
end
section
open Builtin Builtin.Str
theorem aaI(w:I J)(a:J):∀(n k:J)(st:iO J×J),k+n=U w+1->st.2<=k->st.1.size<=k->(forIn (zV k n) st (Se ⟨w.toArray⟩ ⟨[a].toArray⟩ (U w) (U w+1))).run.fst.size=st.1.size+(w.drop k).count a:=λn=>n.rec
 (λk st h _ _=>by
  have h:k+0=U w+1:=h
  rw [vm (by exact cT 0 (.v 1) (.v 0) (.a (.v 1) (.n 1)) (.a (.v 0) (.n 0)) C [_,_] ((o9 h)))];rfl)
 (λn i k st h v R=>by
  rw [af0,Rx]
  delta Se
  have x:=AM (o:=a) (i:=k) (hi:=U w) (dz _)
  by_cases c:k+1<=U w/\w[k]?=D a
  .have L:=x.mpr c;rw [aM ⟨⟨⟨by exact d_ 0 (.a (.v 3) (.n 1)) (.a (.v 2) (.n 1)) (.a (.v 0) (.a (.v 1) (.n 1))) (.a (.v 2) (.n 1)) (.v 3) (.v 0) C [_,_,_,_] ((iU h)) R,v⟩,L.1⟩,L.2⟩];have e:w.drop k=a::w.drop (k+1):=by apply ae (xF (by exact c.1));have:=cG.mp c.2;rw [this.2]
   apply ae (i (k+1) (st.1.push k,k+1) (by exact fS (cT 0 (.a (.a (.v 0) (.n 1)) (.v 1)) (.a (.v 2) (.n 1)) (.a (.v 0) (.a (.v 1) (.n 1))) (.a (.v 2) (.n 1)) C [_,_,_] ((iU h))) (cT 0 (.a (.v 2) (.n 1)) (.a (.a (.v 0) (.n 1)) (.v 1)) (.a (.v 2) (.n 1)) (.a (.v 0) (.a (.v 1) (.n 1))) C [_,_,_] ((o9 h)))) (dz _) (by rw [Q0];exact cT 0 (.a (.v 1) (.n 1)) (.a (.v 0) (.n 1)) (.v 1) (.v 0) C [_,_] R));simp only [Q0,e,afF];exact fS (eF (.a (.a (.v 0) (.n 1)) (.v 1)) (.a (.v 0) (.a (.v 1) (.n 1))) C [_,_]) (eF (.a (.v 0) (.a (.v 1) (.n 1))) (.a (.a (.v 0) (.n 1)) (.v 1)) C [_,_])
  .rw [aJ λq=>c (x.mp ⟨q.1.2,q.2⟩)];refine ae (i _ st (by exact fS (cT 0 (.a (.a (.v 0) (.n 1)) (.v 1)) (.a (.v 2) (.n 1)) (.a (.v 0) (.a (.v 1) (.n 1))) (.a (.v 2) (.n 1)) C [_,_,_] ((iU h))) (cT 0 (.a (.v 2) (.n 1)) (.a (.a (.v 0) (.n 1)) (.v 1)) (.a (.v 2) (.n 1)) (.a (.v 0) (.a (.v 1) (.n 1))) C [_,_,_] ((o9 h)))) (by exact cT 0 (.v 1) (.a (.v 0) (.n 1)) (.v 1) (.v 0) C [_,_] v) (by exact cT 0 (.v 1) (.a (.v 0) (.n 1)) (.v 1) (.v 0) C [_,_] R)) (aA _ ?_)
   by_cases q:k<U w
   .rw [xF q,afE];intro e;exact c ⟨q,by apply ae (dD q);exact aA D e⟩
   .rw [vm (by exact cT 0 (.v 1) (.a (.v 0) (.n 1)) (.v 1) (.v 0) C [_,_] ((iM q))),vm (by exact(iM q))])
theorem UC(w:I J)(a:J):U (occurrences ⟨w.toArray⟩ ⟨[a].toArray⟩ 0 w.length (w.length+1))=w.count a:=by
 rw [IM,Array.length_toList,aaI w a _ 0 (#[],0) (by exact fS (cT 0 (.a (.n 0) (.v 1)) (.a (.v 0) (.n 1)) (.v 1) (.a (.v 0) (.n 1)) C [_,_] B4) (cT 0 (.a (.v 0) (.n 1)) (.a (.n 0) (.v 1)) (.a (.v 0) (.n 1)) (.a (.v 1) (.n 0)) C [_,_] m6)) (dz _) (dz _)];exact jv _
variable{c:Cx O}
theorem aeF(T:EE c n k y o P (.str w))(h:EE c n k P e X (.str [a]))(f:attributeBase o "count" c.V (eval o c.V)=eval o c.V)(L:dP e=Y)(E:(A.endLine==u.line)=Y):
  EE c n k y (.Call (.Attribute o "count" A) [e] [] u) X (.int (w.count a:J)):=
 xj agC PySem.F.type_str_count T (zr h cU L) f (by simp [L]) (dN _ _) E λg v z d b=>by
  refine ai b.ja λl j q=>?_;subst j;refine bG (jg d) λx j=>bG (jg q) λs i=>?_;subst j i;refine PO.give λt Q H r R=>Sm agC (tK _ _ _) PySem.F.entry_str_count (PySem.F.args_str_count_2 _ _) (gives_str_count _ _ _ _) ?_;have e:U (occurrences _ _ 0 (⟨w.toArray⟩:af).length ((⟨w.toArray⟩:af).length+1))=w.count a:=UC w a;rw [e];exact R _ _ (.int _ _)
noncomputable def fu(o:I J)(G:I (I J)):I (I J):=G.map λw=>o.map (w.count)
variable{lv:I (AV O)}{ab:I J}{ws:I (I J)}
theorem s13(F:Fm c.V bX 32 d6)(g:U ab=4)(y:U ws<=4)(v:lv[2]?=D (.t (.str ab)))(q:lv[4]?=D (.t (.list (ws.map .str)))):ES c bX 32 lv (bI 13) (lv.set 16 (.own ((fu ab ws).map nL))) .next:=by
 delta fu
 rw [dH];refine C3 "word" ["letters"] [2] (λw=>nL _) F C C C (jb (zv F 4 C q)) (eP v C) (λd o w i=>(gJ (zf (jT "letter" ["word"] [0] (λa:J=>T.int (w.count a:J)) (us:=ab) (g:=λa:J=>T.str [a]) o C C C (xh (zv o 1 C (aA D (gd (lv:=lv) (i:=2) v)))) C (λe H a u=>?_) C (g▸az C))) (aA T.list (by rw [dH];rfl)))) C (aD y (az C)) C (by decide) (i':=16) C C C;exact aeF (zv H 1 C C) (zv H 0 C C) C C C
end
def Oj(T:I (I J)):I (I J):=jC T T
def Ol(T:I (I J)):I (I J):=jC (Oj T) T
def jB(T:I (I J)):I (I J):=jC (Ol T) T
def fW(T:I (I J)):I (I (I J)):=[w5,T,Oj T,Ol T,jB T]
theorem adb{x H:af}(j:G.kindOf x=D .cell):swappedStores [.Tuple [.Name x c,.Name H r] E k] (.Tuple Q k₂ n) G=pure aa:=by
 refine L_ (L_ (aM (Dc.mpr (.inl ?_))));have t:=afI (l:=[zN H r]) (a:=zN x c) (f:=λe=>match e with|.Name id u=>if G.kindOf id==D .local&&u.line==c.line then D id else aa|_=>aa) (aJ λq=>nc NameKind.ctorIdx (bj (ae j.symm (beq_iff_eq.mp (cR.mp q).1))) C)
 by_cases q:(G.kindOf H==D NameKind.local&&r.line==c.line)=Y
 .exact aA (λl:I af=>U l !=2) (ae t (Ir (aM q)))
 .exact aA (λl:I af=>U l !=2) (ae t (afI (aJ q)))
theorem EH(t k:J):gb .Eq (.int (t)) (.int (k:aS))=D (aO (t=k)):=aA D (by rw [oz,rS];exact beq_iff_eq.trans Im)
noncomputable def FH(T:I (I J)):J->I (I (I J))->I (I J)->I (I (I J))
 |0,S,L=>S++[L]
 |u+1,S,L=>FH T u (S++[L]) (jC L T)
section
variable{c:Cx O}{lv:I (AV O)}{M:I (I J)}
theorem s14(F:Fm c.V bX 32 d6)(a:lv[16]?=D (.t (mL M))):ES c bX 32 lv (bI 14) (lv.set 17 (.own [mL w5,mL M])) .next:=by
 exact ve F 17 C (by decide) (rz (zr (gJ (zf (jT "k" [] [] (λk:J=>nL _) F C C C (oj F 37 C) C (λd o k B=>(gJ (zf (jT "j" ["k"] [0] (λt:J=>T.int (if t=k then 1 else 0:J)) (us:=dm 4) (g:=λp:J=>T.int p) o C C C (oj o 2 C) C (λe H t O=>Qp (b:=aO (t=k)) (zC (zv H 0 C C) (zv H 1 C C) (EH t k) C) _ (by by_cases q:t=k;rw [cM q,aM C,aM q];rfl;rw [ee q,aJ nofun,aJ q];rfl)) C (az C))) (aA T.list (by rw [dH];rfl)))) C (az C))) C) (zr (zv F 16 C a) cU C) C) C) C
def vU(c:Cx O):Prop:=∀L M,Tab (2^1000) L->Tab (2^1000) M->CN c "_law_times" [mL L,mL M] (mL (jC L M))
theorem abk(F:Fm c.V bX 32 d6)(K:vU c)(u:Tab (2^1000) L)(R:Tab (2^1000) M)(X:U lv=32)(x:S.length<=100)(a:lv[16]?=D (.t (mL M)))(h:lv[17]?=D (.own ((S++[L]).map mL))):
  EX c bX 32 (lv.set 18 t) (iq (D (bI 15))) ((lv.set 18 t).set 17 (.own ((S++[L]++[jC L M]).map mL))) .next:=by
 have e:=gs (x:=t) (j:=18) h (by decide);apply fb (u9 F 17 C e (nv F 39 C (zr (zF F 17 C e (C6 (vf 1)) (GR (by rw [eW,cC];exact afM)) C) (zr (zv F 16 C (gs (x:=t) (j:=18) a (by decide))) cU C) C) (K L M u R) C) e C C (eU (by rw [dg,cC];exact aD (rK x 1) (az C))));rw [eW (l₂:=[jC L M])];rfl
theorem r3:q_ (0,3,1)=[T.int (0:J),T.int (1:J),T.int (2:J)]:=C
theorem r2:q_ (0,2,1)=[T.int (0:J),T.int (1:J)]:=C
theorem abj(F:Fm c.V bX 32 d6)(K:vU c)(R:Tab 4 M):∀(p:I T)(lv:I _)(S:I _)(L:I _)(b:J)(v:AV O),Tab b L->b*16^U p<=2^1000->U lv=32->U S+U p<=100->lv[16]?=D (.t (mL M))->lv[17]?=D (.own ((S++[L]).map mL))->lv[18]?=D v->
  ∃j,jE c bX 32 (oV (D (bI 15))) (iq (D (bI 15))) p lv ((lv.set 18 j).set 17 (.own ((FH M (U p) S L).map mL))) .next:=λs=>s.rec
 (λlv S L b v u f X h a e x=>⟨v,by rw [pD x,show FH M (U ([]:I T)) S L=S++[L]from C,pD e];exact mq⟩)
 (λt p n lv S L b v u f X h a e x=>by
  simp only [gB]at f h;have i:U (lv.set 18 (.t t))=32:=by apply ae (pP);rw [X]
  refine bG (n ((lv.set 18 _).set 17 (.own ((S++[L]++[jC L M]).map mL))) _ _ _ _ (nq u R) (by rw [show 4*(b*4)=b*16 by exact fS (eF (.m 4 (.r (.v 0) 4)) (.r (.v 0) 16) C [_]) (eF (.r (.v 0) 16) (.m 4 (.r (.v 0) 4)) C [_]),IH,II 16];exact f) (by apply ae (pP);rw [i]) (by rw [cC];show _+1+_<=_;exact cT 0 (.a (.a (.v 0) (.n 1)) (.v 1)) (.n 100) (.a (.v 0) (.a (.v 1) (.n 1))) (.n 100) C [_,_] h) (gs (gs a (by decide)) (by decide)) (jt (by simp only [i];decide)) (gs (jt (by rw [X];decide)) (by decide))) λj r=>⟨j,?_⟩;rw [wQ (by decide)]at r
  exact j_ (iA F 18 C (by decide)) (abk F K (u.mono (aD (af' b (Nat.pow_pos (by decide))) f)) (R.mono (by decide+kernel)) X (by exact cT 0 (.v 0) (.n 100) (.a (.v 0) (.a (.v 1) (.n 1))) (.n 100) C [_,_] h) a e) r)
theorem s15(F:Fm c.V bX 32 d6)(K:vU c)(R:Tab 4 M)(X:U lv=32)(a:lv[16]?=D (.t (mL M)))(h:lv[17]?=D (.own [mL w5,mL M]))(e:lv[18]?=D v):∃j,ES c bX 32 lv (bI 15) ((lv.set 18 j).set 17 (.own ((fW M).map mL))) .next:=
 bG (abj F K R [T.int _,T.int _,T.int _] lv [w5] M 4 v R (by decide+kernel) X (az C) a h e) λj r=>⟨j,kM (zB (s_ F 37 C (zr (zi 3) cU C) C C C) r3) r C C⟩
def lj(M:I (I J)):I (I J):=(dm 4).map λk=>(dm 4).map λt=>((dm 4).map λu=>cJ ((fW M).getD u []) k t).sum
theorem wG(u:Tab b L){k t:J}(B:k<4)(O:t<4):(L.map nL)[k]?=D (nL (L.getD k []))/\((L.getD k []).map λ(x:J)=>T.int x)[t]?=D (.int (cJ L k t:J)):=
 ⟨getM (u.l.symm▸B),E3 ((u.r _ (getD_mem' (u.l.symm▸B))).1.symm▸O)⟩
theorem wW(R:Tab 4 M):∀L∈fW M,Tab (2^20) L:=by
 have c:=nq R R;have l:=nq c R;have i:=nq l R;exact bO (adg.mono (az C)) (bO (R.mono (by decide)) (bO (c.mono (by decide)) (bO (l.mono (az C)) (bO (i.mono (az C)) eK))))
theorem uh(z:u<5):((fW M).map mL)[u]?=D (mL ((fW M).getD u [])):=get_map z
theorem s16(F:Fm c.V bX 32 d6)(R:Tab 4 M)(h:lv[17]?=D (.t (.list ((fW M).map mL)))):ES c bX 32 lv (bI 16) (lv.set 20 (.t (mL (lj M)))) .next:=by
 refine eM F 20 C (by decide) (gJ (zf (jT "k" ["powers"] [17] (λk:J=>nL _) F C C C (oj F 37 C) (eP h C) (λd o k B=>(gJ (zf (jT "j" ["k","powers"] [0,1] (λt:J=>T.int (((dm 4).map λu=>cJ ((fW M).getD u []) k t).sum:J)) (us:=dm 4) (g:=λp:J=>T.int p) o C C C (oj o 2 C) (eP (a:=.int k) C (eP (a:=.list ((fW M).map mL)) (show D (lv[17]?.getD .un)=_ from aA D (gd h)) C)) (λe H t O=>?_) C (az C))) (aA T.list (by rw [dH];rfl)))) C (az C))) (aA T.list (by delta lj;rfl))) (u3 (F.kn 20 C nofun));refine gJ (xm H 2 C (zf (jT "n" ["j","k","powers"] [0,1,2] (λu:J=>T.int _) H C C C (oj H 3 C) (eP C (eP C (eP (show D (lv[17]?.getD .un)=_ from aA D (gd h)) C))) (λx n u z=>?_) C (az C))) (ae (aA kG (by simp only [dH];rfl)) (ints_map ((dm 4).map λu=>((cJ _ k t))))) C) (aA T.int (by rw [<-yj,dH];rfl));have i:=jW (jj z).1;have a:=wG (wW R _ (getD_mem' (d:=[]) (M:=fW M) (j:=u) i)) (jj B).1 (jj O).1;exact dU (dU (dU (zv n 3 C (aA D (gd (i:=17) h))) (zv n 0 C C) (fR (jj z).2 (uh i)) C) (zv n 2 C C) (fR (jj B).2 a.1) C) (zv n 1 C C) (fR (jj O).2 a.2) C
end
def ql(T:I (I J)):I (I J):=jC (jB T) (lj T)
def GC(T:I (I J)):I (I J):=jC (jB T) (jB T)
def q6(T:I (I J)):I (I J):=jC (GC T) (GC T)
section
variable{c:Cx O}{lv:I (AV O)}{M:I (I J)}{ab:I J}
theorem CQ(R:Tab 4 M):Tab (2^22) (lj M):=by
 refine⟨by delta lj;rw [dg,xJ],λr s=>(ai (dZ.mp s) λk B e=>?_)⟩;subst e;refine⟨by rw [dg,xJ],λx j=>(ai (dZ.mp j) λt O e=>?_)⟩;subst e;have h:∀u,u<5->cJ ((fW M).getD u []) k t<2^20:=λu z=>(wW R _ (getD_mem' z)).of (jj B).1 (jj O).1;exact eI (Jb (f:=λu=>cJ ((fW M).getD u []) k t) λu z=>h u (jW z)) (az C)
theorem rj(R:Tab 4 M):Tab (2^20) (jB M):=wW R _ (d9 4 C)
theorem s17(F:Fm c.V bX 32 d6)(K:vU c)(R:Tab 4 M)(h:lv[17]?=D (.t (.list ((fW M).map mL))))(e:lv[20]?=D (.t (mL (lj M)))):ES c bX 32 lv (bI 17) ((lv.set 21 (.t (mL (ql M)))).set 22 (.t (mL (jB M)))) .next:=
 ⟨KQ (Bc (zr (nv F 39 C (zr (dU (zv F 17 C h) (zi (4)) (fR (i:=4) (by decide) (uh (by decide))) C) (zr (zv F 20 C e) cU C) C) (K _ _ ((rj R).mono (by decide+kernel)) ((CQ R).mono (by decide))) C) (zr (dU (zv F 17 C h) (zi (4)) (fR (i:=4) (by decide) (uh (by decide))) C) cU C) C).1 C) (KA c.R.handled C (az C) (.inr (F.kn 21 C nofun)) C (by decide) (.inl (F.kn 22 C nofun))) C (adb (F.kn 21 C nofun))⟩
theorem s18(F:Fm c.V bX 32 d6)(K:vU c)(R:Tab 4 M)(X:U lv=32)(e:lv[22]?=D (.t (mL (jB M)))):ES c bX 32 lv (bI 18) ((lv.set 18 (.t (.int (1:J)))).set 22 (.t (mL (q6 M)))) .next:=by
 have i:=rj R;have v:=nq i i;have st:∀{L:I (I J)}{lv:I _}(t:T),Tab _ L->lv[22]?=D _->EX c bX 32 _ (iq (D (bI 18))) ((lv.set 18 (.t t)).set 22 _) .next:=λt u h=>
  fb (eM F 22 C (by decide) (nv F 39 C (zr (zv F 22 C (gs h (by decide))) (zr (zv F 22 C (gs h (by decide))) cU C) C) (K _ _ u u) C) C) C
 have b:=st (lv:=(lv.set 18 (.t (.int (0:J)))).set 22 (.t _)) (.int (1:J)) (v.mono (by decide+kernel)) (jt (by simp only [pP,X];decide));rw [wQ (by decide)]at b;exact kM (zB (s_ F 37 C (zr (zi 2) cU C) C C C) r2) (j_ (iA F 18 C (by decide)) (st _ (i.mono (by decide+kernel)) e) (j_ (iA F 18 C (by decide)) b mq)) C C
theorem s19(F:Fm c.V bX 32 d6):ES c bX 32 lv (bI 19) (lv.set 23 (.own [])) .next:=ve F 23 C (az C) (rz cU C) C
def wK(M:I (I J))(u k:J):J:=(((fW M).getD u []).getD k []).sum
def sj(ab:I J)(M:I (I J))(u:J):I (I J):=((dm 4).filter λk=>aO (0<wK M u k)&&(aO (wK M (u+1) k=0)&&Y)).map λk=>[ab.getD k 0]
theorem wN(a b:J):gb .Gt (.int (a)) (.int (b:aS))=D (aO (b<a)):=aA D (decide_eq_decide.mpr jV)
theorem QN(F:Fm c.V n r G)(q:J)(e:G[q]?=D (("sum":af),.globalImplicit))(R:Tab 4 M){u k:J}(z:u<5)(B:k<4)(w:EE c n r lv a lv (.list ((fW M).map mL)))(v:EE c n r lv x lv (.int u))(i:EE c n r lv m lv (.int k))(s2:uK x=Y)(s3:uK m=Y):
  EE c n r lv (.Call (.Name "sum" p) [.Subscript (.Subscript a x l) m b] [] s) lv (.int (wK M u k:J)):=by
 have y:=wW R _ (getD_mem' (d:=[]) z);refine gJ (xm F q e (dU (dU w v (fR (eI z (az C)) (uh z)) s2) i (fR (eI B (az C)) (getM (y.l.symm▸B))) s3) (ae (aA kG (by show(((fW M).getD u []).getD k []).map _=((((fW M).getD u []).getD k []).map λh:J=>(h:aS)).map T.int;simp only [dH];rfl)) (ints_map _)) C) (aA T.int (yj _))
theorem ab_(F:Fm c.V bX 32 d6)(R:Tab 4 M)(g:U ab=4){u:J}(z:u<4)(P:U ds<=100)(v:lv[2]?=D (.t (.str ab)))(h:lv[17]?=D (.t (.list ((fW M).map mL))))(a:lv[19]?=D (.t (.int u)))(H:lv[23]?=D (.own ds)):
  EX c bX 32 lv (iq (D (bI 20))) (lv.set 23 (.own (ds++[.list ((dM (sj ab M u)).map .str)]))) .next:=by
 refine fb (u9 F 23 C H (QT F 40 C (gJ (zf (ny "k" ["letters","n","powers"] [2,19,17] (λk:J=>T.str [ab.getD k 0]) (λk=>aO (0<wK M u k)&&(aO (wK M (u+1) k=0)&&Y)) (us:=dm 4) (g:=λp:J=>T.int p) F C C C (oj F 37 C) (eP v (eP a (eP h C)))
  (λd o k B=>kL (zC (QN o 2 C R (jW z) (jj B).1 (zv o 3 C (aA D (gd h))) (zv o 2 C (aA D (gd a))) (zv o 0 C C) C C) (zi (0:J)) (wN _ 0) C) λ_=>kL (zC (QN o 2 C R (RW z) (jj B).1 (zv o 3 C (aA D (gd h))) (fh (zv o 2 C (aA D (gd a))) (zi 1) (rh C)) (zv o 0 C C) C C) (zi (0:J)) (EH _ 0) C) λ_=>sY)
  (λd o k B _=>dU (zv o 1 C (aA D (gd v))) (zv o 0 C C) (jk (jj B).2 (qV g (jj B).1)) C) C (az C))) (aA T.list (by rw [dH];rfl)))
  (kS (aD (fq (dg _)) (ki _ _)) (by decide)) C) H C C (eU (aD P (az C)))) C
theorem U4(F:Fm c.V bX 32 d6)(R:Tab 4 M)(g:U ab=4):∀(G:I J)(lv:I _)(b:I _)(v:AV O),U lv=32->(∀n∈G,n<4)->U b+U G<=100->lv[2]?=D (.t (.str ab))->lv[17]?=D (.t (.list ((fW M).map mL)))->lv[19]?=D v->lv[23]?=D (.own (gL b))->
  ∃j,jE c bX 32 (oV (D (bI 20))) (iq (D (bI 20))) (G.map λn:J=>T.int n) lv ((lv.set 19 j).set 23 (.own (gL (b++G.map λn=>dM (sj ab M n))))) .next:=λl=>l.rec
 (λlv b v X z P h e x H=>⟨v,by rw [pD x,show b++([]:I J).map (λn=>dM _)=b from jq _,pD H];exact mq⟩)
 (λn G k lv b v X z P h e x H=>by
  simp only [gB]at P;have i:U (lv.set 19 (.t (.int n)))=32:=by apply ae (pP);rw [X]
  have a:(lv.set 19 (.t _))[19]?=D (.t (.int n)):=jt (by rw [X];decide);have s:=ab_ (lv:=lv.set 19 (.t (.int n))) (ds:=gL b) F R g (z n (.head _)) (by rw [dg];exact cT 0 (.v 0) (.n 100) (.a (.v 0) (.a (.v 1) (.n 1))) (.n 100) C [_,_] P) (gs h (by decide)) (gs e (by decide)) a (gs H (by decide));rw [show gL b++[.list ((dM (sj ab M n)).map .str)]=gL (b++[dM (sj ab M n)])from(eW (l₂:=[dM (sj ab M n)])).symm]at s;refine bG (k ((lv.set 19 (.t (.int n))).set 23 (.own (gL (b++[dM (sj ab M n)])))) (b++[dM (sj ab M n)]) (.t (.int n)) (by rw [pP,i]) (λt m=>z t (.tail _ m)) (by rw [cC];show _+1+_<=_;exact cT 0 (.a (.a (.v 0) (.n 1)) (.v 1)) (.n 100) (.a (.v 0) (.a (.v 1) (.n 1))) (.n 100) C [_,_] P) (gs (gs h (by decide)) (by decide)) (gs (gs e (by decide)) (by decide)) (gs a (by decide)) (jt (by rw [i];decide))) λj r=>⟨j,?_⟩;rw [wQ (by decide),gX]at r
  exact j_ (iA F 19 C (by decide)) s r)
def sq(ab:I J)(M:I (I J)):I (I (I J)):=(dm 4).map λu=>dM (sj ab M u)
theorem s20(F:Fm c.V bX 32 d6)(R:Tab 4 M)(g:U ab=4)(X:U lv=32)(v:lv[2]?=D (.t (.str ab)))(h:lv[17]?=D (.t (.list ((fW M).map mL))))(a:lv[19]?=D e)(H:lv[23]?=D (.own [])):∃j,ES c bX 32 lv (bI 20) ((lv.set 19 j).set 23 (.own (gL (sq ab M)))) .next:=
 bG (U4 F R g (dm 4) lv [] e X (λu m=>fm.mp m) (az C) v h a H) λj r=>⟨j,kM (oj F 37 C) r C C⟩
theorem PR{R:Type} [DecidableEq R](L:T->T->bg bw)(f:R->T)(h:∀x H,L (f x) (f H)=D (aO (x=H))):∀(l m:I R),U l=U m->j9 L (l.map f) (m.map f)=D (aO (l=m))
 |[],[],_=>C
 |x::l,H::m,e=>ae (adk (h x H) (PR L f h l m (Dt e))) (aA D (by simp))
theorem Hh{R:Type} [DecidableEq R](u:J)(f:R->T)(h:∀x H,gA u (f x) (f H)=D (aO (x=H)))(l m:I R):gA (u+1) (.list (l.map f)) (.list (m.map f))=D (aO (l=m)):=by
 show(if U (l.map f)==U (m.map f)then j9 _ _ _ else D ay)=_;simp only [dg]
 by_cases e:U l=U m
 .exact ae (aM (by exact cM e)) (PR _ f h l m e)
 .apply ae (aJ (by simpa using e));rw [ee (λq=>e (by exact aA _ (q)))]
theorem PL(u:J)(a b:I _):gA (u+2) (.list (a.map .str)) (.list (b.map .str))=D (aO (a=b)):=
 Hh (u+1) T.str (λa b=>aA D (by rw [oz,oG];exact DF)) a b
theorem PK(u:J)(a b:I _):gA (u+3) (.list (gL a)) (.list (gL b))=D (aO (a=b)):=Hh _ _ (λa b=>PL u a b) a b
theorem M0(a b:I _):gb .NotEq (.list (gL a)) (.list (gL b))=D (!aO (a=b)):=aA (qF _) (PK 3 a b)
theorem Gi(a b:I _):gb .NotEq (.list (a.map .str)) (.list (b.map .str))=D (!aO (a=b)):=aA (qF _) (PL 4 a b)
theorem Gh(a b:bw):gb .NotEq (.bool a) (.bool b)=D (a !=b):=C
noncomputable def j6(b:I (I (I J))):I (I (I J)):=b.filter λd=>!aO (d=[])
theorem adu(l:I _):(l.map λr:I J=>((r.sum):aS)).sum=(((l.map xM).sum)):=by rw [<-yj,dH];rfl
theorem s21(F:Fm c.V bX 32 d6)(R:Tab 4 M)(P:b.length<=100)(s:h=j6 b)(L:k=aO (0<((jB M).map xM).sum))(n:lv[14]?=D (.t (.bool k)))(l:lv[15]?=D (.t (.list (gL h))))(a:lv[17]?=D (.t (.list ((fW M).map mL))))(H:lv[23]?=D (.t (.list (gL b)))):ES c bX 32 lv (bI 21) lv .next:=by
 have i:=rj R;refine dQ (b:=ay) (jl (nu (zC (zv F 15 C l) (zf (ny "group" [] [] _ _ F C C C (jb (zv F 23 C H)) C (λd o e P=>zC (zv o 0 C C) (oi cU C) (Gi e []) C) (λd o e P _=>zv o 0 C C) C (aD P (az C)))) (M0 h (j6 b)) C) λ_=>nu (zC (zv F 14 C n) (xe (gJ (xm F 32 C (zf (jT "row" [] [] (λr:I J=>T.int (r.sum:J)) (us:=jB M) (g:=nL) F C C C (jb (dU (zv F 17 C a) (zi (4:J)) (fR (i:=4) (by decide) (uh (M:=M) (by decide))) C)) C (λd o r s=>gJ (xm o 2 C (zv o 0 C C) (ae (aA kG (by rw [dH];rfl)) (ints_map (r.map λx:J=>(x:aS)))) C) (aA T.int (yj r))) C (i.l▸az C))) (ae (aA kG (by rw [dH];rfl)) (ints_map ((jB M).map λr:I J=>((r.sum:J):aS)))) C) (aA T.int (adu _))) (zi (0:J)) (wN _ 0) C) (Gh _ _) C) λ_=>zD) ?_) fY;rw [cM s,L,bne_self_eq_false];rfl
end
theorem WJ(l:I J):∀(u:J)(o:iO J),(nE u l.toArray).foldl (·++·) o=o++(nE u l).flatten.toArray:=λR=>R.rec
 (λo=>C)
 (λu n o=>by
  simp only [Rw,n,List.replicate_succ,IA]
  simp)
theorem ZJ(l:I J)(u:J):Txt.mul ⟨l.toArray⟩ u=⟨(nE u l).flatten.toArray⟩:=by
 by_cases w:(u:aS)<1
 .have n:=Nat.lt_one_iff.mp (jV.mp w);subst n;exact aM w
 .refine ae (aJ w) ?_
  split
  .rename_i h;rcases Dc.mp h with h|h
   .have n:u=1:=Im.mp (iP h);subst n;simp
   .have n:=xG (by simp only [str_len]at h;exact iP h);subst n;simp
  .exact(by simp only [WJ];simp)
section
variable{c:Cx O}
theorem zsmul{u:J}(w:EE c n k y b P (.str l))(v:EE c n k P x X (.int u))(h:U l<=1000)(z:u<=1000):EE c n k y (.BinOp b .Mult x p) X (.str (nE u l).flatten):=by
 refine⟨λT g s Q H S R=>DB (w.1 T g s _ _ S λe a d q o E O=>v.1 T a e _ _ E λF r t i B f L=>(bG (jg O) λA j=>?_))⟩;subst j;refine bG (qb L) λG j=>?_;subst j;refine SB.mul (mulOk_of 1000 1000 (h) (my.mpr z) (xD (by decide) (qA u)) (az C) (az C)) λah m=>?_;rw [ZJ];exact R _ r _ ((q.trans i).trans (cI _ _ C)) (o.trans B) (f.step (cj.tok f.ready _)) (.str _ _)
end
section
variable{c:Cx O}{lv:I (AV O)}{ab:I J}{out:I (I (I J))}
noncomputable def yF(ab:I J)(out:I (I (I J))):I J:=ab.filter λa=>aO (out.filter (λd=>aO ([a]∈d))=[])
theorem KM(a b:I _):gb .Eq (.list (gL a)) (.list (gL b))=D (aO (a=b)):=PK 3 a b
theorem s22(F:Fm c.V bX 32 d6)(g:U ab=4)(e:U out<=100)(v:lv[2]?=D (.t (.str ab)))(l:lv[15]?=D (.t (.list (gL out)))):ES c bX 32 lv (bI 22) (lv.set 24 (.t (.list (kJ (yF ab out))))) .next:=
 eM F 24 C (az C) (zf (ny "sign" ["rounds"] [15] (λa=>T.str [a]) (λa=>aO (out.filter (λd=>aO ([a]∈d))=[])) F C C C (xh (zv F 2 C v)) (eP l C) (λh o a u=>zC (zf (ny "group" ["sign"] [0] _ _ o C C C (jb (zv o 1 C (aA D (gd l)))) C (λi H d P=>zC (zv H 1 C C) (zv H 0 C C) (Ep [a] d) C) (λi H d P _=>zv H 0 C C) C (aD e (az C)))) (oi cU C) (KM _ []) C) (λh o a u _=>zv o 0 C C) C (g▸az C))) (u3 (F.kn 24 C nofun))
def CX(l:I J):I J:=if l=[]then []else iI [(gf l).r,(gf l).r]
theorem JQ(l:I J):U (j0 l)<=U l+4:=by
 have w:U (if 93∈l then [93]else [])<=1:=by split<;>exact az C
 have v:U (if 45∈l then [45]else [])<=1:=by split<;>exact az C
 have R:=ki (λa=>aO (a∉[93,45])) l;show U (91::(if 93∈l then [93]else [])++_++_++[93])<=_;rw [cC,cC,cC,gB];show _+1+_+_+1<=_;exact jP 0 (.a (.a (.a (.a (.v 0) (.n 1)) (.v 2)) (.v 1)) (.n 1)) (.a (.v 3) (.n 4)) (.v 0) (.n 1) (.v 1) (.n 1) (.v 2) (.v 3) C [_,_,_,_] w v R
theorem M1(l:I J):gb .NotEq (.list (kJ l)) (.list [])=D (!aO (l=[])):=by
 have:=Gi (l.map λa=>[a]) [];rw [dH]at this;exact this.trans (aA (λb=>D (!b)) (decide_eq_decide.mpr RD))
theorem s23(F:Fm c.V bX 32 d6){l:I J}(X:U l<=4)(e:CN c "_law_bracket" [.list (kJ l)] (.str (j0 l)))(i:l≠[]->CN c "translate" [.str (42::j0 l++42::j0 l++[42])] (.str (iI [(gf l).r,(gf l).r])))(a:lv[24]?=D (.t (.list (kJ l)))):ES c bX 32 lv (bI 23) (lv.set 25 (.t (.str (CX l)))) .next:=by
 have h:=JQ l;refine eM F 25 C (az C) ?_ C
 delta CX
 by_cases q:l=[]
 .rw [aM q];exact nA (b:=ay) (jl (zC (zv F 24 C a) (oi cU C) (M1 l) C) (by rw [cM q];rfl)) (zs [] (cS []))
 .rw [aJ q];refine nA (b:=Y) (jl (zC (zv F 24 C a) (oi cU C) (M1 l) C) (by rw [ee q];rfl)) (nv F 41 C (zr (gJ (fh (zsmul (l:=42::j0 l) (fh (zs [42] (cS ['*'])) (nv F 42 C (zr (zv F 24 C a) cU C) e C) (pC (by show 1+_<=_;exact d_ 0 (.a (.n 1) (.v 1)) (.n 1000000) (.v 0) (.n 4) (.v 1) (.a (.v 0) (.n 4)) C [_,_] X h))) (zi _) (by simp only [gB];exact d_ 0 (.a (.v 1) (.n 1)) (.n 1000) (.v 0) (.n 4) (.v 1) (.a (.v 0) (.n 4)) C [_,_] X h) (az C)) (zs [42] (cS ['*'])) (pC ?_)) (aA T.str ?_)) cU C) (i q) C)
  .show U (42::j0 l++(42::j0 l++[]))+1<=_;simp only [jq,cC,gB];exact m5 0 (.a (.a (.a (.v 1) (.n 1)) (.a (.v 1) (.n 1))) (.n 1)) (.n 1000000) (.v 0) (.n 4) (.v 0) (.n 4) (.v 1) (.a (.v 0) (.n 4)) (.v 1) (.a (.v 0) (.n 4)) C [_,_] X X h h
  .show 42::j0 l++(42::j0 l++[])++[42]=_;rw [jq]
end
theorem abc(hh:L.handled=aa)(y:Den F g E (.list p))(h:kG p=D G)(R:M∈G)(o:∀a∈G,a<=M):PO B (aI X w) L F (call (.builtin "max") [E]) g (.int M):=by
 refine ji (qc y) λa H T u S b=>?_;subst u;refine ai (LZ b h) λl j d=>?_;subst j d;intro s ak ao r e;have Q:s.heap.IsList a (intItems l.toArray):=by
  have:=gy r.bJ S;simpa [intItems]using this
 have m:0<U l:=afR.mpr λq=>by subst q;exact bA R dR
 refine max_intList hh Q (by simpa using m) λP ah aj i k=>bG (intItems_at i) λA j=>?_;subst j;refine bT (argBest_gt (numAt l.toArray) (l.toArray.size-1)) λn v=>?_;have f:numAt l.toArray (argBest (λc t=>aO (numAt l.toArray c>numAt l.toArray t)) (l.toArray.size-1))=M:=by
  refine Int.le_antisymm (o _ ?_) ?_
  .rw [numAt_eq];exact getD_mem (by simp only [dg];exact kS n (RV m z5))
  .refine ai (mem_getD R) λt O z=>?_;simp only [dg]at O;exact z▸(((numAt_eq ..).symm:(l.map λx=>x.1).getD t 0=numAt l.toArray t))▸v t (Nat.le_sub_one_of_lt O)
 exact f▸e _ _ _ (cj.keeps r k) (.int _ _)
theorem X_{R:Type} [DecidableEq R](f:R->T)(e:∀a b,gA 6 (f a) (f b)=D (aO (a=b)))(x:R):∀l:I R,jO (f x) (l.map f)=D (aO (x∈l)):=λh=>h.rec
 C
 (λa r n=>by
  show(match gA 6 _ _,jO _ _ with|D a,D b=>D _|_,_=>aa)=_;simp only [n,e];apply aA D;rw [oz];simp only [afl,oG,cD]
  exact or_congr_left ⟨Df,Df⟩)
theorem adi(a b:J):gA 6 (.int a) (.int b)=D (aO (a=b)):=by
 apply aA D;rw [oz,oG];exact beq_iff_eq.trans Im
theorem Yb(x:J)(l:I J):jO (.int x) (l.map λ(x:J)=>T.int x)=D (aO (x∈l)):=X_ _ adi x l
theorem Us(x:J)(l:I J):gb .In (.int x) (nL l)=D (aO (x∈l)):=Yb x l
section
variable{c:Cx O}
theorem QB(F:Fm c.V n k G)(t:J)(O:G[t]?=D (("max":af),.globalImplicit))(h:EE c n k y e P (.list l))(A:kG l=D is)(R:M∈is)(o:∀a∈is,a<=M)(L:dP e=Y):EE c n k y (.Call (.Name "max" p) [e] [] u) P (.int M):=
 ry F t 5 O C (zr h cU L) (by simp [L]) λg z d=>by refine ai d.ja λv j q=>?_;subst j;exact abc c.R.handled q A R o
theorem ae1{R z:Type}(F:Fm c.V (x::i::n) (k+2) G)(f:R->T)(h:z->T)(L:R->z->T)(q:R->z->bw):∀(p:I (R×z))(v w:AV O),(∀t∈p,EC c (x::i::n) (k+2) (.t (f t.1)::.t (h t.2)::a) o (.t (f t.1)::.t (h t.2)::a) (q t.1 t.2))->(∀t∈p,q t.1 t.2=Y->EE c (x::i::n) (k+2) (.t (f t.1)::.t (h t.2)::a) g (.t (f t.1)::.t (h t.2)::a) (L t.1 t.2))->
  An c.B c.Z c.w c.A c.ρ c.V (x::i::n) (k+2) (.Tuple [.Name x E,.Name i A] X d) [o] g (p.map λt=>[f t.1,h t.2]) (v::w::a) ((p.filter λt=>q t.1 t.2).map λt=>L t.1 t.2) (qk v (p.map (f ·.1))::qk w (p.map (h ·.2))::a):=λu=>u.rec
 (λv w _ _=>.nil)
 (λt p m v w j S=>by
  have r:=m (.t (f t.1)) (.t (h t.2)) (λy b=>j y (.tail _ b)) λy b=>S y (.tail _ b);have l:=j t (.head _);cases e:q t.1 t.2 with
  |true=>
   rw [zR (by exact e)];simp only [e]at l;exact .go (aY:=.t _::.t _::a) (KC (is:=[0,1]) c.R.handled (.cons (λv Q H s=>CJ v Q H s) C (gE _) (F.loc C (gE _)) (.cons (λv Q H s=>CJ v Q H s) C (dN _ _) (F.loc C (dN _ _)) .nil)) C C) (Bb l.1) (S t (.head _) e).1 r
  |false=>
   rw [zQ (by exact(e)▸(nofun))];simp only [e]at l
   exact .skip (aY:=.t (f t.1)::.t _::a) (KC (is:=[0,1]) c.R.handled (.cons (λv Q H s=>CJ v Q H s) C (gE _) (F.loc C (gE _)) (.cons (λv Q H s=>CJ v Q H s) C (dN _ _) (F.loc C (dN _ _)) .nil)) C C) (Bb l.1) r)
theorem aep{R z:Type}{f:R->T}{h:z->T}{e:I R}{G:I z}(x H:af)(b:I af)(a:I J)(L:R->z->T)(q:R->z->bw){j:J}(F:Fm c.V n k s)(r:t8 v [x,H] b=Y)(o:t5 s n b a=Y)(A:qg v.names (x::H::b) 2=Y)(O:s[j]?=D (("zip":af),.globalImplicit))
  (w:ER c n k y ak Q P [.list (e.map f),.list (G.map h)])(m:Q.all dP=Y)(u:noOwn P a=Y)
  (p:∀d,Fm (c.ff v d).V (x::H::b) 2 v.names->∀t∈e.zip G,EC (c.ff v d) (x::H::b) 2 (.t (f t.1)::.t (h t.2)::a.map λi=>P[i]?.getD .un) E (.t (f t.1)::.t (h t.2)::a.map λi=>P[i]?.getD .un) (q t.1 t.2))
  (S:∀d,Fm (c.ff v d).V (x::H::b) 2 v.names->∀t∈e.zip G,q t.1 t.2=Y->EE (c.ff v d) (x::H::b) 2 (.t (f t.1)::.t (h t.2)::a.map λi=>P[i]?.getD .un) X (.t (f t.1)::.t (h t.2)::a.map λi=>P[i]?.getD .un) (L t.1 t.2))
  (B:U e<=1000000):EF c n k y (.ListComp X [⟨.Tuple [.Name x aq,.Name H ao] aE aH,.Call (.Name "zip" aj) Q [] ak,[E],0⟩] v aC) P (((e.zip G).filter λt=>q t.1 t.2).map λt=>L t.1 t.2):=by
 have ah:((e.map f).zip (G.map h)).map (λl=>[l.1,l.2])=(e.zip G).map λt=>[f t.1,h t.2]:=by rw [List.zip_map,dH];rfl
 have g:=Wr c.G c.R.handled (F.kn j O nofun) (c.bi 7 _ _ C).1 (c.bi 7 _ _ C).2 (l6 m) w.1 (p:=aj);simp only [ah]at g
 exact⟨Vj (A1 r) (AR F o) g (B6 u) (λd=>ae1 (qP A) f h L q _ .un .un (p d (qP A)) (S d (qP A))) (λaF=>C) C
  (eU (aD (by simp only [dg,afS];exact z4 _ _) B)) (yW (pre:=[_,_]) C)⟩
end
abbrev Bl(i:J):cz:=g8 (iq (D (bI 24))) i
def i5(T:I (I J))(k:J):I J:=(dm 4).filter λt=>aO (0<cJ (lj T) k t)
theorem sd:∀t∈i5 M k,t<4:=λt h=>fm.mp (f9.mp h).1
theorem J6:U (i5 M k)<=4:=aD (ki _ _) (dz _)
def qt(o:I J)(G:I (I J))(q:I J)(t:J):I J:=q.filter λi=>aO (t∈iy o (G.getD i []))
section
variable{c:Cx O}{lv:I (AV O)}{M:I (I J)}{k:J}
theorem b0(F:Fm c.V bX 32 d6)(R:Tab 4 M)(B:k<4)(s:lv[13]?=D (.t (.int k)))(e:lv[20]?=D (.t (mL (lj M)))):ES c bX 32 lv (Bl 0) (lv.set 26 (.t (nL (i5 M k)))) .next:=by
 exact eM F 26 C (by decide) (zf (ny "j" ["k","near"] [13,20] _ _ F C C C (oj F 37 C) (Z_ s e)
  (λd o t O=>zC (dU (dU (zv o 2 C (aA D (gd e))) (zv o 1 C (aA D (gd s))) (fR (eI B (az C)) (wG (CQ R) B (jj O).1).1) C) (zv o 0 C C) (fR (jj O).2 (wG (CQ R) B (jj O).1).2) C) (zi _) (wN _ 0) C) (λd o t O _=>zv o 0 C C) C (az C))) (u3 (F.kn 26 C nofun))
end
section
variable{c:Cx Ob}{lv:I (AV Ob)}{ab cm:I J}{ws:I (I J)}
theorem b1(p:bK c.B c.Z c.w O)(z:u+2<=c.n)(F:Fm c.V bX 32 d6)(f:c.mg "TopologicalSorter"=D (.ref O.bq))(R:(("__init__":af),q)∈O.fs)(l:∀E d,e8 c.B c.Z c.w (u+1) (.ref q) (.gQ E d 0) [] λX r=>X=.bL E [] aa 0 0/\r=.none):
  SP c bX 32 lv (Bl 1) λx A=>∃E,x=lv.set 27 (.obj (.bL E [] aa 0 0))/\A=.next:=QE p z F 27 36 C f R l C (by decide) C
theorem S6(ah:bK c.B c.Z c.w ak)(K:x8 c ak)(F:Fm c.V bX 32 d6)(g:U ab=4)(aF:U ws=4)(h:∀t∈cm,t<4)(L:U cm<=4):∀(f:I J)(lv:I _)(Q:I AN)(m:J)(v:AV Ob),U lv=32->lv[8]?=D (.t (.str ab))->lv[11]?=D (.t (mL (ws.map (iy ab))))->lv[26]?=D (.t (nL cm))->lv[27]?=D (.obj (.bL E Q aa 0 0))->lv[3]?=D v->(∀k∈f,k<4)->U Q<=m->(∀a∈Q,U a.2.2<=m)->m+5*U f<=800->
  ∃j,jE c bX 32 (oV (D (Bl 2))) (iq (D (Bl 2))) (f.map λ(k:J)=>T.int k) lv ((lv.set 3 j).set 27 (.obj (.bL E (f.foldl (kY ab (qt ab ws cm)) Q) aa 0 0))) .next:=λaN=>aN.rec
 (λlv Q m v X G O w n R e H l B=>⟨v,by
  rw [pD R,show([]:I J).foldl (kY ab (qt ab ws cm)) Q=Q from C,pD n];exact mq⟩)
 (λt f aH lv Q m v X G O w n R e H l B=>by
  have r:=e t (.head _);rw [gB]at B;have S:=gs (x:=.t (.int t)) (j:=3) G (by decide);have s:=gs (x:=.t (.int t)) (j:=3) O (by decide);have q:=gs (x:=.t (.int t)) (j:=3) w (by decide);have u:=gs (x:=.t (.int t)) (j:=3) n (by decide);have y:(lv.set 3 (.t (.int t)))[3]?=D (.t (.int t)):=jt (by rw [X];decide);have d:U (qt ab ws cm t)<=4:=aD (ki _ _) L;have x:U ((qt ab ws cm t).map λi=>[ab.getD i 0])<=4:=by rw [dg];exact d
  refine v5 (K E Q [ab.getD t 0] ((qt ab ws cm t).map λi=>[ab.getD i 0]) (by exact jP 0 (.a (.v 0) (.v 3)) (.n 900) (.v 0) (.v 1) (.a (.v 1) (.m 5 (.a (.v 2) (.n 1)))) (.n 800) (.v 3) (.n 4) C [_,_,_,_] H B x) (λa b=>by have:=l a b;exact jP 0 (.a (.v 3) (.v 2)) (.n 900) (.a (.v 0) (.m 5 (.a (.v 1) (.n 1)))) (.n 800) (.v 2) (.n 4) (.v 3) (.v 0) C [_,_,_,_] B x this)) λaP aX aT ao aq aC aE P=>?_;have aj:t<2^60:=eI r (az C);have p:U (lv.set 3 (.t (.int t)))=32:=by rw [pP,X]
  refine bG (aH ((lv.set 3 (.t (.int t))).set 27 (.obj (.bL E (kY ab (qt ab ws cm) Q t) aa 0 0))) _ (m+5) (.t (.int t)) (by rw [pP,p]) (gs S (by decide)) (gs s (by decide)) (gs q (by decide)) (jt (by rw [p];decide)) (gs y (by decide)) (λaK b=>e aK (.tail _ b)) (aD (Jo _ _ _) (aD (iB (ju H) x) (fq (vp m 1 4)))) (λa b=>aD (Jp _ _ l a b) (iL (aD x (az C)) m)) (by exact cT 0 (.a (.a (.v 0) (.n 5)) (.m 5 (.v 1))) (.n 800) (.a (.v 0) (.m 5 (.a (.v 1) (.n 1)))) (.n 800) C [_,_] B)) λj z=>⟨j,?_⟩;rw [wQ (by decide)]at z
  exact j_ (iA F 3 C (by decide)) (fb (HO (c:=c) (o':=.bL E (kY ab (qt ab ws cm) Q t) aa 0 0) ah F 27 C u ao aq (by decide) C aC aE
   (JC (dU (zv F 8 C S) (zv F 3 C y) (jk aj (qV g r)) C)
    (zf (ny "i" ["j","stands","told"] [3,11,8] (λi=>T.str [ab.getD i 0]) (λi=>aO (t∈iy ab (ws.getD i []))) (us:=cm) (g:=λi:J=>T.int i) F C C C (jb (zv F 26 C q)) (eP y (eP s (eP S C)))
     (λaL o i A=>zC (zv o 1 C (aA D (gd y))) (dU (zv o 2 C (aA D (gd s))) (zv o 0 C C) (fR (eI (h i A) (az C)) (Li (aF.symm▸h i A))) C) (Us t _) C)
     (λaL o i A _=>dU (zv o 3 C (aA D (gd S))) (zv o 0 C C) (jk (eI (h i A) (az C)) (qV g (h i A))) C) C (aD L (az C)))) (by rw [dg];exact aD d (az C)) C)
   u (by rw [dH]at P;exact P) C C) C) z)
theorem b2(p:bK c.B c.Z c.w O)(K:x8 c O)(F:Fm c.V bX 32 d6)(g:U ab=4)(y:U ws=4)(h:∀t∈cm,t<4)(L:U cm<=4)(X:U lv=32)(G:lv[8]?=D (.t (.str ab)))(u:lv[11]?=D (.t (mL (ws.map (iy ab)))))(w:lv[26]?=D (.t (nL cm)))(n:lv[27]?=D (.obj (.bL sf [] aa 0 0)))(R:lv[3]?=D v):
  ∃j,ES c bX 32 lv (Bl 2) ((lv.set 3 j).set 27 (.obj (.bL sf (cm.foldl (kY ab (qt ab ws cm)) []) aa 0 0))) .next:=
 bG (S6 p K F g y h L cm lv [] 0 v X G u w n R h (dz _) (λa m=>bA (m) dR) (aD (fq (jv _)) (aD (xP 5 L) (az C)))) λj r=>⟨j,kM (jb (zv F 26 C w)) r C C⟩
theorem b3(i:gZ c [])(F:Fm c.V bX 32 d6)(K:DT c)(w:nQ Q=Y)(v:lW Q fuel=D o)(h3:m8 o=Y)(g:U Q<=800)(s:n6 m Q (eB Q) []=D b)(n:lv[27]?=D (.obj (.bL E Q aa 0 0))):
  ES c bX 32 lv (Bl 3) (((lv.set 27 (.obj (.bL E (ik m Q (eB Q) 0).1 (D []) (ik m Q (eB Q) 0).2 (ik m Q (eB Q) 0).2))).set 28 (.t (.bool o.isSome))).set 29 (.t (.list (gL b)))) .next:=
 mU (@K E _ _ _ _ _ w v h3 g s) λa u S h e z l=>Qi F 28 29 C (az C) C (by decide) (Ql i F 27 38 C C n h e z l) C C
end
def u4(T:I (I J))(k t:J):I J:=(dm 4).filter λu=>aO (0<cJ ((fW T).getD u []) k t)
noncomputable def nU(l:I J):J:=l.foldr max 0
def o8(T:I (I J))(k t:J):J:=if 0<cJ (ql T) k t then 4 else nU (u4 T k t)
theorem wo:∀{l:I J},l≠[]->nU l∈l/\∀a∈l,a<=nU l
 |[],h=>bA C h
 |[a],_=>⟨cO.mpr (Nat.max_zero a),λb h=>by rw [cO.mp h];exact fq (Nat.max_zero a).symm⟩
 |a::b::l,_=>by
  have n:=wo (l:=b::l) nofun;show max a (nU (b::l))∈_/\∀c∈_,c<=max a (nU _);refine⟨?_,λc h=>(cD.mp h).elim (λq=>q▸Nat.le_max_left ..) λh=>aD (n.2 c h) (Nat.le_max_right ..)⟩;rcases Dp a _ with h|h
  .rw [Nat.max_eq_right h];exact .tail _ n.1
  .simp only [Nat.max_eq_left h];exact .head _
theorem BU(h:l≠[]):((nU l):aS)∈l.map (λx:J=>(x:aS))/\∀a∈l.map (λx:J=>(x:aS)),a<=((nU l)):=
 ⟨fM (wo h).1,λa m=>ai (dZ.mp m) λb f e=>e▸my.mpr ((wo h).2 b f)⟩
noncomputable def t9(o q s:I J)(p:J):I (I J):=((q.zip s).filter λA=>aO (A.2=p)).map λA=>[o.getD A.1 0]
noncomputable def sy(o l:I J)(z:I (I (I J)))(q:I J):I J:=q.filter λt=>aO (o.getD t 0∈l)&&(aO (z.filter (λd=>aO ([o.getD t 0]∈d))=[])&&Y)
section
variable{c:Cx O}
theorem aem{R:Type}{j:I R}{g:R->T}(x:af)(b:I af)(a:I J)(L:R->T)(q:R->bw){i':J}(F:Fm c.V n k G)(p:t8 v [x] b=Y)(aC:t5 G n b a=Y)(A:qg v.names (x::b) 1=Y)(s:EI aH c n k r iter P (j.map g))(Br:noOwn P a=Y)
  (E:∀d,Fm (c.ff v d).V (x::b) 1 v.names->∀y∈j,EC (c.ff v d) (x::b) 1 (.t (g y)::a.map λi=>P[i]?.getD .un) l (.t (g y)::a.map λi=>P[i]?.getD .un) (q y))
  (o:∀d,Fm (c.ff v d).V (x::b) 1 v.names->∀y∈j,q y=Y->EE (c.ff v d) (x::b) 1 (.t (g y)::a.map λi=>P[i]?.getD .un) f (.t (g y)::a.map λi=>P[i]?.getD .un) (L y))
  (B:uJ iter=Y)(m:U j<=1000000)(hz:n[i]?=D z)(Fa:i<k)(XS:G[i']?=D (z,.local))(X:h.line=w.line)(O:(v.names.any λ(u,e)=>u==z&&(e==.local||e==.cell))=ay):
  ES c n k r (.Assign [.Name z h] (.ListComp f [⟨.Name x aK,iter,[l],0⟩] v w) aF) (P.set i (.own ((j.filter q).map L))) .next:=by
 refine⟨λaj ak H Q ah ao S aq=>?_⟩;have aE:c.V.blockKind=.function:=by
  have:=S.1.kind
  delta De;simp [this,agI]
 have t:=F.kn i' XS nofun;refine KP (A1 p) (AR F aC) s.1 (B6 Br) (λd=>Qy (qP A) g L q j .un (E d (qP A)) (o d (qP A))) (Cc B) (.inl (cI _ _ C)) (cM (by rw [dg];exact m)) (yW (pre:=[qk .un (j.map g)]) C) hz Fa t ?_ aj ak H Q ah ao S aq
 .show pure (c.V.blockKind==.function&&c.V.kindOf z==D .local&&h.line==w.line&&! v.names.any λ(u,k)=>u==z&&(k==.local||k==.cell))=pure Y;refine aE▸t▸X▸O▸?_;simp
end
section
variable{c:Cx O}{lv:I (AV O)}{M:I (I J)}{k:J}{ab cm ls l:I J}{gr:I (I (I J))}
theorem KN(a b:I J):gb .Eq (nL a) (nL b)=D (aO (a=b)):=Hh 5 (λx:J=>T.int x) (λa b=>aA D (by rw [oz,oG];exact beq_iff_eq.trans Im)) a b
theorem b4(F:Fm c.V bX 32 d6)(R:Tab 4 M)(B:k<4)(e:∀t∈cm,t<4)(L:U cm<=4)(l:∀t∈cm,u4 M k t≠[])(s:lv[13]?=D (.t (.int k)))(h:lv[17]?=D (.t (.list ((fW M).map mL))))(b:lv[21]?=D (.t (mL (ql M))))(w:lv[26]?=D (.t (nL cm))):ES c bX 32 lv (Bl 4) (lv.set 30 (.t (nL (cm.map (o8 M k))))) .next:=by
 have A:k<2^60:=eI B (az C);have G:=nq (rj R) (CQ R);refine eM F 30 C (az C) (gJ (zf (jT "j" ["k","late","powers"] [13,21,17] (λt=>T.int _) F C C C (jb (zv F 26 C w)) (eP s (eP b (eP h C))) (λd o t O=>?_) C (aD L (az C)))) (aA T.list (by rw [dH];rfl))) (u3 (F.kn 30 C nofun));have v:=e t O;have m:t<2^60:=eI v (az C);refine Qo (b:=aO (0<cJ (ql M) k t)) (zC (dU (dU (zv o 2 C (aA D (gd b))) (zv o 1 C (aA D (gd s))) (fR A (wG G B v).1) C) (zv o 0 C C) (fR m (wG G B v).2) C) (zi (0:J)) (wN _ 0) C) (λq=>gJ (zi (4:J)) (aA (λu:J=>T.int u) (aM (dh q)).symm)) λq=>gJ (QB o 2 C (M:=((nU (u4 M k t):J):aS)) (is:=(u4 M k t).map λx:J=>(x:aS)) (zf (ny "n" ["j","k","powers"] [0,1,3] (λu:J=>T.int u) (λu=>aO (0<cJ ((fW M).getD u []) k t)) (us:=dm 4) (g:=λp:J=>T.int p) o C C C (oj o 3 C) (eP (a:=.int t) C (eP (a:=.int k) (show D (lv[13]?.getD .un)=_ from aA D (gd s)) (eP (a:=.list ((fW M).map mL)) (show D (lv[17]?.getD .un)=_ from aA D (gd h)) C))) (λn H u z=>?_) (λn H u z _=>zv H 0 C C) C (az C))) (ae (aA kG (by rw [dH];rfl)) (ints_map _)) (BU (l t O)).1 (BU (l t O)).2 C) (aA (λu:J=>T.int u) (aJ (of_decide_eq_false q)).symm);have i:u<5:=jW (jj z).1;have a:=wG (wW R _ (getD_mem' (d:=[]) (M:=fW M) (j:=u) i)) B v;exact zC (dU (dU (dU (zv H 3 C (aA D (gd (lv:=lv) (i:=17) h))) (zv H 0 C C) (fR (jj z).2 (uh i)) C) (zv H 2 C (aA D (gd (lv:=lv) (i:=13) s))) (fR A a.1) C) (zv H 1 C C) (fR m a.2) C) (zi (0:J)) (wN _ 0) C
theorem b5(F:Fm c.V bX 32 d6)(a:U ab=4)(x:∀h∈cm,h<4)(L:U cm<=4)(v:lv[2]?=D (.t (.str ab)))(w:lv[26]?=D (.t (nL cm)))(e:lv[30]?=D (.t (nL ls))):ES c bX 32 lv (Bl 5) (lv.set 23 (.own (gL ((dm 4).map λp=>dM (t9 ab cm ls p))))) .next:=by
 show ES _ _ _ _ _ _ _;refine C3 "place" ["come","last","letters"] [26,30,2] (λp=>T.list ((dM (t9 ab cm ls p)).map .str)) F C C C (oj F 37 C) (eP w (eP e (eP v C))) (λd o p b=>?_) C (az C) C (by decide) (i':=23) C C C;have g:∀t∈cm.zip ls,t.1<4:=λt l=>x t.1 (List.of_mem_zip l).1
 exact QT o 2 C (gJ (zf (aep "j" "n" ["letters","place"] [3,0] (λh u=>T.str [ab.getD h 0]) (λh u=>aO (u=p)) (j:=3) o C C C C (zr (zv o 1 C (aA D (gd w))) (zr (zv o 2 C (aA D (gd e))) cU C) C) C (eP (a:=.str ab) (show D (lv[2]?.getD .un)=_ from aA D (gd v)) (eP (a:=.int p) C C))
  (λi H t l=>zC (zv H 1 C C) (zv H 3 C C) (EH _ _) C)
  (λi H t l _=>dU (zv H 2 C (aA D (gd (lv:=lv) (i:=2) v))) (zv H 0 C C) (jk (eI (g t l) (az C)) (qV a (g t l))) C) (aD L (az C)))) (aA T.list (by delta t9;rw [dH];rfl)))
  (kS (aD (fq (dg _)) (aD (ki _ _) (by rw [afS];exact aD (z4 _ _) L))) (by decide)) C
theorem b6(F:Fm c.V bX 32 d6)(P:ds.length<=100)(l:ls≠[])(s:b=j6 ds)(L:a=aO (3<nU ls))(H:lv[23]?=D (.t (.list (gL ds))))(e:lv[28]?=D (.t (.bool a)))(i:lv[29]?=D (.t (.list (gL b))))(h:lv[30]?=D (.t (nL ls))):ES c bX 32 lv (Bl 6) lv .next:=by
 refine dQ (b:=ay) (jl (nu (zC (zv F 29 C i) (zf (ny "group" [] [] (λd:I _=>T.list _) (λd=>!aO _) F C C C (jb (zv F 23 C H)) C (λk o d P=>zC (zv o 0 C C) (oi cU C) (Gi d []) C) (λk o d P _=>zv o 0 C C) C (aD P (az C)))) (M0 b (j6 ds)) C) λ_=>nu (zC (zv F 28 C e) (xe (QB F 43 C (M:=((nU ls:J):aS)) (is:=ls.map λx:J=>(x:aS)) (zv F 30 C h) (ae (aA kG (by rw [dH];rfl)) (ints_map _)) (BU l).1 (BU l).2 C) (zi (3:J)) (wN _ 3) C) (Gh _ _) C) λ_=>zD) ?_) fY;rw [cM s,L,bne_self_eq_false];rfl
theorem b7(F:Fm c.V bX 32 d6)(g:U ab=4)(h:∀t∈cm,t<4)(L:U cm<=4)(u:U gr<=100)(G:lv[8]?=D (.t (.str ab)))(a:lv[24]?=D (.t (.list (kJ l))))(w:lv[26]?=D (.t (nL cm)))(i:lv[29]?=D (.t (.list (gL gr)))):ES c bX 32 lv (Bl 7) (lv.set 31 (.own (nT (sy ab l gr cm)))) .next:=by
 refine aem (i':=31) "j" ["groups","lasting","told"] [29,24,8] _ (λt=>aO _&&(aO (gr.filter (λd=>aO _)=[])&&Y)) F C C C (jb (zv F 26 C w)) (eP i (eP a (eP G C)))
  (λe o t O=>?_) (λe o t O _=>zv o 0 C C) C (aD L (az C)) (i:=31) C (by decide) C C C
 have v:=h t O;have m:t<2^60:=eI v (az C)
 exact kL (zC (dU (zv o 3 C (aA D (gd G))) (zv o 0 C C) (jk m (qV g v)) C) (zv o 2 C (aA D (gd a))) (Er _ l) C) λ_=>kL (zC (zf (ny "group" ["j","told"] [0,3] (λd:I (I J)=>T.list (d.map .str)) (λd=>aO ([ab.getD t 0]∈d)) (us:=gr) (g:=λd:I (I J)=>T.list (d.map .str)) o C C C (jb (zv o 1 C (aA D (gd i)))) (eP (a:=.int t) C (eP (a:=.str ab) (show D (lv[8]?.getD .un)=_ from aA D (gd G)) C))
  (λx H d P=>zC (dU (zv H 2 C (aA D (gd (lv:=lv) (i:=8) G))) (zv H 1 C C) (jk m (qV g v)) C) (zv H 0 C C) (Ep _ d) C) (λx H d P _=>zv H 0 C C) C (aD u (az C)))) (oi cU C) (KM _ []) C) λ_=>sY
theorem b8(F:Fm c.V bX 32 d6)(R:Tab 4 M)(B:k<4){G:I (I J)}{n:I J->bw}(y:U G=4)(m:∀h∈S,h<4)(E:U S<=4)(K:S≠[]->∀r l,∀w∈G,CN (c.ff r l) "_law_takes" [.str tw,.str w] (.bool (n w)))
  (b:aO ((jB M).getD k []=(q6 M).getD k [])=aO (S.filter (λh=>n (G.getD h []))=[]))(L:lv[9]?=D (.t (.list (G.map .str))))(s:lv[13]?=D (.t (.int k)))(q:lv[17]?=D (.t (.list ((fW M).map mL))))(e:lv[22]?=D (.t (mL (q6 M))))(P:S≠[]->lv[25]?=D (.t (.str tw)))(a:∃t,lv[25]?=D (.t t))(x:lv[31]?=D (.t (.list (nT S)))):ES c bX 32 lv (Bl 8) lv .next:=by
 have A:k<2^60:=eI B (az C);have i:=rj R;have v:=nq i i;have j:=nq v v
 refine bG a λg f=>dQ (b:=ay) (jl (zC (xe (dU (dU (zv F 17 C q) (zi (4:J)) (fR (i:=4) (by decide) (uh (M:=M) (by decide))) C) (zv F 13 C s) (fR A (getM (M:=jB M) (i.l.symm▸B))) C) (dU (zv F 22 C e) (zv F 13 C s) (fR A (getM (M:=q6 M) (j.l.symm▸B))) C) (KN _ _) C)
  (xe (zf (ny "j" ["images","two"] [9,25] (λh:J=>T.int h) (λh=>n (G.getD h [])) (us:=S) (g:=λh:J=>T.int h) F C C C (jb (zv F 31 C x)) (eP L (eP f C))
   (λd o h O=>lD (nv o 2 C (zr (zv o 2 C (aA D (gd (P (afY O))))) (zr (dU (zv o 1 C (aA D (gd L))) (zv o 0 C C) (fR (eI (m h O) (az C)) (get_map (d:=[]) (y.symm▸m h O))) C) cU C) C) (K (afY O) _ d _ (getD_mem' (y.symm▸m h O))) C) C λ_=>C) (λd o h O _=>zv o 0 C C) C (aD E (az C)))) (oi cU C) (KN _ []) C) (Gh _ _) C) ?_) fY
 rw [b,bne_self_eq_false]
end
noncomputable abbrev fN(o:I J)(k:J):I J:=[o.getD k 0]
abbrev mh(o:I J)(G:I (I J)):J->J->J:=cJ (fu o G)
theorem Jk:∀o∈gq,∀a,a<4->∀b,b<4->o.getD a 0=o.getD b 0->a=b:=by decide+kernel
theorem mQ:∀o∈gq,U o=4:=by decide+kernel
theorem nR(u:o∈gq):pZ (fN o):=λa b w v e=>Jk o u a w b v (zP e).1
theorem Jl(g:U o=4):o=(dm 4).map λk=>o.getD k 0:=BI (P:=λo=>o=(dm 4).map λk=>o.getD k 0) (λa b c d=>C) o g
theorem abx{R:Type}(L:J->R)(d:R)(h:k<4):((dm 4).map L).getD k d=L k:=mZ (P:=λk=>((dm 4).map L).getD k d=L k) h C C C C
theorem ac_{r:I J}(h:U r=4):r.sum=S4 λt=>r.getD t 0:=BI (P:=λr=>r.sum=S4 λt=>r.getD t 0) (λa b c d=>C) r h
theorem X6:∀a∈ux o x,∃k,k<4/\a=o.getD k 0:=λa m=>ai (dZ.mp m) λt _ e=>(aR (_) (vv _ (by decide)) (e.symm))
section
variable{ab:I J}{ws:I (I J)}{i j k n:J}
theorem Of(g:U ab=4)(y:U ws=4)(B:k<4)(O:j<4):mh ab ws k j=(ws.getD k []).count (ab.getD j 0):=by
 show((fu ab ws).getD k []).getD j 0=_
 delta fu
 rw [getD_map _ (y.symm▸B) [] [],getD_map _ (g.symm▸O) 0 0]
theorem zu(g:U ab=4)(y:U ws=4)(X:∀w∈ws,U w<4):Tab 4 (fu ab ws):=by
 refine⟨ae (dg _) y,λr s=>ai (dZ.mp s) λw m e=>?_⟩;subst e;exact⟨ae (dg _) g,λx j=>ai (dZ.mp j) λa _ e=>e▸kS List.count_le_length (X w m)⟩
theorem Pq(g:U ab=4)(y:U ws=4)(B:k<4):iy ab (ws.getD k [])=(dm 4).filter λj=>aO (0<mh ab ws k j):=
 vn λj m=>decide_eq_decide.mpr (by simp only [Of g y B (fm.mp m)];exact List.count_pos_iff.symm)
theorem K4(a:J->I J)(Q:I J->I _):∀(q:I J)(H:I AN),(∀k∈q,(a k).map (fN ab)=Q (fN ab k))->q.foldl (kY ab a) H=(q.map (fN ab)).foldl (λH k=>jI H k (Q k)) H:=λq=>q.rec (λ_ _=>C) λk q n H h=>by
 have B:kY ab a H k=jI H (fN ab k) _:=aA (jI H (fN ab k)) (h k (.head _));simp only [iK,Rw,Rw,B];exact n _ λk m=>h k (.tail _ m)
theorem Tg(u:ab∈gq)(y:U ws=4):(dm 4).foldl (kY ab λk=>iy ab (ws.getD k [])) []=gO (Pn (fN ab) λ_=>Y) (Qn (fN ab) (mh ab ws)):=by
 refine ae (K4 _ _ _ [] λk m=>?_) C;rw [Pq (mQ ab u) y (fm.mp m),DS (nR u) (fm.mp m)]
theorem Hj(t:U P=4)(h:∀k j,k<4->j<4->cJ P k j=Pw (cJ M) n k j):∀k j,k<4->j<4->cJ (jC P M) k j=Pw (cJ M) (n+1) k j:=λk j B O=>ae (yV (t.symm▸B) O) (iQ λl X=>aA (·*cJ M l j) (h k l B X))
variable{M:I (I J)}
theorem abu(B:k<4)(O:j<4):Pw (cJ M) 1 k j=cJ M k j:=by
 refine ae (iQ (f:=λl=>(if k=l then 1 else 0)*cJ M l j) λl _=>?_) (ye (v:=λl=>cJ M l j) B)
 by_cases q:l=k
 .rw [aM q,aM q.symm,RU]
 .rw [aJ q,aJ (iC q),Dv]
theorem Cn(R:Tab 4 M):∀n,n<5->∀k j,k<4->j<4->cJ ((fW M).getD n []) k j=Pw (cJ M) n k j:=by
 have c:=nq R R;have l:=nq c R;have H:∀k j,k<4->j<4->cJ M k j=Pw (cJ M) 1 k j:=λk j B O=>(abu B O).symm;have a:=Hj R.l H;have e:=Hj c.l a;intro n h;cases n with
 |zero=>exactλk j B O=>aaO M 0 k j B O
 |succ n=>exact mZ (P:=λn=>∀k j,k<4->j<4->cJ ((fW M).getD (n+1) []) k j=Pw (cJ M) (n+1) k j) (Nat.lt_of_succ_lt_succ h) H a e (Hj l.l e)
theorem GL(R:Tab 4 M)(z:n<5)(B:k<4):wK M n k=S4 (Pw (cJ M) n k):=by
 have A:=wW R _ (getD_mem' (d:=[]) z);refine ae (ac_ (A.r _ (getD_mem' (A.l.symm▸B))).1) (iQ λj O=>Cn R n z k j B O)
theorem M3(R:Tab 4 M)(B:k<4)(O:j<4):cJ (lj M) k j=Gj (cJ M) k j:=by
 have e:cJ (lj M) k j=((dm 4).map λn=>cJ ((fW M).getD n []) k j).sum:=by
  delta cJ lj
  rw [abx _ _ B,OG _ O]
 exact ae e (ae C (iQ λn z=>Cn R n (jW z) k j B O))
theorem yX(R:Tab 4 M)(B:k<4)(O:j<4):cJ (jB M) k j=Pw (cJ M) 4 k j:=Cn R 4 (by decide) k j B O
theorem YT(R:Tab 4 M)(B:k<4)(O:j<4):cJ (ql M) k j=F3 (cJ M) k j:=ae (yV ((rj R).l.symm▸B) O) (iQ λl X=>by simp only [yX R B X,M3 R X O])
theorem Oi(R:Tab 4 M)(B:k<4)(O:j<4):cJ (q6 M) k j=Pw (cJ M) 16 k j:=by
 have i:=rj R;have v:=nq i i;have p:∀k j,k<4->j<4->cJ (GC M) k j=Pw (cJ M) 8 k j:=λk j B O=>ae (yV (i.l.symm▸B) O) (ae (iQ λl X=>by rw [yX R B X,yX R X O]) (Wt O));exact ae (yV (v.l.symm▸B) O) (ae (iQ λl X=>by rw [p k l B X,p l j X O]) (Ws O))
theorem abV{P Q:I _}(t:Tab b P)(e:Tab d Q)(B:k<4):P.getD k []=Q.getD k []<->∀j,j<4->cJ P k j=cJ Q k j:=by
 refine⟨λh j _=>aA (λl:I J=>l.getD j 0) h,λh=>?_⟩;rw [Jl ((t.r _ (getD_mem' (d:=[]) (t.l.symm▸B:k<U P))).1),Jl ((e.r _ (getD_mem' (d:=[]) (e.l.symm▸B:k<U Q))).1)];exact kj λj m=>h j (fm.mp m)
theorem F6(P:I _)(Q:I J->I _):∀(k n:J),k_ P Q k n=j6 ((zV n k).map λm=>dM (lay P Q m)):=λk=>k.rec (λ_=>C) λk h n=>by
 apply ae (F5);rw [af0,iK,h (n+1)]
 delta j6
 by_cases c:lay P Q n=[]
 .apply ae (aM (zS.mpr c));rw [zQ];rw [c,show dM []=[]from List.mergeSort_nil];exact nofun
 .apply ae (aJ λq=>c (zS.mp q));rw [zR];rw [ee (p:=dM _=[]) λq=>c (xG ((O6 _).symm.trans (aA U q)))];rfl
end
theorem ZC:x∈dM l<->x∈l:=(zo l).mem_iff
section
variable{P:I (I J)}{Q:I J->I (I J)}{x:I J}{f:J->I J}{bq:J->bw}{M:J->J->J}{k n:J}
theorem aaa(j:x∈P):(k_ P Q 4 0).filter (λd=>aO (x∈d))=[]<->Dn Q 4 x=ay:=by
 have m:∀n,x∈dM (lay P Q n)<->Dn Q _ x=Y/\Dn Q n x=ay:=λn=>ZC.trans (yK.trans ⟨λh=>h.2,λh=>⟨j,h⟩⟩);rw [F6,afJ];have a:(∀d∈j6 ((zV 0 4).map λm=>dM (lay P Q m)),¬aO (x∈d)=Y)<->∀n,n<4->¬(Dn Q (n+1) x=Y/\Dn Q n x=ay):=by
  refine⟨λh n z c=>?_,λh d i c=>?_⟩
  .have:=(m n).mpr c;exact h _ (f9.mpr ⟨dZ.mpr ⟨n,ID.mpr ⟨gF _,by exact cT 0 (.a (.v 0) (.n 1)) (.a (.n 0) (.n 4)) (.a (.v 0) (.n 1)) (.n 4) C [_] z⟩,C⟩,by rw [ee λq=>by rw [q]at this;exact bA (this) dR];rfl⟩) (cM this)
  .refine ai (dZ.mp (f9.mp i).1) λn z a=>?_;subst a;have:=(ID.mp z).2;exact h n (by exact cT 0 (.a (.v 0) (.n 1)) (.n 4) (.a (.v 0) (.n 1)) (.a (.n 0) (.n 4)) C [_] this) ((m n).mp (dh c))
 rw [a];refine⟨λh=>?_,λh n z c=>?_⟩
 .have L:∀n,n<=4->Dn Q n x=ay:=λn=>n.rec (λ_=>C) λn e z=>ow.mpr λd=>h n (by exact z) ⟨d,e (by exact cT 0 (.v 0) (.n 4) (.a (.v 0) (.n 1)) (.n 4) C [_] z)⟩;exact L 4 (dz _)
 .have L:∀d,Dn Q (n+1+d) x=Y:=λd=>d.rec c.1 λd e=>Kp _ x e;have:=L (4-(n+1));rw [pQ z]at this;exact cY C (ae h.symm this)
theorem Gp(g:pZ f)(B:k<4)(h:bq k=Y):(k_ (Pn f bq) (Qn f M) 4 0).filter (λd=>aO (f k∈d))=[]<->Al M 4 k:=
 (aaa (sI.mpr ⟨k,B,h,C⟩)).trans (ow.trans ((not_congr (A6 g 4 k B)).trans Q9))
end
section
variable{ab:I J}{ws:I (I J)}{M:I (I J)}{i j k n:J}
theorem adt{P:I (I J)}(h:U P=4):(P.map xM).sum=S4 λk=>(P.getD k []).sum:=BI (P:=λP=>(P.map xM).sum=S4 λk=>(P.getD k []).sum) (λa b c d=>C) P h
theorem L5{R:Type}{r:bg R} [Decidable p](h:r=aa<->¬p):r.isSome=aO p:=by
 by_cases c:p
 .rw [cM c];cases r with
  |none=>exact bA c (h.mp C)
  |some a=>rfl
 .rw [ee c,h.mpr c];rfl
theorem aaR(u:ab∈gq)(R:Tab 4 M):∃T o,lW (gO (Pn (fN ab) λ_=>Y) (Qn (fN ab) (cJ M))) T=D o/\m8 o=Y/\o.isSome=aO (0<((jB M).map xM).sum):=
 e5 (O8 (nR u) (bq:=λ_=>Y) λ_ _ _ _ _=>⟨C,C⟩) λT o a b c=>⟨T,o,a,b,L5 (c.trans (by
  rw [adt (rj R).l,vS];have e:∀k,k<4->((jB M).getD k []).sum=S4 _:=λk B=>GL R (n:=4) (by decide) B
  exact⟨λh q=>ai q λk B p=>h k B C (AK.mp (e k B▸p)),λh k B _ a=>h ⟨k,B,(e k B).symm▸AK.mpr a⟩⟩))⟩
theorem Og(u:ab∈gq)(R:Tab 4 M):k_ (Pn (fN ab) λ_=>Y) (Qn (fN ab) (cJ M)) 4 0=j6 (sq ab M):=by
 rw [F6];refine aA j6 (kj (l:=dm 4) λn z=>aA dM ?_);have h:=fm.mp z;refine ae (ME (nR u) λn k B _=>decide_eq_true_iff.trans AK) (aA _ (vn λk m=>?_));have B:=fm.mp m;simp only [GL R (jW h) B,GL R (RW h) B,Ib,Ic];apply aA _
 by_cases c:S4 (Pw (cJ M) (n+1) k)=0
 .rw [cM c,ee (by exactλr=>q5 (d_ 0 (.n 1) (.n 0) (.v 0) (.n 0) (.a (.n 0) (.n 1)) (.v 0) C [_] ((iU c)) r))];rfl
 .rw [ee c,cM (Nat.pos_of_ne_zero c)];rfl
theorem YO(u:ab∈gq)(R:Tab 4 M)(B:k<4):ab.getD k 0∈yF ab (j6 (sq ab M))<->mK (cJ M) k=Y:=by
 rw [<-Og u R,wg,<-Gp (bq:=λ_=>Y) (nR u) B C];exact f9.trans ⟨λh=>dh h.2,λh=>⟨get_mem (mQ ab u) B,cM h⟩⟩
abbrev lS(M:I (I J))(i:J):J->bw:=λj=>aO (0<cJ (lj M) i j)
def rm(M:I (I J))(i:J):J->J->J:=λj l=>if(lS M i j&&lS M i l)=Y then cJ M l j else 0
theorem mT(R:Tab 4 M)(A:i<4)(O:j<4):lS M i j=Y<->pU (cJ M) i j:=by
 apply decide_eq_true_iff.trans;rw [M3 R A O];exact Gl
theorem CW:0<rm M i k j<->lS M i k=Y/\lS M i j=Y/\0<cJ M j k:=by
 delta rm
 by_cases c:(lS M i k&&lS M i j)=Y
 .rw [aM c];have:=cR.mp c;exact⟨λh=>⟨this.1,this.2,h⟩,λh=>h.2.2⟩
 .rw [aJ c];exact⟨λh=>bA h (i3 0),λh=>bA (cR.mpr ⟨h.1,h.2.1⟩) c⟩
theorem Hq:Ay (lS M i) (rm M i):=λk j _ _ h=>⟨(CW.mp h).1,(CW.mp h).2.1⟩
theorem zy(R:Tab 4 M)(A:i<4)(B:k<4)(l:pU (cJ M) i k)(n:J):¬Al (rm M i) n k<->kU (cJ M) i n k:=
 Xf A (λk j B O=>CW.trans ⟨λh=>⟨(mT R A B).mp h.1,(mT R A O).mp h.2.1,h.2.2⟩,λh=>⟨(mT R A B).mpr h.1,(mT R A O).mpr h.2.1,h.2.2⟩⟩) n k B l
theorem Ti(u:ab∈gq)(y:U ws=4):(i5 (fu ab ws) i).foldl (kY ab (qt ab ws (i5 (fu ab ws) i))) []=gO (Pn (fN ab) (lS (fu ab ws) i)) (Qn (fN ab) (rm (fu ab ws) i)):=by
 refine ae (K4 _ _ _ [] λj m=>?_) C;have O:=sd j m;have e:=(f9.mp m).2;simp only [DS (nR u) O];refine aA _ (ae (Rt) (vn λl a=>?_));rw [Pq (mQ ab u) y (fm.mp a)];have t:(j∈(dm 4).filter λj=>aO (0<mh ab ws l j))<->0<mh ab ws l j:=f9.trans ⟨λh=>dh h.2,λh=>⟨fm.mpr O,cM h⟩⟩;refine oz.mpr (cR.trans (xC ?_ (decide_eq_true_iff.trans CW).symm));rw [rS,t];exact⟨λh=>⟨e,h.2,h.1⟩,λh=>⟨h.2.2,h.2.1⟩⟩
theorem J7(R:Tab 4 M)(A:i<4):i∈i5 M i:=f9.mpr ⟨fm.mpr A,(mT R A A).mpr ⟨0,az C,C⟩⟩
theorem wm(R:Tab 4 M)(A:i<4):j∈i5 M i<->j<4/\pU (cJ M) i j:=
 ⟨λh=>⟨sd j h,(mT R A (sd j h)).mp (f9.mp h).2⟩,λh=>f9.mpr ⟨fm.mpr h.1,(mT R A h.1).mpr h.2⟩⟩
theorem yL(R:Tab 4 M)(A:i<4)(O:j<4):n∈u4 M i j<->n<4/\Wy (cJ M) n i j:=by
 refine f9.trans (and_congr fm Ii|>.trans (and_congr_right λz=>decide_eq_true_iff.trans ?_));exact(Cn R n (jW z) i j A O)▸(pA n i j)
theorem Hw(R:Tab 4 M)(A:i<4):∀j∈i5 M i,u4 M i j≠[]:=λj h e=>ai ((wm R A).mp h).2 λn z w=>by
 have:=(yL R A (sd j h)).mpr ⟨z,w⟩;rw [e]at this;exact bA (this) dR
theorem F4(R:Tab 4 M)(A:i<4)(O:j<4):0<cJ (ql M) i j<->¬kU (cJ M) i 4 j:=by rw [YT R A O];exact YU A O
theorem YQ(R:Tab 4 M)(A:i<4)(h:j∈i5 M i)(t:p<4):o8 M i j=p<->kU (cJ M) i (p+1) j/\¬kU (cJ M) i p j:=by
 have O:=sd j h
 delta o8
 by_cases c:0<cJ (ql M) i j
 .rw [aM c];exact⟨λe=>bA t (e▸i3 4),λf=>bA (λm R=>f.1 m (aD t R)) ((F4 R A O).mp c)⟩
 .rw [aJ c];have n:=oA λq=>c ((F4 R A O).mpr q);have l:=wo (Hw R A j h);have x:=(yL R A O).mp l.1;rw [YS];refine⟨λe=>?_,λf=>?_⟩
  .subst e;refine⟨x.2,λm a w=>?_⟩
   by_cases q:m<4
   .exact bA (l.2 m ((yL R A O).mpr ⟨q,w⟩)) (agf a)
   .exact n m (iM q) w
  .refine fS (iM λq=>f.2 _ q x.2) (l.2 p ((yL R A O).mpr ⟨t,f.1⟩))
theorem MD(R:Tab 4 M)(A:i<4)(h:j∈i5 M i):3<o8 M i j<->¬kU (cJ M) i 4 j:=by
 have O:=sd j h;simp only [<-F4 R A O]
 delta o8
 by_cases c:0<cJ (ql M) i j
 .rw [aM c];exact⟨λ_=>c,λ_=>by decide⟩
 .rw [aJ c];have:=((yL R A O).mp (wo (Hw R A j h)).1).1;exact⟨λq=>by exact d_ 0 (.a (.n 0) (.n 1)) (.v 1) (.a (.v 0) (.n 1)) (.n 4) (.a (.n 3) (.n 1)) (.v 0) C [_,_] this q,λq=>bA q c⟩
theorem adD(u:ab∈gq)(R:Tab 4 M)(A:i<4):∃T o,lW (gO (Pn (fN ab) (lS M i)) (Qn (fN ab) (rm M i))) T=D o/\m8 o=Y/\o.isSome=aO (3<nU ((i5 M i).map (o8 M i))):=
 e5 (O8 (nR u) Hq) λT o a b c=>⟨T,o,a,b,L5 (c.trans (by
  have l:=wo (l:=(i5 M i).map (o8 M i)) λq=>by have:=J7 R A;rw [RD.mp q]at this;exact nomatch this
  refine⟨λe q=>?_,λe k B n a=>e ?_⟩
  .refine ai (dZ.mp l.1) λj O x=>?_;simp only [<-x]at q;have h:=(wm R A).mp O;exact(MD R A O).mp q ((zy R A h.1 h.2 4).mp (e j h.1 ((mT R A h.1).mpr h.2)))
  .have s:=(mT R A B).mp n;have g:=(wm R A).mpr ⟨B,s⟩
   exact eI ((MD R A g).mpr λf=>(zy R A B s 4).mpr f a) (l.2 _ (fM g))))⟩
theorem zip_map_self{R z:Type}(l:I R)(f:R->z):l.zip (l.map f)=l.map λa=>(a,f a):=l.rec C λa l n=>by rw [iK,List.zip_cons_cons,n,iK]
theorem adE(u:ab∈gq)(R:Tab 4 M)(A:i<4):k_ (Pn (fN ab) (lS M i)) (Qn (fN ab) (rm M i)) 4 0=j6 ((dm 4).map λp=>dM (t9 ab (i5 M i) ((i5 M i).map (o8 M i)) p)):=by
 rw [F6];refine aA j6 (kj (l:=dm 4) λn z=>aA dM ?_);have h:=fm.mp z;refine ae (ME (nR u) (a:=λn k=>!@aO (kU (cJ M) i n k) (Q_ _)) λn k B c=>?_) ?_
 .rw [tq,@decide_eq_false_iff_not _ _,<-zy R A B ((mT R A B).mp c) n,Q9]
 .delta t9
  rw [zip_map_self,Iu,dH];show _=(List.filter _ ((dm 4).filter _)).map _;simp only [Rt];refine aA _ (vn λk m=>?_);have B:=fm.mp m;rw [Q3]
  by_cases c:lS M i k=Y
  .refine congr (aA _ ?_) C;rw [Bool.not_not];refine oz.mpr (cR.trans (xC ?_ (decide_eq_true_iff.trans (YQ R A ((wm R A).mpr ⟨B,(mT R A B).mp c⟩) h)).symm));rw [tq,@decide_eq_false_iff_not _ (Q_ _),@rS _ (Q_ _)];exact and_comm
  .rw [(ow.mpr c:aO (0<cJ (lj M) i k)=ay),Ia,ow.mpr c,Ia]
end
section
variable{ab l:I J}{ws:I (I J)}{i j k:J}
theorem UB(u:ab∈gq)(l:I J):∀w:I J,(∀a∈w,∃k,k<4/\a=ab.getD k 0)->w.countP (λx=>aO (x∈l))=S4 λk=>if ab.getD k 0∈l then w.count (ab.getD k 0)else 0:=λw=>w.rec
 (λ_=>by simp [S4])
 (λx w n h=>by
  refine ai (h x (.head _)) λk B e=>?_;have L:∀j,j<4->(if ab.getD j 0∈l then(x::w).count (ab.getD j 0)else 0)=(if ab.getD j 0∈l then w.count (ab.getD j 0)else 0)+if j=k then if ab.getD j 0∈l then 1 else 0 else 0:=λj O=>by
   by_cases c:j=k
   .subst c;rw [aM C,e,afF]
    by_cases d:ab.getD j 0∈l
    .apply ae (aM d);rw [aM d,aM d]
    .apply ae (aJ d);rw [aJ d,aJ d]
   .rw [aJ c,afE (by rw [e];exactλq=>c (Jk ab u j O k B q.symm)),vq]
  rw [iQ L,AB,ye (v:=λj=>if ab.getD j 0∈l then 1 else 0) B,Di,n λa m=>h a (.tail _ m),e]
  by_cases d:ab.getD k 0∈l
  .rw [aM d,cM d,aM C]
  .rw [aJ d,ee d,aJ nofun])
theorem KH(u:ab∈gq)(y:U ws=4)(p:∀w∈ws,∀a∈w,∃k,k<4/\a=ab.getD k 0)(X:∀k,k<4->(ab.getD k 0∈l<->mK (mh ab ws) k=Y))(O:j<4):(ws.getD j []).countP (λx=>aO (x∈l))=kF (mh ab ws) (mK (mh ab ws)) j:=
 ae (UB u l _ (p _ (getD_mem' (y.symm▸O)))) (iQ λk B=>by
  rw [Of (mQ ab u) y O B]
  by_cases c:ab.getD k 0∈l
  .apply ae (aM c);rw [aM ((X k B).mp c)]
  .apply ae (aJ c);rw [aJ λq=>c ((X k B).mpr q)])
theorem BP(u:ab∈gq)(R:Tab 4 M)(A:i<4)(X:∀k,k<4->(ab.getD k 0∈l<->mK (cJ M) k=Y)):j∈sy ab l (k_ (Pn (fN ab) (lS M i)) (Qn (fN ab) (rm M i)) 4 0) (i5 M i)<->j<4/\mK (cJ M) j=Y/\¬kU (cJ M) i 4 j/\pU (cJ M) i j:=by
 refine f9.trans ⟨λh=>?_,λh=>?_⟩
 .have c:=(wm R A).mp h.1;have b:=cR.mp h.2;exact⟨c.1,(X j c.1).mp (dh b.1),λf=>(zy R A c.1 c.2 4).mpr f ((Gp (nR u) c.1 ((mT R A c.1).mpr c.2)).mp (dh (cR.mp b.2).1)),c.2⟩
 .have c:=(wm R A).mpr ⟨h.1,h.2.2.2⟩;refine⟨c,cR.mpr ⟨cM ((X j h.1).mpr h.2.1),cR.mpr ⟨cM ((Gp (nR u) h.1 ((mT R A h.1).mpr h.2.2.2)).mpr (oA λq=>h.2.2.1 ((zy R A h.1 h.2.2.2 4).mp q))),C⟩⟩⟩
theorem Vt(u:ab∈gq)(R:Tab 4 M)(A:i<4):∀j∈sy ab l z (i5 M i),j<4:=λj h=>sd j (f9.mp h).1
theorem Vs:U (sy ab l z (i5 M i))<=4:=aD (ki _ _) J6
theorem Wu(u:ab∈gq)(y:U ws=4)(E:∀w∈ws,U w<4)(p:∀w∈ws,∀a∈w,∃k,k<4/\a=ab.getD k 0)(X:∀k,k<4->(ab.getD k 0∈l<->mK (mh ab ws) k=Y))(A:i<4):
  aO ((jB (fu ab ws)).getD i []=(q6 (fu ab ws)).getD i [])=aO ((sy ab l (k_ (Pn (fN ab) (lS (fu ab ws) i)) (Qn (fN ab) (rm (fu ab ws) i)) 4 0) (i5 (fu ab ws) i)).filter (λj=>aO (2<=(ws.getD j []).countP λb=>aO (b∈l)))=[]):=by
 have R:=zu (mQ ab u) y E;have x:=rj R;have v:=nq x x;refine decide_eq_decide.mpr ((abV x (nq v v) A).trans (xC (xC ⟨λh b n=>?_,λh j O=>?_⟩ (TT (A:=mh ab ws) A)) (xC ?_ afJ.symm)))
 .exact(yX R A n).symm.trans (ae (h b n) (Oi R A n))
 .exact ae (yX R A O) (ae (h j O) (Oi R A O).symm)
 .refine⟨λh j m c=>?_,λh s j O n4 o w q=>agc λf=>?_⟩
  .have e:=(BP u R A X).mp m;have:=dh c;simp only [KH u y p X e.1]at this;exact bA this (agf (dG (show∃m,4<=m/\m<8/\Wy (mh ab ws) m i j from oA λd=>e.2.2.1 ((Lp A e.1).mpr λm a t w=>d ⟨m,a,t,w⟩)) λs n4 o w=>h s j e.1 n4 o w e.2.1))
  .refine h j ((BP u R A X).mpr ⟨O,q,λg=>g s n4 w,ai (short A O w) λm a t=>(aR (m) (a) (t))⟩) (cM ?_);simp only [KH u y p X O];exact f
end
section
variable{c:Cx Ob}{xs:I af}{k:J}{lv aY dc:I (AV Ob)}{rest:I cz}
theorem KX(i:J)(X:lv[i]?=D (.own l))(h:EX c xs k (lv.set i (.t (.list l))) rest dc A):EX c xs k lv rest dc A:=⟨λT g s Q H e S R=>by
 refine cps λ_ v=>?_;obtain⟨w,m,r,x⟩:=S
 exact dG (x.freeze X) λj B d a=>v (h.1 T j s Q H e ⟨w,m,_,a⟩ λn b L q o=>R n b L q (B.trans o))⟩
theorem Wh(h:SP c xs k lv u l)(r:∀x A,l x A->A=.next/\EX c xs k x rest dc R):EX c xs k lv (u::rest) dc R:=⟨λT g s Q H e S a=>by
 refine gN (h.1 T g s _ _ e S λi b L aY A p q o E d=>?_);obtain⟨rfl,r⟩:=r aY A p
 obtain rfl:=d.nx;exact r.1 T b i Q H e E λt j L n f v B=>a t j L (q.trans n) (o.trans f) v B⟩
end
theorem adC:iq (D (bI 24))=[Bl 0,Bl 1,Bl 2,Bl 3,Bl 4,Bl 5,Bl 6,Bl 7,Bl 8]:=C
section
variable{ab:I J}{M:I (I J)}{i:J}{bq:J->bw}{T:J->J->J}
theorem Ju(u:ab∈gq)(q:Ay bq T):nQ (gO (Pn (fN ab) bq) (Qn (fN ab) T))=Y/\U (gO (Pn (fN ab) bq) (Qn (fN ab) T))<=800:=by
 have g:=nR u;refine⟨Jr (wz g) (sS g q),aD (fq (dg _).symm) (aD (yO _ _ vV λx m=>(tW (sS g q)).mp m) (aD BK (az C)))⟩
end
structure rY(c:Cx Ob)(cl:Cl)(ab:I J)(ws:I (I J)):Prop where
 p1:∀sc d,∀a∈ab,CN (c.ff sc d) "_law_plain" [.str [a]] (.str (pq a))
 t1:∀sc d,∀a∈ab,CN (c.ff sc d) "translate" [.str (42::(pq a++[42]))] (.str (uY a))
 k1:∀sc d sc' d',∀a∈ab,∀w∈ws,CN ((c.ff sc d).ff sc' d') "_law_takes" [.str (uY a),.str w] (.bool (aO (a∈w)))
 ad:x8 c cl
 gQ:∃mi n,n+2<=c.n/\(("__init__":af),mi)∈cl.fs/\∀sf d,e8 c.B c.Z c.w (n+1) (.ref mi) (.gQ sf d 0) [] λo' r=>o'=.bL sf [] aa 0 0/\r=.none
 top:c.mg "TopologicalSorter"=D (.ref cl.bq)
 rn:DT c
 tm:vU c
 br:∀l:I J,l.length<=100->CN c "_law_bracket" [.list (kJ l)] (.str (j0 l))
 t2:∀q:J->bw,ab.filter q≠[]->CN c "translate" [.str ((42::j0 (ab.filter q))++(42::j0 (ab.filter q))++[42])] (.str (iI [(gf (ab.filter q)).r,(gf (ab.filter q)).r]))
 k2:∀q:J->bw,ab.filter q≠[]->∀sc d,∀w∈ws,CN (c.ff sc d) "_law_takes" [.str (iI [(gf (ab.filter q)).r,(gf (ab.filter q)).r]),.str w] (.bool (aO (2<=w.countP λx=>aO (x∈ab.filter q))))
structure Wd(ab:I J)(ws:I (I J)):Prop where
 ha:ab∈gq
 l4:ws.length=4
 w4:∀w∈ws,w.length<4
 hA:∀w∈ws,∀a∈w,∃k,k<4/\a=ab.getD k 0
section
variable{ab:I J}{ws:I (I J)}
abbrev FL(ab:I J)(ws:I (I J))(T:I (I J))(l:I J)(G P n u a f j m b o v d e A h r y z S L Q i:AV Ob):I (AV Ob):=
 G::P::.t (.str ab)::A::n::u::a::f::.t (.str ab)::.t (.list (ws.map .str))::j::.t (mL (ws.map (iy ab)))::m::h::b::o::v::.t (.list ((fW T).map mL))::d::e::.t (mL (lj T))::.t (mL (ql T))::.t (mL (q6 T))::r::.t (.list (kJ l))::.t (.str (CX l))::y::z::S::L::Q::i::[]
noncomputable def fg(y:I (AV Ob)):I (AV Ob):=(((((((y.set 3 .un).set 23 .un).set 26 .un).set 27 .un).set 28 .un).set 29 .un).set 30 .un).set 31 .un
theorem agY:fg (y.set 3 x)=fg y:=aA (λl:I (AV Ob)=>((((((l.set 23 .un).set 26 .un).set 27 .un).set 28 .un).set 29 .un).set 30 .un).set 31 .un) (IF _)
theorem agZ{i:J}(h:i∈[23,26,27,28,29,30,31]):fg (y.set i x)=fg y:=by
 have L:∀(f:I J)(y:I (AV Ob)),i∈f->f.foldl (λl t=>l.set t AV.un) (y.set i x)=f.foldl (λl t=>l.set t AV.un) y:=λf=>f.rec (λy h=>nomatch h) λt f n y h=>by
  show f.foldl _ ((y.set i x).set t .un)=f.foldl _ (y.set t .un)
  by_cases c:i=t
  .subst c;rw [IF]
  .rw [List.set_comm _ _ c];exact n _ ((cD.mp h).resolve_left c)
 exact L [3,23,26,27,28,29,30,31] y (.tail _ h)
theorem EX.fg{y:I (AV Ob)}(e:fg y=P):EX c n k y [] P .next:=e▸qy 3 (qy 23 (qy 26 (qy 27 (qy 28 (qy 29 (qy 30 (qy 31 fY)))))))
theorem adB{q s l S ah:I J}{g z:I (I (I J))}{p:I AN}{ak:I J->bw}(aq:bK c.B c.Z c.w bf)(cV:gZ c [])(F:Fm c.V bX 32 d6)(K:rY c bf ab ws)(R:U ab=4)(aC:U ws=4)(T:k<4)(hm:Tab 4 M)
  (bh:i5 M k=q)(B:∀y∈q,y<4)(X:U q<=4)(bl:q.foldl (kY ab (qt ab ws q)) []=p)(b_:nQ p=Y)(cF:lW p ej=D h)(dK:m8 h=Y)(dO:U p<=800)(aT:n6 5 p (eB p) []=D z)(aX:∀y∈q,u4 M k y≠[])
  (a_:q.map (o8 M k)=s)(ao:(dm 4).map (λO=>dM (t9 ab q s O))=g)(aj:z=j6 g)(bx:s≠[])(bz:h.isSome=aO (3<nU s))(bC:sy ab l z q=S)(bE:∀y∈S,y<4)(bP:U S<=4)
  (bR:S≠[]->∀bU bY,∀aH∈ws,CN (c.ff bU bY) "_law_takes" [.str ah,.str aH] (.bool (ak aH)))(cg:aO ((jB M).getD k []=(q6 M).getD k [])=aO (S.filter (λy=>ak (ws.getD y []))=[]))(cA:S≠[]->CX l=ah):
  EX c bX 32 (FL ab ws M l G P n u a f j m b o v d e A (.t (.int k)) r bH aL w L Q i) (iq (D (bI 24))) (FL ab ws M l G P n u a f j m b o v d e .un (.t (.int k)) .un .un .un .un .un .un .un) .next:=by
 rw [adC];have aE:U g<=100:=ao▸az C;have cu:U z<=100:=aj▸aD (ki _ _) aE;have aF:ES c bX 32 (FL ab ws M l G P n u a f j m b o v d e A (.t (.int k)) r bH aL w L Q i) (Bl 0) (FL ab ws M l G P n u a f j m b o v d e A (.t (.int k)) r (.t (nL (i5 M k))) aL w L Q i) .next:=b0 F hm T C C
 rw [bh]at aF;refine e5 K.gQ λez eu cH cL cQ=>zx aF (Wh (b1 aq cH F K.top cL cQ) λeG d8 cB=>ai cB λE dB cZ=>?_);subst dB cZ;refine⟨C,bG (b2 (c:=c) (lv:=FL ab ws M l G P n u a f j m b o v d e A (.t (.int k)) r (.t (nL q)) (.obj (.bL E [] aa 0 0)) w L Q i) (sf:=E) (v:=A) (ab:=ab) (ws:=ws) (cm:=q) aq K.ad F R aC B X C C C C C C) λx r2=>?_⟩;rw [bl]at r2;have r2:ES c bX 32 (FL ab ws M l G P n u a f j m b o v d e A (.t (.int k)) r (.t (nL q)) (.obj (.bL E [] aa 0 0)) w L Q i) (Bl 2) (FL ab ws M l G P n u a f j m b o v d e x (.t (.int k)) r (.t (nL q)) (.obj (.bL E p aa 0 0)) w L Q i) .next:=r2
 apply zx r2;refine bG (⟨_,b3 cV F K.rn b_ cF dK dO aT C⟩:∃H,ES c bX 32 (FL ab ws M l G P n u a f j m b o v d e x (.t (.int k)) r (.t (nL q)) (.obj (.bL E p aa 0 0)) w L Q i) (Bl 3) (FL ab ws M l G P n u a f j m b o v d e x (.t (.int k)) r (.t (nL q)) H (.t (.bool h.isSome)) (.t (.list (gL z))) Q i) .next) λH r3=>?_;apply zx r3;have r4:ES c bX 32 (FL ab ws M l G P n u a f j m b o v d e x (.t (.int k)) r (.t (nL q)) H (.t (.bool h.isSome)) (.t (.list (gL z))) Q i) (Bl 4) (FL ab ws M l G P n u a f j m b o v d e x (.t (.int k)) r (.t (nL q)) H (.t (.bool h.isSome)) (.t (.list (gL z))) (.t (nL (q.map (o8 M k)))) i) .next:=b4 F hm T B X aX C C C C
 rw [a_]at r4;apply zx r4;have aK:ES c bX 32 (FL ab ws M l G P n u a f j m b o v d e x (.t (.int k)) r (.t (nL q)) H (.t (.bool h.isSome)) (.t (.list (gL z))) (.t (nL s)) i) (Bl 5) (FL ab ws M l G P n u a f j m b o v d e x (.t (.int k)) (.own (gL ((dm 4).map λO=>dM (t9 ab q s O)))) (.t (nL q)) H (.t (.bool h.isSome)) (.t (.list (gL z))) (.t (nL s)) i) .next:=b5 F R B X C C C
 rw [ao]at aK;refine zx aK (KX 23 C ?_);show EX c bX 32 (FL ab ws M l G P n u a f j m b o v d e x (.t (.int k)) (.t (.list (gL g))) (.t (nL q)) H (.t (.bool h.isSome)) (.t (.list (gL z))) (.t (nL s)) i) _ _ _;apply zx (b6 F (ds:=g) (ls:=s) aE bx aj bz C C C C);have aN:ES c bX 32 (FL ab ws M l G P n u a f j m b o v d e x (.t (.int k)) (.t (.list (gL g))) (.t (nL q)) H (.t (.bool h.isSome)) (.t (.list (gL z))) (.t (nL s)) i) (Bl 7) (FL ab ws M l G P n u a f j m b o v d e x (.t (.int k)) (.t (.list (gL g))) (.t (nL q)) H (.t (.bool h.isSome)) (.t (.list (gL z))) (.t (nL s)) (.own (nT (sy ab l z q)))) .next:=b7 F R B X cu C C C C
 rw [bC]at aN;refine zx aN (KX 31 C ?_);show EX c bX 32 (FL ab ws M l G P n u a f j m b o v d e x (.t (.int k)) (.t (.list (gL g))) (.t (nL q)) H (.t (.bool h.isSome)) (.t (.list (gL z))) (.t (nL s)) (.t (.list (nT S)))) _ _ _;exact zx (b8 F hm T (tw:=ah) aC bE bP bR cg C C C C (λaP=>aA (λt=>D (AV.t (.str t))) (cA aP)) ⟨_,C⟩ C) (EX.fg C)
end
section
variable{c:Cx Ob}{ab:I J}{ws:I (I J)}
theorem BE{k:J}(p:bK c.B c.Z c.w O)(i:gZ c [])(F:Fm c.V bX 32 d6)(K:rY c O ab ws)(H:Wd ab ws)(B:k<4){l:I J}(E:yF ab (j6 (sq ab (fu ab ws)))=l):
  EX c bX 32 (FL ab ws (fu ab ws) l G P u A Q f j e b o v d a aC (.t (.int k)) ak aE aF aL aN ao aq) (iq (D (bI 24))) (FL ab ws (fu ab ws) l G P u A Q f j e b o v d a .un (.t (.int k)) .un .un .un .un .un .un .un) .next:=by
 have g:=mQ ab H.ha;have R:=zu g H.l4 H.w4;have X:∀k,k<4->(ab.getD k 0∈l<->mK (mh ab ws) k=Y):=λk B=>E▸YO H.ha R B;have z:=Wu H.ha H.l4 H.w4 H.hA X B;have y:=Ju H.ha (Hq (M:=fu ab ws) (i:=k));have n:(i5 _ k).map (o8 (fu ab ws) k)≠[]:=λq=>by have:=J7 R B;rw [RD.mp q]at this;exact bA (this) dR
 have x:sy ab l _ _≠[]->l≠[]:=λh q=>bG (List.exists_mem_of_ne_nil _ h) λt m=>by
  have:=(X t ((BP H.ha R B X).mp m).1).mpr ((BP H.ha R B X).mp m).2.1;rw [q]at this;exact bA (this) dR
 have S:l≠[]->∀L r,∀w∈ws,CN (c.ff L r) "_law_takes" [.str (iI [(gf l).r,(gf l).r]),.str w] (.bool (aO (2<=w.countP λT=>aO (T∈l)))):=by
  rw [<-E];exact K.k2 _
 exact e5 (adD H.ha R B) λaH aK ah aj s=>adB p i F K g H.l4 B R C sd J6 (Ti H.ha H.l4) y.1 ah aj y.2 (O9 (nR H.ha) Hq) (Hw R B) C C (adE H.ha R B) n s C (Vt H.ha R B) Vs (λh=>S (x h)) z λh=>aJ (x h)
theorem s24(p:bK c.B c.Z c.w O)(i:gZ c [])(F:Fm c.V bX 32 d6)(K:rY c O ab ws)(H:Wd ab ws)(E:yF ab (j6 (sq ab (fu ab ws)))=l):
  ES c bX 32 (FL ab ws (fu ab ws) l G P n u a f j m b o v d e A x r y z S L Q h) (bI 24) (FL ab ws (fu ab ws) l G P n u a f j m b o v d e .un (.t (.int (3:J))) .un .un .un .un .un .un .un) .next:=
 kM (zB (s_ F 37 C (zr (zi 4) cU C) C OF C) (us:=[T.int (0:J),T.int (1:J),T.int (2:J),T.int (3:J)]) C)
  (j_ (iA F 13 C (by decide)) (BE p i F K H (by decide) E) (j_ (iA F 13 C (by decide)) (BE p i F K H (by decide) E) (j_ (iA F 13 C (by decide)) (BE p i F K H (az C) E) (j_ (iA F 13 C (by decide)) (BE p i F K H (by decide) E) mq)))) C C
end
def LX(c:Cx Ob)(k:bD Ob)(y:I (AV Ob))(st:I cz):Prop:=
 ∀(T:HB)(g:Fz)(s:aU)(Q:Flow->aU->Prop)(H:aB->aU->Prop),T.lk=[]->SR c.B c.ρ T g c.V bX 32 y s.heap->
  (∀t j x,bQ s t->SR k c.ρ T j c.V bX 32 x t.heap->Q (.ret (.bool Y)) t)->aQ (aI c.Z c.w) c.A (execs st c.V) Q H s
section
variable{c:Cx Ob}{st:cz}{rest:I cz}{lv aY:I (AV Ob)}
theorem iG(h:ES c bX 32 lv u aY .next)(r:LX c k aY rest):LX c k lv (u::rest):=by
 intro T g s Q H e S R;refine gN (h.1 T g s _ _ e S λa i L q o E d=>?_);obtain rfl:=d.nx;exact r T i a Q H e E λt j b x A=>R t j b (q.trans x) A
theorem Zo(a:SP c bX 32 lv u b)(r:∀x A,b x A->A=.next/\LX c k x rest):LX c k lv (u::rest):=by
 intro T g s Q H e S R;refine gN (a.1 T g s _ _ e S λi l L aY A p q o E d=>?_);obtain⟨rfl,r⟩:=r aY A p;obtain rfl:=d.nx;exact r T l i Q H e E λt j x n h=>R t j x (q.trans n) h
theorem Zp(i:ES c bX 32 lv u aY (.ret (.bool Y))):LX c c.B lv (u::rest):=by
 intro T g s Q H e S R;refine gN (i.1 T g s _ _ e S λh a L q o E d=>?_);obtain⟨v,rfl,d⟩:=d.rt;obtain rfl:=d.inv;exact R h a aY q E
theorem yI(i:J)(X:lv[i]?=D (.own l))(r:LX c k (lv.set i (.t (.list l))) rest):LX c k lv rest:=by
 intro T g s Q H e S R;refine cps λ_ v=>?_;obtain⟨w,m,a,h⟩:=S;exact dG (h.freeze X) λj B d A=>v (r T j s Q H e ⟨w,m,_,A⟩ R)
end
section
variable{c:Cx Ob}{ab:I J}{ws:I (I J)}
theorem Y0(p:bK c.B c.Z c.w O)(i:gZ c [])(F:Fm c.V bX 32 d6)(K:rY c O ab ws)(H:Wd ab ws)(s:b=j6 (sq ab (fu ab ws)))(L:a=aO (0<((jB (fu ab ws)).map xM).sum)):
  LX c c.B (o::e::.t (.str ab)::x::j::w::r::P::.t (.str ab)::.t (.list (ws.map .str))::ah::.t (mL (ws.map (iy ab)))::z::n::.t (.bool a)::.t (.list (gL b))::t::.t (.list ((fW (fu ab ws)).map mL))::h::q::.t (mL (lj (fu ab ws)))::.t (mL (ql (fu ab ws)))::.t (mL (q6 (fu ab ws)))::v::m::u::d::y::A::X::B::S::[])
   [bI 19,bI 20,bI 21,bI 22,bI 23,bI 24,bI 25]:=by
 have g:=mQ ab H.ha;have R:=zu g H.l4 H.w4;have ld:U (sq ab (fu ab ws))<=100:=az C;have T:U b<=100:=s▸aD (ki _ _) ld;refine iG (s19 F) (bG (s20 F R g C C C C C) λf Q=>iG Q (yI 23 C (iG (s21 F R ld s L C C C C) (iG (s22 (ab:=ab) F g T C C) ?_))));generalize E:yF ab b=l;have G:=s▸E;have k:U l<=4:=E▸aD (ki _ _) (fq g);refine iG (s23 F k (K.br l (aD k (az C))) (by rw [<-E];exact K.t2 _) C) (iG (s24 p i F K H G) (Zp (jc (zb Y))))
theorem YZ(ek:bK c.B c.Z c.w cl)(R:gZ c [])(F:Fm c.V bX 32 d6)(K:rY c cl ab ws)(W:Wd ab ws)(hr:out=j6 (sq ab (fu ab ws)))(hg:rg=aO (0<((jB (fu ab ws)).map xM).sum)):
  LX c c.B (a0::a1::.t (.str ab)::a3::.t (.list (ws.map .str))::a5::a6::a7::.t (.str ab)::.t (.list (ws.map .str))::ie::.t (mL (ws.map (iy ab)))::fK::DX::.t (.bool rg)::.t (.list (gL out))::DY::DZ::AG::D0::D3::D4::D5::D6::D7::D8::D9::D_::Ea::Eb::Ec::Ed::[])
   [bI 13,bI 14,bI 15,bI 16,bI 17,bI 18,bI 19,bI 20,bI 21,bI 22,bI 23,bI 24,bI 25]:=by
 have h4:=mQ ab W.ha;have hm:=zu h4 W.l4 W.w4;refine iG (s13 F h4 (fq W.l4) C C) (yI 16 C (iG (s14 (M:=fu ab ws) F C) (bG (s15 (M:=fu ab ws) (v:=AG) F K.tm hm C C C C) λv' r15=>iG r15 (yI 17 C ?_))));exact iG (s16 F hm C) (iG (s17 F K.tm hm C C) (iG (s18 F K.tm hm C C) (Y0 ek R F K W hr hg)))
theorem YY{st:au}(p:bK c.B c.Z c.w cl)(i:gZ c [])(F:Fm c.V bX 32 d6)(K:rY c cl ab ws)(H:Wd ab ws)(d:vQ c st bs)(w:bs[0]?=D (U ab))(v:(bs.drop 1).take (U ab)=ab)(k:vP bs (0+1+U ab) ws):
  LX c c.B (a0::a1::.t (.str ab)::a3::.t (.list (ws.map .str))::a5::a6::.obj (.bB st bs 0)::a8::a9::ie::fJ::fK::DX::Ji::Jj::DY::DZ::AG::D0::D3::D4::D5::D6::D7::D8::D9::D_::Ea::Eb::Ec::Ed::[])
   [bI 6,bI 7,bI 8,bI 9,bI 10,bI 11,bI 12,bI 13,bI 14,bI 15,bI 16,bI 17,bI 18,bI 19,bI 20,bI 21,bI 22,bI 23,bI 24,bI 25]:=by
 have g:=mQ ab H.ha;have R:=zu g H.l4 H.w4;have y:=Ju (T:=mh ab ws) H.ha λ_ _ _ _ _=>⟨C,C⟩;refine e5 K.gQ λq l f X j=>e5 (aaR H.ha R) λT o e h s=>iG (s6 p F d w v (fq g) C) (iG (s7 p F d (ae g H.l4.symm) g k C C) (iG (s8 F K.p1 K.t1 g C) (iG (s9 F K.k1 g (fq H.l4) C C) (Zo (s10 p f F K.top X j) λn A B=>ai B λE x b=>?_))));subst x b;refine⟨C,bG (s11 (c:=c) (lv:=a0::a1::.t (.str ab)::a3::.t (.list (ws.map .str))::a5::a6::.obj (.bB st bs (Cp (0+1+U ab) ws))::.t _::.t (.list (ws.map .str))::.t (.list ((ab.map uY).map .str))::.t _::.obj (.bL E [] aa 0 0)::DX::Ji::Jj::DY::DZ::AG::D0::D3::D4::D5::D6::D7::D8::D9::D_::Ea::Eb::Ec::Ed::[]) p K.ad F g H.l4 C C C C C) λt a=>?_⟩;simp only [Tg H.ha H.l4]at a;exact iG a (iG (s12 i F K.rn y.1 e h y.2 (O9 (bq:=λ_=>Y) (M:=mh ab ws) (nR H.ha) λ_ _ _ _ _=>⟨C,C⟩) C) (YZ p i F K H (Og H.ha R) s))
end
abbrev Cx.r2(c:Cx Ob)(A:Inv c.B.tabs):Cx Ob:={c with B:=c.B.re A,G:=fe.re c.G}
theorem abB:∀(s:I _)(c:I J),(∀l∈s,U l<=4)->vP (c++(s.map λw=>U w::w).flatten) (U c) s:=λs=>s.rec
 (λ_ _=>dj)
 (λl s n c h=>by
  have n:=n (c++(U l::l)) λH m=>h H (.tail _ m);rw [gX]at n;have e:U (c++l.length::l)=U c+1+U l:=by apply ae (cC);rw [gB];exact fS (eF (.a (.v 0) (.a (.v 1) (.n 1))) (.a (.a (.v 0) (.n 1)) (.v 1)) C [_,_]) (eF (.a (.a (.v 0) (.n 1)) (.v 1)) (.a (.v 0) (.a (.v 1) (.n 1))) C [_,_])
  simp only [e]at n;refine⟨?_,?_,h l (.head _),n⟩
  .apply ae (kR (dz _));rw [Nat.sub_self];rfl
  .rw [List.drop_append,vm (rM _),RH,xO]
   exact zW)
theorem aaN(g:o.length=4)(y:∀w∈G,U w<4):(sL o G)[0]?=D (U o)/\((sL o G).drop 1).take (U o)=o/\vP (sL o G) (0+1+U o) G:=by
 refine⟨C,?_,?_⟩
 .exact zW
 .have:=abB G (U o::o) λw m=>e7 (y w m);simp only [show U (o.length::o)=0+1+U o by rw [gB];exact fS (eF (.a (.v 0) (.n 1)) (.a (.a (.n 0) (.n 1)) (.v 0)) C [_]) (eF (.a (.a (.n 0) (.n 1)) (.v 0)) (.a (.v 0) (.n 1)) C [_])]at this;exact this
theorem aaM(u:o∈gq)(y:∀w∈G,U w<4)(p:∀w∈G,∀i∈w,∃k,k<4/\i=o.getD k 0):∀x∈sL o G,x<256:=by
 have L:∀o∈gq,∀x∈U o::o,x<256:=by decide
 have X:=L o u;intro x j;rcases fE.mp j with h|h
 .exact X x h
 .refine ai (List.mem_flatten.mp h) λl a j=>ai (dZ.mp a) λw R e=>?_;subst e;rcases cD.mp j with q|q
  .rw [q];exact eI (y w R) (az C)
  .exact ai (p w R x q) λk B e=>e▸X _ (.tail _ (get_mem (mQ o u) B))
theorem aaK{G:I (I J)}(g:U o=4)(H:U G=4)(y:∀w∈G,U w<4):U (sL o G)<=1000:=by
 have L:∀G:I (I J),(∀w∈G,U w<4)->(G.map λw=>U w::w).flatten.length<=4*U G:=λG=>G.rec (λ_=>dz _) λw G n h=>by
  rw [iK,IA,cC,gB,gB];exact aD (iB (h w (.head _)) (n λw m=>h w (.tail _ m))) (fq (qD _ _))
 have:=L G y;show U (o.length::o++_)<=1000;rw [cC,gB,g];exact aD (iL (H▸this) _) (az C)
theorem ad9(s:I aS):∃o,gq[yg (qp s)]?=D o/\Wd o ((qp s).map (ux o)):=by
 have h:yg (qp s)<U gq:=vv _ (by decide);refine⟨gq[yg (qp s)],dD h,afO h,ae (dg _) (ae (dg _) (Gx s)),λw m=>ai (dZ.mp m) λx _ e=>e▸LO _ x,λw m a u=>ai (dZ.mp m) λx _ e=>X6 a (e▸u)⟩
theorem YW(p:bK c.B c.Z c.w O)(k:gZ (c.r2 V2) [])(F:Fm c.V bX 32 d6)(z:1<=c.n)(aC:c.y.DC "_law_stream" 21 (.ref S))(K:jH (c.B.re V1) c.mg S X [])(B:∀{L u h},V1.eJ L h->V1.eJ u h)(i:∀{L h},c.B.inv L h->TabAt h X #[]/\V1.eJ L h)(n:∀{L h},V1.eJ L h->V2.eJ L h)
  (f:∀w:I J,U w<=1000->CF c "_law_counted" [.str w] (nT (U w::w))/\CN c "_law_counted" [.str w] (.list (nT (U w::w))))
  (ak:∀st T,(∀x∈T,x<256)->U T<=1000->vQ (c.r2 V2) st T)
  (P:∀o G,Wd o G->rY (c.r2 V2) O o G)(s:I aS)(b:U s<=100):
  LX c (c.B.re V2) (.t (.list (s.map .int))::nE 31 .un) [bI 0,bI 1,bI 2,bI 3,bI 4,bI 5,bI 6,bI 7,bI 8,bI 9,bI 10,bI 11,bI 12,bI 13,bI 14,bI 15,bI 16,bI 17,bI 18,bI 19,bI 20,bI 21,bI 22,bI 23,bI 24,bI 25]:=by
 refine ai (ad9 s) λo R H=>?_;have g:=mQ o H.ha;have y:U (qp s)<=4:=fq (ae (dg _) (Gx s));have v:=aaj s;have d:=s0 (c:=c) (lv:=.t (.list (s.map .int))::nE 31 .un) F s b C;generalize qp s=e at*;refine iG d (yI 1 C (iG (s1 (ab:=o) F v y R C) (iG (s2 (ab:=o) F v y g C C) (yI 4 C ?_))));generalize bh:e.map (ux o)=G at*;refine iG (s3 (ab:=o) F (f o (g▸az C)).1 C) (bG (s4 (ab:=o) (ws:=G) (v:=.un) F (λw h=>(f w (aD (e7 h) (az C))).2) C C C C H.w4 (fq H.l4) g) λq r4=>iG r4 ?_);have or:=aaN g H.w4;have m:=aaM H.ha H.w4 H.hA;have r:=aaK g H.l4 H.w4;intro E A bf ah aj a ao aq;refine gN (s5 p z aC K B i F (bs:=sL o G) C a ao λt st aE aF=>?_);obtain⟨Q,aK,aL,l⟩:=aF;have aP:=YY (c:=c.r2 V2) (ab:=o) (ws:=G) (st:=st) (bs:=sL o G) (cl:=O) (⟨p.ob,λaH=>p.iF aH,p.ok⟩) k F (P o G H) H (ak st _ m r) or.1 or.2.1 or.2.2
  (a0:=.t (.list (s.map .int))) (a1:=.t (.list (nT e))) (a3:=.un) (a5:=.un) (a6:=q) (a8:=.un) (a9:=.un) (ie:=.un) (fJ:=.un) (fK:=.un) (DX:=.un) (Ji:=.un) (Jj:=.un) (DY:=.un) (DZ:=.un) (AG:=.un) (D0:=.un) (D3:=.un) (D4:=.un) (D5:=.un) (D6:=.un) (D7:=.un) (D8:=.un) (D9:=.un) (D_:=.un) (Ea:=.un) (Eb:=.un) (Ec:=.un) (Ed:=.un)
 exact aP E A t ah aj a ⟨Q,aK,aL,aW.re (B:=c.B.re V1) (mO:=V2) l (n l.inv)⟩ λaN aT a_ aX j=>aq aN aT a_ (aE.trans aX) j
structure Fx(y:Ly Ob)(cl:Cl)(bq:au)(bm:I aB)(Bx newId Fy:String):Prop where
 S:Sy y cl bq bm Bx newId Fy
 d3:y.aZ "read_uint1" 3
 d4:y.aZ "read_string1" 4
 d7:y.aZ "translate" 7
 Ka:y.aZ "escape" 10
 Kc:∃cd P,y.DC "_translate" 12 (.ref cd)/\jH y.B y.mg cd P mX
 Kd:y.aZ "_join_translated_parts" 13
 Ke:y.aZ "_law_plain" 23
 Kf:y.aZ "_law_bracket" 24
 Eu:y.aZ "_law_takes" 25
 Kg:y.aZ "_law_rounds" 26
 Kh:y.aZ "_law_times" 27
 sp:DV y
 pt:vO y
 mA:lO y.B cl "add" 2 oh
 mG:lO y.B cl "_get_nodeinfo" 1 rq
 nI:∃ob fd,iD y.B cl.ni 17 1 ob fd u6
 nN:y.mg "_NodeInfo"=D (.ref cl.N)
 gQ:∃a ob fd,(("__init__":af),a)∈cl.fs/\jZ y.B a ob fd (dF (fL 19 0)) sX/\fd.scope=ef (fL 19 0)/\Binds y.B y.Z y.w fd sX [] [.none]
 top:y.mg "TopologicalSorter"=D (.ref cl.bq)
section
variable{ab:I J}{ws:I (I J)}
theorem adF(h:uQ l=Y):U (iI l)<=100000:=by
 have:=dh (cR.mp (cR.mp (cR.mp h).1).1).2;show U (sC++(kH l++CR))<=_;simp only [cC,cC];exact aD (iL (rK this _) _) (az C)
theorem rdc(z:c.n=6)(G:Fx c.y O d i l A F){st:au}(h:∀x∈bs,x<256)(X:U bs<=1000):vQ c st bs:=λw v R=>z.symm▸ad4 G.S.ek G.d3 G.d4 h X w v R
theorem Zn(z:c.n=6)(G:Fx c.y O cg cB cA bh bz)(H:Wd ab ws):rY c O ab ws:=by
 have l:∀w∈ws,U w<=1000:=λw m=>aD (e7 (H.w4 w m)) (az C);refine cps λ_ j=>d5 G.Kc λbl cF E Q=>mU G.gQ λF cu bx aC aE f aT=>j ?_;have i:∀S:I Px,U S<=100->U (l_ S)<=1000->uQ _=Y->(∀p∈S,p.ok=Y)->c.y.F 6 "translate" [.str _] _:=λS h v R g=>
  ad7 G.d7 E G.Kd Q G.pt (λa u=>adS G.Ka G.sp a u) S h v (adF R) g
 refine⟨λr d a m=>?_,λr d a m=>?_,λr d bU b_ a m w y=>?_,λX bP L T h v=>?_,⟨F,0,z.symm▸az C,aC,λX d=>ad3 G.S.ek aE f aT⟩,G.top,λh v R g P=>?_,λbf ah u aj=>?_,λak ao=>?_,λq x=>?_,λq x r d w y=>?_⟩
 .delta CN
  exact z▸adZ G.Ke a
 .delta CN
  have o:=O2 H.ha m;have:=i [ng a] (az C) (by rw [Pd,gB,cC];exact aD (ju (rK (GD a) 1)) (az C)) o.2.1 (λp t=>cO.mp t▸o.1);rw [Pd]at this;exact z▸this
 .delta CN
  have o:=O2 H.ha m;have:=Qa (n:=5) G.Eu o.2.1 (l w y);rw [show [(ng a).r].map Row.t=[[a]]from aA (λaF=>[aF]) o.2.2,Xc]at this;exact z▸this
 .obtain⟨aH,aK,aL,aq,aP,n⟩:=G.mA;obtain⟨bC,bE,bH,aN,bR,a_⟩:=G.mG;exact jL G.nI λbY fN aX=>⟨aH,aK,aL,aq,aP,n.d.ho,n.d.hd,z.symm▸w_add (n:=2) G.S.ek n a_ aX G.nN aN L T h v⟩
 .exact z.symm▸ad1 G.S G.Kg h v R g P
 .delta CN
  exact z▸ad5 (n:=5) G.Kh bf ah u aj
 .delta CN
  exact z▸adN (n:=5) G.Kf ak ao
 .delta CN
  have b:=JR H.ha q x;have A:U (ab.filter q)<=4:=aD (ki _ _) (fq (mQ ab H.ha));have s:=JQ (ab.filter q)
  have:=i [gf _,gf _] (az C) (by rw [Pe,cC,cC,gB];show _+1+(_+1)+1<=_;exact m5 0 (.a (.a (.a (.v 1) (.n 1)) (.a (.v 1) (.n 1))) (.n 1)) (.n 1000) (.v 0) (.n 4) (.v 0) (.n 4) (.v 1) (.a (.v 0) (.n 4)) (.v 1) (.a (.v 0) (.n 4)) C [_,_] A A s s) b.2.1 (λp t=>by
   rcases cD.mp t with e|e
   .rw [e];exact b.1
   .rw [cO.mp e];exact b.1)
  rw [Pe]at this;exact z▸this
 .delta CN
  have b:=JR H.ha q x;have:=Qa (n:=5) G.Eu b.2.1 (l w y);rw [show([(gf _).r,(gf _).r].map Row.t)=[(gf _).r.t,(gf _).r.t]from C,Xd λk m=>b.2.2 k (ai (H.hA w y k m) λcH B e=>e▸get_mem (mQ ab H.ha) B)]at this;exact z▸this
end
abbrev Ly.r2(H:Ly Ob)(A:Inv H.B.tabs):Ly Ob:={H with B:=H.B.re A,G:=fe.re H.G}
theorem Y3:dF (bB 28)=[bI 0,bI 1,bI 2,bI 3,bI 4,bI 5,bI 6,bI 7,bI 8,bI 9,bI 10,bI 11,bI 12,bI 13,bI 14,bI 15,bI 16,bI 17,bI 18,bI 19,bI 20,bI 21,bI 22,bI 23,bI 24,bI 25]:=C
section
variable{y:Ly Ob}
theorem YX{V1 V2:Inv y.B.tabs}(G:Fx (y.r2 V2) u bC cu bP bR cL)(aF:y.DC "_law_stream" 21 (.ref aT))(K:jH (y.B.re V1) y.mg aT bf [])(bl:∀{L z h},V1.eJ L h->V1.eJ z h)(T:∀{L h},y.B.inv L h->TabAt h bf #[]/\V1.eJ L h)(Q:∀{L h},V1.eJ L h->V2.eJ L h)
  (g:y.aZ "_law_counted" 22)
  {o:bM}{a code:aB}(ak:y.B.h₀.get? i=D o)(aC:o.data=.func (docDef "law" (gw (bB 28)) (dF (bB 28)) (ef (bB 28)) a code r))(X:y.B.h₀.CodeRec code "law")
  {fz:Fz}{v:aB}{s:aU}{Rs:pT->aU->Prop}(k:dW l 7)(d:l.frames=D [])(O:Ready y.B fz s){sc:I aS}(E:Den ρ fz v (.list (sc.map .int)))(B:U sc<=100)
  (S:∀t j,bQ s t->(∀b,b∉y.B.tabs->∀x,s.heap.get? b=D x->t.heap.get? b=D x)->V2.eJ j t.heap->Rs (.ok (.ret (.bool Y))) t):
  codeAny (aI y.Z y.w) l (.call (.ref i) ⟨[v],[]⟩) Rs s:=by
 have F:oN (ef (bB 28)) bX:=l9 (by decide+kernel);have P:bindArgs (docDef "law" (gw (bB 28)) (dF (bB 28)) (ef (bB 28)) a code r) ⟨[v],[]⟩=pure (e0 bX [v]):=C;have ah:(ef (bB 28)).names.lookup ("script":af)=D .local:=by decide+kernel
 refine IQ k.d (O.base _ _ ak) aC (y.G.nolimit O.base) (X.keeps O.base) C P C (λx aj=>?_) (λn R=>?_) C C C
 .have:=cO.mp aj;exact this.symm▸(.inl ah)
 let f:=di (docDef "law" (gw (bB 28)) (dF (bB 28)) (ef (bB 28)) a code r) s.heap.objs.size i
 let c:=y.c (l.deeper f) ρ f 6 k.deeper
 have ao:Fm c.V bX 32 d6:=jM (by decide+kernel) C;have aq:gZ (c.r2 V2) []:=⟨(aR ([]) (QZ d) (λe aE=>(bA (aE) dR))),C,by show(ef (bB 28)).kind≠_;exact nofun,λH p=>(nomatch p),λL h _ H p=>(nomatch p),λL h b_ aK aL=>V2.of aK (λb o bE _ e=>e) λaN aP o e=>(aL aN aP o e).elim id λq=>(nomatch q.1)⟩;have aX:bK c.B c.Z c.w u:=⟨G.S.ek.ob,λaH=>G.S.ek.iF aH,G.S.ek.ok⟩;have H:=YW (c:=c) (V1:=V1) (V2:=V2) aX aq ao (show 1<=6 by exact gE _) aF K bl T Q (λw h=>⟨adP (n:=5) g w h,adO (n:=5) g w h⟩)
  (λst bH bh a_=>rdc (c:=c.r2 V2) C G bh a_) (λbU bY bx=>Zn (c:=c.r2 V2) C G bx) sc B
 simp only [<-Y3]at H;refine H _ fz n _ _ C (CH (B:=y.B) (ρ:=ρ) (fz:=fz) (xs:=bX) (tn:=[.list (sc.map .int)]) (vs:=[v]) (fd:=docDef "law" (gw (bB 28)) (dF (bB 28)) (ef (bB 28)) a code r) (a:=i) (s:=s) (s₁:=n) F C C O (.cons E .nil) (eA C) R) λt j cg q A=>?_;obtain⟨_,cA,cB,A⟩:=A;exact d5 R.done λcF cH bz cQ=>S t j (bQ.trans (bQ.of bz) q) (λb m x e=>A.kept b x (by show(if b∈y.B.tabs then aa else s.heap.get? b)=D x;exact ae (aJ m) e)) A.inv
end
noncomputable abbrev GG:cy:=PySem.Challenge.rw_rx0064_02.row.prog
def o5(w:bZ):Cl:={K:=hK w.params,bq:=206,N:=109,fs:=[("__init__",142),("_get_nodeinfo",149),("add",156),("prepare",161),("get_ready",168),("is_active",175),("done",189),("_find_cycle",196)],ni:=105,p0:=110,p1:=111,p2:=112}
theorem YG(w:bZ):tN (o5 w)where
 pg:=λE=>C
 hd:=C
 sa:=C
 po:=C
 Gb:=C
 Ms:=C
 Mr:=C
 lt:=dN _ _
 JI:=C
 K_:=C
 Gu:=λE=>C
 MW:=C
 Cb:=C
 B8:=C
 Nb:=C
 M7:=C
 M6:=C
 s0:=⟨C,C,C,C,C⟩
 s1:=⟨C,C,C,C,C⟩
 s2:=⟨C,C,C,C,C⟩
noncomputable def t0:bM:=⟨.none,aa,.fields #[],#[]⟩
def tabI(f:cf):Prop:=∀P∈[212,78],f.get? P=D t0
def lB(w:bZ)(h:cf):bD Ob where
 ob:=I8 GG w (o5 w)
 ok:=λE=>True
 h₀:=rest h [212,78]
 base:=λE=>dj
 frame:=λx E k=>aaC x k
 tabs:=[212,78]
 inv:=λ_=>tabI
 live:=λi P s=>cW (i P s)
 uB:=λi E k P s=>k P s _ (i P s)
theorem uE:212∈([212,78]:I au):=.head _
theorem wj:78∈([212,78]:I au):=.tail _ (.head _)
theorem AH{p:au->Prop}(a:p 212)(b:p 78):∀P∈[212,78],p P:=bO a (bO b eK)
def BC(w:bZ)(h:cf):Inv (lB w h).tabs where
 eJ:=λ_ f=>(∃S,TabAt f 212 S)/\TabAt f 78 #[]
 live:=λi=>AH (ai i.1 λS e E=>cW e) (cW i.2.1)
 of:=λi E k=>⟨ai i.1 λS e r=>aR S (k 212 uE _ e) r,k 78 wj _ i.2.1,i.2.2⟩
def i8(w:bZ)(h:cf):Inv (lB w h).tabs where
 eJ:=λL f=>(∃S,TabAt f 212 S)/\∃S,TabAt f 78 S/\rT L mX S
 live:=λi=>AH (ai i.1 λS e E=>cW e) (ai i.2 λS e E=>cW e.1)
 of:=λi l k=>⟨ai i.1 λS e r=>aR S (k 212 uE _ e) r,ai i.2 λS e c=>(aR (S) (⟨k 78 wj _ e.1,e.2⟩) (c.le l))⟩
theorem Vq(i:tabI f):TabAt f 212 #[]/\(BC w h).eJ L f:=⟨⟨i 212 uE,dj⟩,⟨#[],i 212 uE,dj⟩,i 78 wj,dj⟩
theorem aaW(i:(BC w h).eJ L f):(i8 w h).eJ L f:=⟨i.1,#[],i.2,λx j a e=>aV C e⟩
theorem Gv{l:I au}(u:h.Ns a m)(q:a∉l):(rest h l).Ns a m:=jz u λo Q L e r=>l0 o Q L (nZ e q) r
section
variable{w:bZ}{h:cf}{mg mb:af->bg aB}
theorem gz(G:(hK w.params).In h)(k:bF (rest h [212,78]) f):(hK w.params).In f:=λa o e=>by
 refine k a o (nZ (G a o e) λq=>?_);have z:∀P∈([212,78]),(hK w.params).lookup P=aa:=by
  intro P s;simp only [cD,dR,or_false]at s;rcases s with rfl|rfl<;>kernel_rfl
 exact aV (z a q) e
theorem CU(T:TopRead p m mg mb h):TopRead p m mg mb (rest h [212,78]):=
 ⟨Gv T.g (nofun),Gv T.b (nofun),ai T.nolimit λP u e=>aR P (Gv u (nofun)) e,T.builtins,T.free⟩
theorem TG(G:(hK w.params).In h)(T:TopRead p m mg mb h)(i:J)(x:af)(v:aB)(e:vX[i]?=D (x,v)):mg x=aa/\mb x=D v:=by
 have a:(vX.all λH=>nsIn (hK w.params) jX H.1==D aa&&bootBuiltins H.1==D H.2&&! H.1==("__name__"))=Y:=C;have:=gK.mp a (x,v) (cN e);simp only [oq,DF,tq]at this;exact bT this λn c=>bT (n) λs b=>⟨mg_none_of G T.g s,by apply ae (T.builtins x (by simpa using c));exact b⟩
def lY(G:(hK w.params).In h)(T:TopRead p m mg mb h):Ly Ob where
 B:=lB w h
 Z:=GG
 w:=w
 mg:=mg
 mb:=mb
 G:=⟨λk=>(CU T).g.keeps k,λk=>(CU T).b.keeps k,λk=>(CU T).nolimit.keeps k⟩
 bi:=TG G T
theorem oS{B:bD Ob}(e:∀{f},bF B.h₀ f->(hK w.params).In f)(G:h.Ns jX mg)(x:(hK w.params).In h){L:af}(a c:au)(o n:bM)(t:nsIn (hK w.params) jX L=D (D (.ref a)))(b:(hK w.params).lookup a=D o)
  (i:o.data=.func (docDef L (gw (bB u)) (dF (bB u)) (ef (bB u)) y (.ref c) r))(j:(hK w.params).lookup c=D n)(O:n.data=.fields z)(s:z[1]?=D (.str L A)):pV B mg L u:=
 X3 a o y _ r (mg_of x G t) (λk=>e k _ _ b) i (λk=>qX c n z A C (e k _ _ j) O s)
theorem Kn(G:(hK w.params).In h)(T:TopRead p m mg mb h)(a c:au)(o n:bM)(t:nsIn (hK w.params) jX L=D (D (.ref a)))(b:(hK w.params).lookup a=D o)
  (e:o.data=.func (docDef L (gw (bB u)) (dF (bB u)) (ef (bB u)) y (.ref c) r))(j:(hK w.params).lookup c=D n)(O:n.data=.fields z)(i:z[1]?=D (.str L A)):(lY G T).DC L u (.ref c):=
 qX a o y r (mg_of G T.g t) (λk=>gz G k _ _ b) e (λk=>(qX c n z A C (gz G k _ _ j) O i))
theorem uF(G:(hK w.params).In h)(T:TopRead p m mg mb h)(a c:au)(o n:bM)(x:(L,a)∈(o5 w).fs)(i:vG (o5 w) a)(b:(hK w.params).lookup a=D o)
  (e:o.data=.func {docDef L (gw (fL 19 t)) (dF (fL 19 t)) (ef (fL 19 t)) y (.ref c) r with qualname:=q})(j:(hK w.params).lookup c=D n)(O:n.data=.fields z)(s:z[1]?=D (.str q A))(Q:oN (ef (fL 19 t)) l):lO ((lY G T).r2 (i8 w h)).B (o5 w) L t l:=
 ⟨a,o,_,x,i,⟨⟨λk=>gz G k _ _ b,e,λk=>qX c n z A C (gz G k _ _ j) O s,C,C,Q,C,C⟩,C,C,C,C⟩⟩
end
section
variable{w:bZ}
theorem tY(w:bZ):∀x∈(o5 w).fs,vG (o5 w) x.2:=by
 intro x j;have h:((o5 w).fs.all λx=>specialIn (hK w.params) (.ref x.2) "__get__"==D (D (.builtin "function.__get__"))&&takesIn (hK w.params) (.ref x.2)==D ay&&fnIn (hK w.params) x.2)=Y:=C;have:=gK.mp h x j;simp only [oq,DF]at this;exact⟨this.1.1,this.1.2,this.2⟩
def yn(P:oF):iO DictEntry:=match(N2).data with|.dict Q _=>Q|_=>#[]
noncomputable def L4(s:af):aB->bw
 |.str x _=>x==s
 |_=>ay
theorem Yi(h:L4 s v=Y):∃y,v=.str s y:=by
 cases v with
 |str x y=>exact⟨y,by rw [iP h]⟩
 |_=>exact cY C h
theorem Yh{v:aB}(h:v.isInt i=Y):∃y,v=.int i y:=by
 cases v with
 |int t y=>exact⟨y,by rw [iP (a:=t) h]⟩
 |_=>exact cY C h
def J0(P:oF)(a:J):bw:=bif aO (a∈uX)then(findBy Si (yn P) (a:aS)).any (L4 (ck [92,a]))else(findBy Si (yn P) a).isNone
theorem Ue(P:oF):(dm 256).all (J0 P)=Y:=by kernel_rfl
def Yq(P:oF):bw:=(yn P).toList.all λe=>e.key.isInt e.hash&&e.hash==hashInt e.hash
theorem Yr(P:oF):Yq P=Y:=C
set_option tactic.hygienic true in
theorem sp3(G:(hK w.params).In h)(T:TopRead p b O A h):DV ((lY G T).r2 (i8 w h))where
 ex:=by
  refine lZ 66 (findBy Si (yn w.params)) (mg_of G T.g C) C (λ{f}k=>?_) (λa u=>?_)
  .refine Fe _ (yn w.params) _ (gz G k _ _ C) (dI C C C) C (λe m=>?_) (λE=>C);have:=gK.mp (Yr w.params) e (Array.mem_toList_iff.mpr m);exact bT (cR.mp this) λi v=>(Yh i).elim λx B=>aR e.hash (by rw [B];exact aM C) (iP v)
  .have:=gK.mp (Ue w.params) a (fm.mpr u);unfold J0 at this
   by_cases R:a∈uX
   .rw [cM R]at this;refine ai ((IK _ _).mp this) λs e q=>?_;obtain⟨y,rfl⟩:=Yi q;exact .inr ⟨R,y,e⟩
   .rw [ee R]at this;exact .inl ⟨R,Option.isNone_iff_eq_none.mp this⟩
theorem pt3(G:(hK w.params).In h)(T:TopRead p m O A h):vO ((lY G T).r2 (i8 w h))where
 ex:=aR 57 (mg_of G T.g C) (λk=>⟨NY,_,_,_,_,56,NX,_,gz G k _ _ C,C,C,C,gz G k _ _ C,C⟩)
theorem JN(G:(hK w.params).In h)(T:TopRead p m O A h)(f:h.BuiltinsAt O 64)(s:P∈[212,78])(k:bF (rest h [212,78]) e):e.BuiltinsAt O P:=by
 refine Kr f λx u a b c d i L=>?_;have R:=mg_of G T.g (n:="__builtins__") (v:=.ref 4) C;rw [R]at a;obtain rfl:=ko (bj a);exact LL 4 u R b c (AH (by decide) (wq C) P s) (k _ _ (nZ i (nofun))) L
theorem adm(G:(hK w.params).In h)(T:TopRead p m O A h)(x:h.BuiltinsAt O 64)(l:∀{f},bF (rest h [212,78]) f->lN f c 212):jH ((lB w h).re (BC w h)) O c 212 []where
 tab:=uE
 hd:=l
 at_:=λi=>ai i.1 λS e E=>⟨S,⟨e,E⟩,λb j=>bA j dR⟩
 put:=λi E k e=>⟨ai e λS a _=>⟨S,a⟩,k 78 wj (wq C) _ i.2.1,i.2.2⟩
 ne:=wq C
 bm:=JN G T x uE
theorem adn(G:(hK w.params).In h)(T:TopRead p m O A h)(e:h.BuiltinsAt O 64)(l:∀{f},bF (rest h [212,78]) f->lN f c 78):jH ((lB w h).re (i8 w h)) O c 78 mX where
 tab:=wj
 hd:=l
 at_:=λi=>i.2
 put:=λi E k a=>⟨ai i.1 λS x r=>aR S (k 212 uE (wq C) _ x) r,a⟩
 ne:=wq C
 bm:=JN G T e wj
theorem AU(G:(hK w.params).In e)(b:(hK w.params).lookup c=D o)(h:o.cls=.type "code")(j:o.data=.fields z)(O:z[11]?=D (.ref P))(i:z.getD 18 .none=.str L q)(x:z.getD 7 .none=.int a v)(p:z.getD 9 .none=.bool X)(s:z.getD 10 .none=.int l d)(k:c≠P)
  (n:bF (rest e [212,78]) f):lN f c P:=
 ⟨o,z,L,q,a,v,X,l,d,gz G n _ _ b,h,j,O,by apply ae Array.getD_eq_getD_getElem?;rw [O];rfl,i,x,p,s,k⟩
theorem Yc(G:(hK w.params).In h)(T:TopRead p m e A h):∃a u S,(("__init__":af),a)∈(o5 w).fs/\jZ ((lY G T).r2 (i8 w h)).B a u S (dF (fL 19 0)) sX/\S.scope=ef (fL 19 0)/\Binds ((lY G T).r2 (i8 w h)).B ((lY G T).r2 (i8 w h)).Z w S sX [] [.none]:=by
 apply oX 142 _ _ (.head _) ⟨λk=>gz G k _ _ C,C,λk=>qX 141 _ _ _ C (gz G k _ _ C) C C,C,C,l9 (C),C,C⟩ C;intro L F y z g s Q H B O b R;obtain rfl:=b.i9 C;refine BindsTo.of_defaults C (gz G O.base _ _ C) C C C _ _ _ _ (R s g [.none] (cj.refl O) (.cons .none .nil) (bF.refl _))
end
theorem sy3(G:(hK w.params).In h)(T:TopRead p m O A h):Sy ((lY G T).r2 (i8 w h)) (o5 w) 124 [.type "ValueError",.type "Exception",.type "BaseException",.type "object"] "ValueError" "ValueError.__new__" "ValueError.__init__"where
 ek:=⟨C,λk=>gz G k,YG w⟩
 OC:=own_of_in (gz G (bF.refl _)) (CU T) C (by kernel_rfl)
 FB:=PySem.F.excBase_ValueError
 mR:=uF G T 168 167 _ _ (by exact cN (i:=4) C) (tY w ("get_ready",168) (by exact cN (i:=4) C)) C C C C C (l9 (by decide+kernel))
 mI:=uF G T 175 174 Nv Nu (by exact cN (i:=5) C) (tY w ("is_active",175) (by exact cN (i:=5) C)) C C C C C (l9 (by decide+kernel))
 mD:=uF G T 189 188 Ny Nx (by exact cN (i:=6) C) (tY w ("done",189) (by exact cN (i:=6) C)) C C C C C (l9 (by decide+kernel))
 mP:=uF G T 161 160 Nt Nr (by exact cN (i:=3) C) (tY w ("prepare",161) (by exact cN (i:=3) C)) C C C C C (l9 (by decide+kernel))
 mF:=uF G T 196 195 NB Nz (by exact cN (i:=7) C) (tY w ("_find_cycle",196) (by exact cN (i:=7) C)) C C C C C (l9 (by decide+kernel))
 nO:=⟨549,mg_of G T.g (by exact C)⟩
 nD:=⟨552,mg_of G T.g (by exact C)⟩
theorem WX(G:(hK w.params).In h)(T:TopRead p m O A h)(f:h.BuiltinsAt O 64):Fx ((lY G T).r2 (i8 w h)) (o5 w) 124 [.type "ValueError",.type "Exception",.type "BaseException",.type "object"] "ValueError" "ValueError.__new__" "ValueError.__init__"where
 S:=sy3 G T
 d3:=oS (B:=((lY G T).r2 (i8 w h)).B) (gz G) T.g G 45 44 NU NS (by kernel_rfl) C C C C C
 d4:=oS (B:=((lY G T).r2 (i8 w h)).B) (gz G) T.g G 52 51 NW NV (by kernel_rfl) C C C C C
 d7:=oS (B:=((lY G T).r2 (i8 w h)).B) (gz G) T.g G 64 63 N1 NZ (by kernel_rfl) C C C C C
 Ka:=oS (B:=((lY G T).r2 (i8 w h)).B) (gz G) T.g G 76 75 N4 N3 (by kernel_rfl) C C C C C
 Kc:=(gg 82 78 (Kn G T 83 82 N6 N5 (by exact C) C C C C C) (adn G T f (AU G C C C C C C C C (by exact nofun))))
 Kd:=oS (B:=((lY G T).r2 (i8 w h)).B) (gz G) T.g G 90 89 N8 N7 (by kernel_rfl) C C C C C
 Ke:=oS (B:=((lY G T).r2 (i8 w h)).B) (gz G) T.g G 229 228 NI NH (by kernel_rfl) C C C C C
 Kf:=oS (B:=((lY G T).r2 (i8 w h)).B) (gz G) T.g G 234 233 NK NJ (by kernel_rfl) C C C C C
 Eu:=oS (B:=((lY G T).r2 (i8 w h)).B) (gz G) T.g G 241 240 NM NL (by kernel_rfl) C C C C C
 Kg:=oS (B:=((lY G T).r2 (i8 w h)).B) (gz G) T.g G 248 247 NO NN (by kernel_rfl) C C C C C
 Kh:=oS (B:=((lY G T).r2 (i8 w h)).B) (gz G) T.g G 253 252 NQ NP (by kernel_rfl) C C C C C
 sp:=sp3 G T
 pt:=pt3 G T
 mA:=uF G T 156 155 Nq Np (by exact cN (i:=2) C) (tY w ("add",156) (by exact cN (i:=2) C)) C C C C C (l9 (by decide+kernel))
 mG:=uF G T 149 148 Nn Nm (by exact cN (i:=1) C) (tY w ("_get_nodeinfo",149) (by exact cN (i:=1) C)) C C C C C (l9 (by decide+kernel))
 nI:=⟨Nl,_,⟨λk=>gz G k _ _ C,C,λk=>(qX 104 Nk _ _ C (gz G k _ _ C) C C),C,C,l9 (by decide+kernel),C,C⟩,C,C,C,C⟩
 nN:=mg_of G T.g (by exact C)
 gQ:=Yc G T
 top:=mg_of G T.g (by kernel_rfl)
theorem aea{i:aS}(y:Well P h v (.int i)):Den F g v (.int i):=by cases y;exact .int _ _
theorem US{l:I aS}:∀{z:I aB},WellAll P h z (ofPys (l.map PyData.int))->bu F g z (l.map .int):=by
 induction l with
 |nil=>intro z y;cases y;exact .nil
 |cons i l n=>exactλy=>e5 (wellAll_cons_inv y) λv r e a b=>e▸.cons (aea a) (n b)
theorem TX(G:(hK w.params).In h)(T:TopRead p g O A h)(f:h.BuiltinsAt O 64)(k:∀P∈[212,78],h.get? P=D t0)(B:s.heap=h){a:au}{r:I aS}(y:Well w.params h (.ref a) (ofPy (.list (r.map .int))))(X:U r<=63)
  {Rs:pT->aU->Prop}(o:∀t,bQ s t->(∀b,b∉[212,78]->∀l,s.heap.get? b=D l->t.heap.get? b=D l)->(∀P∈[212,78],∃S,TabAt t.heap P S)->Rs (.ok (.ret (.bool Y))) t):
  codeAny (aI GG w) callerA (.call (.ref 258) ⟨[.ref a],[]⟩) Rs s:=by
 subst B;have y:∃z,s.heap.get? a=D (lo z 0)/\WellAll w.params s.heap z (ofPys (r.map .int)):=by
  have y:Well w.params s.heap (.ref a) (.list (ofPys (r.map .int))):=y;cases y with
  |list j v=>exact⟨_,j,v⟩
 refine ai y λz L n=>?_;have u:a∉([212,78]:I au):=λq=>by
  have:=k a q;rw [L]at this;exact nomatch this
 refine YX (y:=lY G T) (V1:=BC w s.heap) (V2:=i8 w s.heap) (WX G T f) (Kn G T 217 216 ND NC (C) C C C C C) (adm G T f (c:=216) (AU G (c:=216) C C C C C C C C (by exact nofun))) (λi=>i) (λi=>Vq i) (λi=>aaW i)
  (oS (gz G) T.g G 222 221 NG NF (by kernel_rfl) C C C C C)
  (gz G (bF.refl _) _ _ C) C (qX 257 NR _ _ C (gz G (bF.refl _) _ _ C) C C)
  (ρ:=⟨0,0⟩) (fz:=(rest s.heap [212,78]).get?) (sc:=r) ⟨dN _ _,dN _ _,C⟩ C ?_ ?_ (aD X (az C)) λt d q H i=>o t q H (AH i.1 (ai i.2 λS x E=>⟨S,x⟩))
 .exact{bJ:=λb m x=>uT _ b m x,base:=uT _,inv:=k,i_:=λP e=>tI _ e,nk:=λP e=>tI _ e}
 .exact .list (nZ L u) (US n)
end Mine.Internal
set_option tactic.hygienic false
open PySem PySem.Calls PySem.SeqAt PyProof.Rows PySem.W
namespace Mine.Internal
section
variable{w:bZ}
theorem aaQ(G:(hK w.params).In h)(l:∀P∈[212,78],h.get? P=D t0){f:cf}(B:∀b,b∉[212,78]->∀x,h.get? b=D x->f.get? b=D x)(t:∀P∈[212,78],∃S,TabAt f P S):OldK h f:=by
 have a:∀P∈([212,78]),isCodeTable h P:=λP s=>by
  have y:TabAt h P #[]:=⟨l P s,dj⟩;simp only [cD,dR,or_false]at s;rcases s with rfl|rfl
  .exact((AU G (c:=216) C C C C C C C C (nofun) (uT _)).tab y).isCodeTable
  .exact((AU G (c:=82) C C C C C C C C (nofun) (uT _)).tab y).isCodeTable
 refine⟨λb o e=>?_,λb o e=>?_⟩
 .by_cases q:b∈[212,78]
  .refine ai (t b q) λS R E=>?_;have:=l b q;rw [e]at this;obtain rfl:=bj this;exact .inr (.inl ⟨a b q,C,#[],S,C,by apply ae R;simp [t0]⟩)
  .exact .inl (B b q o e)
 .by_cases q:b∈[212,78]
  .exact ai (t b q) λS R E=>⟨_,R⟩
  .exact⟨o,B b q o e⟩
end
end Mine.Internal
theorem Mine.Internal.ace:OpenLaw.wellSaid PySem.Challenge.rw_rx0064_02=Y:=by kernel_rfl
open Mine.Internal
set_option tactic.hygienic true in
theorem PySem.Challenge.cw_rx0064_02_holds : PySem.Challenge.rw_rx0064_02.Holds := by
 refine holds_law Mine.Internal.ace λ_=>holds_open (q:=q3) (loose:=BL) (XP:=XL q3 []) (Yf:=Rh lH) (Ya:=Ri lH) (YP:=Hook.says lH) (N:=5824) ?hl (Hook.of lH) (Hook.keeps lH) (λs e=>xl_of s (cR.mp e).1) XL.keeps (by rfl) (by rfl) (by rfl) (λs e=>recFacts_of (cR.mp e).2) (by rfl) (by first|assumption|decide+kernel) (by decide+kernel) ⟨C,C,C,C,C,by decide+kernel⟩ ?hw ?ak
 case hl=>exact Y7
 case hw=>w_witness2
 intro S B c O aN r i Q w aK aL aT ah aE aH P x f p L aj ao aq m F b E v;clear P f x;apply Ground.open r;intro T aX a_ bl A
 wrow_args m F b E v
 rename_i X _ _ _ _ _ _ _ _ a _ _ _ _ k _ _ _ j _;refine bT (i) λG l=>?_;have g:=mg_of G T.g (n:="law") (v:=.ref 258) (by kernel_rfl);have p:O "law"=D (.ref Q):=p;rw [g]at p;cases p;have n:c.heap.BuiltinsAt O 64:=by
  refine Kr (T.bmain) λaC u a aF t d e o=>?_;have R:=mg_of G T.g (n:="__builtins__") (v:=.ref 4) (by exact C);rw [R]at a;cases a;exact⟨4,u,R,by assumption,by exact nofun,by exact nofun,t,d,e,o⟩
 refine enter_call (TX G (topRead_of T) n l C k (by exact(my.mp ((Int.le_of_not_gt j)))) λaP q H y=>?_);obtain⟨bf,bh,q⟩:=q;obtain⟨q,z⟩:=mE q;refine⟨.inl ⟨.bool Y,.bool Y,[],C,λbx=>by rfl,.bool _,?_,λ_=>⟨xK,λa h=>nomatch h⟩⟩,aaQ G l H y,(aA Shared.os q:),z.symm▸.of_eq L⟩
 .first|rfl|exact postW_of (by wrow_shape) (by wtm_val) (by assumption)
