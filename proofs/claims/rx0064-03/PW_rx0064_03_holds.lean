import PyProof.Rows.All
import Wide.All
import OpenK.KCell
import Open.Line
import Open.FastT9
import Open.TreeImp
import Wide.FinOn
import PyProof.Conv_bool
import PyProof.ListTruth
import PyProof.DictWalks
import PyProof.SetNew
import PyProof.SetRoads
import PyProof.MeetsDictList
import PyProof.LetGo
import PyProof.StationsW
import PyProof.RulesTry
import PyProof.RulesDelMore
import PyProof.MeetsSeq
import PyProof.ExcBaseAll.ValueError
import PyProof.FactsAll.str_8
import PyProof.CodeObjX
import PyProof.DefMake
import PyProof.SeqWrite
import KE.BytesMake
import KE.KxDecode
import KE.KStar
import KE.KBoundM
import PyProof.Rows.SortStr
import PyProof.Rows.SortWalk
import PyProof.Rows.MinMaxN
import OpenK.KOwn
import Lean
import PySem.Challenge.RW_rx0064_03
set_option Elab.async false
set_option linter.all false
set_option genInjectivity false
set_option genSizeOf false
set_option tactic.hygienic false
set_option backward.match.sparseCases false
open Array renaming replicate->Ej,getElem?_eq_some_iff->Mt,length_toList->Mu,toList->Zl
open Bool renaming true->aa,false->aA,and_eq_true_iff->ew,and_eq_true->qg,eq_iff_iff->tq,and_self->vo,false_ne_true->Ek,not_eq_true'->El,false_eq_true->Mw,beq_eq_decide_eq->Zm,decide_or->Zn,or_eq_true->Zo
open Decidable renaming em->tu
open Exists renaming imp->En,intro->Zw
open ForInStep renaming yield->tw
open Function renaming comp->xq
open Int renaming ofNat_le->iY,ofNat_lt->kB,pow_succ->ng,lt_trans->qh,le_of_lt->tC,mul_assoc->tD,natCast_nonneg->vq,le_trans->xr,not_lt->xt,toNat_natCast->xu,add_comm->Av,mul_nonneg->Aw,toNat->Ay,add_mul->Er,lt_of_le_of_lt->Es,natAbs_mul->Et,add_lt_add->MG,mul_add->MH,mul_pos->MI,natAbs_add_le->MJ,negSucc->MK,add_lt_add_of_lt_of_le->ZC,add_nonneg->ZD,add_sub_cancel->ZE,fdiv_eq_ediv_of_nonneg->ZF,fmod_eq_emod_of_nonneg->ZG,fmod_nonneg_of_pos->ZH,le_natAbs->ZI,lt_of_lt_of_le->ZJ,max_eq_right->ZK,natAbs_neg->ZL,natCast_mul->ZM,neg_lt_of_neg_lt->ZN,ofNat_sub->ZO,pow_nonneg->ZP,toNat_of_nonneg->ZQ
open Int.ofNat renaming inj->Ax
open List renaming getElem?_eq_some_iff->cw,mem_of_getElem?->cA,mem_cons->cC,length_map->cH,mem_singleton->cI,getElem?_eq_getElem->cP,mem_cons_of_mem->dY,map_map->d_,mem_cons_self->ee,map_append->ej,mem_map->eZ,mem_append->fb,replicate->fg,nodup_append->gm,length_cons->gw,mem_append_left->gx,getElem?_map->gD,mem_map_of_mem->gE,not_mem_nil->gM,getD_eq_getElem?_getD->h_,length_append->ic,map_cons->iA,map_congr_left->iZ,mem_append_right->i0,map->jY,all_eq_true->kC,getElem?_set_ne->k9,getElem?_append_left->l7,getElem?_append_right->l8,nodup_cons->l9,size_toArray->l_,getElem?_of_mem->o8,length_replicate->o9,zipWith->o_,getElem?_set_self->qi,append_nil->rg,lookup_cons->rh,mem_of_mem_take->ri,range->rj,any_eq_true->tE,length_nil->tF,mem_flatMap->tG,append_assoc->vt,pairwise_cons->vv,length_drop->xx,length_filter_le->xy,length_take->xA,map_id->xB,nodup_nil->xC,any_cons->Az,drop_eq_getElem_cons->AA,eq_nil_of_length_eq_zero->AB,foldl->AD,length_zipWith->AE,map_take->AF,nil_append->AG,filter_cons_of_neg->Eu,filter_cons_of_pos->Ew,filter_map->Ex,find?_eq_none->Ey,flatten_cons->Ez,getElem?_zip_eq_some->EB,length_pos_iff->ED,lookup_append->EG,map_nil->EH,not_lt->EK,toArray->EL,all_cons->MM,any_toArray->MN,drop_of_length_le->MO,drop_take->MP,ext_getElem?->MQ,filterMap_cons_some->MR,find?_append->MS,find?_cons->MT,find?_cons_of_neg->MU,find?_cons_of_pos->MV,foldl_cons->MW,getElem?_mapIdx->MX,getElem?_replicate->MY,getElem?_toArray->MZ,getElem_mem->M0,idxOf_lt_length_iff->M1,length->M3,map_drop->M4,map_zipWith->M5,replicate_succ->M6,all_map->ZR,drop_length->ZS,filterMap_cons_none->ZT,find?_map->ZU,forIn_cons->ZV,getElem_of_mem->ZW,length_pos_of_mem->ZX,length_take_le'->ZY,map_flatMap->ZZ,map_replicate->Z0,map_set->Z1,map_toArray->Z2,max?_eq_some_iff->Z3,mem_of_mem_drop->Z4,mem_or_eq_of_mem_set->Z5,mem_range->Z6,mem_singleton_self->Z7,mem_toArray->Z8,of_mem_zip->Z9,range_succ_eq_map->Z_,reverse_cons->Z',take_eq_take_min->aaa,take_length->aab,take_sublist->aac,zipWith_cons_cons->aad
open List.cons renaming inj->xw
open Nat renaming le_add_left->aX,le_trans->bh,lt_succ_self->cY,succ_pos->c3,le_of_ble_eq_true->dP,le_refl->ek,le_add_right->e5,le_antisymm->fV,ne_of_lt->fW,not_lt->gW,le_of_lt->i3,lt_of_le_of_lt->kD,zero_le->mh,add_le_add->nh,lt_irrefl->nj,le_of_not_lt->nR,le_of_eq->pe,beq->qj,lt_of_lt_of_le->qk,lt_succ_of_lt->ql,lt_trans->rm,le_of_succ_le_succ->tH,ne_of_gt->tJ,zero_add->tK,add_le_add_left->vy,max->vz,le_succ->xD,min_eq_left->xE,sub_add_cancel->xF,succ_le_succ->xG,min_self->AI,mul_assoc->AJ,mul_le_mul->AK,mul_le_mul_left->AL,mul_pos->AM,pow_le_pow_right->AO,add_lt_add_left->EM,add_sub_cancel_left->EN,le_succ_of_le->ET,le_total->EU,mod_lt->EV,one_mul->EY,add_le_add_right->M7,ctorIdx->M8,lt_of_succ_lt->M9,min_eq_right->M_,mod_two_eq_zero_or_one->Na,mul_add->Nb,mul_comm->Nc,pow_le_pow_left->Nf,pow_succ->Ng,add_add_add_comm->aag,add_left_cancel->aah,le_of_lt_succ->aai,lt_add_of_pos_right->aaj,lt_succ_iff_lt_or_eq->aak,mul_lt_mul''->aal,ne_of_beq_eq_false->aam,succ_ne_zero->aan
open Nat.succ renaming inj->E0
open Ne renaming symm->jk
open Option renaming some->J,none->ae,isSome_iff_exists->gn,map->qm,isSome->ro,map_eq_some_iff->tL,bind_some->xH,map_some->AP,any_eq_true->aap,bind_eq_some_iff->aaq,eq_some_of_isSome->aar,getD_some->aas,none_or->aat
open Option.some renaming inj->bf
open PUnit renaming unit->Nk
open Prod renaming snd->AQ
open Prod.mk renaming inj->qn
open PyProof.Rows renaming tail_any->tM,Subscript_->vA,evalArgs_nil3->xK,Attribute_any_->Mv,Assign_Tuple->aau,Assign_Tuple_swapped->aav,BoolOp_and->aaw,BoolOp_or->aax,callWith_type->aay,isTrue_plain->aaz,join_list->aaA,mod_int'->aaB,subscriptTail->aaC
open PySem renaming Str->af,Addr->ak,Value->ay,wpAny_bind->aF,Shared->aR,Obj->bE,wpAny_pure->bP,World->b4,Heap->b8,Expr->b9,Stmt->cf,Program->ck,Params->cL,Env->cW,Around->cZ,NameKind->dU,wpAny_Name->eP,Tok->fh,wpAny_holding->gf,wpAny_execs_cons->gN,wpAny_of_eq->iL,sizeLine_eq->jG,wpAny_call->jH,builtinLookup_eq_fast->j0,isSubtype_type->j1,typeLookup_type->j2,wpAny_mono->j3,Scope->j5,wpAny_Assign_Name->kF,wpAny_Call_Name_kw->kG,wpAny_standAt->nk,strKind->qp,wpAny_Call_method->qq,wpAny_assign_Name->qs,codeAny_call_builtin->ru,strKind_is->rA,wpAny_Expr_any->rB,wpAny_execs_nil->rC,wpAny_newObj_type->rD,wpAny_mkStr->tP,FuncData->tQ,plainObj_wpAny_Assign_Attribute->vC,pushCells_keeps->vD,wpAny_truthy_bool->vE,call_meets->xJ,wpAny_isTrue_Compare1->xM,wpAny_mkText->xN,wpAny_rule->xO,entryFor_of_tree->AS,typeIs_str->AU,wpAny_If->AW,wpAny_field->AX,wpAny_seqItems->AY,wpAny_specialOf->AZ,callWith_type->E2,codeAny_builtin->E4,wpAny_BinOp->E6,wpAny_assign_Tuple->E7,wpAny_bindName->E8,wpAny_list_append_plain->E9,wpAny_load->E_,wpAny_loadPart->Fa,wpAny_newList->Fb,Arguments->Fc,codeAny_call_cells->Nu,name_of_addr->Nv,wpAny_Return_some->Ny,wpAny_Try_except->Nz,wpAny_UnaryOp->NB,wpAny_getItem_of->NC,wpAny_nsGet->ND,wpAny_pyIter_list->NF,wpAny_storeName_local->NG,wpAny_typeOf->NH,wpAny_updatePart->NI,codeAny_call_function->aaR,codeAny_compStart_list->aaS,wpAny_AugAssign_AttributeAny->aaT,wpAny_AugAssign_Name->aaU,wpAny_callSpecial?_slot->aaV,wpAny_comprehension_free->aaW,wpAny_letOwnedTupleGo_listiter->aaX,wpAny_listSubscript_int->aaY,wpAny_loadName_local->aaZ,wpAny_unpackItems_tuple->aa0
open PySem.Around renaming frames_deeper->Ei
open PySem.Builtin renaming divisionGoesByPylong->Zt
open PySem.Builtin.Int renaming intBits->Zp
open PySem.Builtin.List renaming listTooLong->Au,listFitsIndex->Zq
open PySem.Builtin.Range renaming rangeSize->m_,rangeFitsLong->Mx,small->Zr
open PySem.Builtin.Str renaming occurrences->My,tableLookup->Zs
open PySem.Calls renaming callWith_builtin->nS,spliced_cons->pn,spliced_nil->rz,evalArgs_plain->tN,callWith_function->AR,Name_function_global->aaf
open PySem.Code renaming quiet_builtin->Em
open PySem.Const renaming int->aaD
open PySem.Data renaming ctorIdx->aaE
open PySem.Data.cell renaming inj->Zu
open PySem.Env renaming blockKind->Mz
open PySem.Expr renaming Name->vp,Attribute->MA
open PySem.F renaming slot_list_getattribute->Eo,type_list_append->Ep,plainAttrs_list->E1,plainAttrs_list->MB,slot_list_append->MC,slot_list_getitem->MD,slot_list_pop->Nl,slot_str_translate->Nm,plainAttrs_dict->Zx,slot_int_rmul->Zy,slot_list_iadd->Zz,slot_str_getitem->ZA,args_object_getattribute_2->aaF,entry_object_getattribute->aaG,slot_dict_delitem->aaH,slot_list_index->aaI,store_object->aaJ,type_list_pop->aaK
open PySem.Heap renaming get?_push_of_some->eF,lt_size->eM,get?_push_size->eY,SameBut->gk,size_push->jX,get?_update_self->nQ,ExtBut->tB
open PySem.Heap.SameBut renaming update->nf
open PySem.Manifest renaming find?->aae
open PySem.NameKind renaming ctorIdx->mj,free->AH
open PySem.Obj renaming mapSeq->kE,data->Nh,data_mapFields->Ni,putName->Nj,isFreed_of_fields->aao
open PySem.PyData renaming keyHash->qo
open PySem.SeqAt.EqAt renaming of_refs->Zv
open PySem.SeqAt.RcAt renaming lists_lengths->aaP
open PySem.Str renaming ofString->aaL
open PySem.StrLaws renaming At->aaM,occ_head->aaN,found_one->aaQ
open PySem.Txt renaming join->Np
open PySem.Value renaming type->k_,type->rq,ref->vB,ref->Nn,int->Nq,isInt->Nr,str->Nt,ctorIdx->aaO
open PySem.Value.ref renaming inj->jZ,inj->E3
open PySem.W renaming hideAll_none->ry,plainGet_of->tO,looks_field->E5,typeIs_bytes->Nx
open PySem.W.FB renaming slot_bytes_decode->ZB
open PySem.W.Hook renaming obs->ME,val->MF
open PySem.W.KF renaming slot_mset->ML
open _root_ renaming rfl->C,List->U,Nat->Y,Int->aq,congrArg->aQ,Option->aS,Bool->bu,if_pos->bB,if_neg->bF,absurd->cg,Array->j4
set_option maxRecDepth 100000
set_option maxHeartbeats 0
section
open PySem PySem.Calls PySem.SeqAt PyProof.Rows PySem.W
set_option maxRecDepth 100000
namespace i4
noncomputable abbrev pw:ck:=PySem.Challenge.pw_rx0064_03
noncomputable def dD{B:Type}:Y->U B->aS B
 |_, []=>ae
 |0,x::_=>J x
 |u+1,_::r=>dD u r
noncomputable abbrev eD:b9:= .Constant .none 0 default
noncomputable def kq:aS cf->b9×b9×U cf×U cf×j5×Fc
 |J (.FunctionDef _ a b _ _ _ G _ _ _)=>(eD,eD,b, [],G,a)
 |J (.While E b o _)=>(E,E,b,o,default,default)
 |J (.For E i b o _)=>(E,i,b,o,default,default)
 |J (.If E b o _)=>(E,E,b,o,default,default)
 |J (.AugAssign _ _ e _)=>(e,e, [], [],default,default)
 |J (.Assign _ e _)=>(e,e, [], [],default,default)
 |J (.Expr e _)=>(e,e, [], [],default,default)
 |J (.Return e _)=>(e.getD eD,eD, [], [],default,default)
 |J (.ClassDef _ _ _ b _ _ _ _ _ _ _)=>(eD,eD,b, [],default,default)
 |_=>(eD,eD, [], [],default,default)
noncomputable def cQ(s:aS cf):U cf:=(kq s).2.2.1
noncomputable def d5(s:aS cf):j5:=(kq s).2.2.2.2.1
noncomputable def gQ(s:aS cf):Fc:=(kq s).2.2.2.2.2
noncomputable def xV:b9->b9×b9×Y
 | .Starred _ _=>(eD,eD,1)
 | .Slice ..=>(eD,eD,2)
 | .Set ..=>(eD,eD,3)
 | .Name ..=>(eD,eD,4)
 | .Tuple ..=>(eD,eD,5)
 | .ListComp e _ _ _=>(e,eD,0)
 | .BinOp a _ b _=>(a,b,0)
 | .Call _ d _ _=>(d.head?.getD eD,eD,0)
 |_=>(eD,eD,0)
noncomputable def bj(u:Y):aS cf:=dD u pw.main.body
noncomputable def Ps(s:aS cf):U cf:=(kq s).2.2.1
noncomputable def e7(i m:Y):aS cf:=dD m (Ps (bj i))
end i4
end
section
namespace i4
theorem bR{p q:Prop}{G:Prop}(h:p/\q)(f:p->q->G):G:=f h.1 h.2
theorem fF{p q r:Prop}{G:Prop}(h:p/\q/\r)(f:p->q->r->G):G:=f h.1 h.2.1 h.2.2
theorem vW{p q r s:Prop}{G:Prop}(h:p/\q/\r/\s)(f:p->q->r->s->G):G:=f h.1 h.2.1 h.2.2.1 h.2.2.2
theorem rW{p q r s t:Prop}{G:Prop}(h:p/\q/\r/\s/\t)(f:p->q->r->s->t->G):G:=f h.1 h.2.1 h.2.2.1 h.2.2.2.1 h.2.2.2.2
theorem yt{p q r s t u:Prop}{G:Prop}(h:p/\q/\r/\s/\t/\u)(f:p->q->r->s->t->u->G):G:=f h.1 h.2.1 h.2.2.1 h.2.2.2.1 h.2.2.2.2.1 h.2.2.2.2.2
theorem bZ{A:Sort _}{p:A->Prop}{G:Prop}(h:∃x0,p x0)(f:∀x0,p x0->G):G:=h.elim λx0 h=>f x0 h
theorem aG{A:Sort _}{p q:A->Prop}{G:Prop}(h:∃x0,p x0/\q x0)(f:∀x0,p x0->q x0->G):G:=h.elim λx0 h=>f x0 h.1 h.2
theorem jq{A:Sort _}{p q r:A->Prop}{G:Prop}(h:∃x0,p x0/\q x0/\r x0)(f:∀x0,p x0->q x0->r x0->G):G:=h.elim λx0 h=>f x0 h.1 h.2.1 h.2.2
theorem P5{A:Sort _}{p q r s:A->Prop}{G:Prop}(h:∃x0,p x0/\q x0/\r x0/\s x0)(f:∀x0,p x0->q x0->r x0->s x0->G):G:=h.elim λx0 h=>f x0 h.1 h.2.1 h.2.2.1 h.2.2.2
theorem jP{A B:Sort _}{p:A->B->Prop}{G:Prop}(h:∃x0 x1,p x0 x1)(f:∀x0 x1,p x0 x1->G):G:=h.elim λx0 h=>h.elim λx1 h=>f x0 x1 h
theorem dK{A B:Sort _}{p q:A->B->Prop}{G:Prop}(h:∃x0 x1,p x0 x1/\q x0 x1)(f:∀x0 x1,p x0 x1->q x0 x1->G):G:=h.elim λx0 h=>h.elim λx1 h=>f x0 x1 h.1 h.2
theorem iD{A B:Sort _}{p q r:A->B->Prop}{G:Prop}(h:∃x0 x1,p x0 x1/\q x0 x1/\r x0 x1)(f:∀x0 x1,p x0 x1->q x0 x1->r x0 x1->G):G:=h.elim λx0 h=>h.elim λx1 h=>f x0 x1 h.1 h.2.1 h.2.2
theorem t_{A B:Sort _}{p q r s:A->B->Prop}{G:Prop}(h:∃x0 x1,p x0 x1/\q x0 x1/\r x0 x1/\s x0 x1)(f:∀x0 x1,p x0 x1->q x0 x1->r x0 x1->s x0 x1->G):G:=h.elim λx0 h=>h.elim λx1 h=>f x0 x1 h.1 h.2.1 h.2.2.1 h.2.2.2
theorem qI{A B:Sort _}{p q r s t:A->B->Prop}{G:Prop}(h:∃x0 x1,p x0 x1/\q x0 x1/\r x0 x1/\s x0 x1/\t x0 x1)(f:∀x0 x1,p x0 x1->q x0 x1->r x0 x1->s x0 x1->t x0 x1->G):G:=h.elim λx0 h=>h.elim λx1 h=>f x0 x1 h.1 h.2.1 h.2.2.1 h.2.2.2.1 h.2.2.2.2
theorem P7{A B:Sort _}{p q r s t u:A->B->Prop}{G:Prop}(h:∃x0 x1,p x0 x1/\q x0 x1/\r x0 x1/\s x0 x1/\t x0 x1/\u x0 x1)(f:∀x0 x1,p x0 x1->q x0 x1->r x0 x1->s x0 x1->t x0 x1->u x0 x1->G):G:=h.elim λx0 h=>h.elim λx1 h=>f x0 x1 h.1 h.2.1 h.2.2.1 h.2.2.2.1 h.2.2.2.2.1 h.2.2.2.2.2
theorem P8{A B:Sort _}{p q r s t u v w:A->B->Prop}{G:Prop}(h:∃x0 x1,p x0 x1/\q x0 x1/\r x0 x1/\s x0 x1/\t x0 x1/\u x0 x1/\v x0 x1/\w x0 x1)(f:∀x0 x1,p x0 x1->q x0 x1->r x0 x1->s x0 x1->t x0 x1->u x0 x1->v x0 x1->w x0 x1->G):G:=h.elim λx0 h=>h.elim λx1 h=>f x0 x1 h.1 h.2.1 h.2.2.1 h.2.2.2.1 h.2.2.2.2.1 h.2.2.2.2.2.1 h.2.2.2.2.2.2.1 h.2.2.2.2.2.2.2
theorem Bu{A B a_:Sort _}{p:A->B->a_->Prop}{G:Prop}(h:∃x0 x1 x2,p x0 x1 x2)(f:∀x0 x1 x2,p x0 x1 x2->G):G:=h.elim λx0 h=>h.elim λx1 h=>h.elim λx2 h=>f x0 x1 x2 h
theorem i8{A B a_:Sort _}{p q:A->B->a_->Prop}{G:Prop}(h:∃x0 x1 x2,p x0 x1 x2/\q x0 x1 x2)(f:∀x0 x1 x2,p x0 x1 x2->q x0 x1 x2->G):G:=h.elim λx0 h=>h.elim λx1 h=>h.elim λx2 h=>f x0 x1 x2 h.1 h.2
theorem gZ{A B a_:Sort _}{p q r:A->B->a_->Prop}{G:Prop}(h:∃x0 x1 x2,p x0 x1 x2/\q x0 x1 x2/\r x0 x1 x2)(f:∀x0 x1 x2,p x0 x1 x2->q x0 x1 x2->r x0 x1 x2->G):G:=h.elim λx0 h=>h.elim λx1 h=>h.elim λx2 h=>f x0 x1 x2 h.1 h.2.1 h.2.2
theorem oA{A B a_:Sort _}{p q r s:A->B->a_->Prop}{G:Prop}(h:∃x0 x1 x2,p x0 x1 x2/\q x0 x1 x2/\r x0 x1 x2/\s x0 x1 x2)(f:∀x0 x1 x2,p x0 x1 x2->q x0 x1 x2->r x0 x1 x2->s x0 x1 x2->G):G:=h.elim λx0 h=>h.elim λx1 h=>h.elim λx2 h=>f x0 x1 x2 h.1 h.2.1 h.2.2.1 h.2.2.2
theorem ua{A B a_:Sort _}{p q r s t:A->B->a_->Prop}{G:Prop}(h:∃x0 x1 x2,p x0 x1 x2/\q x0 x1 x2/\r x0 x1 x2/\s x0 x1 x2/\t x0 x1 x2)(f:∀x0 x1 x2,p x0 x1 x2->q x0 x1 x2->r x0 x1 x2->s x0 x1 x2->t x0 x1 x2->G):G:=h.elim λx0 h=>h.elim λx1 h=>h.elim λx2 h=>f x0 x1 x2 h.1 h.2.1 h.2.2.1 h.2.2.2.1 h.2.2.2.2
theorem P9{A B a_:Sort _}{p q r s t u:A->B->a_->Prop}{G:Prop}(h:∃x0 x1 x2,p x0 x1 x2/\q x0 x1 x2/\r x0 x1 x2/\s x0 x1 x2/\t x0 x1 x2/\u x0 x1 x2)(f:∀x0 x1 x2,p x0 x1 x2->q x0 x1 x2->r x0 x1 x2->s x0 x1 x2->t x0 x1 x2->u x0 x1 x2->G):G:=h.elim λx0 h=>h.elim λx1 h=>h.elim λx2 h=>f x0 x1 x2 h.1 h.2.1 h.2.2.1 h.2.2.2.1 h.2.2.2.2.1 h.2.2.2.2.2
theorem vX{A B a_ D:Sort _}{p:A->B->a_->D->Prop}{G:Prop}(h:∃x0 x1 x2 x3,p x0 x1 x2 x3)(f:∀x0 x1 x2 x3,p x0 x1 x2 x3->G):G:=h.elim λx0 h=>h.elim λx1 h=>h.elim λx2 h=>h.elim λx3 h=>f x0 x1 x2 x3 h
theorem P_{A B a_ D:Sort _}{p q:A->B->a_->D->Prop}{G:Prop}(h:∃x0 x1 x2 x3,p x0 x1 x2 x3/\q x0 x1 x2 x3)(f:∀x0 x1 x2 x3,p x0 x1 x2 x3->q x0 x1 x2 x3->G):G:=h.elim λx0 h=>h.elim λx1 h=>h.elim λx2 h=>h.elim λx3 h=>f x0 x1 x2 x3 h.1 h.2
theorem uc{A B a_ D:Sort _}{p q r:A->B->a_->D->Prop}{G:Prop}(h:∃x0 x1 x2 x3,p x0 x1 x2 x3/\q x0 x1 x2 x3/\r x0 x1 x2 x3)(f:∀x0 x1 x2 x3,p x0 x1 x2 x3->q x0 x1 x2 x3->r x0 x1 x2 x3->G):G:=h.elim λx0 h=>h.elim λx1 h=>h.elim λx2 h=>h.elim λx3 h=>f x0 x1 x2 x3 h.1 h.2.1 h.2.2
theorem Bv{A B a_ D:Sort _}{p q r s:A->B->a_->D->Prop}{G:Prop}(h:∃x0 x1 x2 x3,p x0 x1 x2 x3/\q x0 x1 x2 x3/\r x0 x1 x2 x3/\s x0 x1 x2 x3)(f:∀x0 x1 x2 x3,p x0 x1 x2 x3->q x0 x1 x2 x3->r x0 x1 x2 x3->s x0 x1 x2 x3->G):G:=h.elim λx0 h=>h.elim λx1 h=>h.elim λx2 h=>h.elim λx3 h=>f x0 x1 x2 x3 h.1 h.2.1 h.2.2.1 h.2.2.2
theorem GB{A B a_ D E:Sort _}{p q:A->B->a_->D->E->Prop}{G:Prop}(h:∃x0 x1 x2 x3 x4,p x0 x1 x2 x3 x4/\q x0 x1 x2 x3 x4)(f:∀x0 x1 x2 x3 x4,p x0 x1 x2 x3 x4->q x0 x1 x2 x3 x4->G):G:=h.elim λx0 h=>h.elim λx1 h=>h.elim λx2 h=>h.elim λx3 h=>h.elim λx4 h=>f x0 x1 x2 x3 x4 h.1 h.2
theorem Qa{A B a_ D E:Sort _}{p q r:A->B->a_->D->E->Prop}{G:Prop}(h:∃x0 x1 x2 x3 x4,p x0 x1 x2 x3 x4/\q x0 x1 x2 x3 x4/\r x0 x1 x2 x3 x4)(f:∀x0 x1 x2 x3 x4,p x0 x1 x2 x3 x4->q x0 x1 x2 x3 x4->r x0 x1 x2 x3 x4->G):G:=h.elim λx0 h=>h.elim λx1 h=>h.elim λx2 h=>h.elim λx3 h=>h.elim λx4 h=>f x0 x1 x2 x3 x4 h.1 h.2.1 h.2.2
theorem GC{A B a_ D E:Sort _}{p q r s:A->B->a_->D->E->Prop}{G:Prop}(h:∃x0 x1 x2 x3 x4,p x0 x1 x2 x3 x4/\q x0 x1 x2 x3 x4/\r x0 x1 x2 x3 x4/\s x0 x1 x2 x3 x4)(f:∀x0 x1 x2 x3 x4,p x0 x1 x2 x3 x4->q x0 x1 x2 x3 x4->r x0 x1 x2 x3 x4->s x0 x1 x2 x3 x4->G):G:=h.elim λx0 h=>h.elim λx1 h=>h.elim λx2 h=>h.elim λx3 h=>h.elim λx4 h=>f x0 x1 x2 x3 x4 h.1 h.2.1 h.2.2.1 h.2.2.2
theorem cR{p q r:Prop}(h0:p)(h1:q)(h2:r):p/\q/\r:=⟨h0,h1,h2⟩
theorem jt{p q r s:Prop}(h0:p)(h1:q)(h2:r)(h3:s):p/\q/\r/\s:=⟨h0,h1,h2,h3⟩
theorem j_{p q r s t:Prop}(h0:p)(h1:q)(h2:r)(h3:s)(h4:t):p/\q/\r/\s/\t:=⟨h0,h1,h2,h3,h4⟩
theorem wo{p q r s t u:Prop}(h0:p)(h1:q)(h2:r)(h3:s)(h4:t)(h5:u):p/\q/\r/\s/\t/\u:=⟨h0,h1,h2,h3,h4,h5⟩
theorem Sx{p q r s t u v:Prop}(h0:p)(h1:q)(h2:r)(h3:s)(h4:t)(h5:u)(h6:v):p/\q/\r/\s/\t/\u/\v:=⟨h0,h1,h2,h3,h4,h5,h6⟩
theorem HE{p q r s t u v w:Prop}(h0:p)(h1:q)(h2:r)(h3:s)(h4:t)(h5:u)(h6:v)(h7:w):p/\q/\r/\s/\t/\u/\v/\w:=⟨h0,h1,h2,h3,h4,h5,h6,h7⟩
theorem aM{A:Sort _}{p q:A->Prop}(x0:A)(h0:p x0)(h1:q x0):∃x0,p x0/\q x0:=⟨x0,h0,h1⟩
theorem i12{A:Sort _}{p q r:A->Prop}(x0:A)(h0:p x0)(h1:q x0)(h2:r x0):∃x0,p x0/\q x0/\r x0:=⟨x0,h0,h1,h2⟩
theorem HF{A:Sort _}{p q r s:A->Prop}(x0:A)(h0:p x0)(h1:q x0)(h2:r x0)(h3:s x0):∃x0,p x0/\q x0/\r x0/\s x0:=⟨x0,h0,h1,h2,h3⟩
theorem BX{A:Sort _}{p q r s t u:A->Prop}(x0:A)(h0:p x0)(h1:q x0)(h2:r x0)(h3:s x0)(h4:t x0)(h5:u x0):∃x0,p x0/\q x0/\r x0/\s x0/\t x0/\u x0:=⟨x0,h0,h1,h2,h3,h4,h5⟩
theorem cu{A B:Sort _}{p:A->B->Prop}(x0:A)(x1:B)(h0:p x0 x1):∃x0 x1,p x0 x1:=⟨x0,x1,h0⟩
theorem eV{A B:Sort _}{p q:A->B->Prop}(x0:A)(x1:B)(h0:p x0 x1)(h1:q x0 x1):∃x0 x1,p x0 x1/\q x0 x1:=⟨x0,x1,h0,h1⟩
theorem gG{A B:Sort _}{p q r:A->B->Prop}(x0:A)(x1:B)(h0:p x0 x1)(h1:q x0 x1)(h2:r x0 x1):∃x0 x1,p x0 x1/\q x0 x1/\r x0 x1:=⟨x0,x1,h0,h1,h2⟩
theorem lG{A B:Sort _}{p q r s:A->B->Prop}(x0:A)(x1:B)(h0:p x0 x1)(h1:q x0 x1)(h2:r x0 x1)(h3:s x0 x1):∃x0 x1,p x0 x1/\q x0 x1/\r x0 x1/\s x0 x1:=⟨x0,x1,h0,h1,h2,h3⟩
theorem HG{A B:Sort _}{p q r s t:A->B->Prop}(x0:A)(x1:B)(h0:p x0 x1)(h1:q x0 x1)(h2:r x0 x1)(h3:s x0 x1)(h4:t x0 x1):∃x0 x1,p x0 x1/\q x0 x1/\r x0 x1/\s x0 x1/\t x0 x1:=⟨x0,x1,h0,h1,h2,h3,h4⟩
theorem HH{A B:Sort _}{p q r s t u:A->B->Prop}(x0:A)(x1:B)(h0:p x0 x1)(h1:q x0 x1)(h2:r x0 x1)(h3:s x0 x1)(h4:t x0 x1)(h5:u x0 x1):∃x0 x1,p x0 x1/\q x0 x1/\r x0 x1/\s x0 x1/\t x0 x1/\u x0 x1:=⟨x0,x1,h0,h1,h2,h3,h4,h5⟩
theorem r5{A B a_:Sort _}{p:A->B->a_->Prop}(x0:A)(x1:B)(x2:a_)(h0:p x0 x1 x2):∃x0 x1 x2,p x0 x1 x2:=⟨x0,x1,x2,h0⟩
theorem kP{A B a_:Sort _}{p q:A->B->a_->Prop}(x0:A)(x1:B)(x2:a_)(h0:p x0 x1 x2)(h1:q x0 x1 x2):∃x0 x1 x2,p x0 x1 x2/\q x0 x1 x2:=⟨x0,x1,x2,h0,h1⟩
theorem yU{A B a_:Sort _}{p q r:A->B->a_->Prop}(x0:A)(x1:B)(x2:a_)(h0:p x0 x1 x2)(h1:q x0 x1 x2)(h2:r x0 x1 x2):∃x0 x1 x2,p x0 x1 x2/\q x0 x1 x2/\r x0 x1 x2:=⟨x0,x1,x2,h0,h1,h2⟩
theorem mQ{A B a_:Sort _}{p q r s:A->B->a_->Prop}(x0:A)(x1:B)(x2:a_)(h0:p x0 x1 x2)(h1:q x0 x1 x2)(h2:r x0 x1 x2)(h3:s x0 x1 x2):∃x0 x1 x2,p x0 x1 x2/\q x0 x1 x2/\r x0 x1 x2/\s x0 x1 x2:=⟨x0,x1,x2,h0,h1,h2,h3⟩
theorem r6{A B a_:Sort _}{p q r s t:A->B->a_->Prop}(x0:A)(x1:B)(x2:a_)(h0:p x0 x1 x2)(h1:q x0 x1 x2)(h2:r x0 x1 x2)(h3:s x0 x1 x2)(h4:t x0 x1 x2):∃x0 x1 x2,p x0 x1 x2/\q x0 x1 x2/\r x0 x1 x2/\s x0 x1 x2/\t x0 x1 x2:=⟨x0,x1,x2,h0,h1,h2,h3,h4⟩
theorem BY{A B a_:Sort _}{p q r s t u:A->B->a_->Prop}(x0:A)(x1:B)(x2:a_)(h0:p x0 x1 x2)(h1:q x0 x1 x2)(h2:r x0 x1 x2)(h3:s x0 x1 x2)(h4:t x0 x1 x2)(h5:u x0 x1 x2):∃x0 x1 x2,p x0 x1 x2/\q x0 x1 x2/\r x0 x1 x2/\s x0 x1 x2/\t x0 x1 x2/\u x0 x1 x2:=⟨x0,x1,x2,h0,h1,h2,h3,h4,h5⟩
theorem BZ{A B a_ D:Sort _}{p:A->B->a_->D->Prop}(x0:A)(x1:B)(x2:a_)(x3:D)(h0:p x0 x1 x2 x3):∃x0 x1 x2 x3,p x0 x1 x2 x3:=⟨x0,x1,x2,x3,h0⟩
theorem Sy{A B a_ D:Sort _}{p q:A->B->a_->D->Prop}(x0:A)(x1:B)(x2:a_)(x3:D)(h0:p x0 x1 x2 x3)(h1:q x0 x1 x2 x3):∃x0 x1 x2 x3,p x0 x1 x2 x3/\q x0 x1 x2 x3:=⟨x0,x1,x2,x3,h0,h1⟩
theorem B0{A B a_ D:Sort _}{p q r:A->B->a_->D->Prop}(x0:A)(x1:B)(x2:a_)(x3:D)(h0:p x0 x1 x2 x3)(h1:q x0 x1 x2 x3)(h2:r x0 x1 x2 x3):∃x0 x1 x2 x3,p x0 x1 x2 x3/\q x0 x1 x2 x3/\r x0 x1 x2 x3:=⟨x0,x1,x2,x3,h0,h1,h2⟩
theorem r7{A B a_ D:Sort _}{p q r s:A->B->a_->D->Prop}(x0:A)(x1:B)(x2:a_)(x3:D)(h0:p x0 x1 x2 x3)(h1:q x0 x1 x2 x3)(h2:r x0 x1 x2 x3)(h3:s x0 x1 x2 x3):∃x0 x1 x2 x3,p x0 x1 x2 x3/\q x0 x1 x2 x3/\r x0 x1 x2 x3/\s x0 x1 x2 x3:=⟨x0,x1,x2,x3,h0,h1,h2,h3⟩
theorem Sz{A B a_ D:Sort _}{p q r s t u v:A->B->a_->D->Prop}(x0:A)(x1:B)(x2:a_)(x3:D)(h0:p x0 x1 x2 x3)(h1:q x0 x1 x2 x3)(h2:r x0 x1 x2 x3)(h3:s x0 x1 x2 x3)(h4:t x0 x1 x2 x3)(h5:u x0 x1 x2 x3)(h6:v x0 x1 x2 x3):∃x0 x1 x2 x3,p x0 x1 x2 x3/\q x0 x1 x2 x3/\r x0 x1 x2 x3/\s x0 x1 x2 x3/\t x0 x1 x2 x3/\u x0 x1 x2 x3/\v x0 x1 x2 x3:=⟨x0,x1,x2,x3,h0,h1,h2,h3,h4,h5,h6⟩
theorem SA{A B a_ D:Sort _}{p q r s t u v w:A->B->a_->D->Prop}(x0:A)(x1:B)(x2:a_)(x3:D)(h0:p x0 x1 x2 x3)(h1:q x0 x1 x2 x3)(h2:r x0 x1 x2 x3)(h3:s x0 x1 x2 x3)(h4:t x0 x1 x2 x3)(h5:u x0 x1 x2 x3)(h6:v x0 x1 x2 x3)(h7:w x0 x1 x2 x3):∃x0 x1 x2 x3,p x0 x1 x2 x3/\q x0 x1 x2 x3/\r x0 x1 x2 x3/\s x0 x1 x2 x3/\t x0 x1 x2 x3/\u x0 x1 x2 x3/\v x0 x1 x2 x3/\w x0 x1 x2 x3:=⟨x0,x1,x2,x3,h0,h1,h2,h3,h4,h5,h6,h7⟩
theorem SD{A B a_ D E:Sort _}{p q:A->B->a_->D->E->Prop}(x0:A)(x1:B)(x2:a_)(x3:D)(x4:E)(h0:p x0 x1 x2 x3 x4)(h1:q x0 x1 x2 x3 x4):∃x0 x1 x2 x3 x4,p x0 x1 x2 x3 x4/\q x0 x1 x2 x3 x4:=⟨x0,x1,x2,x3,x4,h0,h1⟩
theorem SE{A B a_ D E:Sort _}{p q r s:A->B->a_->D->E->Prop}(x0:A)(x1:B)(x2:a_)(x3:D)(x4:E)(h0:p x0 x1 x2 x3 x4)(h1:q x0 x1 x2 x3 x4)(h2:r x0 x1 x2 x3 x4)(h3:s x0 x1 x2 x3 x4):∃x0 x1 x2 x3 x4,p x0 x1 x2 x3 x4/\q x0 x1 x2 x3 x4/\r x0 x1 x2 x3 x4/\s x0 x1 x2 x3 x4:=⟨x0,x1,x2,x3,x4,h0,h1,h2,h3⟩
theorem SH{A B a_ D E:Sort _}{p q r s t u:A->B->a_->D->E->Prop}(x0:A)(x1:B)(x2:a_)(x3:D)(x4:E)(h0:p x0 x1 x2 x3 x4)(h1:q x0 x1 x2 x3 x4)(h2:r x0 x1 x2 x3 x4)(h3:s x0 x1 x2 x3 x4)(h4:t x0 x1 x2 x3 x4)(h5:u x0 x1 x2 x3 x4):∃x0 x1 x2 x3 x4,p x0 x1 x2 x3 x4/\q x0 x1 x2 x3 x4/\r x0 x1 x2 x3 x4/\s x0 x1 x2 x3 x4/\t x0 x1 x2 x3 x4/\u x0 x1 x2 x3 x4:=⟨x0,x1,x2,x3,x4,h0,h1,h2,h3,h4,h5⟩
theorem nc{α:Type _}(f:α->Y){a b:α}{P:Prop}(h:a=b)(e:qj (f a) (f b)=aA):P:=nomatch e.symm.trans (h▸Nat.beq_refl (f a):qj (f a) (f b)=aa)
end i4
end
section
set_option maxRecDepth 100000
open PySem PySem.Calls PySem.SeqAt PyProof.Rows PySem.W
namespace i4
noncomputable def de(P:cL)(k:af)(t:Y)(v:ay):DictEntry:=⟨qo P k, .str k t,v⟩
noncomputable def co(n q:af)(t:Y)(l a b c d:aq)(r r':ak)(x y z u:ay)(m:aq)(t':Y):bE:={cls:= .type "code",dict:=ae,data:= .fields #[.str n t, .str q (t+1), .str "/claim/cut.py" (t+2), .int l 0, .int a 0, .int b 0, .int c 0, .int d 0, .ref r, .bool aa, .int 276 0, .ref r',x,y,z,u, .int m 0, .int l 0, .str "/claim/cut.py" t'],slots:=#[]}
noncomputable def fo(n q:af)(s:aS cf)(m:ay)(c:ak)(d:ay):bE:={cls:= .type "function",dict:=ae,data:= .func {docDef n (gQ s) (cQ s) (d5 s) m (.ref c) .none with qualname:=q,defaults:=d},slots:=#[]}
noncomputable def o3(P:cL):bE:={cls:= .type "dict",dict:=ae,data:= .dict (EL (de P "__name__" 165 (.str "law_rx0064_03" 728)::de P "__doc__" 166 .none::de P "__package__" 167 .none::de P "__loader__" 168 (.builtin "__main__.__loader__#opaque")::de P "__spec__" 169 .none::de P "__annotations__" 170 (.ref 6)::de P "__builtins__" 171 (.ref 4)::de P "__file__" 173 (.str "/claim/cut.py" 172)::de P "__cached__" 174 .none::de P "_sre" 275 (.ref 12)::de P "_wall" 288 (.ref 38)::de P "_twin_re_1" 328 (.ref 43)::de P "translate" 337 (.ref 50)::de P "_special_chars_map" 485 (.ref 52)::de P "escape" 492 (.ref 62)::de P "_translate" 513 (.ref 69)::de P "_join_translated_parts" 526 (.ref 76)::de P "_NODE_OUT" 531 (.int (-1) 530)::de P "_NODE_DONE" 534 (.int (-2) 533)::de P "_NodeInfo" 571 (.ref 95)::de P "CycleError" 589 (.ref 110)::de P "TopologicalSorter" 708 (.ref 192)::de P "read_uint1" 718 (.ref 203)::de P "read_string1" 727 (.ref 210)::de P "_law_stream" 740 (.ref 217)::de P "_law_counted" 746 (.ref 222)::de P "_law_word" 752 (.ref 227)::de P "_law_pattern" 758 (.ref 232)::de P "_law_ends" 769 (.ref 239)::de P "_law_lead" 783 (.ref 246)::de P "_law_chance" 789 (.ref 251)::de P "law" 795 (.ref 256):: [])) 32,slots:=#[]}
noncomputable def JO(P:cL):bE:={cls:= .type "tuple",dict:=ae,data:= .seq (EL ((.int 14 0)::(.int 14 0)::(.int 4 0)::(.int 1 0)::(.int 1 0)::(.int 9 0)::(.int 0 0)::(.int 64 0)::(.int 0 0)::(.int 1342177280 0)::(.int 0 0)::(.int 0 0)::(.int 0 0)::(.int 0 0)::(.int 0 0)::(.int 17 0)::(.int 0 0)::(.int 13 0)::(.int 11 0)::(.int 9 0)::(.int 0 0)::(.int 64 0)::(.int 0 0)::(.int 1342177280 0)::(.int 0 0)::(.int 0 0)::(.int 0 0)::(.int 0 0)::(.int 0 0)::(.int 17 0)::(.int 1 0)::(.int 1 0):: [])) 0,slots:=#[]}
noncomputable def JP(P:cL):bE:={cls:= .type "re.Pattern",dict:=ae,data:= .fields #[.str "([&~|])" 292, .int 32 327, .int 1 0, .none, .none, .ref 42, .int 0 0],slots:=#[]}
noncomputable def JQ(P:cL):bE:=co "translate" "translate" 329 7 1 0 0 3 44 45 (.none) (.ref 46) (.ref 47) (.ref 48) 335 336
noncomputable def JR(P:cL):bE:=fo "translate" "translate" (bj 4) (.str "cpy313.fnmatch" 289) 49 (.none)
noncomputable def CP(P:cL):bE:={cls:= .type "dict",dict:=ae,data:= .dict (EL (⟨40, .int 40 341, .str "\\(" 345⟩::⟨41, .int 41 347, .str "\\)" 351⟩::⟨91, .int 91 353, .str "\\[" 357⟩::⟨93, .int 93 359, .str "\\]" 363⟩::⟨123, .int 123 365, .str "\\{" 369⟩::⟨125, .int 125 371, .str "\\}" 375⟩::⟨63, .int 63 377, .str "\\?" 381⟩::⟨42, .int 42 383, .str "\\*" 387⟩::⟨43, .int 43 389, .str "\\+" 393⟩::⟨45, .int 45 395, .str "\\-" 399⟩::⟨124, .int 124 401, .str "\\|" 405⟩::⟨94, .int 94 407, .str "\\^" 411⟩::⟨36, .int 36 413, .str "\\$" 417⟩::⟨92, .int 92 419, .str "\\\\" 423⟩::⟨46, .int 46 425, .str "\\." 429⟩::⟨38, .int 38 431, .str "\\&" 435⟩::⟨126, .int 126 437, .str "\\~" 441⟩::⟨35, .int 35 443, .str "\\#" 447⟩::⟨32, .int 32 449, .str "\\ " 453⟩::⟨9, .int 9 455, .str "\\\t" 459⟩::⟨10, .int 10 461, .str "\\\n" 465⟩::⟨13, .int 13 467, .str "\\\x0d" 471⟩::⟨11, .int 11 473, .str "\\\x0b" 477⟩::⟨12, .int 12 479, .str "\\\x0c" 483⟩:: [])) 24,slots:=#[]}
noncomputable def JS(P:cL):bE:=co "escape" "escape" 486 13 1 0 0 3 56 57 (.none) (.ref 58) (.ref 59) (.ref 60) 490 491
noncomputable def JT(P:cL):bE:=fo "escape" "escape" (bj 7) (.str "re" 338) 61 (.none)
noncomputable def JU(P:cL):bE:=co "_translate" "_translate" 495 20 3 0 0 3 63 64 (.none) (.ref 65) (.ref 66) (.ref 67) 511 512
noncomputable def JV(P:cL):bE:=fo "_translate" "_translate" (bj 9) (.str "cpy313.fnmatch" 493) 68 (.none)
noncomputable def JW(P:cL):bE:=co "_join_translated_parts" "_join_translated_parts" 514 82 2 0 0 3 70 71 (.none) (.ref 72) (.ref 73) (.ref 74) 524 525
noncomputable def JX(P:cL):bE:=fo "_join_translated_parts" "_join_translated_parts" (bj 10) (.str "cpy313.fnmatch" 493) 75 (.none)
noncomputable def JY(P:cL):bE:=co "__init__" "_NodeInfo.__init__" 551 115 2 0 0 3 85 86 (.none) (.ref 87) (.ref 88) (.ref 89) 556 557
noncomputable def JZ(P:cL):bE:=fo "__init__" "_NodeInfo.__init__" (e7 14 1) (.str "cpy313.graphlib" 527) 90 (.none)
noncomputable def UN(P:cL):bE:={cls:= .type "dict",dict:=ae,data:= .dict #[de P "__module__" 542 (.str "cpy313.graphlib" 527),de P "__firstlineno__" 546 (.int 112 545),de P "__slots__" 550 (.ref 84),de P "__init__" 558 (.ref 91),de P "__static_attributes__" 562 (.ref 92),de P "node" 564 (.ref 96),de P "npredecessors" 566 (.ref 97),de P "successors" 568 (.ref 98),de P "__doc__" 569 .none] 5,slots:=#[]}
noncomputable def UO(P:cL):bE:={cls:= .type "type",dict:=ae,data:= .cls {name:={cps:=#[95,78,111,100,101,73,110,102,111]},bases:= [rq "object"],mro:= [Nn 95,rq "object"],ns:=94,qualname:={cps:=#[95,78,111,100,101,73,110,102,111]},hasDict:=aA,slotNames:= [{cps:=#[110,111,100,101]},{cps:=#[110,112,114,101,100,101,99,101,115,115,111,114,115]},{cps:=#[115,117,99,99,101,115,115,111,114,115]}],subclasses:= [],abstract:=aA,collection:=ae,hasDel:=aA},slots:=#[ae,ae,(J (.str "_NodeInfo" 535)),(J (.str "_NodeInfo" 543)),(J (.builtin "object.__new__")),(J (.bool aA))]}
noncomputable def UP(P:cL):bE:={cls:= .type "member_descriptor",dict:=ae,data:= .fields #[.str "node" 563, .ref 95, .builtin "proto.slot", .builtin "proto.slot#set", .int 2 0],slots:=#[]}
noncomputable def UQ(P:cL):bE:={cls:= .type "member_descriptor",dict:=ae,data:= .fields #[.str "npredecessors" 565, .ref 95, .builtin "proto.slot", .builtin "proto.slot#set", .int 1 0],slots:=#[]}
noncomputable def UR(P:cL):bE:={cls:= .type "member_descriptor",dict:=ae,data:= .fields #[.str "successors" 567, .ref 95, .builtin "proto.slot", .builtin "proto.slot#set", .int 0 0],slots:=#[]}
noncomputable def UG(P:cL):bE:={cls:= .type "tuple",dict:=ae,data:= .seq #[.type "ValueError"] 0,slots:=#[]}
noncomputable def UH(P:cL):bE:={cls:= .type "dict",dict:=ae,data:= .dict #[de P "__module__" 579 (.str "cpy313.graphlib" 527),de P "__firstlineno__" 583 (.int 119 582),de P "__static_attributes__" 584 (.ref 108),de P "__weakref__" 586 (.ref 111),de P "__doc__" 587 .none] 3,slots:=#[]}
noncomputable def UI(P:cL):bE:={cls:= .type "type",dict:=ae,data:= .cls {name:={cps:=#[67,121,99,108,101,69,114,114,111,114]},bases:= [rq "ValueError"],mro:= [Nn 110,rq "ValueError",rq "Exception",rq "BaseException",rq "object"],ns:=109,qualname:={cps:=#[67,121,99,108,101,69,114,114,111,114]},hasDict:=aa,slotNames:= [],subclasses:= [],abstract:=aA,collection:=ae,hasDel:=aA},slots:=#[(J (.ref 101)),ae,(J (.str "CycleError" 572)),(J (.str "CycleError" 580)),(J (.builtin "ValueError.__new__")),(J (.bool aa))]}
noncomputable def UJ(P:cL):bE:={cls:= .type "tuple",dict:=ae,data:= .seq #[.none] 0,slots:=#[]}
noncomputable def Je(P:cL):bE:=co "__init__" "TopologicalSorter.__init__" 602 123 2 0 0 3 122 123 (.none) (.ref 124) (.ref 125) (.ref 126) 609 610
noncomputable def Jf(P:cL):bE:=fo "__init__" "TopologicalSorter.__init__" (e7 16 0) (.str "cpy313.graphlib" 527) 127 (.ref 121)
noncomputable def Jg(P:cL):bE:=co "_get_nodeinfo" "TopologicalSorter._get_nodeinfo" 612 132 2 0 0 3 129 130 (.none) (.ref 131) (.ref 132) (.ref 133) 618 619
noncomputable def Jh(P:cL):bE:=fo "_get_nodeinfo" "TopologicalSorter._get_nodeinfo" (e7 16 1) (.str "cpy313.graphlib" 527) 134 (.none)
noncomputable def Ji(P:cL):bE:=co "add" "TopologicalSorter.add" 621 137 2 0 0 7 136 137 (.none) (.ref 138) (.ref 139) (.ref 140) 630 631
noncomputable def Jj(P:cL):bE:=fo "add" "TopologicalSorter.add" (e7 16 2) (.str "cpy313.graphlib" 527) 141 (.none)
noncomputable def Jk(P:cL):bE:=co "prepare" "TopologicalSorter.prepare" 633 146 1 0 0 3 143 144 (.none) (.none) (.none) (.ref 145) 636 637
noncomputable def Jl(P:cL):bE:=fo "prepare" "TopologicalSorter.prepare" (e7 16 3) (.str "cpy313.graphlib" 527) 146 (.none)
noncomputable def Jm(P:cL):bE:=co "get_ready" "TopologicalSorter.get_ready" 639 154 1 0 0 3 148 149 (.none) (.ref 150) (.ref 151) (.ref 152) 646 647
noncomputable def Jo(P:cL):bE:=fo "get_ready" "TopologicalSorter.get_ready" (e7 16 4) (.str "cpy313.graphlib" 527) 153 (.none)
noncomputable def Jp(P:cL):bE:=co "is_active" "TopologicalSorter.is_active" 649 165 1 0 0 3 155 156 (.none) (.ref 157) (.ref 158) (.ref 159) 653 654
noncomputable def Jq(P:cL):bE:=fo "is_active" "TopologicalSorter.is_active" (e7 16 5) (.str "cpy313.graphlib" 527) 160 (.none)
noncomputable def Jr(P:cL):bE:=co "done" "TopologicalSorter.done" 663 173 1 0 0 7 169 170 (.none) (.ref 171) (.ref 172) (.ref 173) 674 675
noncomputable def Js(P:cL):bE:=fo "done" "TopologicalSorter.done" (e7 16 7) (.str "cpy313.graphlib" 527) 174 (.none)
noncomputable def Jt(P:cL):bE:=co "_find_cycle" "TopologicalSorter._find_cycle" 677 196 1 0 0 3 176 177 (.none) (.ref 178) (.ref 179) (.ref 180) 687 688
noncomputable def Ju(P:cL):bE:=fo "_find_cycle" "TopologicalSorter._find_cycle" (e7 16 8) (.str "cpy313.graphlib" 527) 181 (.none)
noncomputable def UK(P:cL):bE:={cls:= .type "dict",dict:=ae,data:= .dict #[de P "__module__" 597 (.str "cpy313.graphlib" 527),de P "__firstlineno__" 601 (.int 121 600),de P "__init__" 611 (.ref 128),de P "_get_nodeinfo" 620 (.ref 135),de P "add" 632 (.ref 142),de P "prepare" 638 (.ref 147),de P "get_ready" 648 (.ref 154),de P "is_active" 655 (.ref 161),de P "__bool__" 662 (.ref 168),de P "done" 676 (.ref 175),de P "_find_cycle" 689 (.ref 182),de P "static_order" 696 (.ref 189),de P "__static_attributes__" 701 (.ref 190),de P "__dict__" 703 (.ref 193),de P "__weakref__" 705 (.ref 194),de P "__doc__" 706 .none] 4,slots:=#[]}
noncomputable def UL(P:cL):bE:={cls:= .type "type",dict:=ae,data:= .cls {name:={cps:=#[84,111,112,111,108,111,103,105,99,97,108,83,111,114,116,101,114]},bases:= [rq "object"],mro:= [Nn 192,rq "object"],ns:=191,qualname:={cps:=#[84,111,112,111,108,111,103,105,99,97,108,83,111,114,116,101,114]},hasDict:=aa,slotNames:= [],subclasses:= [],abstract:=aA,collection:=ae,hasDel:=aA},slots:=#[ae,ae,(J (.str "TopologicalSorter" 590)),(J (.str "TopologicalSorter" 598)),(J (.builtin "object.__new__")),(J (.bool aa))]}
noncomputable def Jv(P:cL):bE:=co "read_uint1" "read_uint1" 711 228 1 0 0 3 197 198 (.none) (.ref 199) (.ref 200) (.ref 201) 716 717
noncomputable def Jw(P:cL):bE:=fo "read_uint1" "read_uint1" (bj 18) (.str "cpy313.pickletools" 709) 202 (.none)
noncomputable def Jx(P:cL):bE:=co "read_string1" "read_string1" 719 233 1 0 0 3 204 205 (.none) (.ref 206) (.ref 207) (.ref 208) 725 726
noncomputable def Jy(P:cL):bE:=fo "read_string1" "read_string1" (bj 19) (.str "cpy313.pickletools" 709) 209 (.none)
noncomputable def Jz(P:cL):bE:=co "_law_stream" "_law_stream" 730 241 1 0 0 3 211 212 (.none) (.ref 213) (.ref 214) (.ref 215) 738 739
noncomputable def JA(P:cL):bE:=fo "_law_stream" "_law_stream" (bj 21) (.str "law_rx0064_03" 728) 216 (.none)
noncomputable def JB(P:cL):bE:=co "_law_counted" "_law_counted" 741 250 1 0 0 3 218 219 (.none) (.none) (.none) (.ref 220) 744 745
noncomputable def JC(P:cL):bE:=fo "_law_counted" "_law_counted" (bj 22) (.str "law_rx0064_03" 728) 221 (.none)
noncomputable def JD(P:cL):bE:=co "_law_word" "_law_word" 747 252 2 0 0 3 223 224 (.none) (.none) (.none) (.ref 225) 750 751
noncomputable def JE(P:cL):bE:=fo "_law_word" "_law_word" (bj 23) (.str "law_rx0064_03" 728) 226 (.none)
noncomputable def JF(P:cL):bE:=co "_law_pattern" "_law_pattern" 753 254 1 0 0 3 228 229 (.none) (.none) (.none) (.ref 230) 756 757
noncomputable def JG(P:cL):bE:=fo "_law_pattern" "_law_pattern" (bj 24) (.str "law_rx0064_03" 728) 231 (.none)
noncomputable def JH(P:cL):bE:=co "_law_ends" "_law_ends" 759 256 2 0 0 3 233 234 (.none) (.ref 235) (.ref 236) (.ref 237) 767 768
noncomputable def JI(P:cL):bE:=fo "_law_ends" "_law_ends" (bj 25) (.str "law_rx0064_03" 728) 238 (.none)
noncomputable def JJ(P:cL):bE:=co "_law_lead" "_law_lead" 770 269 5 0 0 3 240 241 (.none) (.ref 242) (.ref 243) (.ref 244) 781 782
noncomputable def JK(P:cL):bE:=fo "_law_lead" "_law_lead" (bj 26) (.str "law_rx0064_03" 728) 245 (.none)
noncomputable def JL(P:cL):bE:=co "_law_chance" "_law_chance" 784 276 4 0 0 3 247 248 (.none) (.none) (.none) (.ref 249) 787 788
noncomputable def JM(P:cL):bE:=fo "_law_chance" "_law_chance" (bj 27) (.str "law_rx0064_03" 728) 250 (.none)
noncomputable def JN(P:cL):bE:=co "law" "law" 790 297 1 0 0 3 252 253 (.none) (.none) (.none) (.ref 254) 793 794
noncomputable def UM(P:cL):bE:=fo "law" "law" (bj 28) (.str "law_rx0064_03" 728) 255 (.none)
noncomputable def hK(P:cL):Frag:=(3,o3 P)::(42,JO P)::(43,JP P)::(49,JQ P)::(50,JR P)::(52,CP P)::(61,JS P)::(62,JT P)::(68,JU P)::(69,JV P)::(75,JW P)::(76,JX P)::(90,JY P)::(91,JZ P)::(94,UN P)::(95,UO P)::(96,UP P)::(97,UQ P)::(98,UR P)::(101,UG P)::(109,UH P)::(110,UI P)::(121,UJ P)::(127,Je P)::(128,Jf P)::(134,Jg P)::(135,Jh P)::(141,Ji P)::(142,Jj P)::(146,Jk P)::(147,Jl P)::(153,Jm P)::(154,Jo P)::(160,Jp P)::(161,Jq P)::(174,Jr P)::(175,Js P)::(181,Jt P)::(182,Ju P)::(191,UK P)::(192,UL P)::(202,Jv P)::(203,Jw P)::(209,Jx P)::(210,Jy P)::(216,Jz P)::(217,JA P)::(221,JB P)::(222,JC P)::(226,JD P)::(227,JE P)::(231,JF P)::(232,JG P)::(238,JH P)::(239,JI P)::(245,JJ P)::(246,JK P)::(250,JL P)::(251,JM P)::(255,JN P)::(256,UM P):: []
noncomputable def hA:U ak:=3::42::43::49::50::52::61::62::68::69::75::76::90::91::94::95::96::97::98::101::109::110::121::127::128::134::135::141::142::146::147::153::154::160::161::174::175::181::182::191::192::202::203::209::210::216::217::221::222::226::227::231::232::238::239::245::246::250::251::255::256:: []
theorem Sd(P:cL):hA=(hK P).map (·.1):=C
end i4
end
section
set_option maxRecDepth 100000
set_option maxHeartbeats 0
open PySem PySem.W PyProof.Rows
namespace i4
noncomputable def Lf:bE:=⟨.none,ae, .fields #[],#[]⟩
noncomputable def T9(K:cL->Frag)(as:U ak)(e:∀P,as=(K P).map (·.1))(ts:U ak):Hook where
 α:=U (aS bE)×U (aS bE)
 obs:=λs=>(as.map s.heap.get?,ts.map s.heap.get?)
 val:=λw=>((K w.params).map λp=>J p.2,ts.map λ_=>J Lf)
 says:=λw h=>InK K w h/\∀P∈ts,h.get? P=J Lf
 of:=λw s x=>⟨InK.of e w s (qn x).1,List.map_inj_left.mp (qn x).2⟩
 keeps:=λw h h' x k=>⟨InK.keeps w h h' x.1 k,λP hP=>k _ _ (x.2 P hP)⟩
noncomputable def lH:Hook:=T9 hK hA Sd [212,64]
noncomputable def P3:ck:=PySem.Challenge.rw_rx0064_03.row.prog
noncomputable def S7:U Y:= [0,1,3,4,6,7,9,10,12,13,14,15,16,18,19,21,22,23,24,25,26,27,28]
noncomputable def q3:ck:=view P3 S7
noncomputable def zk:U PySem.Str:= ["_twin_re_1", "_special_chars_map", "_NodeInfo"]
noncomputable abbrev rI(w:b4):Prop:=(openEnds treeTable PySem.Challenge.rw_rx0064_03.row.prog w 5824).map (λs=>(openSeen q3 zk (importedModules PySem.Challenge.rw_rx0064_03.row.prog.main.body) (λs=>xlAt q3 [] s&&recOk (RowW.records PySem.Challenge.rw_rx0064_03.row.toRowW) s) aa s,ME lH s))=J (openGood q3 zk,MF lH w)
theorem Te:∀w:b4,rI ((w.withFollow "special-get-raises" aA).withFollow "comprehension-iter-twice" aA):=by intro w;kernel_rfl
theorem Tf:∀w:b4,rI ((w.withFollow "special-get-raises" aa).withFollow "comprehension-iter-twice" aA):=by intro w;kernel_rfl
theorem Tg:∀w:b4,rI ((w.withFollow "special-get-raises" aA).withFollow "comprehension-iter-twice" aa):=by intro w;kernel_rfl
theorem Th:∀w:b4,rI ((w.withFollow "special-get-raises" aa).withFollow "comprehension-iter-twice" aa):=by intro w;kernel_rfl
theorem Tp:LeftO PySem.Challenge.rw_rx0064_03.row.prog q3 zk (λs=>xlAt q3 [] s&&recOk (RowW.records PySem.Challenge.rw_rx0064_03.row.toRowW) s) (ME lH) (MF lH) 5824:=
 byRow2 (P:=rI) "comprehension-iter-twice" (byRow2 (P:=λw=>rI (w.withFollow "comprehension-iter-twice" aA)) "special-get-raises" Te Tf) (byRow2 (P:=λw=>rI (w.withFollow "comprehension-iter-twice" aa)) "special-get-raises" Tg Th)
end i4
end
namespace i4
inductive Lx where
 |v(i:Y)|n(k:Y)|a(x y:Lx)|m(k:Y)(x:Lx)|r(x:Lx)(k:Y)
noncomputable def wJ:U Y->Y->Y
 | [],_=>0
 |x::_,0=>x
 |_::r,i+1=>wJ r i
noncomputable def Lx.d(c:U Y):Lx->Y
 | .v i=>wJ c i
 | .n k=>k
 | .a x O=>x.d c+O.d c
 | .m k x=>k*x.d c
 | .r x k=>x.d c*k
noncomputable def uI:U Y->U Y->U Y
 | [],H=>H
 |l, []=>l
 |x::l,O::H=>(x+O)::uI l H
noncomputable def Lx.p:Lx->U Y
 | .v i=>0::(fg i 0++ [1])
 | .n k=> [k]
 | .a x O=>uI x.p O.p
 | .m k x=>x.p.map (k*·)
 | .r x k=>x.p.map (k*·)
noncomputable def gi:U Y->U Y->Y
 | [],_=>0
 |k::l, []=>k*0+gi l []
 |k::l,x::c=>k*x+gi l c
noncomputable def zw:U Y->U Y->bu
 | [],_=>aa
 |x::l, []=>qj x 0&&zw l []
 |x::l,O::H=>Nat.ble x O&&zw l H
theorem CG:∀(l H c:U Y),gi (uI l H) c=gi l c+gi H c
 | [],H,c=>(tK _).symm
 |x::l, [],c=>C
 |x::l,O::H, []=>by
  show(x+O)*0+gi (uI l H) []=(x*0+gi l [])+(O*0+gi H []);rw [CG];exact aag 0 0 _ _
 |x::l,O::H,w::c=>by
  show(x+O)*w+gi (uI l H) c=(x*w+gi l c)+(O*w+gi H c);rw [CG,Nat.add_mul];exact aag _ _ _ _
theorem zu(k:Y):∀(l c:U Y),gi (l.map (k*·)) c=k*gi l c
 | [],_=>C
 |x::l, []=>by
  show k*x*0+gi (l.map (k*·)) []=k*(x*0+gi l []);rw [zu,Nb,AJ]
 |x::l,w::c=>by
  show k*x*w+gi (l.map (k*·)) c=k*(x*w+gi l c);rw [zu,Nb,AJ]
theorem CH:∀(i:Y)(c:U Y),gi (fg i 0++ [1]) c=wJ c i
 |0, []=>C
 |0,x::c=>EY x
 |i+1, []=>by
  show 0*0+gi (fg i 0++ [1]) []=0;rw [CH];exact C
 |i+1,x::c=>by
  show 0*x+gi (fg i 0++ [1]) c=wJ c i;rw [CH,Nat.zero_mul,tK]
theorem uJ(c:U Y):∀x:Lx,x.d c=gi x.p (1::c)
 | .v i=>by
  show wJ c i=0*1+gi (fg i 0++ [1]) c;rw [CH];exact(tK _).symm
 | .n k=>(Nat.mul_one k).symm
 | .a x O=>by
  show x.d c+O.d c=gi (uI x.p O.p) _;rw [CG,uJ c x,uJ c O]
 | .m k x=>by
  show k*x.d c=gi (x.p.map (k*·)) _;rw [zu,uJ c x]
 | .r x k=>by
  show x.d c*k=gi (x.p.map (k*·)) _;rw [zu,uJ c x,Nc]
theorem wI:∀{l H:U Y}(c:U Y),zw l H=aa->gi l c<=gi H c
 | [],_,_,_=>mh _
 |x::l, [],c,h=>by
  have h:=ew.mp h;have e:=Nat.eq_of_beq_eq_true h.1;cases c with
  |nil=>exact bh (pe (tK _)) (wI [] h.2)
  |cons w c=>subst e;exact bh (pe (by show 0*w+_=_;rw [Nat.zero_mul,tK])) (wI c h.2)
 |x::l,O::H,c,h=>by
  have h:=ew.mp h;cases c with
  |nil=>exact vy (wI [] h.2) 0
  |cons w c=>exact nh (Nat.mul_le_mul_right w (dP h.1)) (wI c h.2)
noncomputable def wH(k:Y)(F w A p:Lx):bu:=zw (Lx.a (.m (k+1) F) p).p (Lx.a (.a (.m (k+1) w) A) (.n k)).p
theorem bL(k:Y)(F w A p:Lx)(e:wH k F w A p=aa)(c:U Y)(h:A.d c<=p.d c):F.d c<=w.d c:=by
 have q:=wI (1::c) e;rw [<-uJ,<-uJ]at q;have q:(k+1)*F.d c+p.d c<=((k+1)*w.d c+A.d c)+k:=q;refine aai (Nat.lt_of_mul_lt_mul_left (a:=k+1) ?_);rw [Nat.mul_succ];exact Nat.lt_succ_of_le (Nat.le_of_add_le_add_right (bh q (by rw [Nat.add_right_comm];exact vy h _)))
theorem f_(F w:Lx)(e:wH 0 F w (.n 0) (.n 0)=aa)(c:U Y):F.d c<=w.d c:=bL 0 F w (.n 0) (.n 0) e c (ek 0)
theorem cF(k:Y)(F w A p u a:Lx)(e:wH k F w (.a A u) (.a p a)=aa)(c:U Y)(h:A.d c<=p.d c)(L:u.d c<=a.d c):F.d c<=w.d c:=
 bL k F w _ _ e c (nh h L)
theorem ki(k:Y)(F w A p u a x b:Lx)(e:wH k F w (.a (.a A u) x) (.a (.a p a) b)=aa)(c:U Y)(h:A.d c<=p.d c)(L:u.d c<=a.d c)(i:x.d c<=b.d c):F.d c<=w.d c:=
 bL k F w _ _ e c (nh (nh h L) i)
theorem pO(k:Y)(F w A p u a x b s l:Lx)(e:wH k F w (.a (.a A u) (.a x s)) (.a (.a p a) (.a b l))=aa)(c:U Y)(h:A.d c<=p.d c)(L:u.d c<=a.d c)(i:x.d c<=b.d c)(d:s.d c<=l.d c):F.d c<=w.d c:=
 bL k F w _ _ e c (nh (nh h L) (nh i d))
theorem bx{a b:Y}(h:Nat.ble a b=aa):a<=b:=dP h
theorem jx(h:1<=0):False:=nomatch h
theorem I4{a b:Y}:a-b<=a:=Nat.sub_le a b
theorem nE{a b:Y}:a<=a-b+b:=Nat.sub_le_iff_le_add.mp (ek _)
theorem lM{a b:Y}(h:b<=a):a-b+b<=a:=pe (xF h)
theorem c4{a b:Y}(h:a=b):a<=b:=pe h
theorem dG{a b:Y}(h:a=b):b<=a:=pe h.symm
theorem qX{a b:Y}:min a b<=a:=Nat.min_le_left a b
theorem zy{a b:Y}:min a b<=b:=Nat.min_le_right a b
theorem uK(v:u+i=l+1)(h:i<l):u-1<u/\u-1+(i+1)=l+1:=by
 cases u with
 |zero=>exact cg (v.symm.trans (tK i)) (tJ (ql h))
 |succ u=>exact⟨cY u,(Nat.succ_add_eq_add_succ u i).symm.trans v⟩
open PySem PySem.Calls PyProof.Rows
section
theorem cps{G:Prop}(h:∀X:Prop,(G->X)->X):G:=h G id
theorem aT{B:Type}{o:aS B}{x:B}{X:Prop}(h:o=ae)(e:o=J x):X:=nomatch h.symm.trans e
theorem dg{X:Prop}(h:b=aA)(e:b=aa):X:=nomatch h.symm.trans e
theorem cS{B:Type}{o:aS B}{x:B}(h:o=J x):o.isSome=aa:=h▸C
noncomputable abbrev Fz:=ak->aS bE
inductive T where
 |none
 |bool(b:bu)
 |int(i:aq)
 |str(s:U Y)
 |list(l:U T)
 |tup(l:U T)
 |atom
 |bO(v:ay)
noncomputable abbrev lo(n:U ay)(u:Y):bE:={cls:= .type "list",data:= .seq n.toArray u}
noncomputable abbrev q7(n:U ay)(u:Y):bE:={cls:= .type "tuple",data:= .seq n.toArray u}
structure Mk where
 star:ak
 mark:ak
mutual
inductive Den(ρ:Mk)(fz:Fz):ay->T->Prop
 |none:Den ρ fz .none .none
 |bool(b:bu):Den ρ fz (.bool b) (.bool b)
 |int(i:aq)(t:fh):Den ρ fz (.int i t) (.int i)
 |str(l:U Y)(t:fh):Den ρ fz (.str ⟨l.toArray⟩ t) (.str l)
 |atom:Den ρ fz (.ref ρ.star) .atom
 |bO(v:ay):Den ρ fz v (.bO v)
 |list{a vs n ts}:fz a=J (lo vs n)->aY ρ fz vs ts->Den ρ fz (.ref a) (.list ts)
 |tup{a vs n ts}:fz a=J (q7 vs n)->aY ρ fz vs ts->Den ρ fz (.ref a) (.tup ts)
inductive aY(ρ:Mk)(fz:Fz):U ay->U T->Prop
 |nil:aY ρ fz [] []
 |cons{v vs t ts}:Den ρ fz v t->aY ρ fz vs ts->aY ρ fz (v::vs) (t::ts)
end
noncomputable def Le(z P:Fz):Prop:=∀b o,z b=J o->P b=J o
theorem Le.refl(z:Fz):Le z z:=λ_ _ e=>e
theorem Le.trans(x:Le z P)(O:Le P h):Le z h:=λb o e=>O b o (x b o e)
theorem Den.re(p:ρ.star=ρ'.star)(h:Le z P){v:ay}{E:T}(d:Den ρ z v E):Den ρ' P v E:=
 Den.rec .none .bool .int .str (p▸ .atom) .bO (λe _ i=> .list (h _ _ e) i) (λe _ i=> .tup (h _ _ e) i) .nil (λ_ _ i m=> .cons i m) d
theorem aY.re(p:ρ.star=ρ'.star)(h:Le z P){y:U ay}{j:U T}(d:aY ρ z y j):aY ρ' P y j:=
 aY.rec .none .bool .int .str (p▸ .atom) .bO (λe _ i=> .list (h _ _ e) i) (λe _ i=> .tup (h _ _ e) i) .nil (λ_ _ i m=> .cons i m) d
theorem Den.mono(h:Le z P)(d:Den B z v E):Den B P v E:=d.re C h
theorem aY.mono(h:Le z P)(d:aY B z y j):aY B P y j:=d.re C h
section
variable{ρ:Mk}{fz:Fz}
section
variable{P:U ay->Prop}
theorem aY.g6(d:aY ρ fz y [])(h:P []):P y:=by cases d;exact h
theorem aY.iO(d:aY ρ fz y (E::j))(h:∀v T,Den ρ fz v E->aY ρ fz T j->P (v::T)):P y:=by cases d with|cons a b=>exact h _ _ a b
end
theorem aY.ind{P:U ay->U T->Prop}(u:P [] [])(c:∀{v y E j},Den ρ fz v E->aY ρ fz y j->P y j->P (v::y) (E::j)):∀{j:U T}{y:U ay},aY ρ fz y j->P y j
 | [],_,d=>d.g6 (P:=λy=>P y []) u
 |_::_,_,d=>d.iO (P:=λy=>P y _) λ_ _ a b=>c a b (aY.ind u c b)
theorem aY.length(d:aY ρ fz y j):y.length=j.length:=d.ind (P:=λy j=>y.length=j.length) C λ_ _ i=>aQ Nat.succ i
theorem aY.get(d:aY ρ fz y j):∀{i:Y}{t:T},j[i]?=J t->∃v,y[i]?=J v/\Den ρ fz v t:=
 d.ind (P:=λy j=>∀{i:Y}{t:T},j[i]?=J t->∃v,y[i]?=J v/\Den ρ fz v t) (λh=>aT C h) λ{v _ _ _}a _ X{i _}h=>match i,h with
  |0,h=>aM v C (bf h▸a)
  |_+1,h=>X h
theorem aY.append(d:aY ρ fz y j)(h:aY ρ fz ws A):aY ρ fz (y++ws) (j++A):=d.ind (P:=λy j=>aY ρ fz (y++ws) (j++A)) h λa _ i=> .cons a i
theorem aY.drop(d:aY ρ fz y j):∀(k:Y),aY ρ fz (y.drop k) (j.drop k):=
 d.ind (P:=λy j=>∀(k:Y),aY ρ fz (y.drop k) (j.drop k)) (λk=>k.casesOn .nil λ_=> .nil) λa b i k=>k.casesOn (.cons a b) i
theorem aY.take(d:aY ρ fz y j):∀(k:Y),aY ρ fz (y.take k) (j.take k):=
 d.ind (P:=λy j=>∀(k:Y),aY ρ fz (y.take k) (j.take k)) (λk=>k.casesOn .nil λ_=> .nil) λa _ i k=>k.casesOn .nil λk=> .cons a (i k)
theorem aY.reverse(d:aY ρ fz y j):aY ρ fz y.reverse j.reverse:=
 d.ind (P:=λy j=>aY ρ fz y.reverse j.reverse) .nil λa _ i=>Z'.symm▸Z'.symm▸i.append (.cons a .nil)
noncomputable def NO(ρ:Mk)(fz:Fz)(v:ay):T->Prop
 | .none=>v= .none
 | .bool b=>v= .bool b
 | .int i=>∃E,v= .int i E
 | .str l=>∃E,v= .str ⟨l.toArray⟩ E
 | .atom=>v= .ref ρ.star
 | .bO X=>v=X
 | .list j=>∃a y u,fz a=J (lo y u)/\aY ρ fz y j/\v= .ref a
 | .tup j=>∃a y u,fz a=J (q7 y u)/\aY ρ fz y j/\v= .ref a
theorem Den.inv(d:Den ρ fz v E):NO ρ fz v E:=by
 cases d with
 |none=>rfl
 |bool=>rfl
 |int i E=>exact⟨E,C⟩
 |str l E=>exact⟨E,C⟩
 |atom=>rfl
 |bO=>rfl
 |list e d=>exact yU _ _ _ e d C
 |tup e d=>exact yU _ _ _ e d C
section
variable{P:ay->Prop}
theorem Den.oK(d:Den ρ fz v .none)(h:P .none):P v:=d.inv.symm▸h
theorem Den.rT(d:Den ρ fz v (.bool b))(h:P (.bool b)):P v:=d.inv.symm▸h
theorem Den.gh(d:Den ρ fz v (.int i))(h:∀E,P (.int i E)):P v:=bZ d.inv λE e=>e.symm▸h E
theorem Den.g_(d:Den ρ fz v (.str l))(h:∀E,P (.str ⟨l.toArray⟩ E)):P v:=bZ d.inv λE e=>e.symm▸h E
theorem Den.ye(d:Den ρ fz v .atom)(h:P (.ref ρ.star)):P v:=d.inv.symm▸h
theorem Den.J5(d:Den ρ fz v (.bO X))(h:P X):P v:=d.inv.symm▸h
theorem Den.listE(d:Den ρ fz v (.list j))(h:∀a y u,fz a=J (lo y u)->aY ρ fz y j->P (.ref a)):P v:=gZ d.inv λa y u e d q=>q.symm▸h a y u e d
theorem Den.Dx(d:Den ρ fz v (.tup j))(h:∀a y u,fz a=J (q7 y u)->aY ρ fz y j->P (.ref a)):P v:=gZ d.inv λa y u e d q=>q.symm▸h a y u e d
end
theorem aY.iy(d:aY ρ fz y [a]):∃k,y= [k]/\Den ρ fz k a:=
 d.iO (P:=λy=>∃k,y= [k]/\Den ρ fz k a) λv T d z=>z.g6 (P:=λT=>∃k,v::T= [k]/\Den ρ fz k a) (aM v C d)
theorem aY.DA(d:aY ρ fz y [a,b]):∃k t,y= [k,t]/\Den ρ fz k a/\Den ρ fz t b:=
 d.iO (P:=λy=>∃k t,y= [k,t]/\Den ρ fz k a/\Den ρ fz t b) λv T d z=>aG z.iy λX e q=>gG v X (aQ _ e) d q
theorem oN{B:Type}{x O:B}(h:(if c=aa then J x else ae)=J O):c=aa/\x=O:=by
 cases c with
 |true=>exact⟨C,bf h⟩
 |false=>exact aT C h
theorem aY.one(d:Den ρ fz v E):aY ρ fz [v] [E]:= .cons d .nil
end
inductive AV(O:Type)where
 |un
 |t(x:T)
 |own(l:U T)
 |obj(o:O)
 |fm(l:U T)
 |iF
structure OB(O:Type)where
 at_:O->ay->b8->U ak->Prop
 live:∀{o v h fp},at_ o v h fp->∀b∈fp,(h.get? b).isSome=aa
structure HB where
 b:Fz
 it:U ak
 f0:Fz
 lk:U (Y×ay)
noncomputable def bN(h L:b8):Prop:=∀b o,h.get? b=J o->L.get? b=J o
theorem bN.refl(h:b8):bN h h:=λ_ _ e=>e
theorem bN.trans(x:bN a b)(O:bN b c):bN a c:=λd o e=>O d o (x d o e)
theorem bN.push(h:b8)(o:bE):bN h (h.push o):=λ_ _ e=>eF _ e
structure bV(O:Type)where
 ob:OB O
 ok:b8->Prop
 bI:b8
 base:∀{h},bN bI h->ok h
 frame:∀{o v h h' fp},ob.at_ o v h fp->bN bI h'->(∀b∈fp,∀x,h.get? b=J x->h'.get? b=J x)->ob.at_ o v h' fp
 tabs:U ak
 inv:b8->Prop
 live:∀{h},inv h->∀P∈tabs,(h.get? P).isSome=aa
 e8:∀{h h'},inv h->(∀P∈tabs,∀o,h.get? P=J o->h'.get? P=J o)->inv h'
noncomputable def kH(w:bV t)(h L:b8):Prop:=∀b,b∉w.tabs->∀o,h.get? b=J o->L.get? b=J o
theorem bN.t{h L:b8}(x:bN h L):kH w h L:=λb _ o e=>x b o e
theorem kH.trans(x:kH w a b)(O:kH w b c):kH w a c:=λd q o e=>O d q o (x d q o e)
theorem kH.refl(h:b8):kH w h h:=λ_ _ _ e=>e
noncomputable abbrev oj(a:ak):bE:={cls:= .type "builtin_function_or_method",data:= .fields #[.builtin "list.append", .ref a]}
inductive NY(ρ:Mk)(fz:Fz)(x:T)(ov:aS ay)(fp:U ak):Prop
 |mk(e:fp= [])(v:ay)(ev:ov=J v)(d:Den ρ fz v x)
inductive NV(ρ:Mk)(fz:Fz)(h:b8)(l:U T)(ov:aS ay)(fp:U ak):Prop
 |mk(a:ak)(vs:U ay)(n:Y)(ev:ov=J (.ref a))(ha:h.get? a=J (lo vs n))(d:aY ρ fz vs l)(e:fp= [a])
inductive NX(ob:OB O)(h:b8)(o:O)(ov:aS ay)(fp:U ak):Prop
 |mk(v:ay)(ev:ov=J v)(hv:ob.at_ o v h fp)
inductive NW(ρ:Mk)(fz:Fz)(h:b8)(l:U T)(ov:aS ay)(fp:U ak):Prop
 |mk(vs:U ay)(n:Y)(ev:ov=J (.ref ρ.mark))(ha:h.get? ρ.mark=J (lo vs n))(d:aY ρ fz vs l)(e:fp= [ρ.mark])
inductive NU(a:ak)(h:b8)(ov:aS ay)(fp:U ak):Prop
 |mk(b:ak)(ev:ov=J (.ref b))(ha:h.get? b=J (oj a))(e:fp= [b])
noncomputable def Holds(w:bV t)(B:Mk)(f:Fz)(h:b8):AV t->aS ay->U ak->Prop
 | .un,_,O=>O= []
 | .t x,s,O=>NY B f x s O
 | .own l,s,O=>NV B f h l s O
 | .obj o,s,O=>NX w.ob h o s O
 | .fm l,s,O=>NW B f h l s O
 | .iF,s,O=>NU B.mark h s O
theorem Holds.live(x:Holds w B f h F s O):∀b∈O,(h.get? b).isSome=aa:=by
 cases F with
 |un=>intro b t;cases x;exact cg t gM
 |t _=>obtain⟨rfl,_⟩:=x;intro b t;exact cg t gM
 |own l=>
  obtain⟨a,y,u,_,r,_,rfl⟩:=x;intro b t;cases cI.mp t;rw [r];rfl
 |obj o=>obtain⟨v,_,m⟩:=x;exact w.ob.live m
 |fm l=>
  obtain⟨y,u,_,r,_,rfl⟩:=x;intro b t;cases cI.mp t;rw [r];rfl
 |iF=>
  obtain⟨a,_,r,rfl⟩:=x;intro b t;cases cI.mp t;rw [r];rfl
theorem Holds.mono{B h L}(x:Holds w B f h F s O)(n:Le f P)(t:bN w.bI L)(g:∀b∈O,∀x,h.get? b=J x->L.get? b=J x):
  Holds w B P L F s O:=by
 cases F with
 |un=>exact x
 |t _=>obtain⟨e,v,i,d⟩:=x;exact⟨e,v,i,d.mono n⟩
 |own l=>
  obtain⟨a,y,u,i,r,d,rfl⟩:=x;exact⟨a,y,u,i,g a (.head _) _ r,d.mono n,C⟩
 |obj o=>obtain⟨v,i,m⟩:=x;exact⟨v,i,w.frame m t g⟩
 |fm l=>
  obtain⟨y,u,i,r,d,rfl⟩:=x;exact⟨y,u,i,g _ (.head _) _ r,d.mono n,C⟩
 |iF=>
  obtain⟨a,i,r,rfl⟩:=x;exact⟨a,i,g a (.head _) _ r,C⟩
noncomputable def dZ(T:cW)(H:af->aS ay)(h:b8)(x:af)(s:aS ay):Prop:=
 (T.kindOf x=J .local/\s=H x)\/
 ((T.kindOf x=J .cell\/(T.kindOf x=J .free/\(x==("__classdict__":af))=aA))/\∃c,T.cells.lookup x=J c/\h.IsCell c s)
inductive Fq(B:bV O)(ρ:Mk)(fz:Fz)(h:b8)(env:cW)(m:af->aS ay)(x:af)(av:AV O)(fp:U ak):Prop
 |mk(ov:aS ay)(a:dZ env m h x ov)(hh:Holds B ρ fz h av ov fp)
structure gp(env:cW):Prop where
 kind:env.scope.kind= .function
 globals:env.globals=mainGlobals
 builtins:env.builtins=builtinsNs
structure aN(B:bV O)(ρ:Mk)(hB:HB)(fz:Fz)(env:cW)(xs:U af)(k:Y)(lv:U (AV O))(m:af->aS ay)(dz:Y->U ak)(h:b8):Prop where
 len:lv.length=xs.length
 base:bN B.bI h
 kept:∀b o,hB.b b=J o->h.get? b=J o
 bC:∀b o,fz b=J o->h.get? b=J o
 ns:h.Ns env.locals m
 nL:hB.b env.locals=ae/\fz env.locals=ae
 fB:∀b o,B.bI.get? b=J o->hB.b b=J o
 vars:∀(i:Y)(x:af)(av:AV O),xs[i]?=J x->lv[i]?=J av->Fq B ρ fz h env m x av (dz i)
 own:∀(i:Y)(x:af)(c:ak),i<k->xs[i]?=J x->env.kindOf x≠J .local->env.cells.lookup x=J c->hB.b c=ae
 iN:∀(i:Y)(x:af)(c:ak),k<=i->xs[i]?=J x->env.cells.lookup x=J c->env.kindOf x≠J .local->∃o,hB.b c=J o
 cell:∀(i:Y)(x:af)(c:ak),xs[i]?=J x->env.kindOf x≠J .local->env.cells.lookup x=J c->c≠env.locals/\fz c=ae
 pF:∀(i:Y)(x:af),k<=i->xs[i]?=J x->env.kindOf x≠J .local
 inj:∀(i j:Y)(x y:af)(c:ak),xs[i]?=J x->xs[j]?=J y->env.kindOf x≠J .local->env.kindOf y≠J .local->env.cells.lookup x=J c->env.cells.lookup y=J c->i=j
 nodup:∀(i j:Y)(x:af),xs[i]?=J x->xs[j]?=J x->i=j
 fp:∀(i:Y),i<xs.length->∀b∈dz i,hB.b b=ae/\fz b=ae/\b≠env.locals/\∀(j:Y)(x:af),xs[j]?=J x->env.kindOf x≠J .local->env.cells.lookup x≠J b
 inv:B.inv h
 tab:∀P∈B.tabs,hB.b P=ae/\fz P=ae/\P≠env.locals/\(∀(j:Y)(x:af),xs[j]?=J x->env.kindOf x≠J .local->env.cells.lookup x≠J P)/\∀i,i<xs.length->P∉dz i
 dc:∀b∈hB.it,(hB.b b).isSome=aa/\fz b=ae/\(∀(j:Y)(x:af),xs[j]?=J x->env.kindOf x≠J .local->env.cells.lookup x≠J b)/\B.bI.get? b=ae
 new:∀b o,fz b=J o->hB.f0 b=J o\/hB.b b=ae
 lock:∀p∈hB.lk,∀x,xs[p.1]?=J x->dZ env m h x (J p.2)
 apart:∀(i j:Y),i<xs.length->j<xs.length->i≠j->∀b∈dz i,b∉dz j
inductive SR(B:bV O)(ρ:Mk)(hB:HB)(fz:Fz)(env:cW)(xs:U af)(k:Y)(lv:U (AV O))(h:b8):Prop
 |mk(eo:gp env)(m:af->aS ay)(dz:Y->U ak)(S:aN B ρ hB fz env xs k lv m dz h)
section
variable{B:bV O}{ρ:Mk}{hB:HB}{fz:Fz}{env:cW}{xs:U af}{k:Y}{lv:U (AV O)}{m:af->aS ay}{h h':b8}
theorem dZ.keep(a:dZ env m h x s)(g:∀c,env.kindOf x≠J .local->env.cells.lookup x=J c->∀o,h.get? c=J o->h'.get? c=J o):dZ env m h' x s:=by
 rcases a with a|⟨y,c,B,v,O,e⟩
 .exact .inl a
 .refine .inr ⟨y,c,B,v,g c (λq=>?_) B _ O,e⟩;rw [q]at y;rcases y with y|⟨y,_⟩<;>exact nc mj (bf y) C
theorem zD(u:h.Ns a m)(g:∀o,h.get? a=J o->h'.get? a=J o):h'.Ns a m:=i8 u λo d O Q r=>kP o d O (g o Q) r
theorem CK(u:h.Ns a m):(h.get? a).isSome=aa:=i8 u λw w w Q w=>Q▸C
theorem aN.iH(S:aN B ρ hB fz env xs k lv m R h)(e:hB.b b=J o):b∉B.tabs:=λq=>aT ((S.tab b q).1) e
theorem aN.lS(S:aN B ρ hB fz env xs k lv m R h)(e:fz b=J o):b∉B.tabs:=λq=>aT ((S.tab b q).2.1) e
theorem aN.fresh(S:aN B ρ hB fz env xs k lv m R h)(t:h.get? b=ae):
  hB.b b=ae/\fz b=ae/\b≠env.locals/\(∀(e:Y)(x:af),xs[e]?=J x->env.kindOf x≠J .local->env.cells.lookup x≠J b)/\(∀e,e<xs.length->b∉R e)/\b∉B.tabs:=by
 refine wo ?_ ?_ ?_ (λe O A Q y=>?_) (λe G L=>?_) (λL=>?_)
 .cases a:hB.b b with
  |none=>rfl
  |some o=>have:=S.kept b o a;exact aT t this
 .cases a:fz b with
  |none=>rfl
  |some o=>have:=S.bC b o a;exact aT t this
 .rintro rfl;have:=CK S.ns;rw [t]at this;exact dg C this
 .have G:e<lv.length:=by rw [S.len];exact(cw.mp A).1
  obtain⟨s,r,_⟩:=S.vars e O _ A (cP G);rcases r with⟨a,_⟩|⟨_,j,i,v,l,_⟩
  .exact Q a
  .rw [y]at i;obtain rfl:=bf i;exact aT t l
 .have n:e<lv.length:=by rw [S.len];exact G
  refine cps λ_ T=>?_;obtain⟨s,_,u⟩:=S.vars e _ _ (cP G) (cP n);refine T ?_;have:=u.live b L;rw [t]at this;exact dg C this
 .have:=B.live S.inv b L;rw [t]at this;exact dg C this
theorem aN.grow(S:aN B ρ hB fz env xs k lv m R h)(g:kH B h h')(z:B.inv h')(A:Le fz fR)(v:∀b o,fR b=J o->fz b=J o\/h.get? b=ae/\h'.get? b=J o):
  aN B ρ hB fR env xs k lv m R h':=by
 have s:∀b,fz b=ae->(h.get? b).isSome=aa->fR b=ae:=λb T E=>by
  cases e:fR b with
  |none=>rfl
  |some o=>
   rcases v b o e with a|⟨a,_⟩
   .exact aT T a
   .rw [a]at E;exact dg C E
 have G:bN B.bI h':=λb o e=>g b (S.iH (S.fB b o e)) o (S.base b o e);refine{S with base:=G,kept:=λb o e=>g _ (S.iH e) _ (S.kept b o e),bC:=λb o e=>?_,ns:=?_,nL:=⟨S.nL.1,?_⟩,vars:=λi x F j H=>?_,cell:=λi x c j n y=>?_,fp:=λi z b t=>?_,inv:=z,tab:=λX f=>?_,dc:=λb t=>?_,new:=λb o e=>?_,lock:=λp L x j=>(S.lock p L x j).keep λc Q y o e=>g c (λq=>(S.tab c q).2.2.2.1 p.1 x j Q y) o e}
 .rcases v b o e with a|⟨_,a⟩
  .exact g _ (S.lS a) _ (S.bC b o a)
  .exact a
 .exact zD S.ns (g _ (λq=>(S.tab _ q).2.2.1 C))
 .exact s _ S.nL.2 (CK S.ns)
 .obtain⟨l,r,u⟩:=S.vars i x F j H;exact⟨l,r.keep λc Q y o e=>g c (λq=>(S.tab c q).2.2.2.1 i x j Q y) o e,u.mono A G λb t o e=>g b (λq=>(S.tab b q).2.2.2.2 i (cw.mp j).1 t) o e⟩
 .have:=S.cell i x c j n y;refine⟨this.1,s _ this.2 ?_⟩;have z:i<lv.length:=by rw [S.len];exact(cw.mp j).1
  obtain⟨l,r,_⟩:=S.vars i x _ j (cP z);rcases r with⟨e,_⟩|⟨_,P,d,ah,O,_⟩
  .exact cg e n
  .rw [y]at d;obtain rfl:=bf d;exact cS O
 .have:=S.fp i z b t;refine cR this.1 (s _ this.2.1 ?_) this.2.2;obtain⟨l,_,u⟩:=S.vars i _ _ (cP z) (cP (by rw [S.len];exact z));exact u.live b t
 .have:=S.tab X f;exact cR this.1 (s _ this.2.1 (B.live S.inv X f)) this.2.2
 .have:=S.dc b t;refine cR this.1 (s _ this.2.1 ?_) this.2.2;obtain⟨o,w⟩:=gn.mp this.1;exact cS (S.kept b o w)
 .rcases v b o e with q|⟨q,_⟩
  .exact S.new b o q
  .exact .inr (S.fresh q).1
theorem aN.uv(S:aN B ρ hB fz env xs k lv m R h)(g:bN h h')(n:Le fz P)(v:∀b o,P b=J o->fz b=J o\/h.get? b=ae/\h'.get? b=J o):
  aN B ρ hB P env xs k lv m R h':=S.grow g.t (B.e8 S.inv λX _ o e=>g X o e) n v
end
theorem cN{B:Type}{l:U B}{a:B}(i:Y)(h:l[i]?=J a):a∈l:=cA h
theorem dR{B:Type}{X:B->Prop}:∀b∈ [],X b:=λ_ h=>nomatch h
theorem bl{B:Type}{P:B->Prop}{a:B}{l:U B}(h:P a)(E:∀b∈l,P b):∀b∈a::l,P b:=λb t=>(cC.mp t).elim (λe=>e▸h) (E b)
noncomputable def kO(z:Fz)(a:ak)(o:bE):Fz:=λb=>if b=a then J o else z b
section
theorem pI:kO z a o a=J o:=bB C
theorem oD(h:b≠a)(e:z b=ae):kO z a o b=ae:=(bF h).trans e
theorem wc(h:b≠a)(e:z b=J x):kO z a o b=J x:=(bF h).trans e
theorem fT{z:ak->aS bE}(h:z a=ae)(e:z b=J x):b≠a:=λq=>aT h (q▸e)
theorem yG(h:z a=ae):Le z (kO z a o):=λ_ _ e=>wc (fT h e) e
theorem qO{X:Prop}(e:kO z a o b=J x)(R:b=a->o=x->X)(E:z b=J x->X):X:=
 (tu _).elim (λq=>R q (bf ((bB q).symm.trans e))) λq=>E ((bF q).symm.trans e)
noncomputable def rZ(E:U ak)(a:ak)(h:b8):Fz:=λb=>if b∈E\/b=a then ae else h.get? b
theorem r3(e:h.get? b=J o)(R:b∉E)(a:b≠i):rZ E i h b=J o:=(bF (λq=>q.elim R a)).trans e
theorem HA(e:rZ E a h b=J o):h.get? b=J o:=
 (tu _).elim (λq=>aT (bB q) e) λq=>(bF q).symm.trans e
theorem So(e:h.get? b=ae):rZ E a h b=ae:=by
 cases q:rZ E a h b with
 |none=>rfl
 |some o=>exact aT e (HA q)
theorem Sp(q:b∈E):rZ E a h b=ae:=bB (.inl q)
theorem Sn:rZ E a h a=ae:=bB (.inr C)
theorem jR{o:aS bE}(h:∀x,o=J x->False):o=ae:=by
 cases o with
 |none=>rfl
 |some x=>exact(h x C).elim
end
end
noncomputable def bU(s m:aR):Prop:=∃h R,m={s with heap:=h,toks:=R}
theorem bU.refl(s:aR):bU s s:=cu s.heap s.toks C
theorem bU.trans(h:bU a b)(O:bU b c):bU a c:=by
 refine jP h λe E x=>?_;subst x;refine jP O λL X x=>?_;subst x;exact cu L X C
noncomputable def bT(z:Y->U ak)(i:Y)(l:U ak):Y->U ak:=λm=>if m=i then l else z m
section
theorem IsCell.ext(y:h.IsCell c s)(P:gk a h L)(u:c≠a):L.IsCell c s:=aG y λo Q q=>aM o ((P.2 c u).trans Q) q
theorem aN.HW(S:aN w B A f env n k g H R h)(r:a∉w.tabs)(P:gk a h L):w.inv L:=
 w.e8 S.inv λX l o e=>(P.2 X (λq=>r (q▸l))).trans e
structure nZ(B:bV O)(hB:HB)(fz:Fz)(env:cW)(xs:U af)(dz:Y->U ak)(i:Y)(fp:U ak):Prop where
 a:∀b∈fp,hB.b b=ae/\fz b=ae/\b≠env.locals/\∀(j:Y)(x:af),xs[j]?=J x->env.kindOf x≠J .local->env.cells.lookup x≠J b
 b:∀j,j≠i->j<xs.length->∀b∈fp,b∉dz j
 c:∀P∈B.tabs,P∉fp
theorem nZ.nil:nZ e A f env n R i []:=⟨λw h=>cg h gM,λw w w w h=>cg h gM,λw w h=>cg h gM⟩
theorem aN.C0(S:aN w B k f env n az au H R j){fp:U ak}(aB:k.lk= [])(T:n[i]?=J x)(aJ:env.kindOf x=J .local)
  (aj:L.Ns env.locals (λO=>if O=x then J v else H O))(P:gk env.locals j L)(aD:Holds w B f j av (J v) fp)(u:nZ w k f env n R i fp):
  aN w B k f env n az (au.set i av) (λO=>if O=x then J v else H O) (bT R i fp) L:=by
 have g:∀{z:Fz}{b o},z env.locals=ae->z b=J o->b≠env.locals:=λai ao e=>aT ((aQ _ e).trans ai) ao;have h:bN w.bI L:=λb o e=>(P.2 b (g S.nL.1 (S.fB b o e))).trans (S.base b o e)
 refine{S with len:=by simp [S.len],base:=h,kept:=λb o e=>(P.2 b (g S.nL.1 e)).trans (S.kept b o e),bC:=λb o e=>(P.2 b (g S.nL.2 e)).trans (S.bC b o e),ns:=aj,lock:=(by rw [aB];intro aL aK;cases aK),vars:=λm O Q A d=>?_,fp:=λm G b t=>?_,inv:=S.HW (λq=>(S.tab _ q).2.2.1 C) P,tab:=λX l=>j_ ((S.tab X l).1) ((S.tab X l).2.1) ((S.tab X l).2.2.1) ((S.tab X l).2.2.2.1) (λm G t=>by
   by_cases p:m=i
   .subst p
    rw [show bT R m fp m=fp from bB C]at t
    exact u.c X l t
   .rw [show bT R i fp m=R m from bF ‹_›]at t
    exact(S.tab X l).2.2.2.2 m G t),apart:=λa b r t y c hc=>?_}
 .by_cases p:m=i
  .subst p;rw [T]at A;obtain rfl:=bf A;have G:=by
    have:=(cw.mp d).1;simpa using this
   obtain rfl:=bf ((qi G)▸d);refine⟨J v, .inl ⟨aJ,by simp⟩,?_⟩;show Holds w B f L av _ _;rw [show bT R m fp m=fp from bB C];exact aD.mono (Le.refl _) h λb t o e=>(P.2 b (u.a b t).2.2.1).trans e
  .rw [k9 (jk p)]at d;obtain⟨F,r,aE⟩:=S.vars m O Q A d;have aC:O≠x:=λe=>p (S.nodup m i x (e▸A) T);refine⟨F,?_,?_⟩
   .rcases r with⟨e,q⟩|⟨hc,c,ah,aH⟩
    .exact .inl ⟨e,by simp [aC,q]⟩
    .refine .inr ⟨hc,c,ah,IsCell.ext aH P (S.cell m O c A (λq=>by rw [q]at hc;rcases hc with hc|⟨hc,_⟩<;>exact nc mj (bf hc) C) ah).1⟩
   .show Holds w B f L Q F _;exact(show bT R i fp m=R m from bF ‹_›)▸aE.mono (Le.refl _) h λb t o e=>(P.2 b ((λm G b t=>(S.fp m G b t).2.2.1) m (cw.mp A).1 b t)).trans e
 .by_cases p:m=i
  .subst p;rw [show bT R m fp m=fp from bB C]at t;exact u.a b t
  .rw [show bT R i fp m=R m from bF ‹_›]at t;exact S.fp m G b t
 .by_cases s:a=i<;>by_cases E:b=i
  .exact cg (s.trans E.symm) y
  .subst s;have hc:=(show bT R a fp a=fp from by simp [bT])▸hc;exact(show bT R a fp b=R b from by simp [bT,E])▸u.b b E t c hc
  .subst E;rw [show bT R b fp a=R a from by simp [bT,s]]at hc;rw [show bT R b fp b=fp from by simp [bT]];exactλq=>u.b a s r c q hc
  .rw [show bT R i fp a=R a from by simp [bT,s]]at hc;rw [show bT R i fp b=R b from by simp [bT,E]];exact S.apart a b r t y c hc
theorem aN.VD(S:aN w ai z H env g k aD bg R F){fp:U ak}(aJ:z.lk= [])(j:g[i]?=J x)(aK:i<k)(T:env.kindOf x=J .cell)(hc:env.cells.lookup x=J c)
  (aC:L.IsCell c (J ah))(P:gk c F L)(aE:Holds w ai H F aH (J ah) fp)(u:nZ w z H env g R i fp):
  aN w ai z H env g k (aD.set i aH) bg (bT R i fp) L:=by
 have h:env.kindOf x≠J .local:=by rw [T];decide
 have Q:=S.own i x c aK j h hc;refine bR (S.cell i x c j h hc) λaU aV=>?_;have B:∀{au:Fz}{b o},au c=ae->au b=J o->b≠c:=λaB bq e=>aT ((aQ _ e).trans aB) bq;have y:bN w.bI L:=λb o e=>(P.2 b (B Q (S.fB b o e))).trans (S.base b o e);have az:∀m,m<g.length->∀b∈R m,b≠c:=λm G b t e=>(S.fp m G b t).2.2.2 i x j h (e▸hc)
 refine{S with len:=by simp [S.len],base:=y,kept:=λb o e=>(P.2 b (B Q e)).trans (S.kept b o e),bC:=λb o e=>(P.2 b (B aV e)).trans (S.bC b o e),ns:=S.ns.sameBut P (jk aU),lock:=(by rw [aJ];intro bD aO;cases aO),vars:=λm O bA A d=>?_,fp:=λm G b t=>?_,inv:=S.HW (λq=>(S.tab _ q).2.2.2.1 i x j h hc) P,tab:=λX l=>j_ ((S.tab X l).1) ((S.tab X l).2.1) ((S.tab X l).2.2.1) ((S.tab X l).2.2.2.1) (λm G t=>by
   by_cases p:m=i
   .subst p
    rw [show bT R m fp m=fp from bB C]at t
    exact u.c X l t
   .rw [show bT R i fp m=R m from bF ‹_›]at t
    exact(S.tab X l).2.2.2.2 m G t),apart:=λa b r t ao s v=>?_}
 .by_cases p:m=i
  .subst p;rw [j]at A;obtain rfl:=bf A;have G:=by
    have:=(cw.mp d).1;simpa using this
   obtain rfl:=bf ((qi G)▸d);refine⟨J ah, .inr ⟨.inl T,c,hc,aC⟩,?_⟩;rw [show bT R m fp m=fp from bB C];exact aE.mono (Le.refl _) y λb t o e=>(P.2 b (λq=>(u.a b t).2.2.2 m x j h (q▸hc))).trans e
  .rw [k9 (jk p)]at d;obtain⟨aW,r,aL⟩:=S.vars m O bA A d;refine⟨aW,?_,?_⟩
   .rcases r with⟨e,q⟩|⟨f,s,aj,aZ⟩
    .exact .inl ⟨e,q⟩
    .have bz:env.kindOf O≠J .local:=λq=>by rw [q]at f;rcases f with f|⟨f,_⟩<;>exact nc mj (bf f) C
     refine .inr ⟨f,s,aj,IsCell.ext aZ P λe=>p (S.inj m i O x c A j bz h (e▸aj) hc)⟩
   .exact(show bT R i fp m=R m from bF ‹_›)▸aL.mono (Le.refl _) y λb t o e=>(P.2 b (az m (cw.mp A).1 b t)).trans e
 .by_cases p:m=i
  .subst p;rw [show bT R m fp m=fp from bB C]at t;exact u.a b t
  .rw [show bT R i fp m=R m from bF ‹_›]at t;exact S.fp m G b t
 .by_cases n:a=i<;>by_cases E:b=i
  .exact cg (n.trans E.symm) ao
  .subst n;rw [show bT R a fp a=fp from by simp [bT]]at v;exact(show bT R a fp b=R b from by simp [bT,E])▸u.b b E t s v
  .subst E;rw [show bT R b fp a=R a from by simp [bT,n]]at v;rw [show bT R b fp b=fp from by simp [bT]];exactλq=>u.b a n r s q v
  .rw [show bT R i fp a=R a from by simp [bT,n]]at v;rw [show bT R i fp b=R b from by simp [bT,E]];exact S.apart a b r t ao s v
theorem aN.Ls(S:aN w ah hB n env g au aK H R h){fp:U ak}(hx:g[i]?=J aC)
  (P:∀b,b∉R i->∀o,h.get? b=J o->L.get? b=J o)(aH:dZ env H h aC s)(aD:Holds w ah n L aE s fp)
  (u:∀b∈fp,b∈R i\/h.get? b=ae):
  aN w ah hB n env g au (aK.set i aE) H (bT R i fp) L:=by
 have z:=(cw.mp hx).1;have F:=S.fp i z;have aj:∀{ao:Fz}{b o},(∀b∈R i,ao b=ae)->ao b=J o->b∉R i:=λaJ aO e=>aT (aJ _ e) aO;have ai:=λ{b o}(e:hB.b b=J o)=>aj (λb t=>(F b t).1) e;have B:bN w.bI L:=λb o e=>P b (ai (S.fB b o e)) o (S.base b o e);have m:∀{j O s},g[j]?=J O->dZ env H h O s->dZ env H L O s:=λ{j O s}A r=>by
  rcases r with⟨e,q⟩|⟨f,x,T,o,Q,aL⟩
  .exact .inl ⟨e,q⟩
  .exact .inr ⟨f,x,T,o,P x (λq=>(F x q).2.2.2 j O A (λq=>by rw [q]at f;rcases f with f|⟨f,_⟩<;>exact nc mj (bf f) C) T) o Q,aL⟩
 have k:=λb(t:h.get? b=ae)=>S.fresh t
 refine{S with len:=by simp [S.len],base:=B,kept:=λb o e=>P b (ai e) o (S.kept b o e),bC:=λb o e=>P b ((λ{b o}(e:n b=J o)=>aj (λb t=>(F b t).2.1) e) e) o (S.bC b o e),lock:=λbq az O A=>m A (S.lock bq az O A),ns:=?_,vars:=λj O aB A d=>?_,fp:=λj G b t=>?_,inv:=w.e8 S.inv λX l o e=>P X ((S.tab X l).2.2.2.2 i z) o e,tab:=λX l=>j_ ((S.tab X l).1) ((S.tab X l).2.1) ((S.tab X l).2.2.1) ((S.tab X l).2.2.2.1) (λj G t=>by
   by_cases p:j=i
   .subst p
    rw [show bT R j fp j=fp from bB C]at t
    rcases u X t with q|q
    .exact(S.tab X l).2.2.2.2 j G q
    .exact(k X q).2.2.2.2.2 l
   .rw [show bT R i fp j=R j from bF ‹_›]at t
    exact(S.tab X l).2.2.2.2 j G t),apart:=λa b r t c x v=>?_}
 .exact i8 S.ns λo aU aV Q aW=>kP o aU aV (P _ (λq=>(F _ q).2.2.1 C) o Q) aW
 .by_cases p:j=i
  .subst p;rw [hx]at A;obtain rfl:=bf A;have G:=by
    have:=(cw.mp d).1;simpa using this
   rw [qi G]at d;obtain rfl:=bf d;rw [show bT R j fp j=fp from bB C];exact⟨s,m hx aH,aD⟩
  .rw [k9 (jk p)]at d;obtain⟨aZ,r,bg⟩:=S.vars j O aB A d;rw [show bT R i fp j=R j from bF ‹_›];exact⟨aZ,m A r,bg.mono (Le.refl _) B λb t o e=>P b (S.apart j i ((cw.mp A).1) z p b t) o e⟩
 .by_cases p:j=i
  .subst p;rw [show bT R j fp j=fp from bB C]at t;rcases u b t with q|q
   .exact F b q
   .have:=k b q;exact jt this.1 this.2.1 this.2.2.1 this.2.2.2.1
  .rw [show bT R i fp j=R j from bF ‹_›]at t;exact S.fp j G b t
 .by_cases y:a=i<;>by_cases E:b=i
  .exact cg (y.trans E.symm) c
  .subst y;have v:=(show bT R a fp a=fp from bB C)▸v;refine(show bT R a fp b=R b from bF ‹_›)▸?_;rcases u x v with q|q
   .exact S.apart a b r t c x q
   .exact(k x q).2.2.2.2.1 b t
  .subst E;rw [show bT R b fp a=R a from bF ‹_›]at v;rw [show bT R b fp b=fp from bB C];intro q;rcases u x q with q|q
   .exact S.apart a b r t c x v q
   .exact(k x q).2.2.2.2.1 a r v
  .rw [show bT R i fp a=R a from by simp [bT,y]]at v;rw [show bT R i fp b=R b from by simp [bT,E]];exact S.apart a b r t c x v
theorem aN.freeze(S:aN aO B aB f Q n aE ai H R ao){i:Y}{s:U T}(g:ai[i]?=J (.own s)):
  ∃P,Le f P/\(∃a y u x,n[i]?=J x/\dZ Q H ao x (J (.ref a))/\P a=J (lo y u)/\aY B P y s/\f a=ae/\R i= [a]/\P=λb=>if b=a then J (lo y u)else f b)/\
   aN aO B aB P Q n aE (ai.set i (.t (.list s))) H (bT R i []) ao:=by
 have c:=(cw.mp g).1;have z:i<n.length:=by rw [<-S.len];exact c
 obtain⟨bg,w,a,y,u,rfl,aV,j,h⟩:=S.vars i _ _ (cP z) g;have F:=S.fp i z a (by rw [h];exact .head _);have L:Le f (λb=>if b=a then J (lo y u)else f b):=λb o e=>by
  by_cases t:b=a
  .subst t;exact aT F.2.1 e
  .simp [t,e]
 refine i12 _ L (Sz a y u _ (cP z) w (bB C) (j.mono L) F.2.1 h C) ?_;have k:∀b,b≠a->f b=ae->(if b=a then J (lo y u)else f b)=ae:=λb aD az=>by simp [aD,az]
 refine{S with len:=by simp [S.len],bC:=λb o e=>?_,nL:=⟨S.nL.1,k _ (jk F.2.2.1) S.nL.2⟩,vars:=λm O aH A d=>?_,cell:=λm O ah A r aj=>?_,fp:=λm G b t=>?_,new:=λb o e=>(by
   by_cases q:b=a
   .exact q▸ .inr F.1
   .simp only [q]at e;exact S.new b o e),dc:=λb t=>cR ((S.dc b t).1) (k b (λe=>by have:=(S.dc b t).1;rw [e,F.1]at this;exact dg C this) (S.dc b t).2.1) ((S.dc b t).2.2),tab:=λX l=>j_ ((S.tab X l).1) (k X (λe=>(S.tab X l).2.2.2.2 i z (by rw [h,e];exact .head _)) (S.tab X l).2.1) ((S.tab X l).2.2.1) ((S.tab X l).2.2.2.1) (λm G t=>by
   by_cases p:m=i
   .subst p;rw [show bT R m [] m= []from bB C]at t;exact nomatch t
   .rw [show bT R i [] m=R m from bF ‹_›]at t
    exact(S.tab X l).2.2.2.2 m G t),apart:=λx b aJ t aK aC v=>?_}
 .by_cases t:b=a
  .subst t;simp at e;subst e;exact aV
  .simp [t]at e;exact S.bC b o e
 .by_cases p:m=i
  .subst p;rw [qi c]at d;obtain rfl:=bf d;rw [cP z]at A;obtain rfl:=bf A;refine⟨_,w,?_⟩;rw [show bT R m [] m= []from bB C];exact⟨C,_,C,Den.list (bB C) (j.mono L)⟩
  .rw [k9 (jk p)]at d;obtain⟨aU,aL,aW⟩:=S.vars m O aH A d;exact(show bT R i [] m=R m from bF ‹_›)▸⟨aU,aL,aW.mono L S.base λau au au e=>e⟩
 .have:=S.cell m O ah A r aj;exact⟨this.1,k ah (λe=>F.2.2.2 m O A r (e▸aj)) this.2⟩
 .by_cases p:m=i
  .subst p;rw [show bT R m [] m= []from bB C]at t;exact nomatch t
  .have t:=(show bT R i [] m=R m from bF ‹_›)▸t;have:=S.fp m G b t;refine cR this.1 (k b (λe=>?_) this.2.1) this.2.2;subst e;exact S.apart m i G z p b t (by rw [h];exact .head _)
 .by_cases aZ:x=i
  .subst aZ;rw [show bT R x [] x= []from by simp [bT]]at v;cases v
  .rw [show bT R i [] x=R x from bF ‹_›]at v
   by_cases E:b=i
   .subst E;rw [show bT R b [] b= []from by simp [bT]];simp
   .rw [show bT R i [] b=R b from by simp [bT,E]];exact S.apart x b aJ t aK aC v
end
open PySem.SeqAt
structure b5(B:bV O)(fz:Fz)(s:aR)(fR:Fz)(s':aR):Prop where
 same:bU s s'
 keep:kH B s.heap s'.heap
 inv:B.inv s'.heap
 le:Le fz fR
 bC:Le fR s'.heap.get?
 new:∀b o,fR b=J o->fz b=J o\/s.heap.get? b=ae
structure Ready(B:bV O)(fz:Fz)(s:aR):Prop where
 bC:Le fz s.heap.get?
 base:bN B.bI s.heap
 inv:B.inv s.heap
 iH:∀P∈B.tabs,B.bI.get? P=ae
 lS:∀P∈B.tabs,fz P=ae
section
variable{B:bV O}{fz fR Hf:Fz}
theorem b5.ready(P:b5 B fz s fR m)(r:Ready B fz s):Ready B fR m where
 bC:=P.bC
 base:=λb o e=>P.keep b (λq=>aT (r.iH b q) e) o (r.base b o e)
 inv:=P.inv
 iH:=r.iH
 lS:=λX l=>jR λo e=>(P.new X o e).elim (aT (r.lS X l)) λq=>dg (aQ ro q) (B.live r.inv X l)
theorem b5.refl(r:Ready B fz s):b5 B fz s fz s:=⟨bU.refl _,kH.refl _,r.inv,Le.refl _,r.bC,λw w e=> .inl e⟩
theorem b5.trans(r:Ready B fz s)(a:b5 B fz s fR m)(b:b5 B fR m Hf k):b5 B fz s Hf k where
 same:=a.same.trans b.same
 keep:=a.keep.trans b.keep
 inv:=b.inv
 le:=a.le.trans b.le
 bC:=b.bC
 new:=λx o e=>(b.new x o e).elim (a.new x o) λq=> .inr (jR λi h=>aT q (a.keep x (λA=>dg (aQ ro q) (B.live a.inv x A)) i h))
theorem b5.tok(r:Ready B fz s)(E:fh):b5 B fz s fz {s with toks:=E}:=⟨(cu s.heap E C),kH.refl _,r.inv,Le.refl _,r.bC,λw w e=> .inl e⟩
theorem b5.push(r:Ready B fz s)(o:bE)(E:fh)(Q:o.isFreed=aA):b5 B fz s (kO fz s.heap.objs.size o) {s with heap:=s.heap.push o,toks:=E}where
 same:=(cu _ _ C)
 keep:=(bN.push _ o).t
 inv:=B.e8 r.inv λX w x e=>eF _ e
 le:=λb x e=>wc (fW (eM (r.bC b x e))) e
 bC:=λb x e=>qO e (λq a=>q▸a▸eY _ Q) λe=>eF _ (r.bC b x e)
 new:=λb x e=>qO e (λq w=> .inr (jR λi h=>cg (q▸eM h) (nj _))) .inl
theorem b5.gR(r:Ready B fz s)(o:bE)(E:fh):b5 B fz s fz {s with heap:=s.heap.push o,toks:=E}where
 same:=(cu _ _ C)
 keep:=(bN.push _ o).t
 inv:=B.e8 r.inv λX w x e=>eF _ e
 le:=Le.refl _
 bC:=λb x e=>eF _ (r.bC b x e)
 new:=λw w e=> .inl e
theorem b5.keeps(r:Ready B fz s){t:fh}(g:bN s.heap h):b5 B fz s fz {s with heap:=h,toks:=t}where
 same:=(cu _ _ C)
 keep:=g.t
 inv:=B.e8 r.inv λX w x e=>g _ _ e
 le:=Le.refl _
 bC:=λb x e=>g _ _ (r.bC b x e)
 new:=λw w e=> .inl e
end
noncomputable def PO(w:bV t)(g:Model)(F:cZ)(B:Mk)(E:Sem ay)(f:Fz)(L:T):Prop:=
 ∀(s:aR)(Q:ay->aR->Prop)(G:ay->aR->Prop),Ready w f s->(∀m P v,b5 w f s P m->Den B P v L->Q v m)->wpAny g F E Q G s
noncomputable def PB(w:bV t)(g:Model)(F:cZ)(E:Sem bu)(f:Fz)(b:bu):Prop:=
 ∀(s:aR)(Q:bu->aR->Prop)(G:ay->aR->Prop),Ready w f s->(∀m P,b5 w f s P m->Q b m)->wpAny g F E Q G s
structure dw(A:cZ)(n:Y):Prop where
 depth:A.depth+4*n+16<recursionLimit
 units:A.units+8*n+64<cLine
 handled:A.handled=ae
theorem dw.deeper(r:dw F (n+1)):dw (F.deeper env) n:=⟨by have:=r.depth;show F.depth+1+_+_<_;exact bL 0 (.a (.a (.a (.a (.v 0) (.n 1)) (.m 4 (.v 1))) (.n 16)) (.n 1)) (.v 2) (.a (.a (.a (.v 0) (.m 4 (.a (.v 1) (.n 1)))) (.n 16)) (.n 1)) (.v 2) C [_,_,_] this,by have:=r.units;show F.units+3+_+_<_;exact bL 0 (.a (.a (.a (.a (.v 0) (.n 3)) (.m 8 (.v 1))) (.n 64)) (.n 1)) (.v 2) (.a (.a (.a (.v 0) (.m 8 (.a (.v 1) (.n 1)))) (.n 64)) (.n 1)) (.v 2) C [_,_,_] this,r.handled⟩
theorem dw.less(r:dw F u)(h:H<=u):dw F H:=⟨kD (M7 (vy (AL 4 h) _) 16) r.depth,kD (M7 (vy (AL 8 h) _) 64) r.units,r.handled⟩
theorem dw.d(r:dw F n):F.depth<recursionLimit:=by have:=r.depth;exact bL 0 (.a (.v 0) (.n 1)) (.v 2) (.a (.a (.a (.v 0) (.m 4 (.v 1))) (.n 16)) (.n 1)) (.v 2) C [_,_,_] this
noncomputable def eA(i:aq):bu:=decide (i.natAbs<2^9000)
noncomputable def dh(u:Y):bu:=decide (u<=1000000)
noncomputable def qS(z:aq->aq->aS T):T->T->aS T
 | .int a, .int b=>z a b
 |_,_=>ae
noncomputable def Fw:T->T->aS T
 | .int a, .int b=>J (.int (a+b))
 | .str a, .str b=>if dh (a.length+b.length)then J (.str (a++b))else ae
 | .list a, .list b=>if dh (a.length+b.length)then J (.list (a++b))else ae
 |_,_=>ae
noncomputable def iC(P:Operator)(x O:T):aS T:=match P with
 | .Add=>Fw x O
 | .Sub=>qS (λa b=>J (.int (a-b))) x O
 | .Mult=>qS (λa b=>if eA a&&eA b then J (.int (a*b))else ae) x O
 | .FloorDiv=>qS (λa b=>if b !=0&&eA a then J (.int (a.fdiv b))else ae) x O
 | .Mod=>qS (λa b=>if b !=0&&eA a then J (.int (a.fmod b))else ae) x O
 | .Pow=>qS (λa u=>if decide (0<=u)&&eA a&&decide (u<=1000)then J (.int (a^u.toNat))else ae) x O
 |_=>ae
section
variable{B:bV O}{prog:ck}{w:b4}{A:cZ}{ρ:Mk}{fz:Fz}
theorem kj(h:dh u=aa):u<=sizeLine:=by
 rw [jG];have:=of_decide_eq_true h;exact bh this (bx C)
theorem FT(h:eA i=aa):i.natAbs.log2<9000\/i=0:=
 (tu (i.natAbs=0)).elim (λe=> .inr (Int.natAbs_eq_zero.mp e)) λe=> .inl ((Nat.log2_lt e).mpr (of_decide_eq_true h))
theorem Bg(h:eA i=aa):Zp i<=9000:=by
 unfold Zp;rcases FT h with h|h
 .split<;>(first|exact bx C|exact h|omega)
 .subst h;exact mh _
theorem OI(h:eA i=aa):Zt i m=aA:=by
 unfold Zt;have:(if(i==0)=aa then 0 else i.natAbs.log2/30+1)<=300:=by
  rcases(FT h)with h|h
  .split
   .exact bx C
   .have:i.natAbs.log2/30<300:=Nat.div_lt_of_lt_mul (by assumption);exact this
  .subst h;exact mh _
 simp only [Bool.and_eq_false_iff,decide_eq_false_iff_not];omega
theorem z6(a b:U Y):(⟨(a++b).toArray⟩:af)=⟨a.toArray⟩++⟨b.toArray⟩:=by
 show _=Str.append _ _
 first|rfl|(unfold Str.append;simp)
theorem str_len(a:U Y):(⟨a.toArray⟩:af).length=a.length:=C
theorem IE(a b:U ay):({cls:= .type "list",data:= .seq (a.toArray++b.toArray)})=lo (a++b) 0:=by simp [lo]
theorem Ready.list(r:Ready B fz s){tk:fh}(d:aY ρ fz y j){Q:ay->aR->Prop}(O:∀m h v,b5 B fz s h m->Den ρ h v (.list j)->Q v m):
  Q (.ref s.heap.objs.size) {s with heap:=s.heap.push (lo y n),toks:=tk}:=by
 have P:=b5.push r (lo y n) tk C;exact O _ _ _ P (.list (bB C) (d.mono P.le))
theorem Ready.tup(r:Ready B fz s){R:fh}(d:aY ρ fz y j){Q:ay->aR->Prop}(O:∀m h v,b5 B fz s h m->Den ρ h v (.tup j)->Q v m):
  Q (.ref s.heap.objs.size) {s with heap:=s.heap.push (q7 y u),toks:=R}:=by
 have P:=b5.push r (q7 y u) R C;exact O _ _ _ P (.tup (bB C) (d.mono P.le))
variable{vb:ay}
theorem PO.give(h:∀(s:aR)(Q:ay->aR->Prop)(G:ay->aR->Prop),Ready B fz s->(∀v R,Den ρ fz v L->Q v {s with toks:=R})->wpAny g A E Q G s):PO B g A ρ E fz L:=
 λs Q G r O=>h s Q G r λv R d=>O _ _ _ (b5.tok r R) d
theorem r_{P:ay->ay->Sem ay}(j:Den ρ fz k n)(i:Den ρ fz vb d)(h:qS z n d=J L)
  (c:∀a b E X,z a b=J L->PO B g A ρ (P (.int a E) (.int b X)) fz L):PO B g A ρ (P k vb) fz L:=by
 cases n with
 |int a=>cases d with
  |int b=>exact j.gh (P:=λv=>PO B g A ρ (P v vb) fz L) λE=>i.gh (P:=λv=>PO B g A ρ (P (.int a E) v) fz L) λX=>c a b E X h
  |_=>exact aT C h
 |_=>exact aT C h
theorem IW(R:eA a=aa)(E:eA b=aa):IntMulOk a b:=λu=>cg (ZJ (of_decide_eq_true (ew.mp u).2) (Int.add_le_add (iY.mpr (Bg R)) (iY.mpr (Bg E)))) (nofun)
theorem FZ{b:aq}(h:(b !=0)=aa):b≠0:=λe=>by subst e;exact dg C h
theorem Oc(j:Den ρ fz k n)(i:Den ρ fz vb d)(h:Fw n d=J L):PO B (model prog w) A ρ (binaryOp .Add k vb) fz L:=by
 cases n with
 |int a=>cases d with
  |int b=>
   obtain rfl:=bf h;exact j.gh (P:=λv=>PO B (model prog w) A ρ (binaryOp .Add v vb) fz _) λE=>i.gh (P:=λv=>PO B (model prog w) A ρ (binaryOp .Add (.int a E) v) fz _) λX=>PO.give λs Q G r O=>P.add_int (O _ _ (.int _ _))
  |_=>exact aT C h
 |str a=>cases d with
  |str b=>
   refine bR (oN h) λe x=>?_;subst x;exact j.g_ (P:=λv=>PO B (model prog w) A ρ (binaryOp .Add v vb) fz _) λE=>i.g_ (P:=λv=>PO B (model prog w) A ρ (binaryOp .Add (.str ⟨a.toArray⟩ E) v) fz _) λX=>
    PO.give λs Q G r O=>PyProof.Rows.add_str (λX R=>z6 a b▸O _ _ (.str _ _)) ((str_len a).symm▸(str_len b).symm▸kj e)
  |_=>exact aT C h
 |list a=>cases d with
  |list b=>
   refine bR (oN h) λe x=>?_;subst x;exact j.listE (P:=λv=>PO B (model prog w) A ρ (binaryOp .Add v vb) fz _) λl y u p j=>i.listE (P:=λv=>PO B (model prog w) A ρ (binaryOp .Add (.ref l) v) fz _) λt T H m i s Q G r O=>
    P.add_list (r.bC _ _ p) (r.bC _ _ m) (IE y T▸r.list (j.append i) O) (by rw [<-j.length,<-i.length]at e;exact kj e)
  |_=>exact aT C h
 |_=>exact aT C h
theorem OJ(p:dw A u)(j:Den ρ fz k n)(i:Den ρ fz vb d)(h:iC x n d=J L):PO B (model prog w) A ρ (binaryOp x k vb) fz L:=by
 cases x with
 |Add=>exact Oc j i h
 |Sub=>
  exact r_ j i h λa b E X h=>by obtain rfl:=bf h;exact PO.give λs Q G r O=>P.sub_int (O _ _ (.int _ _))
 |Mult=>
  exact r_ j i h λa b E X h=>by
   obtain⟨e,rfl⟩:=oN h;have e:=ew.mp e;exact PO.give λs Q G r O=>P.mul_int (O _ _ (.int _ _)) (IW e.1 e.2)
 |FloorDiv=>
  exact r_ j i h λa b E X h=>by
   obtain⟨e,rfl⟩:=oN h;have e:=ew.mp e;exact PO.give λs Q G r O=>PyProof.Rows.floordiv_int (FZ e.1) (O _ _ (.int _ _)) (.inl (OI e.2))
 |Mod=>
  exact r_ j i h λa b E X h=>by
   obtain⟨e,rfl⟩:=oN h;exact PO.give λs Q G r O=>aaB (FZ (ew.mp e).1) (O _ _ (.int _ _))
 |Pow=>
  exact r_ j i h λa b E X h=>by
   obtain⟨e,rfl⟩:=oN h;have e:=ew.mp e;have H:=ew.mp e.1;have R:=of_decide_eq_true H.1;exact PO.give λs Q G r O=>PyProof.Rows.pow_int R (xr (Int.mul_le_mul (iY.mpr (Bg H.2)) (of_decide_eq_true e.2) R (by decide)) (by decide)) (O _ _ (.int _ _))
 |_=>exact aT C h
noncomputable def jC(z:T->T->aS bu):U T->U T->aS bu
 | [], []=>J aa
 |x::n,O::c=>match z x O,jC z n c with
  |J a,J b=>J (a&&b)
  |_,_=>ae
 |_,_=>J aA
theorem Xl{z:T->T->aS bu}(h:z x y=J a)(L:jC z n c=J b):jC z (x::n) (y::c)=J (a&&b):=
 (congr (aQ (λo p=>jC.match_1 (λw G=>aS bu) o p (λa b=>J (a&&b)) λw G=>ae) h) L)
noncomputable def z9(z:T->T->aS bu):T->T->aS bu
 | .none, .none=>J aa
 | .bool a, .bool b=>J (a==b)
 | .int a, .int b=>J (a==b)
 | .str a, .str b=>J (a==b)
 | .list a, .list b=>if a.length==b.length then jC z a b else J aA
 |_,_=>ae
noncomputable def e9:Y->T->T->aS bu
 |0,_,_=>ae
 |u+1,a,b=>z9 (e9 u) a b
inductive TQ(f:T->T->aS bu):T->T->bu->Prop
 |none:TQ f .none .none aa
 |bool(a b:bu):TQ f (.bool a) (.bool b) (a==b)
 |int(a b:aq):TQ f (.int a) (.int b) (a==b)
 |str(a b:U Y):TQ f (.str a) (.str b) (a==b)
 |list{a b:U T}{c:bu}(hl:a.length=b.length)(h:jC f a b=J c):TQ f (.list a) (.list b) c
 |wB{a b:U T}(hl:a.length≠b.length):TQ f (.list a) (.list b) aA
theorem z_(h:z9 z x y=J b):TQ z x y b:=by
 cases x with
 |none=>cases y with
  |none=>exact bf h▸ .none
  |_=>exact aT C h
 |bool a=>cases y with
  |bool b=>exact bf h▸(.bool _ _)
  |_=>exact aT C h
 |int a=>cases y with
  |int b=>exact bf h▸(.int _ _)
  |_=>exact aT C h
 |str a=>cases y with
  |str b=>exact bf h▸(.str _ _)
  |_=>exact aT C h
 |list a=>cases y with
  |list c=>
   have h:(if(a.length==c.length)=aa then jC z a c else J aA)=J b:=h
   by_cases e:a.length=c.length
   .rw [bB (beq_iff_eq.mpr e)]at h;exact .list e h
   .rw [bF λq=>e (beq_iff_eq.mp q)]at h;exact bf h▸(.wB e)
  |_=>exact aT C h
 |_=>exact aT C h
theorem Lk{n c:U T}{b:bu}(h:jC z (x::n) (y::c)=J b):∃p q,z x y=J p/\jC z n c=J q/\b=(p&&q):=by
 have h:(match z x y,jC z n c with|J a,J b=>J (a&&b)|_,_=>ae)=J b:=h;cases R:z x y with
 |none=>rw [R]at h;exact aT C h
 |some p=>cases E:jC z n c with
  |none=>rw [R,E]at h;exact aT C h
  |some q=>rw [R,E]at h;exact bf h▸((gG p q C C C))
theorem Lj:∀{n c:U T}{b:bu},n.length=c.length->jC z n c=J b->
  ∃e,b=(rj n.length).all e/\∀m x O,n[m]?=J x->c[m]?=J O->z x O=J (e m)
 | [],c,b,B,h=>by
  rw [AB B.symm]at h;exact(aM (λw=>aa) ((bf h).symm) (λm x O h=>aT C h))
 |x::n,c,b,B,h=>by
  cases c with
  |nil=>exact nc M8 B C
  |cons O c=>
   refine iD (Lk h) λp q R E P=>?_;subst P;refine aG (Lj (E0 B) E) λe A u=>?_;subst A;refine(aM (λm=>Nat.casesOn m p e) ?_ (λm a b r t=>?_))
   .rw [gw,Z_,MM,ZR];rfl
   .cases m with
    |zero=>exact bf r▸bf t▸R
    |succ m=>exact u m a b r t
theorem fL{s:aR}(n:Le fz s.heap.get?)(e:fz a=J (lo y u)):s.heap.IsList a y.toArray:=(i12 _ (n _ _ e) C ⟨u,C⟩)
theorem uz{s:aR}(n:Le fz s.heap.get?)(e:fz a=J (q7 y u)):s.heap.IsTuple a y.toArray:=(i12 _ (n _ _ e) C ⟨u,C⟩)
theorem Dp(a b:U Y):((⟨a.toArray⟩:af)==⟨b.toArray⟩)=(a==b):=by
 rw [<-str_beq]
theorem Wz{y T:U ay}(h:({cls:=c,data:= .seq y.toArray u}:bE)={cls:=c,data:= .seq T.toArray H}):y=T/\u=H:=
 (Data.seq.inj (aQ Nh h)).imp (aQ Zl) id
theorem Tz(h:lo y u=lo ws H):y=ws/\u=H:=Wz h
theorem aY.PF(d:aY ρ fz (v::y) j):∃E r,j=E::r/\Den ρ fz v E/\aY ρ fz y r:=by cases d with|cons a b=>exact(gG _ _ C a b)
theorem ID(j:Den ρ fz v (.list a))(n:Den ρ fz v (.list c)):∃y,aY ρ fz y a/\aY ρ fz y c:=by
 refine gZ j.inv λx y u p q b=>?_;subst b;exact gZ n.inv λO T H m i e=>(aM y q ((Tz (bf (m.symm.trans ((aQ fz (E3 e)).symm.trans p)))).1▸i))
theorem Xm(e:∀v x O b,Den ρ fz v x->Den ρ fz v O->z x O=J b->b=aa)(d:aY ρ fz y n):∀{c:U T}{b:bu},aY ρ fz y c->jC z n c=J b->b=aa:=
 d.ind (P:=λy n=>∀{c:U T}{b:bu},aY ρ fz y c->jC z n c=J b->b=aa)
  (λ{c b}q h=>by rw [AB q.length.symm]at h;exact(bf h).symm)
  λd w X=> @λw w q h=>by
   obtain⟨s,r,rfl,q,a⟩:=q.PF;obtain⟨p,i,R,E,rfl⟩:=Lk h;rw [e _ _ _ p d q R,X a E];rfl
theorem HU(e:Nq a E= .int b X):a=b:=by refine bR (PySem.Value.int.inj e) λs A=>?_;subst s A;rfl
theorem La{a b:U Y}(e:Nt ⟨a.toArray⟩ E= .str ⟨b.toArray⟩ X):a=b:=by cases e;rfl
theorem Dt:∀{u:Y}{v:ay}{x O:T}{b:bu},Den ρ fz v x->Den ρ fz v O->e9 u x O=J b->b=aa
 |0,_,_,_,_,_,_,h=>aT C h
 |u+1,v,x,O,b,i,w,h=>by
  cases z_ h with
  |none=>rfl
  |bool a c=>obtain rfl:=PySem.Value.bool.inj (i.inv.symm.trans w.inv);exact bB C
  |int a c=>
   refine bZ i.inv λE A=>?_;subst A;exact bZ w.inv λX e=>beq_iff_eq.mpr (HU e)
  |str a c=>
   refine bZ i.inv λE A=>?_;subst A;exact bZ w.inv λX e=>beq_iff_eq.mpr (La e)
  |list B h=>exact aG (ID i w) λy d q=>Xm (λv x O b=>Dt) d q h
  |wB B=>exact aG (ID i w) λy d q=>cg (d.length.symm.trans q.length) B
theorem FL{y:U ay}(e:y[m]?=J v)(h:m<y.toArray.size):y.toArray[m]=v:=(cw.mp e).2
theorem Cw{R:ay->ay->bu->Prop}{c:U T}{r:bu}(j:aY ρ fz y n)(i:aY ρ fz a c)(B:n.length=c.length)(k:jC z n c=J r)
  (l:∀v w x O b,Den ρ fz v x->Den ρ fz w O->z x O=J b->R v w b):
  ∃e,r=(rj y.toArray.size).all e/\∀m(h:m<y.toArray.size)(E:m<a.toArray.size),R y.toArray[m] a.toArray[m] (e m):=by
 refine aG (Lj B k) λe A u=>?_;subst A;refine(aM e (aQ (λt=>(rj t).all e) j.length.symm) (λm h E=>?_));have s:=cP (show m<n.length from j.length▸h);have b:=cP (show m<c.length from i.length▸E);exact aG (j.get s) λv q f=>aG (i.get b) λw Q o=>(FL q h).symm▸(FL Q E).symm▸(l _ _ _ _ _ f o (u m _ _ s b))
theorem up1(a:h+(u+1)<cLine):h+1+u<cLine:=by rw [Nat.add_assoc,Nat.add_comm 1 u];exact a
theorem u7(h:a+u<cLine):a<cLine:=kD (e5 a u) h
theorem Df{n c:U T}(j:aY ρ fz y n)(i:aY ρ fz h c)(B:n.length=c.length):y.toArray.size=h.toArray.size:=(j.length.trans B).trans i.length.symm
theorem Dg{n c:U T}(j:aY ρ fz y n)(i:aY ρ fz h c)(B:n.length≠c.length):(y.toArray.size !=h.toArray.size)=aa:=
 bne_iff_ne.mpr λe=>B ((j.length.symm.trans e).trans i.length)
theorem vY(n:Le fz s.heap.get?):∀{u:Y}{A:cZ}{k vb:ay}{e d:T}{b:bu},A.units+u<cLine->Den ρ fz k e->Den ρ fz vb d->e9 u e d=J b->EqAt A s k vb b
 |0,_,_,_,_,_,_,_,_,_,h=>aT C h
 |u+1,A,k,vb,e,d,b,a,j,i,h=>by
  cases z_ h with
  |none=>exact j.oK (P:=λv=>EqAt A s v vb aa) (i.oK (P:=λv=>EqAt A s _ v aa) (EqAt.same _))
  |bool x O=>exact j.rT (P:=λv=>EqAt A s v vb _) (i.rT (P:=λv=>EqAt A s _ v _) (EqAt.bool_bool _ _))
  |int x O=>exact j.gh (P:=λv=>EqAt A s v vb _) λE=>i.gh (P:=λv=>EqAt A s _ v _) λX=>EqAt.int_int _ _ _ _
  |str x O=>exact j.g_ (P:=λv=>EqAt A s v vb _) λE=>i.g_ (P:=λv=>EqAt A s _ v _) λX=>Dp x O▸EqAt.str_str _ _ _ _
  |list B L=>
   exact j.listE (P:=λv=>EqAt A s v vb _) λx y H p q=>i.listE (P:=λv=>EqAt A s _ v _) λO o f m l=>by
    by_cases c:x=O
    .subst c;exact(Dt (Den.list p q) (Den.list m l) h)▸(EqAt.same _)
    .refine aG (Cw (R:=EqAt A.in1 s) q l B L λv w x O b=>vY n (up1 a)) λr g t=>?_;subst g;exact Zv c (RcAt.lists (fL n p) (fL n m) (Df q l B) (u7 a) t)
  |wB B=>
   exact j.listE (P:=λv=>EqAt A s v vb _) λx y H p q=>i.listE (P:=λv=>EqAt A s _ v _) λO o f m l=>by
    by_cases c:x=O
    .subst c;exact dg C (Dt (Den.list p q) (Den.list m l) h)
    .exact Zv c (aaP (fL n p) (fL n m) (Dg q l B) (u7 a))
end
section
variable{B:bV O}{prog:ck}{w:b4}{A:cZ}{ρ:Mk}{fz:Fz}{va vb:ay}{ta tb:T}
noncomputable def sO:T->bu
 | .str _=>aa
 | .int _=>aa
 |_=>aA
theorem Lv(h:z9 z E (.str l)=J b):∃a,E= .str a/\b=(a==l):=by
 cases E<;>first|exact aT C h|exact⟨_,C,(bf h).symm⟩
theorem Lu(h:z9 z E (.int l)=J b):∃a,E= .int a/\b=(a==l):=by
 cases E<;>first|exact aT C h|exact⟨_,C,(bf h).symm⟩
theorem Lg(j:sO x=aa)(d:Den ρ fz v E)(a:Den ρ fz v X)(h:e9 (u+1) E x=J b)(L:e9 (u+1) X x=J b'):b=b':=by
 cases x with
 |str l=>
  refine aG (Lv h) λi e q=>aG (Lv L) λg B o=>?_;subst e B q o;exact bZ d.inv λE e=>bZ a.inv λX B=>aQ (·==l) (La (e.symm.trans B))
 |int l=>
  refine aG (Lu h) λi e q=>aG (Lu L) λg B o=>?_;subst e B q o;exact bZ d.inv λE e=>bZ a.inv λX B=>aQ (·==l) (HU (e.symm.trans B))
 |_=>exact dg C j
theorem VJ(n:Le fz s.heap.get?)(a:A.units+u<cLine)(j:Den ρ fz va ta)(i:Den ρ fz vb tb)(h:e9 u ta tb=J b):RcAt A s va vb b:=by
 cases u with
 |zero=>exact nomatch h
 |succ u=>
  cases z_ h with
  |none=>exact j.oK (P:=λv=>RcAt A s v vb aa) (i.oK (P:=λv=>RcAt A s _ v aa) RcAt.none_none)
  |bool x O=>exact j.rT (P:=λv=>RcAt A s v vb _) (i.rT (P:=λv=>RcAt A s _ v _) (RcAt.bool_bool _ _))
  |int x O=>exact j.gh (P:=λv=>RcAt A s v vb _) λE=>i.gh (P:=λv=>RcAt A s _ v _) λX=>RcAt.int_int _ _ _ _
  |str x O=>exact j.g_ (P:=λv=>RcAt A s v vb _) λE=>i.g_ (P:=λv=>RcAt A s _ v _) λX=>Dp x O▸RcAt.str_str _ _ _ _
  |list B L=>
   exact j.listE (P:=λv=>RcAt A s v vb _) λx y H p q=>i.listE (P:=λv=>RcAt A s _ v _) λO T k m l=>by
    refine aG (Cw (R:=EqAt A.in1 s) q l B L λv w x O b=>vY n (up1 a)) λo t e=>?_;subst t;exact RcAt.lists (fL n p) (fL n m) (Df q l B) (u7 a) e
  |wB B=>
   exact j.listE (P:=λv=>RcAt A s v vb _) λx y H p q=>i.listE (P:=λv=>RcAt A s _ v _) λO T k m l=>
    aaP (fL n p) (fL n m) (Dg q l B) (u7 a)
theorem VK(n:Le fz s.heap.get?)(a:A.units+u<cLine)(j:Den ρ fz va ta)(i:Den ρ fz vb tb)(h:e9 u ta tb=J b):RcNeAt A s va vb (!b):=by
 cases u with
 |zero=>exact nomatch h
 |succ u=>
  cases z_ h with
  |none=>exact j.oK (P:=λv=>RcNeAt A s v vb aA) (i.oK (P:=λv=>RcNeAt A s _ v aA) RcNeAt.none_none)
  |bool x O=>exact j.rT (P:=λv=>RcNeAt A s v vb _) (i.rT (P:=λv=>RcNeAt A s _ v _) (RcNeAt.bool_bool _ _))
  |int x O=>exact j.gh (P:=λv=>RcNeAt A s v vb _) λE=>i.gh (P:=λv=>RcNeAt A s _ v _) λX=>RcNeAt.int_int _ _ _ _
  |str x O=>exact j.g_ (P:=λv=>RcNeAt A s v vb _) λE=>i.g_ (P:=λv=>RcNeAt A s _ v _) λX=>Dp x O▸RcNeAt.str_str _ _ _ _
  |list B L=>
   exact j.listE (P:=λv=>RcNeAt A s v vb _) λx y H p q=>i.listE (P:=λv=>RcNeAt A s _ v _) λO T k m l=>by
    refine aG (Cw (R:=EqAt A.in1 s) q l B L λv w x O b=>vY n (up1 a)) λo t e=>?_;subst t;exact RcNeAt.lists (fL n p) (fL n m) (Df q l B) (u7 a) e
  |wB B=>
   exact j.listE (P:=λv=>RcNeAt A s v vb _) λx y H p q=>i.listE (P:=λv=>RcNeAt A s _ v _) λO T k m l=>
    RcNeAt.lists_lengths (fL n p) (fL n m) (Dg q l B) (u7 a)
noncomputable def i9(x:T):U T->aS bu
 | []=>J aA
 |O::c=>match e9 6 O x,i9 x c with
  |J a,J b=>J (a||b)
  |_,_=>ae
theorem SN(h:i9 x (y::c)=J b):∃p q,e9 6 y x=J p/\i9 x c=J q/\b=(p||q):=by
 have h:(match e9 6 y x,i9 x c with|J a,J b=>J (a||b)|_,_=>ae)=J b:=h;cases R:e9 6 y x with
 |none=>rw [R]at h;exact aT C h
 |some p=>cases E:i9 x c with
  |none=>rw [R,E]at h;exact aT C h
  |some q=>rw [R,E]at h;exact bf h▸((gG p q C C C))
theorem HO(d:aY ρ fz y h):∀{b:bu},i9 x h=J b->
  (∀v∈y,∃E c,Den ρ fz v E/\e9 6 E x=J c)/\∀e,(∀v E c,v∈y->Den ρ fz v E->e9 6 E x=J c->e v=c)->y.any e=b:=
 d.ind (P:=λy h=>∀{b:bu},i9 x h=J b->(∀v∈y,∃E c,Den ρ fz v E/\e9 6 E x=J c)/\∀e,(∀v E c,v∈y->Den ρ fz v E->e9 6 E x=J c->e v=c)->y.any e=b)
  (λa=>⟨λv m=>(nomatch m),λe u=>bf a⟩) λ{v y _ _}d w X w a=>by
  refine iD (SN a) λp q R s P=>?_;subst P;refine bR (X s) λF B=>⟨λH i=>(cC.mp i).elim (λq=>q▸(eV _ _ d R)) (F H),λe u=>?_⟩;rw [Az,u _ _ _ ee d R,B e λv E c m=>u v E c (dY _ m)]
theorem CR{B:Type}{x:aS B}{O:B}(h:(if c=aa then x else ae)=J O):c=aa/\x=J O:=by cases c;exact aT C h;exact⟨C,h⟩
open Classical in
theorem Cb(j:sO x=aa)(n:Le fz s.heap.get?)(k:A.units+8<cLine)(t:Den ρ fz l x){y:U ay}{b:bu}(w:aY ρ fz y a)(i:i9 x a=J b):
  ∃e,(∀O,O∈y.toArray->EqAt A.in1 s O l (e O))/\y.toArray.any e=b:=by
 refine bR (HO w i) λF B=>?_
 let e:=λv=>decide (∃E,Den ρ fz v E/\e9 6 E x=J aa)
 have u:∀v E c,v∈y->Den ρ fz v E->e9 6 E x=J c->e v=c:=λv E c m d q=>by
  cases c with
  |true=>exact decide_eq_true (aM E d q)
  |false=>exact decide_eq_false λ⟨X,o,f⟩=>dg C (Lg j d o q f)
 refine(aM e (λO h=>?_) (MN.trans (B e u)));have h:=Z8.mp h;exact dK (F O h) λE c d q=>(u O E c h d q)▸(vY n (kD (xD _) k) d t q)
noncomputable def HY:T->aS bu
 | .none=>J aA
 |_=>ae
noncomputable def HX(a b:aS bu):T->aS bu
 | .atom=>a
 | .str _=>b
 |_=>ae
noncomputable def Cj:T->T->aS bu
 | .atom=>HX (J aa) (J aA)
 | .str _=>HX (J aA) ae
 | .none=>λE=>(HY E).map (!·)
 | .bO (.ref _)=>HY
 |_=>λw=>ae
noncomputable def mw(prog:ck)(w:b4)(A:cZ)(Q G:ay->aR->Prop)(s:aR)(va vb:ay)(b:bu):Prop:=
 (Q (.bool b) s->wpAny (model prog w) A (compareOp .Is va vb) Q G s)/\(Q (.bool (!b)) s->wpAny (model prog w) A (compareOp .IsNot va vb) Q G s)
theorem H9(j:Den ρ fz va ta)(i:Den ρ fz vb tb)(h:Cj ta tb=J b):mw prog w A Q G s va vb b:=by
 have x:∀{va vb:ay}{b:bu},J aA=J b->plainIs va vb=aa->va≠vb->mw prog w A Q G s va vb b:=
  λe p u=>bf e▸⟨(wpAny_is_other p u),(wpAny_isNot_other p u)⟩
 cases ta with
 |atom=>cases tb with
  |atom=>exact bf h▸j.ye (P:=λv=>mw prog w A Q G s v vb _) (i.ye (P:=λv=>mw prog w A Q G s _ v _) ⟨(wpAny_is_ref_self),(wpAny_isNot_ref_self)⟩)
  |str l=>exact j.ye (P:=λv=>mw prog w A Q G s v vb _) (i.g_ (P:=λv=>mw prog w A Q G s _ v _) λE=>x h C nofun)
  |_=>exact aT C h
 |str l=>cases tb with
  |atom=>exact j.g_ (P:=λv=>mw prog w A Q G s v vb _) λE=>i.ye (P:=λv=>mw prog w A Q G s _ v _) (x h C nofun)
  |_=>exact aT C h
 |none=>cases tb with
  |none=>exact bf h▸j.oK (P:=λv=>mw prog w A Q G s v vb _) (i.oK (P:=λv=>mw prog w A Q G s _ v _) ⟨(wpAny_is_self C),(wpAny_isNot_self C)⟩)
  |_=>exact aT C h
 |bO v=>cases v with
  |ref a=>cases tb with
   |none=>exact j.J5 (P:=λv=>mw prog w A Q G s v vb _) (i.oK (P:=λv=>mw prog w A Q G s _ v _) (x h C nofun))
   |_=>exact aT C h
  |_=>exact aT C h
 |_=>exact aT C h
noncomputable def yl(z:aq->aq->bu):T->T->aS bu
 | .int a, .int b=>J (z a b)
 |_,_=>ae
noncomputable def R7:T->T->aS bu
 | .int a, .int b=>J (decide (a>b))
 | .str a, .str b=>J (decide (b<a))
 |_,_=>ae
noncomputable def Ca:T->U Y->aS bu
 | .str [c],b=>J (decide (c∈b))
 |_,_=>ae
noncomputable def Ph(x:T):T->aS bu
 | .str b=>Ca x b
 | .list l=>if sO x=aa then i9 x l else ae
 | .tup l=>if sO x=aa then i9 x l else ae
 |_=>ae
noncomputable def Py(x:T):T->aS bu
 | .str b=>(Ca x b).map (!·)
 | .list l=>if sO x=aa then(i9 x l).map (!·)else ae
 |_=>ae
noncomputable def gY(P:CmpOp)(a b:T):aS bu:=match P with
 | .Eq=>e9 6 a b
 | .NotEq=>(e9 6 a b).map (!·)
 | .Lt=>yl (λa b=>decide (a<b)) a b
 | .LtE=>yl (λa b=>decide (a<=b)) a b
 | .Gt=>R7 a b
 | .GtE=>yl (λa b=>decide (a>=b)) a b
 | .In=>Ph a b
 | .NotIn=>Py a b
 | .Is=>Cj a b
 | .IsNot=>(Cj a b).map (!·)
theorem PO.same(h:∀(s:aR)(Q:ay->aR->Prop)(G:ay->aR->Prop),Ready B fz s->Q (.bool b) s->wpAny g A E Q G s):PO B g A ρ E fz (.bool b):=
 λs Q G r O=>h s Q G r (O _ _ _ (b5.refl r) (.bool b))
theorem ym{P:ay->ay->Sem ay}(j:Den ρ fz va ta)(i:Den ρ fz vb tb)(h:yl z ta tb=J b)
  (c:∀a b E X s(Q G:ay->aR->Prop),Q (.bool (z a b)) s->wpAny g A (P (.int a E) (.int b X)) Q G s):PO B g A ρ (P va vb) fz (.bool b):=by
 cases ta with
 |int x=>cases tb with
  |int e=>
   exact bf h▸(j.gh (P:=λv=>PO B g A ρ (P v vb) fz _) λE=>i.gh (P:=λv=>PO B g A ρ (P (.int x E) v) fz _) λX=>PO.same λs Q G r O=>c x e E X s Q G O)
  |_=>exact aT C h
 |_=>exact aT C h
theorem HN(j:Den ρ fz va ta)(h:Ca ta l=J b):∃c E,va= .str ⟨#[c]⟩ E/\b=decide (c∈l):=by
 cases ta with
 |str x=>match x,j,h with
  | [c],j,h=>exact bZ j.inv λE e=>(eV c E e ((bf h).symm))
 |_=>exact aT C h
theorem vS(S:dw A n)(j:Den ρ fz va ta)(i:Den ρ fz vb tb)(h:gY H ta tb=J b):PO B (model prog w) A ρ (compareOp H va vb) fz (.bool b):=by
 have g:A.units+8<cLine:=bL 0 (.a (.a (.v 0) (.n 8)) (.n 1)) (.v 2) (.a (.a (.a (.v 0) (.m 8 (.v 1))) (.n 64)) (.n 1)) (.v 2) C [_,_,_] S.units;have z:A.units+6<cLine:=kD (vy (bx C) _) g;cases H with
 |Eq=>exact PO.same λs Q G r O=>VJ r.bC z j i h prog w G Q O
 |NotEq=>
  refine aG (tL.mp h) λc k x=>?_;subst x;exact PO.same λs Q G r O=>VK r.bC z j i k prog w G Q O
 |Lt=>exact ym j i h λa b E X s Q G O=>P.lt_int O
 |LtE=>exact ym j i h λa b E X s Q G O=>P.le_int O
 |GtE=>exact ym j i h λa b E X s Q G O=>P.ge_int O
 |Gt=>
  cases ta with
  |int o=>exact ym j i (by cases tb<;>first|exact h|cases h) λa b E X s Q G O=>P.gt_int O
  |str o=>cases tb with
   |str L=>
    obtain rfl:=bf h;exact j.g_ (P:=λv=>PO B (model prog w) A ρ (compareOp .Gt v vb) fz _) λE=>i.g_ (P:=λv=>PO B (model prog w) A ρ (compareOp .Gt (.str ⟨o.toArray⟩ E) v) fz _) λX=>PO.same λs Q G r O=>P.gt_str (O)
   |_=>exact aT C h
  |_=>exact aT C h
 |In=>
  cases tb with
  |str d=>
   refine dK (HN j h) λc E x p=>?_;subst x p;exact i.g_ (P:=λv=>PO B (model prog w) A ρ (compareOp .In _ v) fz _) λX=>PO.same λs Q G r O=>P.in_str (by rw [aaQ];exact O)
  |list d=>
   exact i.listE (P:=λv=>PO B (model prog w) A ρ (compareOp .In va v) fz _) λo y m q l=>PO.same λs Q G r O=>bR (CR h) λe h=>aG (Cb (A:=A) e r.bC g j l h) λf u t=>in_listAt f (fL r.bC q) u (t▸O)
  |tup d=>
   exact i.Dx (P:=λv=>PO B (model prog w) A ρ (compareOp .In va v) fz _) λo y m q l=>PO.same λs Q G r O=>bR (CR h) λe h=>aG (Cb (A:=A) e r.bC g j l h) λf u t=>in_tupleAt f (uz r.bC q) u (t▸O)
  |_=>exact aT C h
 |NotIn=>
  cases tb with
  |str d=>
   refine aG (tL.mp h) λb k x=>?_;subst x;refine dK (HN j k) λc E x p=>?_;subst x p;exact i.g_ (P:=λv=>PO B (model prog w) A ρ (compareOp .NotIn _ v) fz _) λX=>PO.same λs Q G r O=>P.notIn_str (by rw [aaQ];exact O)
  |list d=>
   refine bR (CR h) λe h=>aG (tL.mp h) λb k x=>?_;subst x;exact i.listE (P:=λv=>PO B (model prog w) A ρ (compareOp .NotIn va v) fz _) λo y m q l=>PO.same λs Q G r O=>aG (Cb (A:=A) e r.bC g j l k) λf u t=>notIn_listAt f (fL r.bC q) u (t▸O)
  |_=>exact aT C h
 |Is=>exact PO.same λs Q G r O=>(H9 j i h).1 O
 |IsNot=>
  refine aG (tL.mp h) λc k x=>?_;subst x;exact PO.same λs Q G r O=>(H9 j i k).2 O
end
section
theorem aN.ready(S:aN w B A f env n k g H R s.heap):Ready w f s where
 bC:=S.bC
 base:=S.base
 inv:=S.inv
 iH:=λX l=>by
  cases e:w.bI.get? X with
  |none=>rfl
  |some o=>have:=S.fB X o e;exact aT ((S.tab X l).1) this
 lS:=λX l=>(S.tab X l).2.1
theorem SR.ready(S:SR w B A f env n k g s.heap):Ready w f s:=let⟨_,_,_,S⟩:=S;S.ready
theorem aN.step(S:aN w B A f env n k g H R s.heap)(P:b5 w f s h m):aN w B A h env n k g H R m.heap:=
 S.grow P.keep P.inv P.le λb o e=>(P.new b o e).imp id λq=>⟨q,P.bC b o e⟩
theorem SR.step(S:SR w B A f env n k g s.heap)(P:b5 w f s h m):SR w B A h env n k g m.heap:=let⟨a,H,z,S⟩:=S;⟨a,H,z,S.step P⟩
end
noncomputable def cy(w:bV t)(i:ck)(X:b4)(F:cZ)(B:Mk)(h:cW)(n:U af)(k:Y)(g:U (AV t))(e:b9)(S:U (AV t))(L:T):Prop:=
 ∀(A:HB)(f:Fz)(s:aR)(Q:ay->aR->Prop)(G:ay->aR->Prop),SR w B A f h n k g s.heap->
  (∀m P v,bU s m->Le f P->SR w B A P h n k S m.heap->Den B P v L->Q v m)->wpAny (model i X) F (eval e h) Q G s
noncomputable def fQ(w:bV t)(i:ck)(X:b4)(F:cZ)(B:Mk)(T:cW)(n:U af)(k:Y)(g:U (AV t))(e:b9)(S:U (AV t))(b:bu):Prop:=
 ∀(A:HB)(f:Fz)(s:aR)(Q:bu->aR->Prop)(G:ay->aR->Prop),SR w B A f T n k g s.heap->
  (∀m P,bU s m->Le f P->SR w B A P T n k S m.heap->Q b m)->wpAny (model i X) F (isTrue e T (eval e T)) Q G s
noncomputable def j7(w:bV t)(i:ck)(X:b4)(F:cZ)(B:Mk)(h:cW)(n:U af)(k:Y)(g:U (AV t))(b:Pos)(d:U b9)(S:U (AV t))(E:U T):Prop:=
 ∀(A:HB)(f:Fz)(s:aR)(Q:U ay->aR->Prop)(G:ay->aR->Prop),SR w B A f h n k g s.heap->
  (∀m P y,bU s m->Le f P->SR w B A P h n k S m.heap->aY B P y E->Q y m)->wpAny (model i X) F (spliced (backTo b (starEach d h))) Q G s
noncomputable def nG:T->aS bu
 | .none=>J aA
 | .bool b=>J b
 | .int i=>J (i !=0)
 | .str l=>if dh l.length then J (!l.isEmpty)else ae
 | .list l=>if dh l.length then J (!l.isEmpty)else ae
 |_=>ae
section
variable{B:bV O}{prog:ck}{w:b4}{A:cZ}{ρ:Mk}{env:cW}{xs:U af}
theorem w4(h:dh u=aa):(u:aq)<2^63:=Es (iY.mpr (of_decide_eq_true h)) (by decide)
theorem sS(t:dw A u){b:bu}(d:Den ρ f k n)(h:nG n=J b):PB B (model prog w) A (truthy k) f b:=by
 intro s Q G r O;cases n with
 |none=>obtain rfl:=bf h;exact d.oK (P:=λv=>wpAny (model prog w) A (truthy v) Q G s) (λi i i=>O _ _ (b5.refl r))
 |bool b=>obtain rfl:=bf h;exact d.rT (P:=λv=>wpAny (model prog w) A (truthy v) Q G s) (vE (O _ _ (b5.refl r)))
 |int x=>obtain rfl:=bf h;exact d.gh (P:=λv=>wpAny (model prog w) A (truthy v) Q G s) λE=>P.truthy_int (O _ _ (b5.refl r))
 |str l=>
  refine bR (oN h) λa e=>?_;subst e;refine d.g_ (P:=λv=>wpAny (model prog w) A (truthy v) Q G s) λE=>P.truthy_str (by rw [str_len];exact Int.not_le.mpr (w4 a)) ?_;rw [str_len,show(((l.length):aq)!=0)=!l.isEmpty from by cases l<;>rfl];exact O _ _ (b5.tok r _)
 |list l=>
  refine bR (oN h) λa e=>?_;subst e;exact d.listE (P:=λv=>wpAny (model prog w) A (truthy v) Q G s) λo y u p j=>wpAny_truthy_list (fL r.bC p) (l_.symm▸j.length.symm▸(w4 a)) ((show y.toArray.isEmpty=l.isEmpty from by cases j<;>rfl)▸(O _ _ (b5.tok r _)))
 |_=>exact aT C h
theorem eH(E:gp env)(v:s.heap.Ns env.locals H)(r:dZ env H s.heap x (J e))(h:Q e s):
  wpAny (model prog w) A (loadName env x) Q G s:=by
 rcases r with⟨B,m⟩|⟨B|⟨B,y⟩,c,i,F⟩
 .exact aaZ E.kind B v m.symm h
 .exact wpAny_loadName_cell E.kind B i F h
 .exact wpAny_loadName_free E.kind B i F h y
theorem Rm{i:Y}(j:xs[i]?=J x)(h:g[i]?=J (.t L))(q:(x==("__debug__"))=aA):cy B prog w A ρ env xs k g (.Name x p) g L:=by
 rintro e f s Q G⟨E,H,z,S⟩O;obtain⟨a,r,u,v,rfl,d⟩:=S.vars i x _ j h;exact eP (eH E S.ns r (O s f v (bU.refl s) (Le.refl _) ⟨E,H,z,S⟩ d)) q
theorem Rn{x:af}(j:xs[i]?=J x)(h:g[i]?=J (.own l))(q:(x==("__debug__"))=aA):
  cy B prog w A ρ env xs k g (.Name x p) (g.set i (.t (.list l))) (.list l):=by
 rintro b f s Q G⟨E,H,n,S⟩O;refine cps λm T=>jq (S.freeze h) λP L e z=>?_;obtain⟨o,y,u,v,a,r,t,d,_,_,_⟩:=e;refine T ?_;obtain rfl:=bf (j▸a);exact eP (eH E S.ns r (O s P _ (bU.refl s) L ⟨E,H,_,z⟩ (.list t d))) q
noncomputable def Tv(c:Const):T->Prop
 | .int b=>c= .int b
 | .str b=>c= .str ⟨b.toArray⟩
 | .bool b=>c= .bool b
 | .none=>c= .none
 |_=>False
theorem v3(e:Tv c τ):cy B prog w A ρ env xs k g (.Constant c kk p) g τ:=by
 intro a f s Q G S O;cases τ with
 |int b=>exact e▸(wpAny_Constant_int (O _ f _ (cu _ _ C) (Le.refl _) S (.int _ _)))
 |str b=>exact e▸(Constant_str (O _ f _ (cu _ _ C) (Le.refl _) S (.str _ _)))
 |bool b=>exact e▸(λh h h=>O _ f _ (bU.refl s) (Le.refl _) S (.bool _))
 |none=>exact e▸(λh h h=>O _ f _ (bU.refl s) (Le.refl _) S .none)
 |_=>exact e.elim
theorem cy.to(p:PO B (model prog w) A ρ E f L)(S:SR B ρ e f env xs k g s.heap)
  (O:∀m P v,bU s m->Le f P->SR B ρ e P env xs k g m.heap->Den ρ P v L->Q v m):wpAny (model prog w) A E Q G s:=
 p s Q G S.ready λm P v h d=>O m P v h.same h.le (S.step h) d
theorem Rb(R:dw A ah)(h1:cy B prog w A ρ env xs k g H u ta)(h2:cy B prog w A ρ env xs k u cG h e)(a:iC P ta e=J L):
  cy B prog w A ρ env xs k g (.BinOp H P cG p) h L:=by
 intro hB f s Q G S O;exact E6 (h1 hB f s _ _ S λc i n o X t j=>h2 hB i c _ _ t λy E T r l₂ F b=>(cy.to (OJ R (j.mono l₂) b a) F λm x v q l z d=>O m x v ((o.trans r).trans q) ((X.trans l₂).trans l) z d))
theorem Rd(R:dw A n)(h1:cy B prog w A ρ env xs k g H u ta)(h2:cy B prog w A ρ env xs k u cG cU e)(h:gY P ta e=J b)(L:behindInMarks P cG=aA):
  cy B prog w A ρ env xs k g (.Compare H [P] [cG] E) cU (.bool b):=by
 intro hB f s Q G S O;exact wpAny_Compare1 (h1 hB f s _ _ S λc a y o X t j=>h2 hB a c _ _ t λx p b r l₂ F i=>(cy.to (vS R (j.mono l₂) i h) F λm f' v q l z d=>O m f' v ((o.trans r).trans q) ((X.trans l₂).trans l) z d)) L
theorem Qg(R:dw A G)(h1:cy B prog w A ρ env xs k g H u ta)(h2:cy B prog w A ρ env xs k u cG h e)(a:gY P ta e=J b)(L:behindInMarks P cG=aA):
  fQ B prog w A ρ env xs k g (.Compare H [P] [cG] p) h b:=by
 intro hB f s Q ah S O;refine xM (h1 hB f s _ _ S λc i v o X t j=>h2 hB i c _ _ t λy T b r l₂ F l=>(cy.to (vS R (j.mono l₂) l a) F λm x E q n z d=>?_)) L;obtain rfl:=d.inv;exact vE (O m x ((o.trans r).trans q) ((X.trans l₂).trans n) z)
theorem Ql(p:dw A q)(R:cy B prog w A ρ env xs k g e u n)(h:nG n=J b)(a:∀x,isTrue e env x=(do let v<-x;standAt e.pos;holding [v] (truthy v))):
  fQ B prog w A ρ env xs k g e u b:=by
 intro i f s Q G S O;exact aaz (R i f s _ _ S λc d r o X t j=>(sS p j h c _ _ t.ready λm l P=>O m l (o.trans P.same) (X.trans P.le) (t.step P))) (a _)
theorem Qj{b:bu}(R:fQ B prog w A ρ env xs k g e u b):fQ B prog w A ρ env xs k g (.UnaryOp .Not e p) u (!b):=by
 intro h f s Q G S O;exact PyProof.Rows.isTrue_not (R h f s _ _ S λc a o X t=>O c a o X t)
theorem Rp(p:dw A l)(R:cy B prog w A ρ env xs k g e u n)(h:nG n=J b):cy B prog w A ρ env xs k g (.UnaryOp .Not e x) u (.bool (!b)):=by
 intro a f s Q G S O;exact NB (R a f s _ _ S λc q v o X t j=>PyProof.Rows.not_of (sS p j h c _ _ t.ready λm i P=>O m i _ (o.trans P.same) (X.trans P.le) (t.step P) (.bool _)))
theorem Ro(R:cy B prog w A ρ env xs k g e u (.int i)):cy B prog w A ρ env xs k g (.UnaryOp .USub e p) u (.int (-i)):=by
 intro h f s Q G S O;refine NB (R h f s _ _ S λc a x o X t j=>?_);obtain⟨E,rfl⟩:=j.inv;exact P.neg_int (O _ a _ (o.trans (cu _ _ C)) X t (.int _ _))
theorem Rk(R:fQ B prog w A ρ env xs k g H u b)(h2:cy B prog w A ρ env xs k u (if b then cG else e) a L):cy B prog w A ρ env xs k g (.IfExp H cG e p) a L:=by
 intro h f s Q G S O;refine wpAny_IfExp (R h f s _ _ S λc i o X t=>?_);have:=h2 h i c Q G t λm x v q l z d=>O m x v (o.trans q) (X.trans l) z d;cases b<;>exact this
theorem kM:j7 B prog w A ρ env xs k g b [] g []:=λh f s Q G S O=>rz (O s f [] (bU.refl s) (Le.refl _) S .nil)
theorem K8(h:∀x p,e≠ .Starred x p):starEach (e::d) env=(aA,eval e env)::starEach d env:=by cases e<;>first|rfl|exact cg C (h _ _)
theorem mz(h:∀x p,e≠ .Starred x p):backTo pos (starEach (e::es) env)=(aA,eval e env)::backTo pos (starEach es env):=(aQ (backTo pos) (K8 h)).trans C
theorem pH(R:cy B prog w A ρ env xs k g e u L)(E:j7 B prog w A ρ env xs k u b d a i)(P:∀x p,e≠ .Starred x p):
  j7 B prog w A ρ env xs k g b (e::d) a (L::i):=by
 intro h f s Q G S O;exact mz P▸(pn (R h f s _ _ S λc n m o X t v=>E h n c _ _ t λj q y r l F z=>(O j q _ (o.trans r) (X.trans l) F (.cons (v.mono l) z))))
theorem Rl(e:j7 B prog w A ρ env xs k g b h u E)(a:dh E.length=aa):cy B prog w A ρ env xs k g (.List h b) u (.list E):=by
 intro i f s Q G S O;refine wpAny_List (e i f s _ _ S λc l y o X t z=>⟨?_,?_⟩)
 .rw [z.length];exact kj a
 .exact(t.ready).list z λm x v P d=>O m x v (o.trans P.same) (X.trans P.le) (t.step P) d
theorem BC(e:j7 B prog w A ρ env xs k g b h u E)(a:dh E.length=aa):cy B prog w A ρ env xs k g (.Tuple h kk b) u (.tup E):=by
 intro i f s Q G S O;refine wpAny_Tuple (e i f s _ _ S λc l y o X t z=>⟨?_,?_⟩)
 .rw [z.length];exact kj a
 .exact(t.ready).tup z λm x v P d=>O m x v (o.trans P.same) (X.trans P.le) (t.step P) d
end
noncomputable def iP(i:aq):bu:=decide (-(2^62)<i)&&decide (i<2^62)
noncomputable def yV(l:U T)(i:aq):aS T:=if iP i then(seqIndex? i l.length).bind (l[·]?)else ae
noncomputable def B4:T->aq->aS T
 | .list l,i=>yV l i
 | .tup l,i=>yV l i
 | .str l,i=>if iP i then((seqIndex? i l.length).bind (l[·]?)).map λc=> .str [c]else ae
 |_,_=>ae
noncomputable def lI(x:T):T->aS T
 | .int i=>B4 x i
 |_=>ae
noncomputable def cut{B:Type}(lo z:aS aq)(l:U B):U B:=(l.drop (lo.elim 0 (clipAt l.length))).take (z.elim l.length (clipAt l.length)-lo.elim 0 (clipAt l.length))
noncomputable def z3:T->aS aq->aS aq->aS T
 | .list l,lo,z=>if dh l.length then J (.list (cut lo z l))else ae
 | .str l,lo,z=>if dh l.length then J (.str (cut lo z l))else ae
 |_,_,_=>ae
section
variable{B:bV O}{prog:ck}{w:b4}{A:cZ}{ρ:Mk}{env:cW}{xs:U af}{k:Y}{lv:U (AV O)}{τ:T}
theorem CS{B:Type} [Decidable c]{x O:B}(h:(if c then J x else ae)=J O):c/\x=O:=by
 by_cases q:c
 .rw [bB q]at h;exact⟨q,bf h⟩
 .exact aT (bF q) h
theorem U4{x O:Y}(h:(if(c&&d)=aa then J x else ae)=J O):c=aa/\d=aa/\x=O:=
 have q:=CS h;have r:=ew.mp q.1
 (cR r.1 r.2 q.2)
theorem KL(h:seqIndex? i u=J m):(0<=i/\m=i.toNat/\m<u)\/(i<0/\-(u)<=i/\m=(i+u).toNat/\m<u):=by
 refine fF (U4 (h)) λR E x=>?_;subst x;have S:=(Int.toNat_lt (of_decide_eq_true R)).mpr (of_decide_eq_true E)
 by_cases q:i<0
 .rw [bB q]at R S⊢;exact .inr (jt q (Int.neg_le_of_neg_le (Int.sub_nonneg.mp (by rw [Int.sub_neg,Av];exact of_decide_eq_true R))) C S)
 .rw [bF q]at S⊢;exact .inl (cR (xt.mp q) C S)
theorem B6(h:iP i=aa):-(2^63)<=i:=xr (by decide) (tC (of_decide_eq_true (ew.mp h).1))
theorem B5(h:iP i=aa):i<2^63:=qh (of_decide_eq_true (ew.mp h).2) (by decide)
theorem KN(h:yV l i=J τ):iP i=aa/\∃m,seqIndex? i l.length=J m/\l[m]?=J τ:=by
 by_cases q:iP i=aa
 .have h:(if iP i=aa then(seqIndex? i l.length).bind (l[·]?)else ae)=J τ:=h;rw [bB q]at h;exact⟨q,aaq.mp h⟩
 .have h:(if iP i=aa then(seqIndex? i l.length).bind (l[·]?)else ae)=J τ:=h;exact aT (bF q) h
theorem list_item(d:aY ρ f y l)(e:yV l b=J τ)(L:s.heap.IsList a y.toArray)(O:∀v,Den ρ f v τ->Q v s):wpAny (model prog w) A (getItem (.ref a) (.int b t)) Q E s:=by
 refine cps λn x=>bR (KN e) λz k=>?_;obtain⟨m,G,e⟩:=k;refine aG (d.get e) λv h i=>x ?_;rcases KL G with⟨T,rfl,_⟩|⟨T,X,rfl,_⟩
 .exact wpAny_getItem_list L T (B5 z) (MZ.trans h) (O v i)
 .rw [(d.length.symm)]at X h;exact wpAny_getItem_list_neg L T X (B6 z) (MZ.trans h) (O v i)
theorem R4(da:Den ρ f va n)(h:B4 n i=J τ)(r:Ready B f s)(O:∀v R,Den ρ f v τ->Q v {s with toks:=R}):wpAny (model prog w) A (getItem va (.int i E)) Q G s:=by
 cases n with
 |list l=>exact da.listE (P:=λv=>wpAny (model prog w) A (getItem v (.int i E)) Q G s) λa y u p da=>list_item da h (fL r.bC p) λv d=>O v _ d
 |tup l=>
  refine da.Dx (P:=λv=>wpAny (model prog w) A (getItem v (.int i E)) Q G s) λa y u p da=>cps λg e=>bR (KN h) λz b=>?_;obtain⟨m,k,h⟩:=b;exact aG (da.get h) λv t j=>e (P.getItem_tuple (r.bC _ _ p) (B6 z) (B5 z) (l_.symm▸da.length.symm▸k) (MZ.trans t) (O v _ j))
 |str l=>
  refine da.g_ (P:=λv=>wpAny (model prog w) A (getItem v (.int i E)) Q G s) λX=>?_;obtain⟨z,h⟩:iP i=aa/\((seqIndex? i l.length).bind (l[·]?)).map (λc=>T.str [c])=J τ:=by
   by_cases q:iP i=aa
   .exact⟨q,(bB q).symm.trans h⟩
   .exact aT C ((bF q).symm.trans h)
  refine aG (tL.mp h) λc o x=>?_;subst x;refine P.getItem_str ?_ ?_ (O _ _ (.str [c] _))
  .exact Bool.or_eq_false_iff.mpr ⟨decide_eq_false (xt.mpr (B6 z)),decide_eq_false (Int.not_le.mpr (B5 z))⟩
  .rw [str_len];simpa using o
 |_=>exact aT C h
theorem TF(d:Den ρ f va ta)(h:B4 ta i=J τ){s:aR}(hf:Le f s.heap.get?):∃T id,s.TypeIs va T/\typeLookup (.type T) "__getitem__"=pure (J (.builtin id)):=by
 cases ta with
 |list l=>exact d.listE (P:=λv=>∃T id,s.TypeIs v T/\typeLookup (.type T) "__getitem__"=pure (J (.builtin id))) λa y u p j=>(eV ("list") _ ((fL hf p).typeIs) MD.lookup)
 |tup l=>exact d.Dx (P:=λv=>∃T id,s.TypeIs v T/\typeLookup (.type T) "__getitem__"=pure (J (.builtin id))) λa y u p j=>(eV ("tuple") _ (aM _ (hf _ _ p) C) F.slot_tuple_getitem.lookup)
 |str l=>exact d.g_ (P:=λv=>∃T id,s.TypeIs v T/\typeLookup (.type T) "__getitem__"=pure (J (.builtin id))) λE=>(eV ("str") _ (AU _ _ _) ZA.lookup)
 |_=>exact aT C h
theorem u5(h:∀a b c p,e≠ .Slice a b c p):subscripted e aA o i=operate [o,i] (getItem o i):=by
 cases e with
 |Slice=>exact cg C (h _ _ _ _)
 |_=>rfl
theorem Ri(ah:cy B prog w A ρ env xs k lv H u m)(E:cy B prog w A ρ env xs k u h s d)(e:lI m d=J τ)(P:∀a b R p,h≠ .Slice a b R p):
  cy B prog w A ρ env xs k lv (.Subscript H h p) s τ:=by
 intro i f n Q G S O;refine vA (ah i f n _ _ S λc t a o X q j=>E i t c _ _ q λg y b z l F L=>?_);cases d with
 |int az=>
  refine L.gh (P:=λv=>wpAny (model prog w) A (aaC H h a v) Q G g) λau=>?_;have r:=F.ready;exact dK (TF (j.mono l) e r.bC) λT id ai ao=>tM ai ao (R4 (j.mono l) e r λv aj x=>O _ y v ((o.trans z).trans (cu _ _ C)) (X.trans l) (F.step (b5.tok r aj)) x) (u5 P)
 |_=>exact aT C e
noncomputable def nY(B:bV O)(prog:ck)(w:b4)(A:cZ)(ρ:Mk)(env:cW)(xs:U af)(k:Y)(lv:U (AV O))(e:b9)(τ:T):Prop:=
 ∀(h:HB)(f:Fz)(s:aR)(Q:ay->aR->Prop)(G:ay->aR->Prop),SR B ρ h f env xs k lv s.heap->
  (∀R v,Den ρ f v τ->Q v {s with toks:=R})->wpAny (model prog w) A (eval e env) Q G s
theorem BA{i:Y}(j:xs[i]?=J x)(h:lv[i]?=J (.t τ))(q:(x==("__debug__"))=aA):nY B prog w A ρ env xs k lv (.Name x p) τ:=by
 rintro e f s Q G⟨E,H,z,S⟩O;obtain⟨a,r,u,v,rfl,d⟩:=S.vars i x _ j h;exact eP (eH E S.ns r (O s.toks v d)) q
theorem QL:nY B prog w A ρ env xs k lv (.Constant (.int i) kk p) (.int i):=
 λh f s Q G S O=>wpAny_Constant_int (O _ _ (.int _ _))
theorem QM{i:aq}(R:nY B prog w A ρ env xs k lv e (.int i)):nY B prog w A ρ env xs k lv (.UnaryOp .USub e p) (.int (-i)):=by
 intro h f s Q G S O;refine NB (R h f s _ _ S λa v d=>?_);obtain⟨E,rfl⟩:=d.inv;exact P.neg_int (O _ _ (.int _ _))
theorem Rj{j:Y}(hx:xs[j]?=J x)(h:lv[j]?=J (.own l))(q:(x==("__debug__"))=aA)(h2:nY B prog w A ρ env xs k lv cG (.int m))(g:lI (.list l) (.int m)=J τ)
  (P:∀a b c p,cG≠ .Slice a b c p):cy B prog w A ρ env xs k lv (.Subscript (.Name x n) cG p) lv τ:=by
 rintro e f s Q G⟨eo,H,z,S⟩O;obtain⟨E,r,a,y,t,rfl,o,d,u⟩:=S.vars j x _ hx h;refine vA (eP (eH eo S.ns r (h2 e f s _ _ ⟨eo,H,z,S⟩ λR v i=>i.gh (P:=λv=>wpAny (model prog w) A (aaC (vp x n) cG (vB a) v) Q G {s with toks:=R}) λX=>?_)) q);have L:({s with toks:=R}).heap.IsList a y.toArray:=(i12 _ o C ⟨t,C⟩);exact tM L.typeIs MD.lookup (list_item d g L λv i=>O {s with toks:=R} f v (cu _ _ C) (Le.refl _) ⟨eo,H,z,S⟩ i) (u5 P)
theorem aN.lend(S:aN B ρ x f env xs k lv H R s.heap){h:Y}{l:U T}(j:xs[h]?=J n)(v:lv[h]?=J (.own l)):
  ∃a P,dZ env H s.heap n (J (.ref a))/\Ready B P s/\Le f P/\Den ρ P (.ref a) (.list l)/\
   ∀m b,b5 B P s b m->aN B ρ x f env xs k lv H R m.heap:=by
 refine cps λw t=>jq (S.freeze v) λP L o z=>?_;obtain⟨a,y,u,O,A,r,q,d,_,_,_⟩:=o;refine t ?_;rw [j]at A;obtain rfl:=bf A;exact(HG a P r z.ready L (.list q d) (λm g e=>(S.grow e.keep e.inv (Le.refl _) λp c i=> .inl i)))
theorem Qh(p:dw A aE){m:Y}(R:cy B prog w A ρ env xs k lv H u n)(j:xs[m]?=J x)(h:u[m]?=J (.own l))(q:(x==("__debug__"))=aA)
  (e:gY a n (.list l)=J b):fQ B prog w A ρ env xs k lv (.Compare H [a] [.Name x ai] ah) u b:=by
 intro s f o aj ao S O;refine xM (R s f o _ _ S λc v au g X t i=>?_) (C);obtain⟨E,y,z,t⟩:=t;refine qI (t.lend j h) λaz aB L r Q T F=>eP (eH E t.ns L (vS p (i.mono Q) T e c _ _ r λG aC aD P d=>?_)) q;obtain rfl:=d.inv;exact vE (O G v (g.trans P.same) X ⟨E,y,z,F _ _ P⟩)
end
section
variable{cU:U (AV O)}
noncomputable def vH(w:bV O)(i:ck)(X:b4)(F:cZ)(B:Mk)(T:cW)(n:U af)(k:Y)(g:U (AV O))(e:aS b9)(S:U (AV O))(h:aS aq):Prop:=
 ∀(A:HB)(f:Fz)(s:aR)(Q:ay->aR->Prop)(G:ay->aR->Prop),SR w B A f T n k g s.heap->
  (∀m P(p:aS (aq×fh)),p.map (·.1)=h->bU s m->Le f P->SR w B A P T n k S m.heap->Q (partValue p) m)->wpAny (model i X) F (evalPart e T) Q G s
theorem QJ:vH B i X F ρ env n k g ae g ae:=λA f s Q G S O=>by
 rw [evalPart_none];exact bP (O s f ae C (bU.refl s) (Le.refl _) S)
theorem QK(h:cy B prog X F ρ env n k g e u (.int i)):vH B prog X F ρ env n k g (J e) u (J i):=λA f s Q G S O=>by
 refine h A f s Q G S λm a v q l z d=>?_;cases d with
 |int i E=>exact O m a (J (i,E)) C q l z
theorem HZ:∀(p:aS (aq×fh)),IsPart (partValue p) (p.map (·.1))
 |ae=> .none
 |J (i,E)=> .int i E
theorem WK(x:af)(l H:aS (aq×fh)):
  (slicePicked x l H ae).filterMap (x.cps[·]?)=(x.cps.toList.drop ((l.map (·.1)).elim 0 (clipAt x.length))).take ((H.map (·.1)).elim x.length (clipAt x.length)-(l.map (·.1)).elim 0 (clipAt x.length)):=by
 have e:slicePicked x l H ae=sliceRange (sliceBounds (l.map (·.1)) (H.map (·.1)) ae x.length).1 (sliceBounds (l.map (·.1)) (H.map (·.1)) ae x.length).2.1 1:=C;rw [e,sliceBounds_plain];simp only [sliceRange_one,pick_run]
theorem Pk(u:Y)(i:aq):clipAt u i<=u:=by unfold clipAt;omega
set_option tactic.hygienic true in
theorem Ru{lo z:aS b9}(R:cy B i X e ρ env n k u bQ aU ta)(az:vH B i X e ρ env n k aU lo cU aD)(aE:vH B i X e ρ env n k cU z aH aK)(h:z3 ta aD aK=J aL):
  cy B i X e ρ env n k u (.Subscript bQ (.Slice lo z ae cv) b_) aH aL:=by
 intro A g aj bW bY aJ O;refine vA (R A g aj _ _ aJ λaW aZ b7 d c y w=>(wpAny_Slice (az A aZ aW _ _ y λE S x ah ai j au=>aE A S E _ _ au λT BJ s aB aC p b=>(bP ?_))));subst ah aB;have r:=b.ready;have P:=b5.gR r {cls:= .type "slice",data:= .fields #[partValue x,partValue s, .none]} T.toks;have r':=P.ready r;have q:=(w.mono j).mono p;have sm:=(d.trans ai).trans aC;have m:=(c.trans j).trans p;cases ta with
 |list l=>
  obtain⟨a,rfl⟩:=CS (c:=dh l.length=aa) h
  .
   cases q with
   |list aO t=>
    rename_i ao cz;have H:=t.length;have L:=fL r'.bC aO;refine tM L.typeIs MD.lookup (wpAny_getItem_list_slice L (Heap.IsSliceOf.new ..) (HZ x) (HZ s) .none (nofun) ?_ (by simp only [l_,H];exact kj a)) C;rw [slicePick_plain];have bg:aY ρ BJ (cut (x.map (·.1)) (s.map (·.1)) ao) (cut (x.map (·.1)) (s.map (·.1)) l):=by
     unfold cut;rw [H];exact(t.drop _).take _
    have:=r'.list (n:=0) (tk:=T.toks) bg λbq bz v f aV=>O bq bz v (sm.trans (P.same.trans f.same)) (m.trans f.le) ((b.step P).step f) aV;simpa [cut]using this
 |str l=>
  obtain⟨a,rfl⟩:=CS (c:=dh l.length=aa) h
  .
   obtain⟨cB,rfl⟩:=q.inv;refine tM (AU _ _ _) ZA.lookup (wpAny_getItem_str_slice (st:=ae) (i12 _ (eY _ C) C C) C ?_) C;have bD:(slicePicked ⟨l.toArray⟩ x s ae).filterMap ((⟨l.toArray⟩:af).cps[·]?)=cut (x.map (·.1)) (s.map (·.1)) l:=by
    rw [WK,str_len];exact C
   unfold sliceMade
   split
   .rename_i bK;have G:=by simpa [str_len]using bK
    have bA:slicePicked ⟨l.toArray⟩ x s ae=sliceRange (sliceBounds (x.map (·.1)) (s.map (·.1)) ae l.length).1 (sliceBounds (x.map (·.1)) (s.map (·.1)) ae l.length).2.1 1:=by
     unfold slicePicked Builtin.Str.strSliceIndices sliceBounds;exact C
    rw [bA,sliceBounds_plain]at G;simp only [sliceRange_one,cH,List.length_range]at G;have bM:∀o:aS aq,o.elim l.length (clipAt l.length)<=l.length:=λo=>by
     cases o with
     |none=>exact ek _
     |some cE=>exact Pk _ _
    have R:=bM (s.map (·.1));have:cut (x.map (·.1)) (s.map (·.1)) l=l:=by
     unfold cut;rw [G];cases l with
     |nil=>simp
     |cons Q r=>
      have:(x.map (·.1)).elim 0 (clipAt (Q::r).length)=0:=by simp only [gw]at G R⊢;omega
      rw [this];simp
    exact(this▸O) _ BJ _ (sm.trans P.same) m (b.step P) (.str _ _)
   .refine bD▸(⟨?_,O _ BJ _ ((sm.trans P.same).trans (cu _ _ C)) m (b.step (b5.trans r P (b5.tok r' _))) (.str _ _)⟩);rw [str_len];have:=kj a;unfold cut;simp only [xA,xx];exact ki 0 (.v 3) (.v 1) (.v 0) (.v 1) (.v 3) (.v 2) (.v 2) (.v 0) C [_,_,_,_] this zy I4
 |_=>exact aT C h
theorem GQ(h:cy w i X F B env n k g e u L):cy w i X F B env n k g (.BoolOp P [e] p) u L:=
 λA f s Q G S O=>PyProof.Rows.BoolOp_one (h A f s Q G S O)
theorem Q_(R:dw F n)(h:cy w i X F ρ env xs k g H u L)(A:nG L=J aA):cy w i X F ρ env xs k g (.BoolOp .And (H::cG::r) p) u L:=by
 intro e f s Q G S O;exact aaw (h e f s _ _ S λc l a o x t j=>(sS R j A c _ _ t.ready λm b P=>O m b a (o.trans P.same) (x.trans P.le) (t.step P) (j.mono P.le)))
theorem Q9(e:dw F B)(b:cy w i X F ρ env xs k g H u ta)(ht:nG ta=J aa)(h2:cy w i X F ρ env xs k u (.BoolOp .And (cG::r) p) cU L):cy w i X F ρ env xs k g (.BoolOp .And (H::cG::r) p) cU L:=by
 intro A f s Q G S O;exact aaw (b A f s _ _ S λc E z o h t j=>(sS e j ht c _ _ t.ready λm a P=>(h2 A a m Q G (t.step P) λx q v l n y d=>O x q v ((o.trans P.same).trans l) ((h.trans P.le).trans n) y d)))
theorem Rr(R:dw F n)(h:cy w i X F ρ env xs k g H u L)(A:nG L=J aa):cy w i X F ρ env xs k g (.BoolOp .Or (H::cG::r) p) u L:=by
 intro e f s Q G S O;exact aax (h e f s _ _ S λc l a o x t j=>(sS R j A c _ _ t.ready λm b P=>O m b a (o.trans P.same) (x.trans P.le) (t.step P) (j.mono P.le)))
theorem Rq(e:dw F B)(b:cy w i X F ρ env xs k g H u ta)(ht:nG ta=J aA)(h2:cy w i X F ρ env xs k u (.BoolOp .Or (cG::r) p) cU L):cy w i X F ρ env xs k g (.BoolOp .Or (H::cG::r) p) cU L:=by
 intro A f s Q G S O;exact aax (b A f s _ _ S λc E z o h t j=>(sS e j ht c _ _ t.ready λm a P=>(h2 A a m Q G (t.step P) λx q v l n y d=>O x q v ((o.trans P.same).trans l) ((h.trans P.le).trans n) y d)))
theorem Qf:fQ w i X F B env n k g (.BoolOp .And [] p) g aa:=λA f s Q G S O=>PyProof.Rows.isTrue_and_nil (O s f (bU.refl s) (Le.refl _) S)
theorem Qk:fQ w i X F B env n k g (.BoolOp .Or [] p) g aA:=λA f s Q G S O=>PyProof.Rows.isTrue_or_nil (O s f (bU.refl s) (Le.refl _) S)
theorem H8(P:BoolOp)(d:U b9)(p:Pos)(T:cW)(h e:Sem ay):isTrue (.BoolOp P d p) T h=isTrue (.BoolOp P d p) T e:=C
theorem GF{b c:bu}(a:fQ w i X F ρ env n k g x u b)(h2:if b then fQ w i X F ρ env n k u (.BoolOp .And r p) cU c else(cU=u/\c=aA)):
  fQ w i X F ρ env n k g (.BoolOp .And (x::r) p) cU c:=by
 intro A f l Q G S O;refine PyProof.Rows.isTrue_and (a A f l _ _ S λh fH o e t=>?_);cases b with
 |true=>
  simp only [if_true]at h2⊢;exact(H8 _ _ _ _ _ (eval (.BoolOp .And r p) env)).symm▸(h2 A fH h Q G t λj q v m s=>O j q (o.trans v) (e.trans m) s)
 |false=>
  simp only [Mw,if_false]at h2⊢;obtain⟨rfl,rfl⟩:=h2;exact O h fH o e t
theorem GG{b c:bu}(a:fQ w i X F ρ env n k g x u b)(h2:if b then(cU=u/\c=aa)else fQ w i X F ρ env n k u (.BoolOp .Or r p) cU c):
  fQ w i X F ρ env n k g (.BoolOp .Or (x::r) p) cU c:=by
 intro A f l Q G S O;refine PyProof.Rows.isTrue_or (a A f l _ _ S λh fH o e t=>?_);cases b with
 |false=>
  simp only [Mw,if_false]at h2⊢;exact(H8 _ _ _ _ _ (eval (.BoolOp .Or r p) env)).symm▸(h2 A fH h Q G t λj q v m s=>O j q (o.trans v) (e.trans m) s)
 |true=>
  simp only [if_true]at h2⊢;obtain⟨rfl,rfl⟩:=h2;exact O h fH o e t
end
structure e6(B:bV O)(mg mb:af->aS ay):Prop where
 g:∀{h},bN B.bI h->h.Ns mainGlobals mg
 b:∀{h},bN B.bI h->h.Ns builtinsNs mb
 nolimit:∀{h},bN B.bI h->h.NoLimit
noncomputable def A1(w:bV t)(i:ck)(X:b4)(u:Y)(z:ay)(g:U T)(r:T):Prop:=
 ∀(F:cZ)(B:Mk)(f:Fz)(y:U ay)(p:Result->aR->Prop)(s:aR),dw F u->Ready w f s->aY B f y g->
  (∀m P v,b5 w f s P m->Den B P v r->p (.ok (.ret v)) m)->codeAny (model i X) F (.call z ⟨y, []⟩) p s
section
theorem jS:∀(d:U b9),(∀e∈d,∀x p,e≠ .Starred x p)->(backTo pos (starEach d env)).any (·.1)=aA:=λf=>f.rec
 (λw=>C)
 (λe d X h=>mz (h e ee)▸X λe u=>h e (dY _ u))
theorem jm{d:U b9}(l:∀e∈d,∀x p,e≠ .Starred x p)(a:j7 w i X F ρ env n k g b d u E)(S:SR w ρ hB fz env n k g s.heap)
  (O:∀m P y,bU s m->Le fz P->SR w ρ hB P env n k u m.heap->aY ρ P y E->Q ⟨y, []⟩ m):wpAny (model i X) F (evalArgs z aa (backTo b (starEach d env)) []) Q G s:=by
 cases d with
 |nil=>
  show wpAny (model i X) F (evalArgs z aa [] []) Q G s;unfold evalArgs;show wpAny _ F (spliced []>>=_) Q G s;exact aF (j3 (a hB fz s (λy m=>Q ⟨y, []⟩ m) G S O) (λy m L=>(gf (aF (bP (aF (bP (bP L))))))) λj j x=>x)
 |cons e d=>
  have h:=a hB fz s (λy m=>Q ⟨y, []⟩ m) G S O;rw [(mz (l e ee))]at h⊢;exact tN h
theorem pN(G:e6 B l r)(eo:gp env)(t:bN B.bI s.heap)(j:env.kindOf x=J .globalImplicit)(m:l x=J v)(q:(x==("__debug__"))=aA)(h:Q v s):
  wpAny (model i X) F (eval (.Name x p) env) Q e s:=aaf eo.kind j (loadGlobal_global (eo.globals▸G.g t) m h) q
theorem mV(G:e6 B l r)(eo:gp env)(t:bN B.bI s.heap)(j:env.kindOf x=J .globalImplicit)(L:l x=ae)(m:r x=J v)(q:(x==("__debug__"))=aA)(h:Q v s):
  wpAny (model i X) F (eval (.Name x p) env) Q e s:=aaf eo.kind j (loadGlobal_builtin (eo.globals▸G.g t) L (eo.builtins▸G.b t) m h) q
theorem cy.uQ{s c:aR}(o:bU s c)(h:Le f fH)(t:SR w ρ hB fH env n k g c.heap)(p:PO w (model i X) F ρ E fH L)
  (O:∀m P v,bU s m->Le f P->SR w ρ hB P env n k g m.heap->Den ρ P v L->Q v m):wpAny (model i X) F E Q G c:=
 cy.to p t λm a v q l z d=>O m a v (o.trans q) (h.trans l) z d
theorem GR(G:e6 w l r){id:String}(j:env.kindOf x=J .globalImplicit)(L:l x=ae)(m:r x=J (.builtin id))(q:(x==("__debug__"))=aA)
  (P:∀e∈d,∀x p,e≠ .Starred x p)(h:j7 w i X F B env n k g b d u E)(H:∀f y,aY B f y E->PO w (model i X) F B (call (.builtin id) y) f a):
  cy w i X F B env n k g (.Call (.Name x p) d [] b) u a:=by
 intro T f c Q A S O;exact kG (mV G S.1 S.ready.base j L m q (nS (jS d P) (jm P h S λR s y o t v z=>(cy.uQ o t v (H s y z) O))))
theorem Rc(G:e6 B k aj)(b:dw F u)(j:env.kindOf x=J .globalImplicit)(m:k x=J (.ref a))(ah:(x==("__debug__"))=aA)
  (Q:∀{h},bN B.bI h->h.get? a=J o)(hf:o.data= .func ai)(s:∀l∈d,∀x p,l≠ .Starred x p)(h:j7 B i X F ρ env xs n g q d f E)(y:A1 B i X u (.ref a) E L):
  cy B i X F ρ env xs n g (.Call (.Name x p) d [] q) f L:=by
 intro aB aC ao au az S O;exact kG (pN G S.1 S.ready.base j m ah (AR (jm s h S λc w r v H t A=>⟨⟨Q t.ready.base,hf⟩,(jH (y F ρ w r _ c b t.ready A λz R T P e=>O z R T (v.trans P.same) (H.trans P.le) (t.step P) e))⟩)))
theorem wD(i:(backTo b (starEach d env)).any (·.1)=aA)(G:d.length<30):methodCallForm (d.length+([]:U Keyword).length) (backTo b (starEach d env)) (backToKw b (keywordEach [] env))=aa:=
 ew.mpr ⟨ew.mpr ⟨(by rw [List.all_eq_not_any_not];simpa using i),C⟩,decide_eq_true G⟩
theorem IV{e:b9}{m:Pos}(w:(m.endLine==b.line)=aa):methodCallPos aa e env m b=pure b:=by unfold methodCallPos;simp [w]
theorem BB{T id:String}(H:attributeBase o O h (eval o h)=eval o h)(P:∀aD∈d,∀A L,aD≠ .Starred A L)
  (R:d.length<30)(aB:(aC.endLine==b.line)=aa)(aK:PlainAttrs T)(r:Slot T O id)(p:typeOf (.builtin id)=pure (.type "method_descriptor"))
  (Q:cy w i X F B h a k aH o aJ n)(g:j7 w i X F B h a k aJ b d u E)
  (q:∀f v(s:aR),Ready w f s->Den B f v n->s.TypeIs v T/\(∀x,v= .ref x->∃S,s.heap.get? x=J S/\S.dict=ae))
  (G:∀f v y,Den B f v n->aY B f y E->PO w (model i X) F B (call (.builtin id) (v::y)) f ah):
  cy w i X F B h a k aH (.Call (.Attribute o O aC) d [] b) u ah:=by
 intro ai f s aV aU au az;have l:=jS (pos:=b) (env:=h) d P;exact qq H (wD l R) aB aK r p (Q ai f s _ _ au λc j v aj ao t e=>((cR ((q j v c t.ready e).1) ((q j v c t.ready e).2) (nS l (jm P g t λaW aE y aL m aO z=>cy.uQ (aj.trans aL) (ao.trans m) aO (G aE v y (e.mono m) z) az)))))
end
section
set_option tactic.hygienic true
section
variable{B:bV O}{k:Y}{lv:U (AV O)}{hB:HB}
theorem gc(eo:gp env)(a:hB.lk= [])(S:aN B b hB f env n k lv H R s.heap)(j:n[i]?=J x)(l:i<k)
  (g:env.kindOf x=J .local\/env.kindOf x=J .cell)(e:Holds B b f s.heap av (J t) fp)(u:nZ B hB f env n R i fp)
  (O:∀m o,bU s m->aN B b hB f env n k (lv.set i av) o (bT R i fp) m.heap->Q () m):wpAny (model w X) p (storeName env x t) Q G s:=by
 rcases g with h|h
 .exact NG h S.ns (λL v P=>O _ _ (cu _ _ C) (S.C0 a j h v P e u)) (eo.kind.symm▸C)
 .have z:i<lv.length:=by rw [S.len];exact(cw.mp j).1
  obtain⟨d,r,_⟩:=S.vars i x _ j (cP z);rcases r with⟨q,_⟩|⟨_,c,y,F⟩
  .rw [h]at q;exact nc mj (bf q) C
  .exact wpAny_storeName_cell eo.kind h y F λL v P=>O _ _ (cu _ s.toks C) (S.VD a j l h y v P e u)
noncomputable def nq(B:bV O)(i:ck)(X:b4)(F:cZ)(h:Mk)(e:cW)(n:U af)(k:Y)(lv:U (AV O))(H:b9)(L:T)(S:U (AV O)):Prop:=
 ∀(hB:HB)(f:Fz)(s:aR)(v:ay)(Q:Unit->aR->Prop)(G:ay->aR->Prop),hB.lk= []->SR B h hB f e n k lv s.heap->Den h f v L->
  (∀m,bU s m->SR B h hB f e n k S m.heap->Q () m)->wpAny (model i X) F (assign H e v) Q G s
theorem Qc(j:n[i]?=J x)(l:i<k)(g:env.kindOf x=J .local\/env.kindOf x=J .cell):nq B h X F e env n k lv (.Name x p) L (lv.set i (.t L)):=by
 rintro hB f t v Q G a⟨E,H,s,S⟩d O;exact qs (gc (av:= .t L) E a S j l g ⟨C,v,C,d⟩ .nil λm b q z=>O m q ⟨E,b,_,z⟩)
theorem Qd{x O:af}{H y:T}(u:F.handled=ae)(j:n[i]?=J x)(t:i<k)(p:h.kindOf x=J .local\/h.kindOf x=J .cell)(A:n[m]?=J O)(o:m<k)(q:h.kindOf O=J .local\/h.kindOf O=J .cell):
  nq B bg bq F aH h n k lv (.Tuple [.Name x l, .Name O w] aJ aK) (.tup [H,y]) ((lv.set i (.t H)).set m (.t y)):=by
 rintro hB f s aW Q G a S d g;obtain⟨bz,aE,aZ,X,z,rfl⟩:=d.inv;cases z with
 |cons L z=>cases z with
  |cons ah z=>cases z with
   |nil=>
    rename_i e R;have r:=S.ready;refine E7 u (uz r.bC X) C C λai aj=>?_;have P:b5 B f s f {s with heap:=ai}:=b5.keeps r λc au b=>aj c au (fW (eM b)) b;obtain⟨E,aL,aO,S⟩:=S.step P;show wpAny _ F (do holding [R] (assign (.Name x l) h e);assignInOrder [assign (.Name O w) h] [R]) Q G _;refine aF (gf (qs (gc (av:= .t H) E a S j t p ⟨C,e,C,L⟩ .nil λaU aV az ao=>?_)));show wpAny _ F (do holding [] (assign (.Name O w) h R);assignInOrder [] []) Q G _;exact aF (gf (qs (gc (av:= .t y) E a ao A o q ⟨C,R,C,ah⟩ .nil λaC aB aD v=>(bP (g aC ((P.same.trans az).trans aD) ⟨E,aB,_,v⟩)))))
noncomputable def HB.add(hB:HB)(a:U ak)(h:b8):HB:=⟨λb=>if b∈a then h.get? b else hB.b b,a++hB.it,hB.f0,hB.lk⟩
structure eT(B:bV O)(hB:HB)(fz:Fz)(env:cW)(xs:U af)(dz:Y->U ak)(b:ak):Prop where
 hb:hB.b b=ae
 fz:fz b=ae
 loc:b≠env.locals
 cell:∀(j:Y)(x:af),xs[j]?=J x->env.kindOf x≠J .local->env.cells.lookup x≠J b
 fp:∀j,j<xs.length->b∉dz j
 tab:b∉B.tabs
 h0:B.bI.get? b=ae
theorem aN.b0(S:aN B ρ hB f env n k lv H R h)(e:hB.b b=ae):B.bI.get? b=ae:=jR λo q=>aT e (S.fB b o q)
theorem aN.free(S:aN B i hB f env n k lv H R h)(t:h.get? b=ae):eT B hB f env n R b:=
 yt (S.fresh t) λa A c d e z=>⟨a,A,c,d,e,z,S.b0 a⟩
theorem aN.um(S:aN B e hB f env n k lv H R h)(z:i<n.length):∀b∈R i,f b=ae/\B.bI.get? b=ae/\b∉B.tabs:=
 λb t=>(cR ((S.fp i z b t).2.1) (S.b0 (S.fp i z b t).1) (λq=>(S.tab b q).2.2.2.2 i z t))
theorem kh{B:Type}{l:U B}{x:B}(h:l[i]?=J x):i<l.length:=(cw.mp h).1
theorem qA(t:b∈a):(hB.add a h).b b=h.get? b:=bB ‹_›
theorem kL(t:b∉a):(hB.add a h).b b=hB.b b:=bF ‹_›
theorem aN.enter(S:aN B m hB f env n k lv g R s)(p:∀b∈a,eT B hB f env n R b)(H:∀b∈a,(s.get? b).isSome=aa):
  aN B m (hB.add a s) f env n k lv g R s:=by
 refine{S with kept:=λb o e=>?_,nL:=⟨?_,S.nL.2⟩,fB:=λb o e=>(kL ((λe q=>aT ((p _ q).h0) e) e)).trans (S.fB b o e),own:=λi x c z j h y=>?_,iN:=λi x c z j y h=>?_,fp:=λi z b t=>?_,tab:=λX v=>?_,dc:=λb t=>?_,new:=λb o e=>by rw [kL λq=>aT ((p b q).fz) e];exact S.new b o e}
 .by_cases t:b∈a
  .exact(qA t).symm.trans e
  .rw [kL t]at e;exact S.kept b o e
 .exact(kL λq=>(p _ q).loc C).trans S.nL.1
 .exact(kL λq=>(p c q).cell i x j h y).trans (S.own i x c z j h y)
 .exact(kL λq=>(p c q).cell i x j h y).symm▸(S.iN i x c z j y h)
 .exact(kL λq=>(p b q).fp i z t).symm▸(S.fp i z b t)
 .exact(kL λq=>(p X q).tab v).symm▸(S.tab X v)
 .by_cases q:b∈a
  .exact(qA q).symm▸((jt (H b q) ((p b q).fz) ((p b q).cell) ((p b q).h0)))
  .rw [kL q];rcases fb.mp t with l|l
   .exact cg l q
   .exact S.dc b l
theorem aN.turn(S:aN B L (hB.add a wm) f env n k lv d R p)(g:∀b,b∉a->∀o,p.get? b=J o->h'.get? b=J o)(H:∀b∈a,(h'.get? b).isSome=aa):
  aN B L (hB.add a h') f env n k lv d R h':=by
 have z:∀b∈a,b∈(hB.add a wm).it:=λb t=>gx _ t;have v:∀{b},(hB.add a wm).b b=ae->b∉a:=λe q=>by have:=(S.dc _ (z _ q)).1;rw [e]at this;exact dg C this
 have w:∀{b o},f b=J o->b∉a:=λe q=>aT ((S.dc _ (z _ q)).2.1) e;have m:∀{b o},B.bI.get? b=J o->b∉a:=λe q=>aT ((S.dc _ (z _ q)).2.2.2) e;have nc:∀{c i x},n[i]?=J x->env.kindOf x≠J .local->env.cells.lookup x=J c->c∉a:=λj s y q=>(S.dc _ (z _ q)).2.2.1 _ _ j s y;have h:∀{b},b∉a->(hB.add a h').b b=(hB.add a wm).b b:=λq=>by rw [kL q,kL q]
 have G:bN B.bI h':=λb o e=>g b (m e) o (S.base b o e);refine{S with base:=G,kept:=λb o e=>?_,bC:=λb o e=>g b (w e) o (S.bC b o e),ns:=?_,nL:=⟨?_,S.nL.2⟩,fB:=λb o e=>(h (m e)).trans (S.fB b o e),vars:=λi x F j r=>?_,own:=λi x c z j s y=>?_,iN:=λi x c z j y s=>?_,fp:=λi z b t=>?_,inv:=B.e8 S.inv λX l o e=>g X (v (S.tab X l).1) o e,lock:=λE A x j=>(S.lock E A x j).keep λc Q y o e=>g c (nc j Q y) o e,tab:=λX l=>?_,dc:=λb t=>?_,new:=λb o e=>(h (w e)).symm▸(S.new b o e)}
 .by_cases t:b∈a
  .exact(qA t).symm.trans e
  .exact g b t o (S.kept b o ((h t)▸e))
 .exact i8 S.ns λo T O P ah=>(kP o T O (g _ (v S.nL.1) o P) ah)
 .exact(h (v S.nL.1)).trans S.nL.1
 .obtain⟨ai,aj,u⟩:=S.vars i x F j r;exact⟨ai,aj.keep λc Q y o e=>g c (nc j Q y) o e,u.mono (Le.refl _) G λb t o e=>g b (v (S.fp i (cw.mp j).1 b t).1) o e⟩
 .exact(h (nc j s y)).trans (S.own i x c z j s y)
 .exact(h (nc j s y)).symm▸(S.iN i x c z j y s)
 .have:=S.fp i z b t;exact(h (v this.1)).symm▸this
 .have:=S.tab X l;exact(h (v this.1)).symm▸this
 .have:=S.dc b t;refine⟨?_,this.2⟩
  by_cases q:b∈a
  .exact(aQ _ (qA q)).trans (H b q)
  .exact(aQ _ (h q)).trans this.1
theorem aN.leave{O:b8}{a:U ak}(S:aN B d (hB.add a O) f env n k lv ah R u)(g:∀b,b∉a->∀o,u.get? b=J o->L.get? b=J o)(H:∀b∈a,hB.b b=ae)(T:∀b∈hB.it,(hB.b b).isSome=aa):
  aN B d hB f env n k lv ah R L:=by
 have z:∀b∈a,b∈(hB.add a O).it:=λb t=>gx _ t;have v:∀{b},(hB.add a O).b b=ae->b∉a:=λe q=>by have:=(S.dc _ (z _ q)).1;rw [e]at this;exact nomatch this
 have w:∀{b o},f b=J o->b∉a:=λe q=>aT ((S.dc _ (z _ q)).2.1) e;have m:∀{b o},B.bI.get? b=J o->b∉a:=λe q=>aT ((S.dc _ (z _ q)).2.2.2) e;have nc:∀{c i x},n[i]?=J x->env.kindOf x≠J .local->env.cells.lookup x=J c->c∉a:=λj s y q=>(S.dc _ (z _ q)).2.2.1 _ _ j s y;have h:∀{b},b∉a->(hB.add a O).b b=hB.b b:=(kL);have G:bN B.bI L:=λb o e=>g b (m e) o (S.base b o e);refine{S with base:=G,kept:=λb o e=>?_,bC:=λb o e=>g b (w e) o (S.bC b o e),ns:=?_,nL:=⟨?_,S.nL.2⟩,fB:=λb o e=>(h (m e)).symm.trans (S.fB b o e),vars:=λi x F j r=>?_,own:=λi x c z j s y=>?_,iN:=λi x c z j y s=>?_,fp:=λi z b t=>?_,inv:=B.e8 S.inv λX l o e=>g X (v (S.tab X l).1) o e,lock:=λE A x j=>(S.lock E A x j).keep λc Q y o e=>g c (nc j Q y) o e,tab:=λX l=>?_,dc:=λb t=>?_,new:=λb o e=>(h (w e))▸(S.new b o e)}
 .have P:b∉a:=λq=>aT (H b q) e;exact g b P o (S.kept b o ((h P).trans e))
 .exact i8 S.ns λo ai aj ao au=>(kP o ai aj (g _ (v S.nL.1) o ao) au)
 .exact(h (v S.nL.1)).symm.trans S.nL.1
 .obtain⟨az,aB,p⟩:=S.vars i x F j r;exact⟨az,aB.keep λc Q y o e=>g c (nc j Q y) o e,p.mono (Le.refl _) G λb t o e=>g b (v (S.fp i (cw.mp j).1 b t).1) o e⟩
 .exact(h (nc j s y)).symm.trans (S.own i x c z j s y)
 .exact(h (nc j s y))▸(S.iN i x c z j y s)
 .have:=S.fp i z b t;exact(h (v this.1))▸this
 .have:=S.tab X l;exact(h (v this.1))▸this
 .exact⟨T b t,(S.dc b (i0 _ t)).2⟩
theorem aN.Ib(S:aN B ρ hB f env n k lv H R h):∀b∈hB.it,(hB.b b).isSome=aa:=λb t=>(S.dc b t).1
theorem aN.alive(S:aN B e (hB.add a wm) f env n k lv H R h):∀b∈a,(h.get? b).isSome=aa:=λb t=>bZ (gn.mp (S.dc b (gx _ t)).1) λo Q=>cS (S.kept b o Q)
end
end
inductive eS where
 |next|brk|cont|ret(t:T)
noncomputable def FD(B:Mk)(f:Fz):Flow->eS->Prop
 | .next, .next=>True
 | .brk, .brk=>True
 | .cont, .cont=>True
 | .ret v, .ret E=>Den B f v E
 |_,_=>False
theorem FD.bk(d:FD B f z .brk):z= .brk:=by cases z<;>first|rfl|exact d.elim
theorem FD.cn(d:FD B f z .cont):z= .cont:=by cases z<;>first|rfl|exact d.elim
theorem FD.rt(d:FD B f z (.ret E)):∃v,z= .ret v/\Den B f v E:=by cases z<;>first|exact⟨_,C,d⟩|exact d.elim
theorem FD.nx(d:FD B f z .next):z= .next:=by cases z<;>first|rfl|exact d.elim
theorem FD.ne(d:FD B f z j)(h:j≠ .next):z≠ .next:=λq=>by subst q;cases j<;>first|exact h C|exact d.elim
theorem FD.map{f P:Fz}{z:Flow}{j:eS}(d:FD B f z j)(h:∀{v E},Den B f v E->Den e P v E):FD e P z j:=by cases z<;>cases j<;>first|exact d|exact h d
noncomputable def gF(w:bV t)(i:ck)(X:b4)(F:cZ)(B:Mk)(T:cW)(n:U af)(k:Y)(g:U (AV t))(x:cf)(S:U (AV t))(j:eS):Prop:=
 ∀(A:HB)(f:Fz)(s:aR)(Q:Flow->aR->Prop)(G:ay->aR->Prop),A.lk= []->SR w B A f T n k g s.heap->
  (∀m P z,bU s m->Le f P->SR w B A P T n k S m.heap->FD B P z j->Q z m)->wpAny (model i X) F (exec x T) Q G s
noncomputable def ez(w:bV t)(i:ck)(X:b4)(F:cZ)(B:Mk)(T:cW)(n:U af)(k:Y)(g:U (AV t))(x:U cf)(S:U (AV t))(j:eS):Prop:=
 ∀(A:HB)(f:Fz)(s:aR)(Q:Flow->aR->Prop)(G:ay->aR->Prop),A.lk= []->SR w B A f T n k g s.heap->
  (∀m P z,bU s m->Le f P->SR w B A P T n k S m.heap->FD B P z j->Q z m)->wpAny (model i X) F (execs x T) Q G s
noncomputable def pq(d:bu)(w:bV t)(e:ck)(X:b4)(F:cZ)(B:Mk)(h:cW)(n:U af)(k:Y)(g:U (AV t))(q:b9)(S:U (AV t))(j:U T):Prop:=
 ∀(A:HB)(f:Fz)(s:aR)(Q:ay->aR->Prop)(G:ay->aR->Prop),SR w B A f h n k g s.heap->
  (∀m P x O a l u H R,bU s m->Le f P->gp h->aN w B A P h n k S H R m.heap->Walks e X F x O a j.length l u->(∀i v,l i v->∃E,j[i]?=J E/\Den B P v E)->
   u 0 m.heap->(∀b∈a,eT w A P h n R b/\(m.heap.get? b).isSome=aa)->(∀b∈O,b∈a\/(P b).isSome=aa\/(w.bI.get? b).isSome=aa)->(∀b∈O,b<m.heap.objs.size)->(∀i o,u i o->∀b∈a,(o.get? b).isSome=aa)->
   (d=aa->∀i(s:aR)(r:U b9)(p:Y)(y:Pos)(v:ay)(Q:Unit->aR->Prop)(G:ay->aR->Prop),u i s.heap->Q () s->wpAny (model e X) F (letOwnedTupleGo (.Tuple r p y) (.ref x) v) Q G s)->Q (.ref x) m)->
  wpAny (model e X) F (eval q h) (λz c=>wpAny (model e X) F (pyIter z) Q G c) G s
section
variable{B:bV O}{prog:ck}{w:b4}{A:cZ}{ρ:Mk}{ts:U T}
theorem ik:ez B prog w A ρ env n k g [] g .next:=λh f s Q G a S O=>rC (O s f .next (bU.refl s) (Le.refl _) S trivial)
theorem Rv(R:gF B prog w A ρ env n k g x u .next)(h2:ez B prog w A ρ env n k u y e j):ez B prog w A ρ env n k g (x::y) e j:=by
 intro h f s Q G a S O;refine gN (R h f s _ _ a S λc i z o X t d=>?_);cases d.nx;exact h2 h i c Q G a t λb q z r l F d=>O b q z (o.trans r) (X.trans l) F d
theorem rX(R:gF B prog w A ρ env a k g x u j)(n:j≠ .next):ez B prog w A ρ env a k g (x::y) u j:=by
 intro e f s Q G b S O;refine gN (R e f s _ _ b S λc i z o X t d=>?_);have h:=O c i z o X t d;cases z<;>first|exact cg C (d.ne n)|exact h
theorem ir(s:aR):s.heap.get? s.heap.objs.size=ae:=jR λw q=>cg (eM q) (nj _)
theorem Qo(u:A.handled=ae)(i:cy B prog w A ρ d ah o g e au (.list ts)):pq aa B prog w A ρ d ah o g e au ts:=by
 intro aB H s Q ao S O;refine i aB H s _ _ S λc G v ai X t aj=>gZ aj.inv λa h aJ p z f=>?_;subst f;have r:=t.ready;have L:=fL r.bC p;refine NF L ?_;have P:=b5.gR r {cls:= .type "list_iterator",data:= .fields #[.ref a, .int 0 0]} c.toks;obtain⟨E,F,R,y⟩:=t;have l:=eM (r.bC _ _ p);have j:=Walks.list (prog:=prog) (w:=w) u c.heap.objs.size a (fW l) h.toArray;rw [show h.toArray.size=ts.length from z.length]at j;have q:(c.heap.push {cls:= .type "list_iterator",data:= .fields #[.ref a, .int 0 0]}).objs.size=c.heap.objs.size+1:=jX _ _;refine O _ G _ _ _ _ _ F R (ai.trans P.same) X E (y.step P) j (λb v m=>?_) ⟨⟨_,eY _ C,C,C⟩,L.at λaH e=>eF _ e⟩ (bl ⟨y.free (ir c),cS (eY _ C)⟩ dR) (bl (.inl (.head _)) (bl (.inr (.inl (cS p))) dR)) (bl (q.symm▸cY _) (bl (q.symm▸ql l) dR)) (λb i x=>bl (match x with|⟨⟨_,aC,_⟩,_⟩=>cS aC) dR) ?_
 .have m:=by simpa using m
  have n:=z.length▸(cw.mp m).1;exact aG (z.get (cP n)) λaE az aD=>bf (az.symm.trans m)▸⟨_,cP n,aD⟩
 .intro _ b s aK aL aO v Q ao x k;cases v with
  |ref T=>exact aaX x.1 k
  |_=>exact bP k
theorem By{I:ak}{s c:aR}{Q:ay->aR->Prop}{u:Y->b8->Prop}{x:fh}
  (S:bU s c)(j:Le f e)(t:SR B ρ k e env n d p c.heap)(ah:o.isFreed=aA)
  (g:Walks prog w A c.heap.objs.size [c.heap.objs.size] [c.heap.objs.size] ts.length X u)(r:∀i v,X i v->∃E,ts[i]?=J E/\Den ρ e v E)(aj:u 0 (c.heap.push o))(q:∀i h,u i h->(h.get? c.heap.objs.size).isSome=aa)
  (m:∀s' P I O a X u H R,bU s s'->Le f P->gp env->aN B ρ k P env n d p H R s'.heap->Walks prog w A I O a ts.length X u->(∀i v,X i v->∃E,ts[i]?=J E/\Den ρ P v E)->
   u 0 s'.heap->(∀b∈a,eT B k P env n R b/\(s'.heap.get? b).isSome=aa)->(∀b∈O,b∈a\/(P b).isSome=aa\/(B.bI.get? b).isSome=aa)->(∀b∈O,b<s'.heap.objs.size)->(∀i h,u i h->∀b∈a,(h.get? b).isSome=aa)->
   (aA=aa->∀i(s:aR)(L:U b9)(T:Y)(F:Pos)(v:ay)(Q:Unit->aR->Prop)(G:ay->aR->Prop),u i s.heap->Q () s->wpAny (model prog w) A (letOwnedTupleGo (.Tuple L T F) (.ref I) v) Q G s)->Q (.ref I) s'):
  Q (.ref c.heap.objs.size) {c with heap:=c.heap.push o,toks:=x}:=by
 have l:=b5.gR (t.ready) o x;obtain⟨ai,H,R,y⟩:=t;exact m _ e _ _ _ _ _ H R (S.trans l.same) j ai (y.step l) g r aj (bl ⟨y.free (ir c),cS (eY _ ah)⟩ dR) (λb ao=> .inl ao) (bl ((jX c.heap o).symm▸cY _) dR) (λi h z=>bl (q i h z) dR) nofun
set_option tactic.hygienic true in
theorem Qq(u:A.handled=ae)(h:cy B prog w A ρ q f S F k n (.str l)):pq aA B prog w A ρ q f S F k n (l.map λc=> .str [c]):=by
 intro m g p ai ah G O;refine h m g p _ _ G λa P v o X t d=>?_;obtain⟨E,rfl⟩:=d.inv;have e:∀i v,SignAt ⟨l.toArray⟩ i v->∃E,(l.map λc=>T.str [c])[i]?=J E/\Den ρ P v E:=λi v z=>by
  refine dK z λc H y L=>?_;subst L;have y:=by simpa using y
  exact aM _ (by simp [y]) (.str [c] H)
 have b:(⟨l.toArray⟩:af).cps.size=(l.map λc=>T.str [c]).length:=by simp
 cases r:(⟨l.toArray⟩:af).cps.all _
 .refine wpAny_pyIter_wide r ?_;have j:=Walks.strWide (prog:=prog) (w:=w) u a.heap.objs.size ⟨l.toArray⟩ E;rw [b]at j;exact By (I:=0) o X t C j e (i12 _ (eY _ C) C C) (λi h x=>aG x λR Q s=>cS Q) O
 .refine wpAny_pyIter_ascii r ?_;have j:=Walks.strAscii (prog:=prog) (w:=w) u a.heap.objs.size ⟨l.toArray⟩ E;rw [b]at j;exact By (I:=0) o X t C j e (i12 _ (eY _ C) C C) (λi h x=>aG x λR Q s=>cS Q) O
inductive Out:eS->eS->Prop
 |brk:Out .brk .next
 |ret{r:T}:Out (.ret r) (.ret r)
theorem Out.fin{G X:Flow->Prop}(o:Out j x)(d:FD ρ f z j)(R:X .next->G .brk)(E:∀v,X (.ret v)->G (.ret v))(h:∀a,FD ρ f a x->X a):G z:=by
 cases o with
 |brk=>exact d.bk▸R (h _ trivial)
 |ret=>refine aG d.rt λv A d=>?_;subst A;exact E v (h _ d)
theorem FD.go{G:Flow->Prop}(d:FD ρ f z j)(o:j= .next\/j= .cont)(R:G .next)(E:G .cont):G z:=by
 rcases o with rfl|rfl
 .exact d.nx▸R
 .exact d.cn▸E
inductive Ba(B:bV O)(prog:ck)(w:b4)(A:cZ)(ρ:Mk)(env:cW)(xs:U af)(k:Y)(iI:b9)(body:U cf)(t:T)(lv lv':U (AV O))(yC:eS)(X:U (AV O)->Prop):Prop
 |go{aP cU:U (AV O)}{fl:eS}(ha:nq B prog w A ρ env xs k lv iI t aP)(hb:ez B prog w A ρ env xs k aP body cU fl)(hf:fl= .next\/fl= .cont)(h:X cU)
 |out{aP:U (AV O)}{fl:eS}(ha:nq B prog w A ρ env xs k lv iI t aP)(hb:ez B prog w A ρ env xs k aP body lv' fl)(o:Out fl yC)
noncomputable def nr(B:bV O)(prog:ck)(w:b4)(A:cZ)(ρ:Mk)(h:cW)(n:U af)(k:Y)(H:b9)(m:U cf):U T->U (AV O)->U (AV O)->eS->Prop
 | [],g,S,j=>g=S/\j= .next
 |E::ts,g,S,j=>Ba B prog w A ρ h n k H m E g S j λl=>nr B prog w A ρ h n k H m ts l S j
theorem nr.nil:nr B prog w A ρ env n k H m [] g g .next:=⟨C,C⟩
theorem nr.go(r:nq B prog w A ρ env n k g H E aP)(t:ez B prog w A ρ env n k aP m h j)(e:j= .next\/j= .cont)(a:nr B prog w A ρ env n k H m ts h v x):nr B prog w A ρ env n k H m (E::ts) g v x:=Ba.go r t e a
theorem nr.ret(h:nq B prog w A ρ env n k g H E u)(t:ez B prog w A ρ env n k u m e (.ret r)):nr B prog w A ρ env n k H m (E::ts) g e (.ret r):=Ba.out h t .ret
inductive NR(B:bV O)(prog:ck)(w:b4)(A:cZ)(ρ:Mk)(env:cW)(xs:U af)(k:Y)(iI:b9)(body:U cf)(hB:HB)(wr:U ak)(St:Y->b8->Prop)(ts:U T)(cU:U (AV O))(fl:eS)(s₁:aR)(fH:Fz)(n:Y)(m6:aR):Prop
 |mk(i:Y)(lv':U (AV O))(qP:Fz)(m₂:af->aS ay)(BH:Y->U ak)(hn:n+i=ts.length+1)(C1:bU s₁ m6)(l₂:Le fH qP)(vM:aN B ρ (hB.add wr m6.heap) qP env xs k lv' m₂ BH m6.heap)(W_:St i m6.heap)(hi:i<=ts.length)
  (F:nr B prog w A ρ env xs k iI body (ts.drop i) lv' cU fl)
theorem Q2(eg:pq dS B prog w A ρ env xs k eX aH bK ts)(c_:nr B prog w A ρ env xs k H body ts bK aK bz)(dm:∀a,foldedSetIterable aH env a=pure a)
  (dX:(∃a p,H= .Name a p)\/dS=aa/\∃ah aj p,H= .Tuple ah aj p):gF B prog w A ρ env xs k eX (.For H aH body [] p) aK bz:=by
 intro n d8 eL jj k7 aW fU bM;refine wpAny_For (eg n d8 eL _ _ fU λb_ ai dB k6 m kA aL eu eE aZ bq aC bD E fa gv T gK jW cE c9=>?_) dm;have bQ:=λb t=>(T b t).1.hb;have b7:=bD.Ib;refine codeAny_forLoop_any (NR B prog w A ρ env xs k H body n m aL ts aK bz b_ ai) ?_ _ ⟨0,bK,ai,eu,eE,C,bU.refl _,Le.refl _,bD.enter (λb t=>(T b t).1) (λb t=>(T b t).2),gv,mh _,c_⟩;rintro dO x⟨q,d6,aB,aE,aO,aU,aV,l,c,bg,fy,F⟩;have k8:=c.alive
 by_cases g:q<ts.length
 .refine E.item q x _ _ g bg λv L R iK ao au=>aG (fa q v iK) λcK cO cV=>?_;have F:=by
   rw [AA g,bf ((cP g).symm.trans cO)]at F;exact F
  have az:=c.turn (λb t o e=>au b o t e) (cE _ _ ao);have aJ:∀(u:Flow->aR->Prop)(E':ay->aR->Prop)(aD:U _)(X:eS)(d:U _),nq B prog w A ρ env xs k d6 H cK d->ez B prog w A ρ env xs k d body aD X->
    (∀m7 O Q S z,bU b_ m7->Le ai O->aN B ρ (n.add m m7.heap) O env xs k aD Q S m7.heap->aL (q+1) m7.heap->FD ρ O z X->u z m7)->
    wpAny (model prog w) A (letOwnedTupleGo H (.ref dB) v) (λh eK=>wpAny (model prog w) A (assign H env v) (λh x=>wpAny (model prog w) A (execs body env) u E' x) E' eK) E' {x with heap:=L,toks:=R}:=by
   intro u E' aD X d r t cB;have bA:wpAny (model prog w) A (assign H env v) (λh x=>wpAny (model prog w) A (execs body env) u E' x) E' {x with heap:=L,toks:=R}:=by
    refine r (n.add m L) aB _ v _ _ aW ⟨aC,aE,aO,az⟩ (cV.mono l) λff fx dJ=>t (n.add m L) aB ff _ _ aW dJ λm7 O z j P G s=>?_;obtain⟨_,Q,S,G⟩:=G;refine cB m7 O Q S z (((aV.trans (cu _ _ C)).trans fx).trans j) (l.trans P) (G.turn (λh h h e=>e) G.alive) (E.frame _ L _ ao λb t o bW=>?_) s;have bY:∀{i},L.get? b=J i->m7.heap.get? b=J i->m7.heap.get? b=J o:=λe gC=>gC.trans (e.symm.trans bW);rcases gK b t with f|f|f
    .exact G.kept b o ((qA f).trans bW)
    .exact bZ (gn.mp f) λi y=>bY (az.bC b i (l b i y)) (G.bC b i (P _ _ (l _ _ y)))
    .exact bZ (gn.mp f) λi y=>bY (az.base b i y) (G.base b i y)
   rcases dX with⟨a,p,rfl⟩|⟨rfl,ah,aj,p,rfl⟩
   .exact bP bA
   .exact c9 C _ _ ah aj p v _ _ ao bA
  cases F with
  |go r t gV gJ=>
   refine aJ _ _ _ _ _ r t λm7 O Q S z j P G cv s=>?_;apply s.go gV<;>exact⟨dO-1,(uK aU g).1,q+1,_,O,Q,S,(uK aU g).2,j,P,G,cv,g,gJ⟩
  |out r t o=>
   refine aJ _ _ _ _ _ r t λm7 O Q S z j P G cv s=>?_;apply o.fin s ?_ ?_ (λiz=>bM m7 O iz (aZ.trans j) (bq.trans P) ⟨aC,Q,S,G.leave (λh h h e=>e) bQ b7⟩)
   .exact id
   .exactλh=>id
 .have:=fV fy (nR g);subst this;refine E.done x _ _ bg λL R au=>bR ((ZS▸F)) λiX cz=>?_;subst iX cz;exact rC (bM _ aB .next ((aZ.trans aV).trans (cu _ _ C)) (bq.trans l) ⟨aC,aE,aO,c.leave (λb t o e=>au b o t e) bQ b7⟩ trivial)
end
structure n6(scope:j5)(xs:U af):Prop where
 kind:scope.kind= .function
 co:scope.isCoroutine=aA
 gen:scope.isGenerator=aA
 names:∀x∈xs,scope.names.lookup x=J .local\/scope.names.lookup x=J .cell
 nodup:xs.Nodup
section
theorem t8(l:U (af×dU)):∀(u:Y)(o:U (af×ak)),l.lookup x=J .cell\/(o.lookup x).isSome=aa->((cellsFrom u l o).lookup x).isSome=aa:=by
 induction l with
 |nil=>exactλu o h=>h.elim ((aT C)) id
 |cons p l X=>
  obtain⟨O,c⟩:=p;intro u o h;rw [rh]at h;unfold cellsFrom;cases e:x==O with
  |true=>
   rw [e]at h
   split
   .exact X _ _ (.inr (by rw [rh,e];rfl))
   .rename_i y;refine X _ _ (.inr ?_);rcases h with h|h
    .obtain rfl:=bf h;exact cg C y
    .exact h
  |false=>
   rw [e]at h
   split
   .refine X _ _ (h.imp id λh=>?_);rw [rh,e];exact h
   .exact X _ _ h
theorem oJ{B:Type}:∀{l:U B},l.Nodup->∀{i m:Y}{x:B},l[i]?=J x->l[m]?=J x->i=m:= @λf=>f.rec
 (@λw i m x z w=>by simp at z)
 (@λO l X h i m x z G=>by
  have v:=l9.mp h;cases i with
  |zero=>cases m with
   |zero=>rfl
   |succ m=>simp at z G;subst z;exact cg (cA G) v.1
  |succ i=>cases m with
   |zero=>simp at z G;subst G;exact cg (cA z) v.1
   |succ m=>simp at z G;exact aQ _ (X v.2 z G))
theorem oH{B:Type}{l:U B}(u:l.Nodup)(i m:Y){a b:B}(h:l[i]?=J a)(L:l[m]?=J b)(q:qj i m=aA):a≠b:=λe=>aam q (oJ u h (e▸L))
theorem xh{B L:Type}:∀(n:U B)(c:U L),(n.zip c).map (·.1)=n.take c.length
 | [],_=>by simp
 |_::_, []=>C
 |x::n,O::c=>by simp [xh n c]
theorem OO(a:af->aS dU)(x:af):∀(r:U (af×ay))(H:af->aS ay),x∉r.map (·.1)->bindL a r H x=H x:=λf=>f.rec
 (λH w=>C)
 (λ(p,i)r X H s=>by
  have R:x≠p:=λe=>s (by simp [e]);show bindL a r _ x=H x;rw [X _ (λq=>s (dY _ q))]
  split<;>simp [R])
theorem ON(a:af->aS dU)(x:af):∀(r:U (af×ay))(H:af->aS ay),x∉r.map (·.1)->bindC a r H x=H x:=λf=>f.rec
 (λH w=>C)
 (λ(p,i)r X H s=>by
  have R:x≠p:=λe=>s (by simp [e]);show bindC a r _ x=H x;rw [X _ (λq=>s (dY _ q))]
  split<;>simp [R])
noncomputable def eI(n:U af)(y:U ay):U (af×ay):=n.zip y
noncomputable def qV(n:U af)(j:U T):U (AV t):=j.map .t++fg (n.length-j.length) .un
theorem FY(a:af->aS dU)(l:U (af×ay)):∀(H:af->aS ay)(x:af)(v:ay),(l.map (·.1)).Nodup->(x,v)∈l->a x=J .local->bindL a l H x=J v:=by
 induction l with
 |nil=>exactλH x v w h=>nomatch h
 |cons p r X=>
  obtain⟨O,b⟩:=p;intro H x v e L g;have k:=l9.mp e;show bindL a r _ x=J v;rcases cC.mp L with i|L
  .refine bR (qn i) λs A=>?_;subst s A;exact(OO a _ _ _ k.1).trans ((congrFun (bB g) x).trans (bB C))
  .exact X _ x v k.2 L g
theorem FW(a:af->aS dU)(l:U (af×ay)):∀(H:af->aS ay)(x:af)(v:ay),(l.map (·.1)).Nodup->(x,v)∈l->a x=J .cell->bindC a l H x=J v:=by
 induction l with
 |nil=>exactλH x v w h=>nomatch h
 |cons p r X=>
  obtain⟨O,b⟩:=p;intro H x v e L g;have k:=l9.mp e;show bindC a r _ x=J v;rcases cC.mp L with i|L
  .refine bR (qn i) λs A=>?_;subst s A;exact(ON a _ _ _ k.1).trans ((congrFun (bF λq=>nc mj (bf (g.symm.trans q)) C) x).trans (bB C))
  .exact X _ x v k.2 L g
theorem aY.Hv(d:aY B f y j):∀{i:Y}{v:ay},y[i]?=J v->∃E,j[i]?=J E/\Den B f v E:=
 d.ind (P:=λy j=>∀{i:Y}{v:ay},y[i]?=J v->∃E,j[i]?=J E/\Den B f v E) ((aT C)) λ{_ _ E _}a w X{i _}h=>match i,h with
  |0,h=>(aM E C (bf h▸a))
  |_+1,h=>X h
theorem Dm{s s₁:aR}(Q:n6 fd.scope xs)(E:fd.globals=mainGlobals)(t:fd.builtins=builtinsNs)(r:Ready B fz s)(aB:aY ρ fz vs m9)(aC:m9.length<=xs.length)
  (T:InCallC s (callEnvC fd s.heap.objs.size a).locals (bindL (callEnvC fd s.heap.objs.size a).kindOf (eI xs vs) λw=>ae) (callEnvC fd s.heap.objs.size a).cells (bindC (callEnvC fd s.heap.objs.size a).kindOf (eI xs vs) λw=>ae) s₁):
  SR B ρ ⟨λb=>if b∈B.tabs then ae else s.heap.get? b, [],fz, []⟩ fz (callEnvC fd s.heap.objs.size a) xs xs.length (qV xs m9) s₁.heap:=by
 have h:=T.toInCall.keep;have aK:(callEnvC fd s.heap.objs.size a).locals=s.heap.objs.size:=C;have n:∀u c,(callEnvC fd s.heap.objs.size a).cells.lookup u=J c->s.heap.objs.size<c:=λu c y=>T.above u c (mem_of_lookup y);have p:∀c,s.heap.objs.size<=c->s.heap.get? c=ae:=λc y=>by
  cases q:s.heap.get? c with
  |none=>rfl
  |some o=>exact cg (eM q) (gW.mpr y)
 have f:∀c,s.heap.objs.size<=c->fz c=ae:=λc y=>by
  cases q:fz c with
  |none=>rfl
  |some o=>have:=r.bC c o q;exact aT (p c y) this
 have O:=λX l=>bZ (gn.mp (B.live r.inv X l)) λo F=>eM F;have R:((eI xs vs).map (·.1)).Nodup:=by
  have:(eI xs vs).map (·.1)=xs.take vs.length:=by
   unfold eI;rw [xh]
  rw [this];exact Q.nodup.sublist (aac _ _)
 refine⟨⟨Q.kind,E,t⟩,(bindL (callEnvC fd s.heap.objs.size a).kindOf (eI xs vs) λw=>ae),λw=> [],({
  len:=by unfold qV;simp;exact fV (bL 0 (.a (.v 0) (.v 2)) (.v 1) (.a (.v 2) (.v 0)) (.v 1) C [_,_,_] ((lM aC))) (bL 0 (.v 1) (.a (.v 0) (.v 2)) (.v 1) (.a (.v 2) (.v 0)) C [_,_,_] nE)
  base:=λb o e=>h b o (r.base b o e)
  kept:=λb o e=>?_
  bC:=λb o e=>h b o (r.bC b o e)
  ns:=T.toInCall.ns
  nL:=⟨?_,f _ (ek _)⟩
  fB:=λb o e=>?_
  vars:=λi x aL j d=>?_
  own:=λi x c z j H y=>?_
  iN:=λi x c z j w w=>cg (cw.mp j).1 (gW.mpr z)
  cell:=λi x c j H y=>⟨tJ (n x c y),f c (i3 (n x c y))⟩
  pF:=λi x z j=>cg (cw.mp j).1 (gW.mpr z)
  inj:=λi m x aJ c j G w w ah ai=>?_
  nodup:=λi m x z aj=>oJ Q.nodup z aj
  fp:=λi w b t=>nomatch t
  inv:=B.e8 r.inv λX w o e=>h X o e
  tab:=λX l=>(j_ (bB ‹_›) (r.lS X l) (fW (O X l)) (λm x j H y=>cg (n x X y) (gW.mpr (i3 (O X l)))) (λw w ao=>nomatch ao))
  apart:=λi m w w w b t=>nomatch t
  dc:=λb t=>nomatch t
  new:=λb o e=> .inl e
  lock:=λaO au=>cg au gM})⟩
 .by_cases q:b∈B.tabs
  .simp [q]at e
  .simp [q]at e;exact h b o e
 .show(if s.heap.objs.size∈B.tabs then ae else s.heap.get? s.heap.objs.size)=ae
  split<;>first|rfl|exact(ir s)
 .have:b∉B.tabs:=λq=>aT (r.iH b q) e;simp [this,r.base b o e]
 .have z:=(cw.mp j).1;have g:(callEnvC fd s.heap.objs.size a).kindOf x=J .local\/(callEnvC fd s.heap.objs.size a).kindOf x=J .cell:=Q.names x (cA j);have P:∃k,dZ (callEnvC fd s.heap.objs.size a) (bindL (callEnvC fd s.heap.objs.size a).kindOf (eI xs vs) λw=>ae) s₁.heap x k/\∀v,(x,v)∈eI xs vs->k=J v:=by
   rcases g with g|g
   .exact(aM _ (.inl ⟨g,C⟩) (λv L=>FY _ _ _ x v R L g))
   .exact bZ (gn.mp (t8 fd.scope.names (s.heap.objs.size+1) [] (.inl g))) λc y=>(aM _ (.inr ⟨.inl g,c,y,T.cell x c y⟩) (λv L=>FW _ _ _ x v R L g))
  refine aG P λk az aE=>⟨k,az,?_⟩;unfold qV at d
  by_cases S:i<m9.length
  .rw [l7 (by simpa using S)]at d;have A:=cP S;simp only [gD,A,AP]at d;obtain rfl:=bf d;refine aG (aB.get A) λv aH aD=>⟨C,v,aE v ?_,aD⟩;have:(eI xs vs)[i]?=J (x,v):=by
    unfold eI;rw [EB];exact⟨j,aH⟩
   exact cA this
  .rw [l8 (by simpa using S)]at d;have:=by
    rw [MY]at d
    split at d
    .exact(bf d).symm
    .exact aT C d
   subst this
   rfl
 .show(if c∈B.tabs then ae else s.heap.get? c)=ae
  split<;>first|rfl|exact p c (i3 (n x c y))
 .have:=Nv T.apart (mem_of_lookup ah) (mem_of_lookup ai);subst this;exact oJ Q.nodup j G
theorem F1(G:e6 w aO aU)(c:∀{h},bN w.bI h->h.get? a=J o)(L:o.data= .func f)(ao:∀{h},bN w.bI h->h.CodeRec f.code f.qualname)
  (aJ:f.body= .stmts m)(k:f.closure= [])(Q:n6 f.scope n)(H:f.globals=mainGlobals)(t:f.builtins=builtinsNs)(l:E.length<=n.length)
  (aC:∀y,y.length=E.length->bindArgs f ⟨y, []⟩=pure (eI n y))
  (s:∀A F B,dw F u->∃S,ez w j X F B (callEnvC f A a) n n.length (qV n E) m S (.ret r)):A1 w j X (u+1) (.ref a) E r:=by
 intro F B v y aK p i P x O;refine Nu i.d (c P.base) L (G.nolimit P.base) (ao P.base) aJ (aC y x.length) k ?_ ?_ Q.co Q.gen Q.kind
 .intro R ah;have ai:=by
   have:R.1∈(eI n y).map (·.1):=gE ah;unfold eI at this;rw [xh]at this;exact ri this
  rcases Q.names _ ai with h|h
  .exact .inl h
  .exact .inr ⟨h,t8 f.scope.names _ [] (.inl h)⟩
 .intro aj T;obtain⟨S,s⟩:=s p.heap.objs.size (F.deeper _) B i.deeper;refine s _ v aj _ _ C (Dm Q H t P x l T) λaz g aL q aB z d=>?_;obtain⟨_,aV,aW,z⟩:=z;obtain⟨aD,rfl,d⟩:=d.rt;obtain⟨au,aH,aE,_⟩:=T.done;refine O az g aD ⟨(bU.trans (cu au aH aE) q),λb t o e=>z.kept b o (by simp [t,e]),z.inv,aB,z.bC,λb o e=>?_⟩ d;rcases z.new b o e with q|q
  .exact .inl q
  .right
   dsimp only at q
   split at q
   .rename_i t;exact aT ((z.tab b t).2.1) e
   .exact q
end
theorem yi:∀(l:U (af×dU))(u:Y)(o:U (af×ak)),cellsFrom u l o=cellsFrom u l []++o:=λf=>f.rec
 (λw w=>C)
 (λ(x,L)r X u o=>by
  unfold cellsFrom
  split
  .rw [X (u+1) ((x,u)::o),X (u+1) [(x,u)]];simp
  .exact X u o)
theorem F7:∀(l:U (af×dU))(u:Y),(∀p∈l,p.1=O->p.2≠ .cell)->(cellsFrom u l []).lookup O=ae
 | [],_,_=>C
 |(x,L)::r,u,h=>by
  unfold cellsFrom;have X:=λu=>F7 r u λp H=>h p (dY _ H)
  split
  .rename_i y;rw [yi,EG,X];have:x≠O:=λe=>h (x,L) ee e (of_decide_eq_true y);have t:(O==x)=aA:=by simpa using jk this
   simp [rh,t]
  .exact X u
noncomputable def mC(a:U (af×ak)):U (af×dU)->U (af×ak)->U (af×ak)
 | [],o=>o
 |(u,L)::r,o=>if L== .free then mC a r ((u,(a.lookup u).getD 0)::o)else mC a r o
theorem Bl:mC a ((u,L)::r) o=if L== .free then mC a r ((u,(a.lookup u).getD 0)::o)else mC a r o:=C
theorem Bm(h:∀p∈f.names,p.2= .free->(env.cells.lookup p.1).isSome=aa):closureFor f env=pure (mC env.cells f.names []):=by
 unfold closureFor
 suffices∀(l:U (af×dU))(o:U (af×ak)),(∀p∈l,p.2= .free->(env.cells.lookup p.1).isSome=aa)->
   (forIn l o λx r=>if(x.2== .free)=aa then(do let c<-cellOf env x.1;pure (tw ((x.1,c)::r)):Sem _)else pure (tw r))=pure (mC env.cells l o)by
  have:=this f.names [] h
  first|exact this|simpa using this
 intro l
 induction l with
 |nil=>intro o _;rfl
 |cons p r X=>
  intro o h;obtain⟨u,L⟩:=p;rw [ZV];rw [Bl]
  by_cases g:(L==AH)=aa
  .have:=h (u,L) ee (of_decide_eq_true g);refine bZ (gn.mp this) λc y=>?_;simp only [g,cellOf,y,bind_assoc];exact X _ λp H=>h p (dY _ H)
  .simp only [g,pure_bind];exact X _ λp H=>h p (dY _ H)
theorem Po(y:i.lookup O=J c):∀(l:U (af×dU))(o:U (af×ak)),((O,AH)∈l\/o.lookup O=J c)->(∀d,o.lookup O=J d->d=c)->(mC i l o).lookup O=J c:=λf=>f.rec
 (λo h w=>h.elim (λh=>nomatch h) id)
 (λ(u,L)r X o h a=>by
  rw [Bl]
  by_cases g:(L==AH)=aa
  .rw [bB g]
   by_cases v:O=u
   .subst v;refine X _ (.inr ?_) λd q=>?_
    .simp [y]
    .simp [y]at q;exact q.symm
   .have t:(O==u)=aA:=by simpa using v
    refine X _ ?_ λd q=>?_
    .rcases h with h|h
     .rcases cC.mp h with e|h
      .exact cg (qn e).1 v
      .exact .inl h
     .right;rw [rh,t];exact h
    .rw [rh,t]at q;exact a d q
  .rw [bF g];refine X o ?_ a;rcases h with h|h
   .rcases cC.mp h with e|h
    .have:=(qn e).2;subst this;exact cg C g
    .exact .inl h
   .exact .inr h)
noncomputable def ig(scope:j5)(a:ak)(T:cW):cW:=
 {scope:=relabel scope T,locals:=a,globals:=T.globals,cells:=cellsFrom (a+1) scope.names (mC T.cells scope.names []),qual:=T.qual,func:=ae,code:=T.code,frame:=T.frame,builtins:=T.builtins}
section
theorem I0(g:scope.kind= .function)
  (O:Q {scope,locals:=s.heap.objs.size,globals:=env.globals,cells:=cellsFrom (s.heap.objs.size+1) scope.names L,qual:=env.qual,func:=ae,code:=env.code,frame:=env.frame,builtins:=env.builtins}
   {s with heap:=pushCells (s.heap.push {cls:= .type "dict",data:= .dict #[]}) scope.names}):
  wpAny h F (newFunctionEnv scope env.globals L [] env.qual ae .none (J env)) Q G s:=by
 simp only [newFunctionEnv,if_true];exact aF (wpAny_alloc (aF (wpAny_layCells _ (λa e cells=>C) _ _ _ _ ((show({s with heap:=s.heap.push {cls:= .type "dict",data:= .dict #[]}}:aR).heap.objs.size=s.heap.objs.size+1 from jX ..)▸(aF (bP (bP O)))))))
end
theorem Cy{B:Type}{z:af×B->af×B}(n:∀p,(z p).1=p.1){k:B}:∀{l:U (af×B)},l.lookup x=J k->(l.map z).lookup x=J (z (x,k)).2
 |(u,i)::r,h=>by
  rw [rh]at h;have e:z (u,i)=(u,(z (u,i)).2):=Prod.ext (n (u,i)) C;rw [iA,e,rh];cases t:x==u with
  |true=>
   rw [t]at h;have h:=bf h;subst h;have:=of_decide_eq_true t;subst this
   rfl
  |false=>
   rw [t]at h;exact Cy n h
theorem Kn(f:j5)(T:cW):(relabel f T).names=f.names.map λp=>(if(p.2== .free&&T.scope.kind== .function&&T.kindOf p.1==J .cell)then(p.1, .cell)else(p.1,p.2)):=C
theorem wV(g:L≠ .free)(h:f.names.lookup x=J L):(relabel f env).names.lookup x=J L:=by
 rw [Kn,Cy (λp=>by split<;>rfl) h];have:(L==AH)=aA:=by simpa using g
 simp [this]
theorem Km(h:f.names.lookup x=J .free):(relabel f env).names.lookup x=J .free\/(relabel f env).names.lookup x=J .cell:=by
 rw [Kn,Cy (λp=>by split<;>rfl) h]
 split
 .exact .inr C
 .exact .inl C
structure mu(scope:j5)(os cs:U af):Prop where
 kind:scope.kind= .function
 own:∀x∈os,scope.names.lookup x=J .local\/scope.names.lookup x=J .cell
 iN:∀y∈cs,scope.names.lookup y=J .free/\(∀p∈scope.names,p.1=y->p.2= .free)/\(y==("__classdict__":af))=aA
 free:∀p∈scope.names,p.2= .free->p.1∈cs
 nodup:(os++cs).Nodup
 names:∀x∈scope.names,x.2= .local->scope.names.lookup x.1=J .local
structure iB(env:cW)(xs:U af)(cs:U af)(ci:U Y):Prop where
 len:ci.length=cs.length
 at_:∀(j i:Y)(y:af),ci[j]?=J i->cs[j]?=J y->xs[i]?=J y
 nl:∀y∈cs,env.kindOf y≠J .local
noncomputable def lJ(os:U af)(v:U Y)(g:U (AV t)):U (AV t):=fg os.length .un++v.map λi=>(g[i]?).getD .un
noncomputable def r8(os:U af)(v:U Y)(R:Y->U ak):Y->U ak:=λi=>if i<os.length then []else((v[i-os.length]?).map R).getD []
noncomputable def pL(x a:U ak)(v:U Y)(R:Y->U ak)(h:b8)(f:Fz):HB:=
 ⟨λb=>if b∈x\/b∈a\/(∃i∈v,b∈R i)then ae else h.get? b, [],f, []⟩
noncomputable def lR(os:U af)(v:U Y)(g T:U (AV t)):U (AV t):=g.mapIdx λi F=>if i∈v then(T[os.length+v.idxOf i]?).getD .un else F
noncomputable def mW(os:U af)(v:U Y)(R X:Y->U ak):Y->U ak:=λi=>if i∈v then X (os.length+v.idxOf i)else R i
open Classical in
theorem yZ{b:ak}(t:b∈x\/b∈a\/∃i∈v,b∈R i):(pL x a v R h f).b b=ae:=bB ‹_›
theorem Cf(t:h.get? b=ae):(pL x a v R h f).b b=ae:=by
 unfold pL;simp only;split<;>first|rfl|exact t
theorem y9{b:ak}(e:b∉x)(E:b∉a)(S:∀i∈v,b∉R i):(pL x a v R h f).b b=h.get? b:=by
 unfold pL;simp only;rw [bF];rintro(q|q|⟨i,z,q⟩)
 .exact e q
 .exact E q
 .exact S i z q
theorem wg{l:U Y}(h:i∈l):l[l.idxOf i]?=J i:=by
 rw [cP (M1.mpr h)];simp
section
variable{env:cW}{xs os cs:U af}{ci:U Y}{dz:Y->U ak}
theorem Bj(G:mu f os cs)(A:O∈cs)(y:env.cells.lookup O=J c):(ig f a env).cells.lookup O=J c:=by
 show(cellsFrom _ f.names _).lookup O=J c;refine fF (G.iN O A) λR E w=>?_;rw [yi,EG,F7 _ _ λp H e=>by rw [E p H e];decide];have L:=by
  have:=mem_of_lookup R;exact this
 rw [Po y f.names [] (.inl L) λd q=>aT C q]
 rfl
theorem Vb(G:mu f os cs){a:ak}(j:f.names.lookup x=J .cell):∃c,(cellsFrom (a+1) f.names []).lookup x=J c/\(ig f a env).cells.lookup x=J c:=by
 refine bZ (gn.mp (t8 f.names (a+1) [] (.inl j))) λc y=>⟨c,y,?_⟩;show(cellsFrom _ f.names _).lookup x=J c;rw [yi,EG,y];rfl
inductive NK(B:bV O)(ρ:Mk)(fz:Fz)(env:cW)(xs:U af)(ci:U Y)(lv:U (AV O))(dz:Y->U ak)(h:b8)(j:Y)(y:af):Prop
 |mk(i:Y)(c:ak)(ov:aS ay)(av:AV O)(hi:ci[j]?=J i)(hm:i∈ci)(hx:xs[i]?=J y)(hl:lv[i]?=J av)(hc:env.cells.lookup y=J c)(cell:h.IsCell c ov)(hh:Holds B ρ fz h av ov (dz i))(Su:env.kindOf y≠J .local)
inductive Fd(env:cW)(xs os cs:U af)(ci:U Y)(scope:j5)(a_:Y)(h:b8)(i:Y)(x:af)(c:Y):Prop
 |inl(hi:i<os.length)(hm:(x,c)∈cellsFrom (a_+1) scope.names [])(hc:a_+1<=c)
 |inr(hi:os.length<=i)(i':Y)(hx:cs[i-os.length]?=J x)(Sj:ci[i-os.length]?=J i')(hm:i'∈ci)(hxi:xs[i']?=J x)(Hy:env.cells.lookup x=J c)(hal:(h.get? c).isSome=aa)(Su:env.kindOf x≠J .local)
theorem Hw{h:b8}(y:h.objs.size<=c):h.get? c=ae:=jR λw q=>cg (eM q) (gW.mpr y)
theorem FG{h:b8}(e:(h.get? b).isSome=aa):b<h.objs.size:=(gn.mp e).elim λw Q=>eM Q
theorem aN.FF(S:aN w B A f env xs k g H dz h)(R:i<xs.length):∀b∈dz i,(h.get? b).isSome=aa:=
 match S.vars i _ _ (cP R) (cP (S.len▸R))with|⟨_,_,u⟩=>u.live
theorem iB.ix(E:iB env xs cs ci){m i:Y}(h:ci[m]?=J i):∃O,cs[m]?=J O/\xs[i]?=J O:=
 ⟨_,cP _,E.at_ m i _ h (cP (E.len▸kh h))⟩
theorem iB.lt(E:iB env xs cs ci)(z:i∈ci):i<xs.length:=bZ (o8 z) λw e=>aG (E.ix e) λw w h=>kh h
theorem iB.inj(E:iB env xs cs ci)(h:cs.Nodup){m T:Y}(e:ci[m]?=J i)(L:ci[T]?=J i):m=T:=match E.ix e,E.ix L with
 |⟨_,a,b⟩,⟨_,g,A⟩=>oJ h a (g.trans (A.symm.trans b))
theorem Pp(j:x∉cs):∀(l:U _)(o:U _),(∀p∈l,p.2= .free->p.1∈cs)->o.lookup x=ae->(mC env.cells l o).lookup x=ae:=λf=>f.rec
 (λw w a=>a)
 (λ(h,L)i X o n r=>by
  have A:=λp H=>n p (dY _ H);rw [Bl]
  split
  .rename_i g;have:(x==h)=aA:=beq_false_of_ne λe=>j (e▸n (h,L) (.head _) (of_decide_eq_true g));exact X _ A (by rw [rh,this];exact r)
  .exact X _ A r)
theorem F6(E:iB env xs cs ci)(S:aN w h a f env xs k g H dz e)(A:cs[m]?=J O):NK w h f env xs ci g dz e m O:=by
 have z:=cP (E.len.symm▸kh A);have j:=E.at_ m _ O z A;have B:=cP (S.len.symm▸kh j);obtain⟨s,r,u⟩:=S.vars _ O _ j B;have L:=E.nl O (cA A);rcases r with⟨q,_⟩|⟨_,c,y,F⟩
 .exact cg q L
 .exact⟨_,c,s,_,z,cA z,j,B,y,F,u,L⟩
theorem O7(G:mu f os cs)(E:iB env xs cs ci)(S:aN m B A n env xs d g H dz h)(u:∀{k c},(k,c)∈cellsFrom (a+1) f.names []->a+1<=c){c:Y}(j:(os++cs)[i]?=J x)(y:(ig f a env).cells.lookup x=J c):
  Fd env xs os cs ci f a h i x c:=by
 by_cases z:i<os.length
 .have y:(cellsFrom (a+1) f.names _).lookup x=J c:=y;rw [yi,EG,Pp (λq=>(gm.mp G.nodup).2.2 x (cA ((l7 z).symm.trans j)) x q C) f.names [] G.free C,Option.or_none]at y;have b:=mem_of_lookup y;exact .inl z b (u b)
 .have z:=nR z;have j:=(l8 z).symm.trans j;obtain⟨P,L,t,F,R,s,l,o,r,T,v,X⟩:=F6 E S j;have e:=bf (y.symm.trans (Bj G (cA j) r));exact aG T λp O w=> .inr z P j R s l (e.symm▸r) (e.symm▸cS O) X
inductive NS(os:U af)(ci:U Y)(dz:Y->U ak)(i:Y)(b:ak):Prop
 |mk(i':Y)(hle:os.length<=i)(Sj:ci[i-os.length]?=J i')(hm:i'∈ci)(hb:b∈dz i')
theorem yF(t:b∈r8 os ci dz i):NS os ci dz i b:=by
 unfold r8 at t
 split at t
 .exact nomatch t
 .cases q:ci[i-os.length]? with
  |none=>exact nomatch(q▸t:b∈((ae:aS Y).map dz).getD [])
  |some P=>exact⟨P,nR ‹_›,q,cA q,(q▸t:b∈((J P).map dz).getD [])⟩
theorem TM(z:i<os.length):(lJ os ci g)[i]?=J .un:=by
 unfold lJ;rw [l7 (o9.symm▸z),MY,bB z]
theorem TL(z:os.length<=i)(R:ci[i-os.length]?=J P)(E:g[P]?=J F):(lJ os ci g)[i]?=J F:=by
 unfold lJ;rw [l8 (o9.symm▸z),o9,gD,R,AP,E];rfl
theorem RY(z:i<os.length):r8 os ci dz i= []:=bB z
theorem RX(z:os.length<=i)(R:ci[i-os.length]?=J P):r8 os ci dz i=dz P:=(bF (gW.mpr z)).trans (R▸C)
theorem KX(G:mu f os cs)(E:iB env xs cs ci){s:aR}(b7:gp env)(S:aN w cz dS aj env xs k6 aV iK dz s.heap)(aD:∀b∈au,eT w dS aj env xs dz b/\(s.heap.get? b).isSome=aa)
  (iX:∀i∈ci,∀dX,aV[i]?≠J (.own dX))(fU:ol.isFreed=aA)(dm:aO={cls:= .type "dict",data:= .dict #[]}){a:Y}(az:a=(s.heap.push ol).objs.size){R:b8}(aJ:R=pushCells ((s.heap.push ol).push aO) f.names):
  gp (ig f a env)/\aN w cz ((pL w.tabs au ci dz s.heap aj).add (s.heap.objs.size::au) R) aj (ig f a env) (os++cs) os.length (lJ os ci aV) (λp=>ae) (r8 os ci dz) R:=by
 have g:=qk (cY _) (pe (by rw [az,jX]:a=s.heap.objs.size+1).symm);have aU:∀{c:Y},a+1<=c->s.heap.objs.size<=c:=(bh (i3 (ql g)));have bQ:∀{c:Y}{X:Prop},a+1<=c->c<s.heap.objs.size->X:=λq h=>cg h (gW.mpr (aU q));have v:bN s.heap R:=λb o e=>aJ.symm▸vD _ _ b o (eF _ (eF _ e));have bD:∀c:Y,s.heap.objs.size<=c->s.heap.get? c=ae:=λc y=>Hw y;have fresh:=λc y=>S.free (bD c y);have aB:=cellsFrom_ok f.names ((s.heap.push ol).push aO) _ [] ⟨λp p L=>(nomatch L),List.Pairwise.nil⟩ (by rw [jX,<-az];exact ek _);rw [jX,<-az,<-aJ]at aB;have u:∀(i:Y)(x:af)(c:Y),(os++cs)[i]?=J x->(ig f a env).cells.lookup x=J c->Fd env xs os cs ci f a s.heap i x c:=λi x c j y=>O7 G E S (λh=>(aB.empty _ _ h).2) j y;have c_:∀(i:Y)(x:af),os.length<=i->(os++cs)[i]?=J x->(ig f a env).kindOf x=J .free\/(ig f a env).kindOf x=J .cell:=λi x z j=>by
  rw [l8 z]at j;exact Km (G.iN x (cA j)).1
 have A:∀i∈ci,i<xs.length:=λi z=>E.lt z;have n:∀{b:Y},(s.heap.get? b).isSome=aa->b<s.heap.objs.size:=FG;have ao:∀{b:Y},b<s.heap.objs.size->b<a:=λh=>rm h g;have aE:∀{b:Y},b<a->(∀i x,xs[i]?=J x->env.kindOf x≠J .local->env.cells.lookup x≠J b)->∀(i:Y)(x:af),(os++cs)[i]?=J x->(ig f a env).kindOf x≠J .local->(ig f a env).cells.lookup x≠J b:=λt bz i x j p y=>by
  rcases u i x _ j y with⟨_,_,q⟩|⟨_,aH,bK,jj,bM,k,r,H,Q⟩
  .exact gW.mpr q (ql t)
  .exact bz aH x k Q r
 have bA:∀{b:Y},(∀i,i<xs.length->b∉dz i)->∀m,m<(os++cs).length->b∉r8 os ci dz m:=λbz m p L=>match yF L with|⟨P,_,_,L,d⟩=>bz P (E.lt L) d
 refine⟨⟨G.kind,b7.globals,b7.builtins⟩,?_⟩
 have base:aN w cz (pL w.tabs au ci dz s.heap aj) aj (ig f a env) _ os.length (lJ os ci aV) _ (r8 os ci dz) R:={
  lock:=λk7 eE=>(gM eE).elim
  len:=by unfold lJ;simp [E.len]
  base:=λb o e=>v b o (S.base b o e)
  kept:=λb o e=>by
   by_cases q:b∈w.tabs\/b∈au\/∃i∈ci,b∈dz i
   .exact aT (yZ q) e
   .rw [y9 (λh=>q (.inl h)) (λh=>q (.inr (.inl h))) (λi z h=>q (.inr (.inr ⟨i,z,h⟩)))]at e
    exact v b o e
  bC:=λb o e=>v b o (S.bC b o e)
  ns:=by
   have:((s.heap.push ol).push aO).Ns a λp=>ae:=by rw [az,dm];exact Heap.Ns.new _ _
   exact aJ.symm▸this.keeps (vD _ _)
  nL:=⟨Cf (bD a (i3 g)),(fresh a (i3 g)).fz⟩
  fB:=λb o e=>(y9 (S.iH (S.fB b o e)) (λq=>aT (aD b q).1.hb (S.fB b o e)) λi z q=>aT (S.fp i (A i z) b q).1 (S.fB b o e)).trans (S.base b o e)
  vars:=λi x jW j bW=>by
   by_cases z:i<os.length
   .rw [l7 z]at j
    obtain rfl:=bf ((TM z).symm.trans bW)
    rw [RY z]
    rcases G.own x (cA j)with q|q
    .exact⟨ae, .inl ⟨wV (nofun) q,C⟩,C⟩
    .exact aG (Vb G q) λc aC b_=>⟨ae, .inr ⟨.inl (wV (nofun) q),c,b_,(aB.empty x c (mem_of_lookup aC)).1⟩,C⟩
   .have z:=nR z
    have O:=c_ i x z j
    rw [l8 z]at j
    obtain⟨P,c,fa,k8,aC,b_,l6,ff,fx,eu,gv,kA⟩:=F6 E S j
    cases bf ((TL z aC ff).symm.trans bW)
    rw [RX z aC]
    refine aG eu λdB dJ dO=>⟨fa, .inr ⟨?_,c,Bj G (cA j) fx,dB,v _ _ dJ,dO⟩,gv.mono (Le.refl _) (λb o e=>v b o (S.base b o e)) λb p o e=>v b o e⟩
    rcases O with O|O
    .exact .inr ⟨O,(G.iN x (cA j)).2.2⟩
    .exact .inl O
  own:=λi x c z j cB y=>by
   rcases u i x c j y with⟨_,_,q⟩|⟨q,_⟩
   .exact Cf (bD c (aU q))
   .exact cg z (gW.mpr q)
  iN:=λi x c z j y cB=>by
   rcases u i x c j y with⟨q,_⟩|⟨_,P,bK,ah,L,k,r,H,Q⟩
   .exact cg q (gW.mpr z)
   .exact bZ (gn.mp H) λo aW=>⟨o,(y9 (λq=>(S.tab c q).2.2.2.1 P x k Q r) (λq=>(aD c q).1.cell P x k Q r) (λaH d8 q=>(S.fp aH (A aH d8) c q).2.2.2 P x k Q r)).trans aW⟩
  cell:=λi x c j cB y=>by
   rcases u i x c j y with⟨_,_,q⟩|⟨_,P,bK,ah,L,k,r,H,Q⟩
   .exact⟨tJ q,(fresh c (aU q)).fz⟩
   .exact⟨fW (rm (n H) g),(S.cell P x c k Q r).2⟩
  pF:=λi x z j=>by
   rcases c_ i x z j with q|q<;>rw [q]<;>decide
  inj:=λi m x aZ c j bg gV iz eK bY=>by
   rcases u i x c j eK with⟨_,bq,eL⟩|⟨bq,P,bK,ah,L,k,r,H,Q⟩
   .rcases u m aZ c bg bY with⟨_,B,cv⟩|⟨B,ai,eX,aK,eg,cE,cK,cO,cV⟩
    .have:=Nv aB.apart bq B
     subst this
     exact oJ G.nodup j bg
    .exact bQ eL (n cO)
   .rcases u m aZ c bg bY with⟨_,B,cv⟩|⟨B,ai,eX,aK,eg,cE,cK,cO,cV⟩
    .exact bQ cv (n H)
    .have e:=S.inj P ai x aZ c k cE Q cV r cK
     subst e
     exact(xF bq).symm.trans ((aQ (·+os.length) (E.inj (gm.mp G.nodup).2.1 ah aK)).trans (xF B))
  nodup:=λi m x z c9=>oJ G.nodup z c9
  fp:=λi z b t=>by
   obtain⟨P,_,_,L,d⟩:=yF t
   have F:=S.fp P (A P L) b d
   have l:=ao (n (S.FF (E.lt L) b d))
   exact⟨yZ (.inr (.inr ⟨P,L,d⟩)),F.2.1,fW l,aE l F.2.2.2⟩
  inv:=w.e8 S.inv λX aL o e=>v X o e
  tab:=λX aL=>by
   have T:=S.tab X aL
   have l:=ao (n (w.live S.inv X aL))
   exact⟨yZ (.inl aL),T.2.1,fW l,aE l T.2.2.2.1,bA T.2.2.2.2⟩
  apart:=λi m z c9 fy b t gJ=>by
   obtain⟨P,gC,ah,L,d⟩:=yF t
   obtain⟨ai,gK,aK,bM,d6⟩:=yF gJ
   refine S.apart P ai (A P L) (A ai bM) (λe=>?_) b d d6
   subst e
   exact fy ((xF gC).symm.trans ((aQ (·+os.length) (E.inj (gm.mp G.nodup).2.1 ah aK)).trans (xF gK)))
  dc:=λb t=>(gM t).elim
  new:=λb o e=> .inl e}
 refine base.enter (λb t=>?_) (λb t=>?_)
 .rcases cC.mp t with rfl|t
  .have F:=fresh _ (ek _);exact⟨Cf (ir s),F.fz,fW g,aE g F.cell,bA F.fp,F.tab,F.h0⟩
  .exact bR (aD b t) λF l=>⟨yZ (.inr (.inl t)),F.fz,fW (ao (n l)),aE (ao (n l)) F.cell,bA F.fp,F.tab,F.h0⟩
 .rcases cC.mp t with rfl|t
  .rw [aJ,vD _ _ _ _ (eF _ (eY _ fU))];rfl
  .exact bZ (gn.mp (aD b t).2) λo aW=>cS (v b o aW)
end
section
variable{B:bV O}{os:U af}
theorem sy{B:Type}{o:aS B}{X:Prop}(h:o=ae)(e:o.isSome=aa):X:=dg C ((h▸e:(ae:aS B).isSome=aa))
structure Off(tabs wr:U ak)(ci:U Y)(dz:Y->U ak)(b:ak):Prop where
 t:b∉tabs
 w:b∉wr
 f:∀i∈ci,b∉dz i
theorem Off.b{b:ak}(t:Off B.tabs a v R b)(e:(h.get? b).isSome=aa):((pL B.tabs a v R h fz).add (h.objs.size::a) wm).b b=h.get? b:=
 (kL λq=>(cC.mp q).elim (λq=>cg (q▸FG e) (nj _)) t.w).trans (y9 t.t t.w t.f)
theorem U7(h:g[i]?=J a):(lR os v g i_)[i]?=J (if i∈v then(i_[os.length+v.idxOf i]?).getD .un else a):=MX.trans (aQ _ h)
theorem U8(h:i∈v):mW os v R X i=X (os.length+v.idxOf i):=bB h
theorem U_(h:i∉v):mW os v R X i=R i:=bF h
theorem sD(h:i∈v)(t:b∈mW os v R X i):b∈X (os.length+v.idxOf i):=(bB h:mW os v R X i=_)▸t
theorem sE(h:i∉v)(t:b∈mW os v R X i):b∈R i:=(bF h:mW os v R X i=_)▸t
theorem iB.Ch(E:iB env n o v)(z:i∈v):(os++o)[os.length+v.idxOf i]?=n[i]?:=aG (E.ix (wg z)) λw a b=>((l8 (e5 _ _)).trans ((aQ _ (EN _ _)).trans a)).trans b.symm
theorem iB.qR(E:iB env n o v)(z:i∈v):os.length+v.idxOf i<(os++o).length:=match cP (E.lt z)with
 |e=>kh ((E.Ch z).trans e)
theorem aN.FE{i:Y}(S:aN B t A f env n b g H R h)(j:n[i]?=J x)(k:env.kindOf x≠J .local)(y:env.cells.lookup x=J c):(h.get? c).isSome=aa:=by
 obtain⟨s,r,_⟩:=S.vars i x _ j (cP (S.len▸kh j));rcases r with⟨e,_⟩|⟨_,l,a,v,O,_⟩
 .exact cg e k
 .exact bf (a.symm.trans y)▸cS O
theorem KW(eE:mu eL os b7)(E:iB h n b7 v){s:aR}(S:aN B aD A r h n bY aV cv R s.heap)(p:∀b∈a,eT B A r h n R b/\(s.heap.get? b).isSome=aa)
  (ff:∀i∈v,∀cK,aV[i]?≠J (.own cK))(dX:s.heap.objs.size<bD)(dO:Le r l)
  (O:aN B aD ((pL B.tabs a v R s.heap r).add (s.heap.objs.size::a) fy) l (ig eL bD h) (os++b7) os.length aB eX X aH):
  aN B aD A l h n bY (lR os v aV aB) cv (mW os v R X) aH/\eT B A l h n (mW os v R X) s.heap.objs.size/\eT B A l h n (mW os v R X) bD/\(∀b,b∈a->eT B A l h n (mW os v R X) b):=by
 have aO:=λ{i}c9=>S.FF (i:=i) c9;have u:∀{b o},s.heap.get? b=J o->Off B.tabs a v R b->aH.get? b=J o:=λe aJ=>O.kept _ _ ((aJ.b (cS e)).trans e);have aj:∀{b},(s.heap.get? b).isSome=aa->Off B.tabs a v R b->r b=ae->l b=ae:=λH aJ aL=>jR λo e=>by
  rcases O.new _ o e with q|q
  .exact aT aL q
  .exact sy ((aJ.b H).symm.trans q) H
 have az:∀{b},(A.b b).isSome=aa->Off B.tabs a v R b:=λt=>⟨λq=>sy (S.tab _ q).1 t,λq=>sy (p _ q).1.hb t,λi z q=>sy (S.fp i (E.lt z) _ q).1 t⟩;have aK:Off B.tabs a v R h.locals:=⟨λq=>(S.tab _ q).2.2.1 C,λq=>(p _ q).1.loc C,λi z q=>(S.fp i (E.lt z) _ q).2.2.1 C⟩;have au:∀{i x c},n[i]?=J x->h.kindOf x≠J .local->h.cells.lookup x=J c->Off B.tabs a v R c:=λj k y=>
  ⟨λq=>(S.tab _ q).2.2.2.1 _ _ j k y,λq=>(p _ q).1.cell _ _ j k y,λm G q=>(S.fp m (E.lt G) _ q).2.2.2 _ _ j k y⟩
 have cz:=i8 S.ns λao ao ao Q ao=>cS Q;have ai:∀{i b},i<n.length->i∉v->b∈R i->Off B.tabs a v R b:=λz aC t=>
  ⟨λq=>(S.tab _ q).2.2.2.2 _ z t,λq=>(p _ q).1.fp _ z t,λm G q=>S.apart _ m z (E.lt G) (λe=>aC (e▸G)) _ t q⟩
 have g:∀{i b},i∈v->b∈X (os.length+v.idxOf i)->(s.heap.get? b).isSome=aa->¬Off B.tabs a v R b:=λz t H q=>sy ((q.b H).symm.trans (O.fp _ (E.qR z) _ t).1) H
 have dm:aN B aD A l h n bY (lR os v aV aB) cv (mW os v R X) aH:={
  len:=List.length_mapIdx.trans S.len
  base:=O.base
  kept:=λb o e=>u (S.kept b o e) (az (cS e))
  bC:=O.bC
  ns:=i8 S.ns λo dS cO Q d6=>(kP o dS cO (u Q aK) d6)
  nL:=⟨S.nL.1,aj cz aK S.nL.2⟩
  fB:=S.fB
  lock:=λd8 eg x j=>(S.lock d8 eg x j).keep λc aE y o e=>u e (au j aE y)
  vars:=λi x fa j d=>by
   have bg:=S.len▸kh j
   obtain⟨eK,bq,cE⟩:=S.vars i x _ j (cP bg)
   have d:=bf (d.symm.trans (U7 (cP bg)))
   by_cases y:i∈v
   .have bz:os.length+v.idxOf i<aB.length:=O.len▸E.qR y
    rw [bB y,cP bz]at d
    subst d
    obtain⟨cB,eu,cV⟩:=O.vars _ x _ ((E.Ch y).trans j) (cP bz)
    have bA:=(E.ix (wg y)).elim λao q=>bf (q.2.symm.trans j)▸cN _ q.1
    rcases bq with⟨q,_⟩|⟨c_,c,w,_⟩
    .exact cg q (E.nl x bA)
    .rcases eu with⟨q,_⟩|⟨_,fx,dB,dJ⟩
     .exact cg q (O.pF _ x (e5 _ _) ((E.Ch y).trans j))
     .exact⟨cB, .inr ⟨c_,c,w,bf ((Bj eE bA w).symm.trans dB)▸dJ⟩,U8 y▸cV⟩
   .rw [bF y]at d
    subst d
    exact⟨eK,bq.keep λc aE y o e=>u e (au j aE y),U_ y▸cE.mono dO O.base λb t o e=>u e (ai (kh j) y t)⟩
  own:=S.own
  iN:=S.iN
  cell:=λi x c j k y=>by
   have F:=S.cell i x c j k y
   exact⟨F.1,aj (S.FE j k y) (au j k y) F.2⟩
  pF:=S.pF
  inj:=S.inj
  nodup:=S.nodup
  fp:=λi z b t=>by
   by_cases y:i∈v
   .replace t:=sD y t
    refine(jt (jR λo e=>g y t (cS (S.kept b o e)) (az (cS e))) (O.fp _ (E.qR y) b t).2.1 (λe=>g y (e▸t) cz aK) (λm x j k w=>g y t (S.FE j k w) (au j k w)))
   .replace t:=sE y t
    have F:=S.fp i z b t
    exact(cR F.1 (aj (aO z b t) (ai z y t) F.2.1) F.2.2)
  inv:=O.inv
  tab:=λbK bM=>by
   have T:=S.tab bK bM
   have aZ:=O.tab bK bM
   refine(j_ T.1 aZ.2.1 T.2.2.1 T.2.2.2.1 (λi z t=>?_))
   by_cases y:i∈v
   .exact aZ.2.2.2.2 _ (E.qR y) (sD y t)
   .exact T.2.2.2.2 i z (sE y t)
  apart:=λi m z G bW b t P=>by
   by_cases y:i∈v<;>by_cases f:m∈v
   .exact O.apart _ _ (E.qR y) (E.qR f) (λe=>bW (bf ((wg y).symm.trans ((aQ _ (aah e)).trans (wg f))))) b (sD y t) (sD f P)
   .replace P:=sE f P
    exact g y (sD y t) (aO G b P) (ai G f P)
   .replace t:=sE y t
    exact g f (sD f P) (aO z b t) (ai z y t)
   .exact S.apart i m z G bW b (sE y t) (sE f P)
  dc:=λb t=>by
   have ah:=S.dc b t
   exact bZ (gn.mp ah.1) λo Q=>(cR ah.1 (aj (cS (S.kept b o Q)) (az ah.1) ah.2.1) ah.2.2)
  new:=λb o e=>(O.new b o e).elim (S.new b o) λq=> .inr (jR λbQ aU=>aT q (((az (cS aU)).b (cS (S.kept b bQ aU))).trans (S.kept b bQ aU)))}
 have b_:∀{b},eT B A r h n R b->l b=ae->(∀i∈v,b∉X (os.length+v.idxOf i))->eT B A l h n (mW os v R X) b:=λF aL aC=>⟨F.hb,aL,F.loc,F.cell,λi z L=>by
  by_cases y:i∈v
  .exact aC i y (sD y L)
  .exact F.fp i z (sE y L),F.tab,F.h0⟩
 have dc:=λ{b}t=>O.dc b (gx _ t);have aW:=λ{b}t F=>b_ (b:=b) F (dc t).2.1 λi y L=>sy (O.fp _ (E.qR y) _ L).1 (dc t).1;exact(jt dm (aW ee (S.free (ir s))) (b_ (S.free (Hw (i3 dX))) O.nL.2 λi y L=>(O.fp _ (E.qR y) _ L).2.2.1 C) (λb t=>aW (dY _ t) (p b t).1))
theorem aN.gR{h L:b8}(S:aN B v A f env n m X H R h)(F:eT B A f env n R a)(hs:gk a h L):aN B v A f env n m X H R L:=by
 have g:∀{z:Fz}{b o},z a=ae->z b=J o->b≠a:=λs E e=>aT ((aQ _ e).trans s) E;have G:bN B.bI L:=λb o e=>(hs.2 b (λq=>aT ((aQ _ q).trans F.h0) e)).trans (S.base b o e)
 exact{S with
  base:=G
  kept:=λb o e=>(hs.2 b (g F.hb e)).trans (S.kept b o e)
  bC:=λb o e=>(hs.2 b (g F.fz e)).trans (S.bC b o e)
  ns:=S.ns.sameBut hs (jk F.loc)
  vars:=λi x k j d=>by
   obtain⟨t,r,u⟩:=S.vars i x k j d
   refine⟨t,r.keep λc Q y o e=>(hs.2 c (λq=>F.cell i x j Q (q▸y))).trans e,u.mono (Le.refl _) G λb w o e=>(hs.2 b (λq=>F.fp i (cw.mp j).1 (q▸w))).trans e⟩
  lock:=λp T x j=>(S.lock p T x j).keep λc Q y o e=>(hs.2 c (λq=>F.cell p.1 x j Q (q▸y))).trans e
  inv:=B.e8 S.inv λO l o e=>(hs.2 O (λq=>F.tab (q▸l))).trans e}
theorem aN.R0(S:aN B ρ A f env n v d H R q)(F:eT B A f env n R a)(T:q.get? a=J (lo h s)):
  Le f (kO f a (lo h s))/\aN B ρ A (kO f a (lo h s)) env n v d H R q:=
 have L:=yG F.fz
 ⟨L,{S with
  bC:=λb o e=>qO e (λp g=>p▸g▸T) (S.bC b o)
  nL:=⟨S.nL.1,oD (jk F.loc) S.nL.2⟩
  vars:=λi x X j O=>match S.vars i x X j O with|⟨m,r,u⟩=>⟨m,r,u.mono L S.base λw w w e=>e⟩
  cell:=λi x c j k y=>have E:=S.cell i x c j k y;⟨E.1,oD (λe=>F.cell i x j k (e▸y)) E.2⟩
  fp:=λi z b t=>have E:=S.fp i z b t;(cR E.1 (oD (λe=>F.fp i z (e▸t)) E.2.1) E.2.2)
  tab:=λQ l=>have E:=S.tab Q l;(cR E.1 (oD (λe=>F.tab (e▸l)) E.2.1) E.2.2)
  dc:=λb t=>have E:=S.dc b t;(cR E.1 (oD (λe=>sy F.hb (e▸E.1)) E.2.1) E.2.2)
  new:=λb o e=>qO e (λp w=>p▸ .inr F.hb) (S.new b o)}⟩
end
noncomputable def rH(w:bV t)(i:ck)(X:b4)(F:cZ)(B:Mk)(h:cW)(n:U af)(k:Y)(g:U (AV t))(e:b9)(S:U (AV t))(j:U T):Prop:=
 ∀(A:HB)(f:Fz)(s:aR)(Q:ay->aR->Prop)(G:ay->aR->Prop),SR w B A f h n k g s.heap->
  (∀m P a y x H R,bU s m->Le f P->gp h->aN w B A P h n k S H R m.heap->eT w A P h n R a->m.heap.get? a=J (lo y x)->aY B P y j->Q (.ref a) m)->
  wpAny (model i X) F (eval e h) Q G s
noncomputable def tV(w:bV t)(i:ck)(X:b4)(F:cZ)(B:Mk)(T:cW)(n:U af)(k:Y)(g:U (AV t))(h:U b9)(S:U (AV t))(b:bu):Prop:=
 ∀(A:HB)(f:Fz)(s:aR)(Q:bu->aR->Prop)(G:ay->aR->Prop),SR w B A f T n k g s.heap->
  (∀m P,bU s m->Le f P->SR w B A P T n k S m.heap->Q b m)->
  wpAny (model i X) F (forIn h aa λc r=>if r=aa then do let u<-isTrue c T (eval c T);pure (tw u)else pure (tw r)) Q G s
inductive A3(B:bV O)(prog:ck)(w:b4)(A:cZ)(ρ:Mk)(env:cW)(xs:U af)(k:Y)(ifs:U b9)(elt:b9)(EA:U (AV O)->U (AV O)->Prop)(lv:U (AV O))(ys:U T)(X:U (AV O)->U T->Prop):Prop
 |go{y:T}{LN:U T}{aP cU Cz:U (AV O)}(ha:EA lv aP)(ht:tV B prog w A ρ env xs k aP ifs cU aa)(he:cy B prog w A ρ env xs k cU elt Cz y)(h:X Cz LN)(e:ys=y::LN)
 |skip{aP cU:U (AV O)}(ha:EA lv aP)(ht:tV B prog w A ρ env xs k aP ifs cU aA)(h:X cU ys)
noncomputable def lg(w:bV t)(i:ck)(X:b4)(F:cZ)(B:Mk)(h:cW)(n:U af)(k:Y)(s:U b9)(y:b9){L:Type}(x:U (AV t)->L->U (AV t)->Prop):U L->U (AV t)->U T->U (AV t)->Prop
 | [],g,c,S=>c= []/\g=S
 |E::j,g,c,S=>A3 w i X F B h n k s y (λl=>x l E) g c λl c=>lg w i X F B h n k s y x j l c S
noncomputable def vF(w:bV t)(i:ck)(X:b4)(F:cZ)(B:Mk)(h:cW)(n:U af)(k:Y)(H:b9)(s:U b9)(y:b9)(j:U T)(g:U (AV t))(c:U T)(S:U (AV t)):Prop:=
 lg w i X F B h n k s y (λg E S=>nq w i X F B h n k g H E S) j g c S
section
variable{B:bV O}{prog:ck}{w:b4}{A:cZ}{ρ:Mk}{env:cW}{xs:U af}{k:Y}{lv aP:U (AV O)}{wr:U ak}{iI:b9}{ifs:U b9}
theorem lg.nil:lg B prog w A ρ env xs k ifs y x [] lv [] lv:=⟨C,C⟩
theorem lg.go{j:U L}(r:x lv E aP)(ht:tV B prog w A ρ env xs k aP ifs h aa)(u:cy B prog w A ρ env xs k h elt v y)(e:lg B prog w A ρ env xs k ifs elt x j v c i_):lg B prog w A ρ env xs k ifs elt x (E::j) lv (y::c) i_:=A3.go r ht u e C
theorem lg.skip{j:U L}(r:x lv E aP)(e:tV B prog w A ρ env xs k aP ifs h aA)(a:lg B prog w A ρ env xs k ifs y x j h c i_):lg B prog w A ρ env xs k ifs y x (E::j) lv c i_:=A3.skip r e a
theorem rH.ev(a:rH B prog w A ρ env xs k lv e aP j):cy B prog w A ρ env xs k lv e aP (.list j):=by
 intro h f s Q G S O;exact a h f s Q G S λm b i y x H R q l E z F v d=>bR (z.R0 F v) λL p=>O m _ _ q (l.trans L) ⟨E,H,R,p⟩ (.list (bB C) (d.mono L))
theorem yv:tV B prog w A ρ env xs k lv [] lv aa:=λh f s Q G S O=>wpAny_tests_nil (O s f (bU.refl s) (Le.refl _) S)
theorem yw(h:fQ B prog w A ρ env xs k lv c aP b):tV B prog w A ρ env xs k lv [c] aP b:=λe f s Q G S O=>wpAny_tests_one (h e f s Q G S O)
theorem Pz(k:G=notedBy (model prog w) A env λl m=>p (.error l) m)(e:Y->aR->Prop)
  (E:∀u s,e u s->wpAny (model prog w) A (pyNext i) (λr c=>match r with
   |ae=>p (.ok .next) c
   |J v=>wpAny (model prog w) A (letOwnedTupleGo iI i v) (λh j=>wpAny (model prog w) A (assign iI env v) (λh x=>
     wpAny (model prog w) A (forIn ifs aa λa r=>if r=aa then do let ok<-isTrue a env (eval a env);pure (tw ok)else pure (tw r)) (λok T=>
      if ok=aa then wpAny (model prog w) A (eval y env) (λb f=>
       wpAny (model prog w) A (call (.builtin "list.append") [o,b]) (λh q=>∃H,H<u/\e H q) G f) G T
      else∃H,H<u/\e H T) G x) G j) G c) G s)
  (u:Y)(t:e u s):
  codeAny (model prog w) A (.compLoop (.ListComp y [⟨iI,iter,ifs,0⟩] scope pos) 0 i o env) p s:=by
 refine codeAny_loop C e (λu s X=>?_) u t;show wpAny _ A _ _ _ s;refine wpAny_noted ?_;rw [<-k,compTurn_list];refine aF (nk (aF (j3 (E u s X) (λr c O=>?_) λh h L=>L)));cases r with
 |none=>exact bP O
 |some v=>
  refine aF (j3 O (λh j g=>(aF (j3 g (λh x z=>aF (j3 z (λok T d=>?_) λh h L=>L)) λh h L=>L))) λh h L=>L);cases ok with
  |false=>exact bP ⟨C,d⟩
  |true=>
   exact aF (aF (j3 d (λb f R=>aF (j3 R (λh q n=>bP (bP ⟨C,n⟩)) λh h L=>L)) λh h L=>L))
inductive NM(B:bV O)(ρ:Mk)(env:cW)(xs:U af)(k:Y)(hI:HB)(D:ak)(wr:U ak)(St:Y->b8->Prop)(ys:U T)(s:aR)(fz:Fz){τ:Type}(Cm:U τ->U (AV O)->U T->Prop)(ts:U τ)(n:Y)(m6:aR):Prop
 |mk(i:Y)(lv':U (AV O))(qP:Fz)(m₂:af->aS ay)(BH:Y->U ak)(vs:U ay)(nn:Y)(DK LO:U T)(hn:n+i=ts.length+1)(C1:bU s m6)(l₂:Le fz qP)(vM:aN B ρ (hI.add (D::wr) m6.heap) qP env xs k lv' m₂ BH m6.heap)(W_:St i m6.heap)(hi:i<=ts.length)
  (aa3:m6.heap.get? D=J (lo vs nn))(dv:aY ρ qP vs DK)(hy:ys=DK++LO)(hyl:DK.length<=i)(a_:Cm (ts.drop i) lv' LO)
noncomputable abbrev rJ(wr:U ak)(h L:b8):Prop:=∀b o,b∉wr->h.get? b=J o->L.get? b=J o
theorem Gg{t:U gC}{X:HB}{au h:ak}{aK wr:U ak}{u:Y->b8->Prop}(gV:gp env)
  (bW:∀i a L,u i a->(∀b∈aK,∀o,a.get? b=J o->L.get? b=J o)->u i L)
  (fU:∀(s:aR)(cB:aS ay->aR->Prop)(aj:ay->aR->Prop),u t.length s.heap->(∀L R,rJ wr s.heap L->cB ae {s with heap:=L,toks:=R})->wpAny (model prog w) A (pyNext (.ref au)) cB aj s)
  (cO:∀{i:Y}{dm:gC}(x:aR)(e:Fz)(S cK:U _)(k6:aR->Prop)(eg:Unit->aR->Prop)(aE:ay->aR->Prop),t[i]?=J dm->u i x.heap->Le z e->cE S dm cK->(∀L,rJ wr x.heap L->u (i+1) L->SR B ρ (X.add (h::wr) L) e env xs k S L)->
   (∀L T,rJ wr x.heap L->u (i+1) L->bU x T->SR B ρ (X.add (h::wr) L) e env xs k cK T.heap->eg () T)->
   wpAny (model prog w) A (pyNext (.ref au)) (λfx cV=>match fx with|ae=>k6 cV|J c_=>wpAny (model prog w) A (letOwnedTupleGo iI (.ref au) c_) (λaV k8=>wpAny (model prog w) A (assign iI env c_) eg aE k8) aE cV) aE x)
  (l6:u 0 s.heap)(qd:∀b∈aK,b∈wr\/(z b).isSome=aa\/(B.bI.get? b).isSome=aa)(iX:h∉aK)(dJ:h∉wr)(gK:∀i a,u i a->∀b∈wr,(a.get? b).isSome=aa)(p9:dh t.length=aa)
  (p8:aN B ρ (X.add (h::wr) s.heap) z env xs k lv qc qe s.heap)(fy:s.heap.get? h=J (lo [] 0))
  (d:lg B prog w A ρ env xs k ifs dX cE t lv E aP)
  (gJ:∀m bK jj jW y c L R,bU s m->Le z bK->aN B ρ (X.add (h::wr) m.heap) bK env xs k aP jj jW m.heap->m.heap.get? h=J (lo y c)->aY ρ bK y E->rJ wr m.heap L->eu (.ok .next) {m with heap:=L,toks:=R}):
  codeAny (model prog w) A (.compLoop (.ListComp dX [⟨iI,vm,ifs,0⟩] tn s6) 0 (.ref au) (.ref h) env) eu s:=by
 obtain⟨aj,qb⟩:∃aj,aj=notedBy (model prog w) A env λn m=>eu (.error n) m:=⟨_,C⟩;refine Pz qb (NM B ρ env xs k X h wr u E s z (λt lv E=>lg B prog w A ρ env xs k ifs dX cE t lv E aP) t) ?_ _
  ⟨0,lv,z,qc,qe, [],0, [],E,C,bU.refl _,Le.refl _,p8,l6,mh _,fy, .nil,C,ek _,d⟩
 rintro bY x⟨i,S,e,b7,b_,y,c,cv,s_,F,aJ,v,aB,aO,c9,aW,ai,aD,aL,d⟩;have aU:∀{a:b8}{o qf},a.get? h=J o->u qf a->∀b∈h::wr,(a.get? b).isSome=aa:=λgv iK=>bl (cS gv) (gK _ _ iK)
 by_cases l:i<t.length
 .have dB:∀L,rJ wr x.heap L->u (i+1) L->SR B ρ (X.add (h::wr) L) e env xs k S L:=λL g H=>⟨gV,b7,b_,aB.turn (λb r o n=>g b o (λq=>r (dY _ q)) n) (aU (g h _ dJ aW) H)⟩;have dO:∀{L:b8}{f:aR}{p:Fz}{dS:U (AV O)}{ao ah},rJ wr x.heap L->u (i+1) L->Le e p->aN B ρ (X.add (h::wr) L) p env xs k dS ao ah f.heap->u (i+1) f.heap/\f.heap.get? h=J (lo y c):=λ{L f p dS ao ah}g H P G=>by
   refine⟨bW _ L _ H λb r o az=>?_,G.kept h _ ((qA (.head _)).trans (g h _ dJ aW))⟩
   by_cases q:b∈wr
   .exact G.kept b o ((qA (dY _ q)).trans az)
   .have cz:∀{j},x.heap.get? b=J j->f.heap.get? b=J j->f.heap.get? b=J o:=λn iz=>iz.trans ((g b _ q n).symm.trans az);rcases(qd b r).resolve_left q with q|q
    .obtain⟨j,Q⟩:=gn.mp q;exact cz (aB.bC b j (v b j Q)) (G.bC b j (P _ _ (v _ _ Q)))
    .obtain⟨j,Q⟩:=gn.mp q;exact cz (aB.base b j Q) (G.base b j Q)
  have d:=by
   rw [AA l]at d;exact d
  have d8:=cP l;cases d with
  |go aH bg kA bq k7=>
   refine cO x e S _ _ _ _ d8 aO v aH dB λL T g H bz aZ=>bg _ e T _ _ aZ λf p bD P G=>?_;rw [bB C];refine kA _ p f _ _ G λvn o7 eE p7 bA aC p_=>?_;obtain⟨_,qa,nM,aC⟩:=aC;obtain⟨nP,p6⟩:=dO g H (P.trans bA) aC;refine E9 (hsz:=(l_).trans ai.length▸bh (bh aL c9) (kj p9)) ⟨c,p6⟩ λd6 bM eL=>?_;obtain⟨eX,bM⟩:=bM;have eK:d6.get? h=J (lo (y++ [eE]) eX):=by rw [bM];simp [lo]
   have fa:=bW _ _ _ nP λb r o az=>(eL.2 b λq=>iX (q▸r)).trans az;exact⟨bY-1,(uK F l).1,i+1,_,o7,qa,nM,y++ [eE],eX,cv++ [_],_,(uK F l).2,(((aJ.trans bz).trans bD).trans p7).trans (cu _ _ C),(v.trans P).trans bA,aC.turn (h':=d6) (λb r o n=>(eL.2 b λq=>r (q▸ .head _)).trans n) (aU eK fa),fa,l,eK,(ai.mono (P.trans bA)).append (.one p_),(aD.trans (aQ _ k7)).trans (List.append_cons _ _ _),ic▸xG aL,bq⟩
  |skip aH bg bq=>
   refine cO x e S _ _ _ _ d8 aO v aH dB λL T g H bz aZ=>bg _ e T _ _ aZ λf p bD P G=>?_;rw [bF Ek];obtain⟨_,ao,ah,G⟩:=G;obtain⟨ff,bQ⟩:=dO g H P G;exact⟨bY-1,(uK F l).1,i+1,_,p,ao,ah,y,c,cv,_,(uK F l).2,(aJ.trans bz).trans bD,v.trans P,G.turn (λaV aV aV n=>n) (aU bQ ff),ff,l,bQ,ai.mono P,aD,ET aL,bq⟩
 .refine fU x _ _ ((fV c9 (nR l))▸aO) λL R g=>?_;obtain⟨rfl,rfl⟩:=(List.drop_eq_nil_of_le (nR l)▸d);exact gJ x e b7 b_ y c L R aJ v aB aW (aD.trans (rg _)▸ai) g
theorem PE{X:HB}{x h:ak}{O wr:U ak}{n:Y->ay->Prop}{u:Y->b8->Prop}(aL:gp env)
  (a:Walks prog w A x O wr j.length n u)(ah:∀i v,n i v->∃E,j[i]?=J E/\Den ρ f v E)(aB:u 0 s.heap)
  (aO:∀b∈O,b∈wr\/(f b).isSome=aa\/(B.bI.get? b).isSome=aa)(bW:h∉O)(bY:h∉wr)(F:∀i l,u i l->∀b∈wr,(l.get? b).isSome=aa)
  (aC:aH=aa->∀i(s:aR)(aK:U b9)(e:Y)(p:Pos)(v:ay)(Q:Unit->aR->Prop)(bq:ay->aR->Prop),u i s.heap->Q () s->wpAny (model prog w) A (letOwnedTupleGo (.Tuple aK e p) (.ref x) v) Q bq s)
  (bQ:(∃q p,iI= .Name q p)\/aH=aa/\∃d e p,iI= .Tuple d e p)(T:dh j.length=aa)
  (S:aN B ρ (X.add (h::wr) s.heap) f env xs k lv cE cz s.heap)(ai:s.heap.get? h=J (lo [] 0))
  (aj:vF B prog w A ρ env xs k iI ifs ao j lv au aP)
  (az:∀m P aD aE y aJ L R,bU s m->Le f P->aN B ρ (X.add (h::wr) m.heap) P env xs k aP aD aE m.heap->m.heap.get? h=J (lo y aJ)->aY ρ P y au->
   (∀b o,b∉wr->m.heap.get? b=J o->L.get? b=J o)->aU (.ok .next) {m with heap:=L,toks:=R})(G:X.lk= []):
  codeAny (model prog w) A (.compLoop (.ListComp ao [⟨iI,cO,ifs,0⟩] dm cB) 0 (.ref x) (.ref h) env) aU s:=
 Gg aL a.frame a.done (λ{i E}t aW cV c9 c_ aZ bg z bz bA bD S aV=>a.item i t _ _ (cw.mp z).1 bz λv L R bM H g=>by
  refine aG (ah i v bM) λcK bK b7=>?_;have r:=bD (X.add _ L) aW {t with heap:=L,toks:=R} v aZ bg G (S L g H) ((bf (z.symm.trans bK)).symm▸b7.mono bA) λb_ cv c=>aV L b_ g H (bU.trans (cu L R C) cv) c;rcases bQ with⟨q,p,rfl⟩|⟨rfl,d,e,p,rfl⟩
  .exact bP r
  .exact aC C _ _ d e p v _ _ H r) aB aO bW bY F T S ai aj az
theorem aN.Ie(S:aN B ρ hB f env xs k lv H R h)(F:∀b∈wr,eT B hB f env xs R b)(hs:∀b o,b∉wr->h.get? b=J o->L.get? b=J o):aN B ρ hB f env xs k lv H R L:=by
 have v:∀{b},(∀q:eT B hB f env xs R b,False)->b∉wr:=λz t=>z (F _ t);have G:bN B.bI L:=λb o e=>hs b o (v λq=>aT q.h0 e) (S.base b o e)
 exact{S with
  base:=G
  kept:=λb o e=>hs b o ((λe=>v λq=>aT q.hb e) e) (S.kept b o e)
  bC:=λb o e=>hs b o ((λe=>v λq=>aT q.fz e) e) (S.bC b o e)
  ns:=zD S.ns λo=>hs _ o (v λq=>q.loc C)
  vars:=λi x a j d=>by
   obtain⟨s,r,u⟩:=S.vars i x a j d
   refine⟨s,r.keep λc Q y o e=>hs c o (v λq=>q.cell i x j Q y) e,u.mono (Le.refl _) G λb t o e=>hs b o (v λq=>q.fp i (cw.mp j).1 t) e⟩
  lock:=λp n x j=>(S.lock p n x j).keep λc Q y o e=>hs c o (v λq=>q.cell p.1 x j Q y) e
  inv:=B.e8 S.inv λX l o e=>hs X o (v λq=>q.tab l) e}
end
section
variable{os:U af}
theorem Gf(G:mu f os ah)(co:iB env n ah v)
  (aZ:pq bM B i X F ρ env n az r h u aK)(aE:∀dX∈v,∀l,u[dX]?≠J (.own l))
  (bg:∀a,vF B i X F ρ (ig f a env) (os++ah) os.length H aj aJ aK (lJ os v u) aW bY)
  (d6:∀x,foldedSetIterable h env x=pure x)(eE:(∃x p,H= .Name x p)\/(bM=aa/\∃d cO p,H= .Tuple d cO p))(dS:dh aK.length=aa)
  (S:SR B ρ A aL env n az r k.heap)
  (c_:∀s' P(D a:ak)y j s R bz,bU k s'->Le aL P->gp env->aN B ρ A P env n az (lR os v u bY) s R s'.heap->eT B A P env n R D->eT B A P env n R a->D≠a->
   s'.heap.get? D=J (lo y j)->aY ρ P y aW->s'.heap.Ns a bz->compPost (model i X) F aV z w (.ref D) a (.ok .next) s'):
  wpAny (model i X) F (comprehension (.ListComp aJ [⟨H,h,aj,0⟩] f dB) f env jj (newList []) aA (eval h env) z) w aV k:=by
 have b7:∀p∈f.names,p.2= .free->(env.cells.lookup p.1).isSome=aa:=by
  intro p cv cB;refine cps λL T=>?_;obtain⟨E,s,R,S⟩:=S;have ai:=G.free p cv cB;obtain⟨m,ao,e⟩:=ZW ai;have bq:m<v.length:=by rw [co.len];exact ao
  have au:=co.at_ m _ p.1 (cP bq) (by rw [cP ao,e]);have bA:v[m]<r.length:=by rw [S.len];exact(cw.mp au).1
  obtain⟨gC,bK,_⟩:=S.vars _ _ _ au (cP bA);refine T ?_;rcases bK with⟨q,_⟩|⟨_,gK,bW,_⟩
  .exact cg q (co.nl _ ai)
  .exact cS bW
 refine aaW C d6 (Bm b7) G.kind G.names (aZ A aL k _ _ S λc iz b_ iK iX gv gJ s R cE cK E aB W cV c9 aC dm aD dJ own=>(Fb (I0 G.kind ?_)));have O:c.heap.objs.size<(c.heap.push (lo [] 0)).objs.size:=by rw [jX];exact cY _
 obtain⟨bD,dO⟩:=KX (ol:=lo [] 0) G co E aB aC aE C C C C;have bQ:bN c.heap (pushCells ((c.heap.push (lo [] 0)).push {cls:= .type "dict",data:= .dict #[]}) f.names):=λb o e=>vD _ _ b o (eF _ (eF _ e));have Q:=λb t=>aD b (W.sub b t);have aH:=W.frame 0 _ _ c9 λb L o e=>bQ b o e;have aU:codeAny (model i X) F (.compLoop (.ListComp aJ [⟨H,h,aj,0⟩] f dB) 0 (.ref b_) (.ref c.heap.objs.size) (ig f (c.heap.push (lo [] 0)).objs.size env))
   (compPost (model i X) F aV z w (.ref c.heap.objs.size) (c.heap.push (lo [] 0)).objs.size) {c with heap:=pushCells ((c.heap.push (lo [] 0)).push {cls:= .type "dict",data:= .dict #[]}) f.names}:=by
  refine PE bD W cV aH dm (λq=>(λb t=>fW (aD b t)) _ q C) (λq=>nj _ (Q _ q)) dJ own eE dS dO ?_ (bg _) ?_ C
  .exact vD _ _ _ _ (eF _ (eY _ C))
  .intro s' P d8 gV y j eg eu q l aO eK eL g;obtain⟨fa,ff,eX,fy⟩:=KW G co aB aC aE O l aO;refine c_ _ P _ _ y j _ _ d8 ((cE.trans q).trans (cu eg eu C)) (cK.trans l) E (fa.Ie fy g) ff eX (fW O) (g _ _ (λq=>nj _ (Q _ q)) eK) eL (cps λL T=>?_);obtain⟨o,d,fx,fU,cz⟩:=aO.ns;exact T ((kP o d fx (g _ o (λq=>nj _ (rm O (Q _ q))) fU) cz))
 exact aaS aU (W.self 0 _ _ _ aH aU)
theorem Qm(G:mu f os o)(co:iB env n o v)
  (b:pq t w i X F ρ env n q ah h u j)(uw:∀m∈v,∀l,u[m]?≠J (.own l))
  (aL:∀a,vF w i X F ρ (ig f a env) (os++o) os.length H s y j (lJ os v u) c i_)
  (P:∀x,foldedSetIterable h env x=pure x)(A:(∃x p,H= .Name x p)\/(t=aa/\∃d B p,H= .Tuple d B p))(g:dh j.length=aa)(Q:lR os v u i_=z):
  rH w i X F ρ env n q ah (.ListComp y [⟨H,h,s,0⟩] f bg) z c:=by
 intro bq aO aV aW aU L O;rw [eval_ListComp];refine Gf G co b uw aL P A g L λaZ T k a ai aj E R ao au l S aB aC aD aE az aJ aH=>(aM ao aH (λaK r=>?_));have e:=aB.gR aD r;rw [Q]at e;exact O _ T k ai aj E R (au.trans (cu aK _ C)) l S e aC ((r.2 k aE).trans az) aJ
end
section
variable{B:bV O}{prog:ck}{w:b4}{A:cZ}{ρ:Mk}{env:cW}{xs os:U af}{k n:Y}{lv cU:U (AV O)}{hB:HB}
theorem dZ.det(a:dZ env H e b x)(g:dZ env H e b y):x=y:=by
 rcases a with⟨R,E⟩|⟨R,c,E,S⟩
 .rcases g with⟨s,i⟩|⟨s,d,i,u⟩
  .rw [E,i]
  .rw [R]at s;rcases s with P|⟨P,_⟩<;>exact nc mj (bf P) C
 .rcases g with⟨s,i⟩|⟨s,d,i,u⟩
  .rw [s]at R;rcases R with P|⟨P,_⟩<;>exact nc mj (bf P) C
  .rw [E]at i;obtain rfl:=bf i;refine aG S λo A r=>aG u λl h X=>?_;rw [A]at h;obtain rfl:=bf h;rw [r]at X;exact Zu X
noncomputable def HB.lock(hB:HB)(i:Y)(v:ay):HB:={hB with lk:=(i,v)::hB.lk}
theorem aN.se(S:aN B ρ hB f env xs k lv H R h)(j:xs[i]?=J x)(r:dZ env H h x (J v)):aN B ρ (hB.lock i v) f env xs k lv H R h:=by
 have a:∀p∈(hB.lock i v).lk,∀O,xs[p.1]?=J O->dZ env H h O (J p.2):=λp e O A=>by
  rcases cC.mp e with rfl|e
  .rw [j]at A;exact bf A▸r
  .exact S.lock p e O A
 exact{S with lock:=a}
theorem aN.unlock(S:aN B ρ (hB.lock i v) f env xs k lv H R h):aN B ρ hB f env xs k lv H R h:=
 {S with lock:=λp e O A=>S.lock p (dY _ e) O A}
theorem aN.locked(S:aN B ρ (hB.lock i v) f env xs k lv H R h)(j:xs[i]?=J x):dZ env H h x (J v):=S.lock (i,v) ee x j
theorem aN.zQ(S:aN B ρ hB f env xs k lv H R h)(j:xs[i]?=J x)(r:dZ env H h x (J (.ref a)))(n:R i= [a])
  (P:gk a h L)(v:L.get? a=J (lo y e))(d:aY ρ f y l):aN B ρ hB f env xs k (lv.set i (.own l)) H (bT R i [a]) L:=by
 refine S.Ls j (λb t o s=>?_) r ⟨a,y,e,C,v,d,C⟩ λb t=> .inl (by rw [n];exact t);rw [n]at t;exact(P.2 b λq=>t (by simp [q])).trans s
theorem nZ.pP{a:ak}(F:eT B hB f env xs R a):nZ B hB f env xs R i [a]where
 a:=λb t=>(cI.mp t).symm▸((jt F.hb F.fz F.loc F.cell))
 b:=λm w G b t=>by rw [cI.mp t];exact F.fp m G
 c:=λX l q=>F.tab ((cI.mp q)▸l)
theorem GO(j:xs[i]?=J x)(l:i<k)(g:env.kindOf x=J .local\/env.kindOf x=J .cell)(n:cy B prog w A ρ env xs k lv e u L)
  (P:swapsWith e (J (.Name x h)) p.line env=pure aA):gF B prog w A ρ env xs k lv (.Assign [.Name x h] e p) (u.set i (.t L)) .next:=by
 intro hB f s Q G a S O;refine kF (n hB f s _ _ S λc b v o X t d=>?_) P;obtain⟨E,H,R,t⟩:=t;exact gc (av:= .t L) E a t j l g ⟨C,v,C,d⟩ .nil λm q r z=>O m b .next (o.trans r) X ⟨E,q,_,z⟩ trivial
theorem Q5(a:xs[i]?=J x)(l:i<k)(g:env.kindOf x=J .local\/env.kindOf x=J .cell)(h:rH B prog w A ρ env xs k lv e u j)
  (P:swapsWith e (J (.Name x b)) p.line env=pure aA):gF B prog w A ρ env xs k lv (.Assign [.Name x b] e p) (u.set i (.own j)) .next:=by
 intro hB f s Q G n S O;exact kF (h hB f s _ _ S λah t o y q T R v X E d F m c=>(gc (av:= .own j) E n d a l g ⟨o,y,q,C,m,c,C⟩ (.pP F) λr H L z=>O r t .next (v.trans L) X ⟨E,H,_,z⟩ trivial)) P
theorem Q0(ai:mu f os cs)(ao:iB env xs cs v)
  (aB:pq Q B prog w A ρ env xs k lv b u X)(aU:∀i∈v,∀q,u[i]?≠J (.own q))
  (aJ:∀a,vF B prog w A ρ (ig f a env) (os++cs) os.length H j y X (lJ os v u) ys aE)
  (aH:∀x,foldedSetIterable b env x=pure x)(aK:(∃x p,H= .Name x p)\/(Q=aa/\∃d aW p,H= .Tuple d aW p))(aZ:dh X.length=aa)(ho:lR os v u aE=bg)
  (bq:xs[i]?=J x)(bK:i<k)(bY:env.kindOf x=J .local)
  (bM:swapsWith (.ListComp y [⟨H,b,j,0⟩] f pos) (J (.Name x px)) p.line env=pure aa):
  gF B prog w A ρ env xs k lv (.Assign [.Name x px] (.ListComp y [⟨H,b,j,0⟩] f pos) p) (bg.set i (.own ys)) .next:=by
 intro hB cE s cK cV G P ah;rw [exec_Assign_Name_used _ _ _ _ bM];refine aF (nk (aF ?_));show wpAny _ A (do let _<-comprehension (.ListComp y [⟨H,b,j,0⟩] f pos) f env _ (newList []) aA (eval b env) (J (assign (.Name x px) env))) _ _ s;refine aF (j3 (Gf ai ao aB aU aJ aH aK aZ P λl aj e a au az cO R aC aD q E z fD n S aL aO r=>?_) (λh l O=>bP (bP O)) λh h t=>t);rw [ho]at z;have g:(l.heap.get? a).isSome=aa:=by refine i8 r λo h h ho h=>?_;rw [ho];rfl
 refine qs (gc (hB:=hB.add [a] l.heap) (av:= .own ys) E G (z.enter (λc hb=>by rw [cI.mp hb];exact n) (λc hb=>(cI.mp hb).symm▸g)) bq bK (.inl bY) ⟨e,au,az,C,aL,aO,C⟩ (.pP ({fD with hb:=by rw [kL (by simpa using S)];exact fD.hb})) λbz bA bD F=>?_);have aV:bz.heap.get? a=l.heap.get? a:=by
  refine bZ (gn.mp g) λo ho=>?_;rw [ho];exact F.kept a o (by rw [qA (.head _)];exact ho)
 have bQ:=F.leave (λh h h t=>t) (λc hb=>(aQ _ (cI.mp hb)).trans n.hb) z.Ib;have bW:∀m,m<xs.length->a∉bT R i [e] m:=λm b7 L=>by
  by_cases cv:m=i
  .subst cv;rw [show bT R m [e] m= [e]from bB C]at L;exact S (cI.mp L).symm
  .rw [show bT R i [e] m=R m from bF ‹_›]at L;exact n.fp m b7 L
 refine(aM aC ?_ (λb_ cz=>?_))
 .exact i8 r λo d cB ho T=>(kP o d cB (aV.trans ho) T)
 .exact ah _ aj .next ((aD.trans bD).trans (cu b_ _ C)) q ⟨E,bA,_,bQ.gR ({n with fp:=bW}) cz⟩ trivial
theorem Q3(R:fQ B prog w A ρ env xs k lv c u b)(E:ez B prog w A ρ env xs k u (if b then m else i) cU j):gF B prog w A ρ env xs k lv (.If c m i p) cU j:=by
 intro hB f s Q G a S O;refine AW (R hB f s _ _ S λe h o X t=>?_);have:=E hB h e Q G a t λx q z r l F d=>O x q z (o.trans r) (X.trans l) F d;cases b
 .exact this
 .exact this
theorem Q6(h:cy B prog w A ρ env xs k lv e u L):gF B prog w A ρ env xs k lv (.Return (J e) p) u (.ret L):=by
 intro hB f s Q G i S O;exact Ny (h hB f s _ _ S λc a v o X t d=>O c a (.ret v) o X t d)
theorem QV(h:fQ B prog w A ρ env xs k lv c u aa):gF B prog w A ρ env xs k lv (.Assert c i p) u .next:=by
 intro hB f s Q G x S O;exact wpAny_Assert_holds (h hB f s _ _ S λa e o X t=>⟨C,O a e .next o X t trivial⟩)
theorem QZ:gF B prog w A ρ env xs k lv (.Break p) lv .brk:=λhB f s Q G a S O=>wpAny_Break (O s f .brk (bU.refl s) (Le.refl _) S trivial)
theorem Q1:gF B prog w A ρ env xs k lv (.Continue p) lv .cont:=λhB f s Q G a S O=>wpAny_Continue (O s f .cont (bU.refl s) (Le.refl _) S trivial)
inductive j8(B:bV O)(prog:ck)(w:b4)(A:cZ)(ρ:Mk)(env:cW)(xs:U af)(k:Y)(c:b9)(body orelse:U cf)(lv lv':U (AV O))(yC:eS)(X:U (AV O)->Prop):Prop
 |stop{aP:U (AV O)}(hc:fQ B prog w A ρ env xs k lv c aP aA)(ho:ez B prog w A ρ env xs k aP orelse lv' yC)
 |go{aP cU:U (AV O)}{fl:eS}(hc:fQ B prog w A ρ env xs k lv c aP aa)(hb:ez B prog w A ρ env xs k aP body cU fl)(hf:fl= .next\/fl= .cont)(h:X cU)
 |out{aP:U (AV O)}{fl:eS}(hc:fQ B prog w A ρ env xs k lv c aP aa)(hb:ez B prog w A ρ env xs k aP body lv' fl)(o:Out fl yC)
noncomputable def jK(B:bV O)(prog:ck)(w:b4)(A:cZ)(ρ:Mk)(env:cW)(xs:U af)(k:Y)(c:b9)(m i:U cf):Y->U (AV O)->U (AV O)->eS->Prop
 |0,lv,S,j=>j8 B prog w A ρ env xs k c m i lv S j λh=>False
 |n+1,lv,S,j=>j8 B prog w A ρ env xs k c m i lv S j λl=>jK B prog w A ρ env xs k c m i n l S j
theorem jK.stop(y:fQ B prog w A ρ env xs k lv c u aA)(Q:ez B prog w A ρ env xs k u i cU j):jK B prog w A ρ env xs k c m i n lv cU j:=match n with|0=>j8.stop y Q|n+1=>j8.stop y Q
theorem jK.go(y:fQ B prog w A ρ env xs k lv c aP aa)(t:ez B prog w A ρ env xs k aP m cU j)(h:j= .next\/j= .cont)(e:jK B prog w A ρ env xs k c m i n cU v x):jK B prog w A ρ env xs k c m i (n+1) lv v x:=j8.go y t h e
theorem jK.brk(y:fQ B prog w A ρ env xs k lv c u aa)(t:ez B prog w A ρ env xs k u m cU .brk):jK B prog w A ρ env xs k c m i n lv cU .next:=match n with|0=>j8.out y t .brk|n+1=>j8.out y t .brk
theorem jK.ret(y:fQ B prog w A ρ env xs k lv c u aa)(t:ez B prog w A ρ env xs k u m cU (.ret r)):jK B prog w A ρ env xs k c m i n lv cU (.ret r):=match n with|0=>j8.out y t .ret|n+1=>j8.out y t .ret
theorem GZ(x:hB.lk= [])(S:SR B ρ hB f env xs k lv s.heap)(y:fQ B prog w A ρ env xs k lv c u aa)(t:ez B prog w A ρ env xs k u h cU j)
  (e:∀s,wpAny (model prog w) A (execs h env) Q v s->i aa s)(a:∀m P z,bU s m->Le f P->SR B ρ hB P env xs k cU m.heap->FD ρ P z j->Q z m):wpAny (model prog w) A (PySem.isTrue c env (eval c env)) i G s:=
 y hB f s _ _ S λb q r l F=>e _ (t hB q b _ _ x F λT n z g p o d=>a T n z (r.trans g) (l.trans p) o d)
inductive Fs(B:bV O)(prog:ck)(w:b4)(A:cZ)(ρ:Mk)(env:cW)(xs:U af)(k:Y)(c:b9)(body orelse:U cf)(cU:U (AV O))(fl:eS)(hB:HB)(fz:Fz)(s:aR)(n:Y)(s₁:aR):Prop
 |mk(lv':U (AV O))(fH:Fz)(q:bU s s₁)(l:Le fz fH)(S:SR B ρ hB fH env xs k lv' s₁.heap)(W:jK B prog w A ρ env xs k c body orelse n lv' cU fl)
theorem j8.imp(h:j8 B prog w A ρ env xs k c m i lv cU j X)(z:∀l,X l->H l):j8 B prog w A ρ env xs k c m i lv cU j H:=by
 cases h with
 |stop a b=>exact .stop a b
 |go a b e h=>exact .go a b e (z _ h)
 |out a b o=>exact .out a b o
theorem jK.inv(h:jK B prog w A ρ env xs k c m i n lv cU j):j8 B prog w A ρ env xs k c m i lv cU j λl=>∃H,H<n/\jK B prog w A ρ env xs k c m i H l cU j:=by
 cases n with
 |zero=>exact j8.imp h λe=>False.elim
 |succ n=>exact j8.imp h λe q=>(aM n (cY _) q)
theorem Q8(h:jK B prog w A ρ env xs k c m l n lv cU j):gF B prog w A ρ env xs k lv (.While c m l aj) cU j:=by
 intro hB f E au ai a R O;refine wpAny_While (codeAny_whileLoop (Fs B prog w A ρ env xs k c m l cU j hB f E) ?_ n ⟨lv,f,bU.refl _,Le.refl _,R,h⟩);rintro n S⟨ao,Q,o,X,t,L⟩;cases L.inv with
 |stop y G=>
  exact y hB Q S _ _ t λv u r H F=>G hB u v _ _ a F λT e z g p b d=>O T e z ((o.trans r).trans g) ((X.trans H).trans p) b d
 |go y x P i=>
  refine GZ a t y x (λs h=>h) λT e z g p b d=>?_;apply d.go P<;>exact(i.imp λs i=>i.imp_right (Fs.mk _ e (o.trans g) (X.trans p) b))
 |out y x ah=>
  refine GZ a t y x (λs h=>h) λT e z g p b d=>?_;apply ah.fin d ?_ ?_ (λq=>O T e q (o.trans g) (X.trans p) b)
  .exact id
  .exactλs=>id
end
section
set_option tactic.hygienic true
section
variable{prog:ck}{w:b4}
theorem TA(y:U ay)(u m:Y)(v:ay):∃f,kE (·.setIfInBounds m v) (lo y u)=lo (y.set m v) f:=⟨_,by simp [kE,lo];rfl⟩
theorem set_list(B:s.heap.get? l=J (lo y u))(R:-(2^62)<i)(E:i<2^62)(G:seqIndex? i y.length=J m)
  (O:∀L f,L.get? l=J (lo (y.set m v) f)->gk l s.heap L->Q () {s with heap:=L}):wpAny (model prog w) F (setItem (.ref l) (.int i b) v) Q n s:=by
 obtain⟨f,k⟩:=TA y u m v;have e:s.heap.IsList l y.toArray:=(i12 _ B C ⟨u,C⟩);have q:(lo y u).data= .seq y.toArray u:=C;have h:=O (s.heap.update l (kE (·.setIfInBounds m v))) f (by rw [nQ _ B (C),k]) (nf ..);unfold setItem
 try with_reducible refine gf ?_
 first|refine aF (bP ?_)|skip
 refine aF (wpAny_sequenceKey e.typeIs (C) (aF (aaV e.typeIs slot_list_setitem
  (wpAny_call_entry slot_list_setitem e.typeIs entry_list_setitem ?_ (args_list_setitem _ _ _)))))
 show wpAny _ _ (Builtin.List.listSubscript? (.int i b)>>=_) _ _ s;rcases KL G with⟨T,rfl,x⟩|⟨T,X,rfl,x⟩
 .refine aF (aaY (fitsIndex_of T (qh E (by decide))) ?_);clear R E;obtain⟨m,rfl⟩:=Int.eq_ofNat_of_zero_le T;have z:y.toArray[m]?=J y[m]:=by simp
  refine aF (aF (wpAny_seqItemAt B q (bP (z▸(aF (wpAny_setSeqItemAt B q ?_))))))
  first
   |exact aF (bP (bP (aM (.none) C (bP h))))
   |exact bP ⟨.none,C,bP h⟩
 .refine aF (aaY (fitsIndex_neg T (xr (by decide) (tC R))) ?_);clear R E;obtain⟨m,rfl⟩:∃m:Y,i=MK m:=by
   cases i with
   |ofNat u=>exact cg T (xt.mpr (vq u))
   |negSucc u=>exact⟨u,C⟩
  refine aF (aF (aF (AY B q (bP (bP ?_)))));have a:=by simpa using G
  have z:y.toArray[(MK m+↑y.length).toNat]?=J y[(MK m+↑y.length).toNat]:=by simp
  refine a▸?_;simp only [xH,z,AP];refine aF (wpAny_setSeqItemAt B q ?_)
  first
   |exact aF (bP (bP (aM (.none) C (bP h))))
   |exact bP ⟨.none,C,bP h⟩
theorem SJ:typeLookup (.type "list") (dunderI "add")=pure (J (.builtin "list.__iadd__")):=Zz.lookup
theorem SI{y T:U ay}{n H:Y}(B:s.heap.get? l=J (lo y n))(t:s.heap.get? b=J (lo T H))(q:y.length+T.length<=2000000)
  (O:∀L f,L.get? l=J (lo (y++T) f)->gk l s.heap L->Q (.ref l) {s with heap:=L}):wpAny (model prog w) i (inplaceOp .Add (.ref l) (.ref b)) Q G s:=by
 refine gf ?_;have m:=by
  show(typeLookup (.type "list") (dunderI "add")>>=λu=>pure (u.isSome&&!isSeqSlot u))=pure aA;show(pure (aa&&!isSeqSlot (J (.builtin "list.__iadd__"))):Sem bu)=_;exact(show isSeqSlot (J (.builtin "list.__iadd__"))=aa from by decide)▸C
 have h:s.TypeIs (.ref l) "list":=(aM _ B C);refine aF (NH h (aF (iL m (aF (wpAny_binaryOp1_none h ((aM _ t C)) noFill_list_add (aF (iL (PySem.seqSlot_of SJ (C)) ?_)))))));have E:(2000000:Y)<=sizeLine:=by decide
 have r:y.toArray.size=y.length:=by simp
 have P:T.toArray.size=T.length:=by simp
 have e:¬(!y.toArray.isEmpty&&Au (y.toArray.size+T.toArray.size))=aa:=by
  have:Au (y.toArray.size+T.toArray.size)=aA:=by
   unfold Au;simp only [decide_eq_false_iff_not];exactλA=>jx (ki 0 (.n 1) (.n 0) (.a (.v 0) (.v 1)) (.n 2000000) (.n 2000000) (.v 2) (.a (.v 2) (.n 1)) (.a (.v 0) (.v 1)) C [_,_,_] q E A)
  refine this▸?_;simp
 have a:kE (λx=>x++T.toArray) (lo y n)=lo (y++T) (if(y.toArray++T.toArray).size==y.toArray.size then n else n+1):=by simp [kE,lo]
 refine aF (xO (xJ Zz h F.entry_list_iadd (F.args_list_iadd_2 _ _) (AutoSeq1.list___iadd___list_list_0 l y.toArray n b T.toArray H e (by rw [r];exact cF 0 (.v 0) (.v 2) (.a (.v 0) (.v 1)) (.n 2000000) (.n 2000000) (.v 2) C [_,_,_] q E) (by exact r.symm▸P.symm▸(cF 0 (.a (.v 0) (.v 1)) (.a (.v 2) (.n 1)) (.a (.v 0) (.v 1)) (.n 2000000) (.n 2000000) (.v 2) C [_,_,_] q E))) (cR B t (O _ (if(y.toArray++T.toArray).size==y.toArray.size then n else n+1) ?_ (nf ..)))));rw [nQ _ B (by exact C),a]
end
noncomputable def FP:T->T->aS T
 | .int a, .int b=>J (.int (a+b))
 | .str a, .str b=>if dh (a.length+b.length)then J (.str (a++b))else ae
 |_,_=>ae
noncomputable def lC(P:Operator)(x O:T):aS T:=match P with
 | .Add=>FP x O
 | .Sub=>qS (λa b=>J (.int (a-b))) x O
 | .Mult=>qS (λa b=>if eA a&&eA b then J (.int (a*b))else ae) x O
 |_=>ae
section
variable{prog:ck}{w:b4}
theorem OE(j:Den B f k n)(i:Den B f t d)(h:FP n d=J L):PO e (model prog w) F B (inplaceOp .Add k t) f L:=by
 cases n with
 |int a=>cases d with
  |int b=>
   obtain rfl:=bf h;exact j.gh (P:=λv=>PO e (model prog w) F B (inplaceOp .Add v t) f _) λE=>i.gh (P:=λv=>PO e (model prog w) F B (inplaceOp .Add (.int a E) v) f _) λX=>PO.give λs Q G r O=>P.iadd_int (O _ _ (.int _ _))
  |_=>exact aT C h
 |str a=>cases d with
  |str b=>
   refine bR (oN h) λx A=>?_;subst A;exact j.g_ (P:=λv=>PO e (model prog w) F B (inplaceOp .Add v t) f _) λE=>i.g_ (P:=λv=>PO e (model prog w) F B (inplaceOp .Add (.str ⟨a.toArray⟩ E) v) f _) λX=>
    PO.give λs Q G r O=>SB.iadd (λX R=>z6 a b▸O _ _ (.str _ _)) ((str_len a).symm▸(str_len b).symm▸kj x)
  |_=>exact aT C h
 |_=>exact aT C h
theorem yf(j:Den B f k n)(i:Den B f t d)(h:lC a n d=J L):PO l (model prog w) F B (inplaceOp a k t) f L:=by
 cases a with
 |Add=>exact OE j i h
 |Sub=>exact r_ j i h λx b E X h=>by obtain rfl:=bf h;exact PO.give λs Q G r O=>P.isub_int (O _ _ (.int _ _))
 |Mult=>
  exact r_ j i h λx b E X h=>by
   refine bR (oN h) λe A=>?_;subst A;have e:=ew.mp e;exact PO.give λs Q G r O=>P.imul_int (O _ _ (.int _ _)) (IW e.1 e.2)
 |_=>exact aT C h
theorem QW(j:n[i]?=J x)(l:i<k)(o:env.kindOf x=J .local\/env.kindOf x=J .cell)(B:g[i]?=J (.t q))(h:cy ah prog w A ρ env n k g e u d)
  (BU:lC P q d=J L):gF ah prog w A ρ env n k g (.AugAssign (.Name x aJ) P e au) (u.set i (.t L)) .next:=by
 intro b f s aD az t S O;have p:=S;obtain⟨E,aW,aZ,y⟩:=S;obtain⟨aB,r,aE,aH,rfl,a⟩:=y.vars i x _ j B;refine aaU (eH E y.ns r (h b f s _ _ p λaK aL aV v X c H=>(cy.uQ v X c (yf (a.mono X) H BU) λaC T R Q m F ai=>?_)));obtain⟨_,aO,aU,F⟩:=F;exact gc (av:= .t L) E t F j l o ⟨C,R,C,ai⟩ .nil λG aj ao z=>O G T .next (Q.trans ao) m ⟨E,aj,_,z⟩ trivial
theorem nZ.self(S:aN B ρ A f env xs k g H R h)(z:i<xs.length)(n:R i=O):nZ B A f env xs R i O where
 a:=λb t=>S.fp i z b (by rw [n];exact t)
 b:=λm p G b t L=>S.apart i m z G (jk p) b (by rw [n];exact t) L
 c:=λX l q=>(S.tab X l).2.2.2.2 i z (by rw [n];exact q)
theorem QX(j:n[i]?=J x)(p:i<k)(ah:env.kindOf x=J .local\/env.kindOf x=J .cell)(ao:g[i]?=J (.own bW))(b:cy l prog w aB B env n k g L u (.list ts))
  (au:u[i]?=J (.own R))(ai:dh R.length=aa)(aC:dh ts.length=aa):gF l prog w aB B env n k g (.AugAssign (.Name x cz) .Add L b_) (u.set i (.own (R++ts))) .next:=by
 intro A f o aL bM v S O;obtain⟨E,H,X,y⟩:=S;obtain⟨bz,r,a,bY,b7,rfl,aO,aZ,bg⟩:=y.vars i x _ j ao;refine aaU (eH E y.ns r (b (A.lock i (.ref a)) f o _ _ ⟨E,H,X,y.se j r⟩ λbq T bK Q G t s=>?_));obtain⟨_,cv,cB,t⟩:=t;obtain⟨cE,d,aU,aV,aW,rfl,aj,c,P⟩:=t.vars i x _ j au;obtain rfl:=jZ (bf ((t.locked j).det d));have t:=t.unlock;obtain⟨az,bA,bD,m,h,rfl⟩:=s.inv;have bQ:az≠a:=λq=>by
  have:=(t.fp i (cw.mp j).1 a (by rw [P];exact .head _)).2.1;rw [<-q]at this;exact aT this m
 refine SI aj (t.bC _ _ m) (pO 0 (.a (.v 0) (.v 2)) (.n 2000000) (.v 0) (.v 1) (.v 2) (.v 3) (.v 1) (.n 1000000) (.v 3) (.n 1000000) C [_,_,_,_] ((c4 (c.length))) ((c4 (h.length))) (of_decide_eq_true ai) (of_decide_eq_true aC)) λaD aE e aJ=>?_;have F:=t.zQ j d P aJ e (c.append h);refine gc (av:= .own (R++ts)) E v F j p ah ⟨a,_,aE,C,e,c.append h,C⟩ (nZ.self F ((cw.mp j).1) (by simp [bT])) λaH aK q z=>?_;rw [List.set_set]at z;exact O aH T .next ((Q.trans (cu aD _ C)).trans q) G ⟨E,aK,_,z⟩ trivial
end
end
section
variable{B:bV O}{prog:ck}{w:b4}{A:cZ}{ρ:Mk}{env:cW}{xs:U af}{lv cU:U (AV O)}{e:b9}{l':U T}{i:Y}{τ ta:T}
theorem QU(j:xs[i]?=J x)(aE:lv[i]?=J (.own b7))(X:(x==("__debug__"))=aA)(ai:cy B prog w A ρ env xs aj lv e u τ)(f:u[i]?=J (.own l'))(P:∀x p,e≠ .Starred x p)
  (ah:(m.endLine==b.line)=aa)(au:attributeBase (.Name x h) "append" env (eval (.Name x h) env)=eval (.Name x h) env)(aH:dh l'.length=aa)
  (aK:swapsWith (.Call (.Attribute (.Name x h) "append" m) [e] [] b) ae aL.line env=pure aA):
  gF B prog w A ρ env xs aj lv (.Expr (.Call (.Attribute (.Name x h) "append" m) [e] [] b) aL) (u.set i (.own (l'++ [τ]))) .next:=by
 intro bY b_ cK cO bD cB S O;refine cps λ_ q=>?_;obtain⟨E,g,R,y⟩:=S;obtain⟨cv,r,Q,G,cz,rfl,a,c_,bQ⟩:=y.vars i x _ j aE;refine q ?_;have s:∀l∈ [e],∀x p,l≠ .Starred x p:=λl ao=>by rw [cI.mp ao];exact P
 have k:=jS (pos:=b) (env:=env) [e] s;refine rB (qq au ?_ ah MB MC Ep (eP (eH E y.ns r ?_) X)) (by unfold interactive;exact E.kind.symm▸C) aK
 .rw [qg,qg];refine⟨⟨?_,C⟩,C⟩;simpa using k
 refine(cR (aM _ a C) (λcE az=>by obtain rfl:=jZ az;exact(aM _ a C)) (nS k (jm s (pH ai kM P) ⟨E,g,R,y.se j r⟩ λbM aB bW o aD t z=>?_)));obtain⟨_,aJ,cV,t⟩:=t;obtain⟨c9,d,bK,T,aO,rfl,aC,c,aV⟩:=t.vars i x _ j f;obtain rfl:=jZ (bf ((t.locked j).det d));have t:=t.unlock;obtain⟨v,G,rfl,aW,z⟩:=z.iO (P:=λaZ=>∃v T,aZ=v::T/\Den _ _ v _/\aY _ _ T _) λv T x aU=>⟨v,T,C,x,aU⟩;cases z;rename_i v;have bq:T.toArray.size<=sizeLine:=by simpa [c.length]using kj aH
 refine E9 (hsz:=bq) ⟨aO,aC⟩ λL H bg=>bZ H λbz H=>?_;have bA:L.get? Q=J (lo (T++ [v]) bz):=by rw [H];simp [lo]
 have n:=t.zQ j d aV bg bA (c.append (.one aW));exact O _ aB .next (o.trans (cu L _ C)) aD ⟨E,aJ,_,n⟩ trivial
theorem WB(S:aN B ρ b f env xs g lv H R s.heap)(j:xs[i]?=J t)(r:dZ env H s.heap t (J (.ref a)))(c:R i= [a])
  (P:s.heap.get? a=J (lo h ai))(x:aY ρ f h l)(k:iP o=aa)(G:seqIndex? o l.length=J m)(q:Den ρ f v τ)
  (O:∀e u n,bU s e->aN B ρ b f env xs g (lv.set i (.own (l.set m τ))) u n e.heap->Q () e):wpAny (model prog w) A (setItem (.ref a) (.int o ah) v) Q ao s:=by
 refine bR (ew.mp k) λp E=>set_list P (of_decide_eq_true p) (of_decide_eq_true E) (by rw [x.length];exact G) λL aj y F=>O _ H _ (cu L _ C) (S.zQ j r c F y ?_);have:∀{h:U ay}{l:U T}(m:Y),aY ρ f h l->aY ρ f (h.set m v) (l.set m τ):=by
  intro h l m d
  induction m generalizing h l with
  |zero=>cases d with
   |nil=>exact .nil
   |cons d z=>exact .cons q z
  |succ m X=>cases d with
   |nil=>exact .nil
   |cons d z=>exact .cons d (X z)
 exact this m x
theorem Hq
  (i:s.heap.get? a=J (lo ws nn))(e:aY ρ fz ws l)(h:lI (.list l) (.int o)=J τ)
  (O:∀v,Den ρ fz v τ->Q v s):wpAny (model prog w) A (getItem (.ref a) (.int o E)) Q G s:=
 list_item e h (i12 _ i C ⟨nn,C⟩) O
theorem QY(j:xs[i]?=J x)(g:(x==("__debug__"))=aA)(aB:lv[i]?=J (.own b_))(R:cy B prog w A ρ env xs k lv H u (.int o))(v:u[i]?=J (.own X))(T:lI (.list X) (.int o)=J ta)
  (ah:cy B prog w A ρ env xs k u e cU ai)(aj:cU[i]?=J (.own l))(aH:lC bD ta ai=J τ)(f:iP o=aa)(G:seqIndex? o l.length=J m)
  (L:∀s Q y,augStore H s Q y=(do holding [y,s,Q] (setItem s Q y);release [y,s,Q] [];pure .next)):
  gF B prog w A ρ env xs k lv (.AugAssign (.Subscript (.Name x dO) H dS) bD e cO) (cU.set i (.own (l.set m τ))) .next:=by
 intro n p c cV dm dJ S O;obtain⟨E,F,P,h⟩:=S;obtain⟨s,r,a,dX,eE,rfl,fy,fU,cz⟩:=h.vars i x _ j aB;refine PyProof.Rows.wpAny_AugAssign_Subscript_any (eP (eH E h.ns r (R (n.lock i (.ref a)) p c _ _ ⟨E,F,P,h.se j r⟩ λao au c9 az X t aC=>?_)) g) L;obtain⟨_,aD,aE,t⟩:=t;obtain⟨d6,d,fa,ff,fx,rfl,aJ,aK,gv⟩:=t.vars i x _ j v;obtain rfl:=jZ (bf ((t.locked j).det d));obtain⟨gC,rfl⟩:=aC.inv;refine Hq aJ aK T λcv aL=>ah (n.lock i (.ref a)) au ao _ _ ⟨E,aD,aE,t⟩ λcB cE cK aO l aU aV=>cy.uQ (az.trans aO) (X.trans l) aU (yf (aL.mono l) aV aH) λc_ aW dB aZ bg b bz=>cps λ_ bA=>?_;obtain⟨_,d8,eg,b⟩:=b;obtain⟨eu,q,eK,eL,eX,rfl,bK,bq,bQ⟩:=b.vars i x _ j aj;refine bA ?_;obtain rfl:=jZ (bf ((b.locked j).det q));exact WB (b.unlock) j q bQ bK bq f G bz λbW bM bY b7 z=>O bW aW .next (aZ.trans b7) bg ⟨E,bM,bY,z⟩ trivial
inductive pA(prog:ck)(w:b4)(A:cZ)(env:cW)(xs:U af)(k:Y):U (ay->Sem Unit)->U Y->Prop
 |nil:pA prog w A env xs k [] []
 |cons{f:ay->Sem Unit}{x:af}{i:Y}{fs is}:(∀(v:ay)(Q:Unit->aR->Prop)(E:ay->aR->Prop)(s:aR),wpAny (model prog w) A (storeName env x v) Q E s->wpAny (model prog w) A (f v) Q E s)->
   xs[i]?=J x->i<k->(env.kindOf x=J .local\/env.kindOf x=J .cell)->pA prog w A env xs k fs is->pA prog w A env xs k (f::fs) (i::is)
noncomputable def wZ(lv:U (AV O)):U Y->U T->U (AV O)
 |i::F,t::j=>wZ (lv.set i (.t t)) F j
 |_,_=>lv
set_option tactic.hygienic true in
theorem Bf(E:gp env)(b:a.lk= []){x:U (ay->Sem Unit)}{F:U Y}(v:pA prog w A env xs k x F):∀{y:U ay}{j:U T}{lv:U (AV O)}{H:af->aS ay}{R:Y->U ak}{s:aR}{Q:Unit->aR->Prop},F.length=j.length->aY ρ f y j->
  aN B ρ a f env xs k lv H R s.heap->(∀m,bU s m->SR B ρ a f env xs k (wZ lv F j) m.heap->Q () m)->wpAny (model prog w) A (assignInOrder x y) Q G s:=by
 induction v with
 |nil=>
  intro y j lv H R s Q h z S e;cases z with
  |nil=>exact bP (e s (bU.refl s) ⟨E,H,R,S⟩)
  |cons d z=>exact nc M8 h C
 |cons n q l g p X=>
  intro y j lv H R s Q h z S e;cases z with
  |nil=>exact nc M8 h C
  |cons d z=>
   rename_i y t j;exact aF (gf (n _ _ _ _ (gc (av:= .t t) E b S q l g ⟨C,_,C,d⟩ .nil λc L o u=>(X (by simpa using h) z u λm r i=>e m (o.trans r) i))))
theorem GD(u:A.handled=ae)(v:pA prog w A env xs k ((assignEach elts env).map (·.2)) is)(h:is.length=j.length)(c:(assignEach elts env).findIdx? (·.1)=ae):nq B prog w A ρ env xs k lv (.Tuple elts kk ah) (.tup j) (wZ lv is j):=by
 rintro T f s t Q H i S d O;have G:∀{x:U (ay->Sem Unit)}{is:U Y},pA prog w A env xs k x is->x.length=is.length:=by
  intro x is b
  induction b with
  |nil=>rfl
  |cons _ _ _ _ _ X=>simp [X]
 obtain⟨ai,y,g,p,z,rfl⟩:=d.inv;have r:=S.ready;refine E7 u (uz r.bC p) ?_ c λL l=>?_
 .have:=G v;rw [cH]at this;rw [this,h];simp [z.length]
 .have P:b5 B f s f {s with heap:=L}:=b5.keeps r λn o e=>l n o (fW (eM e)) e;obtain⟨E,F,R,S⟩:=S.step P;exact Bf E i v h (by simpa using z) S λm q a=>O m (P.same.trans q) a
theorem GP(x:cy B prog w A ρ env xs k lv e u τ)(r:nq B prog w A ρ env xs k u (.Tuple elts kk px) τ cU)
  (P:swapsWithSole [.Tuple elts kk px] e p.line env=pure aA)(i:swappedStores [.Tuple elts kk px] e env=pure ae):gF B prog w A ρ env xs k lv (.Assign [.Tuple elts kk px] e p) cU .next:=by
 intro h f s Q G b S O;exact aau (x h f s _ _ S λc a v o X t d=>(r h a c v _ _ b t d λl n F=>O l a .next (o.trans n) X F trivial)) P i
set_option tactic.hygienic true in
theorem Q7(q:A.handled=ae)(d:cy B prog w A ρ env xs k lv e u (.tup j))(v:pA prog w A env xs k (l.reverse.map λm=>bindName env m) F)(L:F.length=j.length)(T:l.length=j.length)
  (E:swapsWithSole [.Tuple elts kk a] e p.line env=pure aA)(x:swappedStores [.Tuple elts kk a] e env=pure (J l)):gF B prog w A ρ env xs k lv (.Assign [.Tuple elts kk a] e p) (wZ u F j.reverse) .next:=by
 intro b f n az aH o S O;refine aav (d b f n _ _ S λc h aB g X t y=>?_) E x;obtain⟨aC,H,aJ,s,z,rfl⟩:=y.inv;have r:=t.ready;have Q:l.length=H.toArray.size:=by simp [T,z.length]
 refine Q▸(aa0 q (uz r.bC s) λG R=>?_);have P:b5 B h c h {c with heap:=G}:=b5.keeps r λai aj e=>R ai aj (fW (eM e)) e;obtain⟨ah,aD,aE,S⟩:=t.step P;exact Bf ah o v (by simpa using L) (z.reverse) S λao au i=>O ao h .next ((g.trans P.same).trans au) X i trivial
theorem K_(v:ay)(Q:Unit->aR->Prop)(G:ay->aR->Prop)(s:aR)(h:wpAny (model prog w) A (storeName env x v) Q G s):wpAny (model prog w) A (bindName env x v) Q G s:=E8 h
theorem u4(v:ay)(Q:Unit->aR->Prop)(G:ay->aR->Prop)(s:aR)(h:wpAny (model prog w) A (storeName env x v) Q G s):wpAny (model prog w) A (assign (.Name x px) env v) Q G s:=qs h
end
section
open PySem.Builtin.Str
section
variable{B:bV O}{prog:ck}{w:b4}{A:cZ}{fz:Fz}{vb:ay}
theorem SR.newList{Q:ay->aR->Prop}{x:fh}(o:bU s c)(X:Le fz P)(S:SR B e hB P env n k u c.heap)(z:aY e P y j)
  (O:∀s' P a y h H R,bU s s'->Le fz P->gp env->aN B e hB P env n k u H R s'.heap->eT B hB P env n R a->s'.heap.get? a=J (lo y h)->aY e P y j->Q (.ref a) s'):
  Q (.ref c.heap.objs.size) {c with heap:=c.heap.push (lo y h),toks:=x}:=by
 have b:=b5.gR S.ready (lo y h) x;obtain⟨eo,H,R,i⟩:=S;exact O _ P _ y h H R (o.trans b.same) X eo (i.step b) (i.free (ir c)) (eY _ C) z
theorem GH(h:j7 B prog w A e env n k g b d u j)(P:dh j.length=aa):rH B prog w A e env n k g (.List d b) u j:=by
 intro a fz s Q G S O;refine wpAny_List (h a fz s _ _ S λc i y o X t z=>⟨?_,?_⟩)
 .rw [z.length];exact kj P
 .exact SR.newList o X t z O
theorem jo{l:U Y}(d:Den ρ fz v (.str l)):∃E,v= .str ⟨l.toArray⟩ E:=by obtain⟨E,rfl⟩:=d.inv;exact⟨_,C⟩
theorem qH{i:aq}(d:Den ρ fz v (.int i)):∃E,v= .int i E:=by obtain⟨E,rfl⟩:=d.inv;exact⟨_,C⟩
theorem mH(d:Den ρ fz v (.list l)):∃a y u,v= .ref a/\fz a=J (lo y u)/\aY ρ fz y l:=by cases d;exact(yU _ _ _ C (by assumption) (by assumption))
theorem Vp{l:U Y}(d:Den h fz k (.str l))(a:dh l.length=aa):PO B (model prog w) A h (call (.builtin "len") [k]) fz (.int l.length):=by
 refine bZ (jo d) λE e=>?_;subst e;refine PO.give λs Q G r O=>P.len_str ?_ ?_
 .rw [str_len];have:=w4 a;omega
 .rw [str_len];exact O _ _ (.int _ _)
theorem Ka(d:Den h fz k (.list l))(P:dh l.length=aa):PO B (model prog w) A h (call (.builtin "len") [k]) fz (.int l.length):=by
 refine gZ (mH d) λa y u v p z=>?_;subst v;refine PO.give λs Q G r O=>Calls.call_len_list (fL r.bC p) ?_ ?_
 .have:=w4 P;simpa [z.length]using this
 .have e:y.toArray.size=l.length:=by simp [z.length]
  exact e.symm▸(O _ _ (.int _ _))
theorem Vt{c:Y}(d:Den h fz k (.str [c])):PO B (model prog w) A h (call (.builtin "ord") [k]) fz (.int c):=by
 refine bZ (jo d) λE e=>?_;subst e;exact PO.give λs Q G r O=>P.ord_of_char (O _ _ (.int _ _))
theorem Vm(j:Den e fz k (.str X))(i:Den e fz vb (.str l)):PO B (model prog w) A e (call (.builtin "str.endswith") [k,vb]) fz (.bool (Txt.endswith ⟨X.toArray⟩ ⟨l.toArray⟩)):=by
 refine bZ (jo j) λE h=>?_;subst h;refine bZ (jo i) λH h=>?_;subst h;exact PO.give λs Q G r O=>SC.endswith (O _ s.toks (.bool _))
theorem Vv(j:Den e fz k (.str X))(i:Den e fz vb (.str l))(Q:occurrences ⟨X.toArray⟩ ⟨l.toArray⟩ 0 X.length 1=a::r):PO B (model prog w) A e (call (.builtin "str.index") [k,vb]) fz (.int a):=by
 refine bZ (jo j) λE h=>?_;subst h;refine bZ (jo i) λH h=>?_;subst h;exact PO.give λs x G r O=>SC.index (by rw [str_len];exact Q) (O _ _ (.int _ _))
noncomputable def z7:U T->aS (U (U Y))
 | []=>J []
 | .str x::r=>(z7 r).map (x::·)
 |_::_=>ae
set_option tactic.hygienic true in
theorem Lb:∀{j:U T}{c:U (U Y)}{y:U ay},z7 j=J c->aY ρ fz y j->PyProof.Rows.StrsAre y (c.map λl=>(⟨l.toArray⟩))
 | [],c,y,h,d=>by obtain rfl:=bf h;obtain rfl:=d.g6 C;exact .nil
 |E::r,c,y,h,d=>by
  cases d with
  |cons d z=>
   cases d<;>first|exact aT C h|skip
   rename_i e a H;refine aG (tL.mp h) λi R x=>?_;subst x;exact .cons _ _ (Lb R z)
theorem Vo(i:Den h fz k (.str n))(b:Den h fz vb (.list j))(a:z7 j=J x)(S:(x.map (·.length)).sum+x.length*n.length<=16777216){r:U Y}
  (H:Np ⟨n.toArray⟩ (x.map λl=>(⟨l.toArray⟩))=⟨r.toArray⟩):PO B (model prog w) A h (call (.builtin "str.join") [k,vb]) fz (.str r):=by
 refine bZ (jo i) λE s=>?_;subst s;refine gZ (mH b) λo y u v p z=>?_;subst v;refine PO.give λq Q G t O=>aaA (fL t.bC p) ((Lb a z)) ?_ λX R=>?_
 .have e:(x.map λl=>(⟨l.toArray⟩:af)).map (·.length)=x.map (·.length):=by
   rw [d_];exact C
  rw [e,cH,str_len];exact S
 .exact H.symm▸(O _ _ (.str _ _))
end
end
section
open PySem.Builtin.Str
noncomputable def sL{B:Type}(E:T)(z:aq->aS B):aS B:=match E with
 | .int i=>z i
 |_=>ae
theorem uV(h:sL E z=J O):∃i,E= .int i/\z i=J O:=by
 cases E with
 |int i=>exact(aM i C h)
 |_=>exact aT C h
noncomputable def C3:U T->aS (aq×aq×aq)
 | [E]=>sL E λb=>J (0,b,1)
 | [E,H]=>sL E λa=>sL H λb=>J (a,b,1)
 | [E,H,v]=>sL E λa=>sL H λb=>sL v λc=>if c==0 then ae else J (a,b,c)
 |_=>ae
noncomputable def uW:aq×aq×aq->bu
 |(a,b,c)=>decide (a.natAbs<2^40)&&decide (b.natAbs<2^40)&&decide (c.natAbs<2^29)
noncomputable def sM:aq×aq×aq->U T
 |(a,b,c)=>(rj (m_ a b c).toNat).map λ(i:Y)=> .int (a+(i:aq)*c)
theorem wC{a:aq}(h:a.natAbs<u):-(u)<a/\a<u:=⟨ZN (Es (ZL a▸ZI) (kB.mpr h)),Es ZI (kB.mpr h)⟩
theorem Gx{a b c:aq}(r:a.natAbs<1099511627776)(t:b.natAbs<1099511627776)(y:0<c)(h:a<b):0<=(b-a-1)/c+1/\(b-a-1)/c+1<4398046511104:=by
 have d:=Int.sub_nonneg_of_le (Int.le_sub_left_of_add_le h);exact⟨ZD (Int.ediv_nonneg d (tC y)) (by decide),Es (Int.add_le_add_right (xr (Int.ediv_le_self _ d) (Int.sub_le_self _ (by decide))) 1) (qh (Int.add_lt_add_right (MG (wC t).2 (ZN (wC r).1)) 1) (by decide))⟩
theorem Kh(r:a.natAbs<2^40)(t:b.natAbs<2^40)(y:c≠0):0<=m_ a b c/\m_ a b c<4398046511104:=by
 have w:(0:aq)<=0/\(0:aq)<4398046511104:=⟨by decide,by decide⟩
 by_cases h:c>0
 .by_cases q:a<b
  .rw [m_,bB h,bB q];exact Gx r t h q
  .rw [m_,bB h,bF q];exact w
 .by_cases q:a>b
  .rw [m_,bF h,bB q];exact Gx t r (Int.neg_pos_of_neg (Int.lt_iff_le_and_ne.mpr ⟨xt.mp h,y⟩)) q
  .rw [m_,bF h,bF q];exact w
theorem BD(h:-4398046511104<i/\i<4398046511104):Mx i=aa:=
 ew.mpr ⟨decide_eq_true (xr (by decide) (tC h.1)),decide_eq_true (qh h.2 (by decide))⟩
theorem BE(h:-1099511627776<i/\i<1099511627776):Mx i=aa:=BD ⟨qh (by decide) h.1,qh h.2 (by decide)⟩
theorem Ft(h:-1099511627776<b/\b<1099511627776)(P:-536870912<c/\c<536870912)(k:-1<=d/\d<=1):Mx (b+(c+d))=aa:=
 BD ⟨qh (by decide) (MG h.1 (ZC P.1 k.1)),qh (MG h.2 (ZC P.2 k.2)) (by decide)⟩
theorem zS(h:uW (a,b,c)=aa):a.natAbs<2^40/\b.natAbs<2^40/\c.natAbs<2^29:=
 have R:=ew.mp h;have E:=ew.mp R.1
 (cR (of_decide_eq_true E.1) (of_decide_eq_true E.2) (of_decide_eq_true R.2))
theorem WO(h:uW (a,b,c)=aa)(y:c≠0):Zr a b c=aa:=by
 refine fF (zS h) λR E S=>?_;have s:=Kh R E y;have P:=wC (S);have z:=wC (E);unfold Zr;rw [BE (wC (R)),BE z,BE ⟨qh (by decide) P.1,qh P.2 (by decide)⟩,BD ⟨ZJ (by decide) s.1,s.2⟩,show c-1=c+-1 from C,Ft z P ⟨by decide,by decide⟩,Ft z P ⟨by decide,by decide⟩,ite_self,Bool.or_true];rfl
section
variable{w:b4}
set_option tactic.hygienic true in
theorem Qs(u:F.handled=ae)(h:cy n i w F ρ env O k g e o (.tup ts)):pq aA n i w F ρ env O k g e o ts:=by
 intro hB f v aD aC S ah;refine h hB f v _ _ S λc T au az X lj d=>?_;obtain⟨x,a,aB,p,z,rfl⟩:=d.inv;have r:=lj.ready;have L:=uz r.bC p;have H:=z.length;refine wpAny_pyIter_tuple L ?_;have P:=b5.gR r {cls:= .type "tuple_iterator",data:= .fields #[.ref x, .int 0 0]} c.toks;obtain⟨E,A,R,y⟩:=lj;have l:=eM (r.bC _ _ p);have j:=Walks.tuple (prog:=i) (w:=w) u c.heap.objs.size x (fW l) a.toArray;rw [show a.toArray.size=ts.length from by assumption]at j;refine ah _ T _ _ _ _ _ A R (az.trans P.same) X E (y.step P) j (λG au m=>?_) ⟨(i12 _ (eY _ C) C C),L.at λai e=>eF _ e⟩ (λb t=>?_) (λb t=>?_) (λb t=>?_) (λG h Q b t=>by rw [cI.mp t];refine bR Q λao aH=>?_;obtain⟨ai,aj,_⟩:=ao;rw [aj];rfl) ((dg C))
 .have m:=by simpa using m
  have s:=H▸(cw.mp m).1;refine aG (z.get (cP s)) λaE B q=>?_;rw [m]at B;exact bf B▸((aM _ (cP s) q))
 .exact(cI.mp t)▸(⟨y.free (ir c),aQ _ (eY _ C)⟩)
 .rcases cC.mp t with rfl|t
  .exact .inl (.head _)
  .refine(cI.mp t)▸?_;right;left;exact cS p
 .show b<(c.heap.push _).objs.size;rw [jX];rcases cC.mp t with rfl|t
  .exact cY _
  .exact(cI.mp t)▸(ql l)
theorem Walks.bound{u:Y}(W:Walks h w F x O a u X e):Walks h w F x O a u (λi v=>i<u/\X i v) e where
 sub:=W.sub
 frame:=W.frame
 item:=λi s Q G z b l=>W.item i s Q G z b λv L R H=>l v L R ⟨z,H⟩
 done:=W.done
 self:=W.self
theorem O5(z:aY B f a u)(h:C3 u=J q)(X:uW q=aa)
  (O:∀E H v R,q.2.2≠0->Q (.ref s.heap.objs.size) {s with heap:=s.heap.push {cls:= .type "range",data:= .fields #[.int q.1 E, .int q.2.1 H, .int q.2.2 v]},toks:=R}):wpAny (model i w) F (call (.type "range") a) Q G s:=by
 cases u with
 |nil=>exact aT C h
 |cons n u=>
  obtain⟨k,T,rfl,j,b⟩:∃k T,a=k::T/\Den B f k n/\aY B f T u:=z.iO (P:=λa=>∃k T,a=k::T/\Den B f k n/\aY B f T u) λv T d z=>(gG v T C d z);cases u with
  |nil=>
   refine aG (uV h) λe A h=>?_;subst A;obtain rfl:=bf h;exact b.g6 (P:=λT=>wpAny (model i w) F (call (.type "range") (k::T)) Q G s) (j.gh (P:=λk=>wpAny (model i w) F (call (.type "range") [k]) Q G s) λE=>call_range_1 (O _ _ _ _ (nofun)))
  |cons S u=>cases u with
   |nil=>
    refine aG (uV h) λe A h=>?_;subst A;refine aG (uV h) λm A h=>?_;subst A;obtain rfl:=bf h;refine aG b.iy λt A x=>?_;subst A;exact j.gh (P:=λk=>wpAny (model i w) F (call (.type "range") [k,t]) Q G s) λE=>x.gh (P:=λt=>wpAny (model i w) F (call (.type "range") [.int e E,t]) Q G s) λH=>call_range_2 (O _ _ _ _ (nofun))
   |cons c u=>cases u with
    |nil=>
     refine cps λ_ o=>aG (uV h) λe A h=>?_;subst A;refine aG (uV h) λm A h=>?_;subst A;refine aG (uV h) λc A L=>?_;subst A;refine iD b.DA λt l p x r=>?_;subst p;refine o ?_;cases y:c==0 with
     |true=>
      rw [y]at L;exact aT C L
     |false=>
      rw [y]at L;obtain rfl:=bf L;have y:c≠(0:aq):=λg=>by subst g;exact dg C y.symm
      exact j.gh (P:=λk=>wpAny (model i w) F (call (.type "range") [k,t,l]) Q G s) λE=>x.gh (P:=λt=>wpAny (model i w) F (call (.type "range") [.int e E,t,l]) Q G s) λH=>
       r.gh (P:=λl=>wpAny (model i w) F (call (.type "range") [.int e E, .int m H,l]) Q G s) λv=>call_range_3 y (O _ _ _ _ y) (.inl (PyProof.noPylong_small (rm (zS X).2.2 (aX _ _))))
    |cons d u=>exact aT C h
theorem Qp(G:e6 B mg mb)(hh:A.handled=ae)(hx:env.kindOf "range"=J .globalImplicit)(hm:mg "range"=ae)(hv:mb "range"=J (.type "range"))
  (r4:∀e∈es,∀x p,e≠ .Starred x p)(h:j7 B prog w A ρ env xs k lv pos es aP m9)(ha:C3 m9=J Bc)(ho:uW Bc=aa):
  pq aA B prog w A ρ env xs k lv (.Call (.Name "range" p) es [] pos) aP (sM Bc):=by
 intro hB fz s Q E S hQ;refine kG (mV G S.1 S.ready.base hx hm hv (C) (aay (jS es r4) (jm r4 h S λs₁ fH vs wR l₁ lj ds=>(O5 ds ha ho λt u v tk hc=>?_))));obtain⟨a,b,c⟩:=Bc;have g:=b5.gR (lj.ready) {cls:= .type "range",data:= .fields #[.int a t, .int b u, .int c v]} tk;refine wpAny_pyIter_range (IsRange.new _ a b c t u v) (WO ho hc) ?_;have hl:(sM (a,b,c)).length=(m_ a b c).toNat:=by simp [sM]
 have W:=Walks.range (prog:=prog) (w:=w) hh (s₁.heap.push {cls:= .type "range",data:= .fields #[.int a t, .int b u, .int c v]}).objs.size a c (m_ a b c).toNat;have W:=Walks.bound W;rw [<-hl]at W;refine By (I:=0) (wR.trans g.same) l₁ (lj.step g) C W (λi v hv=>?_) ?_ (λi h st=>?_) hQ
 .obtain⟨hi,tt,rfl⟩:=hv;rw [hl]at hi;refine(aM (.int (a+(i)*c)) ?_ (.int _ _));unfold sM;rw [gD,List.getElem?_range hi];rfl
 .show(Heap.push _ _).get? _=_;rw [eY _ C];have e:(((sM (a,b,c)).length):aq)=m_ a b c:=by rw [hl];exact ZQ ((Kh (zS ho).1 (zS ho).2.1 hc).1)
  simp [e]
 .exact aQ _ (st)
end
end
section
open PySem.Builtin.Str
noncomputable def Ff(w:bV t)(i:ck)(X:b4)(F:cZ)(B:Mk)(h:cW)(n:U af)(k:Y)(g:U (AV t))(H:b9)(j:U T)(S:U (AV t)):Prop:=
 ∀(A:HB)(f:Fz)(s:aR)(E:ak)(l:j4 ay)(Q:Unit->aR->Prop)(G:ay->aR->Prop),A.lk= []->SR w B A f h n k g s.heap->s.heap.IsTuple E l->aY B f l.toList j->
  (∀m,bU s m->SR w B A f h n k S m.heap->Q () m)->wpAny (model i X) F (assign H h (.ref E)) Q G s
noncomputable def xS(w:bV t)(i:ck)(X:b4)(F:cZ)(B:Mk)(h:cW)(n:U af)(k:Y)(H:b9)(s:U b9)(y:b9)(j:U (U T))(g:U (AV t))(c:U T)(S:U (AV t)):Prop:=
 lg w i X F B h n k s y (λg E S=>Ff w i X F B h n k g H E S) j g c S
noncomputable def xX(w:bV t)(a:ck)(X:b4)(F:cZ)(B:Mk)(h:cW)(n:U af)(k:Y)(g:U (AV t))(o:b9)(S:U (AV t))(j:U (U T)):Prop:=
 ∀(A:HB)(f:Fz)(s:aR)(Q:ay->aR->Prop)(G:ay->aR->Prop),SR w B A f h n k g s.heap->
  (∀(m:aR)(P:Fz)(x:ak)(O l d:U ak)L u r H R,bU s m->Le f P->gp h->aN w B A P h n k S H R m.heap->WalksT a X F x O l j.length L u r->(∀i v,L i v->∃E,j[i]?=J E/\aY B P v.toList E)->
   u 0 m.heap->(∀b∈l,b∈d)->(∀b∈d,eT w A P h n R b/\(m.heap.get? b).isSome=aa)->(∀b∈O,b∈d\/(P b).isSome=aa)->(∀b∈O,b<m.heap.objs.size)->(∀b∈d,b∈O)->
   (∀i e,u i e->∀b∈d,(e.get? b).isSome=aa)->(∀i T e,r i T e->∀b∈d,(e.get? b).isSome=aa)->Q (.ref x) m)->
  wpAny (model a X) F (eval o h) (λq c=>wpAny (model a X) F (pyIter q) Q G c) G s
section
variable{prog:ck}{w:b4}{os:U af}
theorem PD{X:HB}{s:aR}{O a d:U ak}{ai:Y->j4 ay->Prop}{u:Y->b8->Prop}{r:Y->ak->b8->Prop}{Q:U b9}{G:Y}{v:Pos}(cB:gp e)
  (j:WalksT prog w F bq O a q.length ai u r)(cE:∀i y,ai i y->∃E,q[i]?=J E/\aY B f y.toList E)(bQ:u 0 s.heap)(b_:∀b∈a,b∈d)
  (dS:∀b∈O,b∈d\/(f b).isSome=aa)(aD:k∉O)(aW:k∉d)(bz:∀i h,u i h->∀b∈d,(h.get? b).isSome=aa)(ff:∀i T h,r i T h->∀b∈d,(h.get? b).isSome=aa)
  (aO:H= .Tuple Q G v)(bg:dh q.length=aa)
  (S:aN g B (X.add (k::d) s.heap) f e p c cO gv gV s.heap)(c9:s.heap.get? k=J (lo [] 0))
  (d6:xS g prog w F B e p c H eu aE q cO aH aJ)
  (aK:∀m P aU aV z aZ L R,bU s m->Le f P->aN g B (X.add (k::d) m.heap) P e p c aJ aU aV m.heap->m.heap.get? k=J (lo z aZ)->aY B P z aH->
   (∀b o,b∉d->m.heap.get? b=J o->L.get? b=J o)->bA (.ok .next) {m with heap:=L,toks:=R})(bD:X.lk= []):
  codeAny (model prog w) F (.compLoop (.ListComp aE [⟨H,fx,eu,0⟩] eK fy) 0 (.ref bq) (.ref k) e) bA s:=by
 have x:∀{b},b∉d->b∉a:=λh bW=>h (b_ _ bW);refine Gg cB j.frame (λs bY b7 n cv=>j.done s bY b7 n λL R cz=>cv L R λb o t l=>cz b o (x t) l) (λ{i E}aj cK fU gC gK eL fa ao n bM cV S bK=>(j.item i aj _ _ (cw.mp ao).1 n λT ah L R c_ gJ dm az dB=>(aG (cE i ah c_) λeX dJ dO=>?_))) bQ (λb t=>(dS b t).imp id .inl) aD aW bz bg S c9 d6 aK;subst aO;refine j.go Q G v i T _ _ _ az λA au aB=>aG dm λo d8 dX=>?_;have aC:rJ d aj.heap A:=λb o t l=>aB b o (x t) (dB b o (x t) l);exact cV (X.add (k::d) A) cK _ T ah _ _ bD (S A aC au) (aM o (aB T o (j.apart i T L az) d8) dX) ((bf (ao.symm.trans dJ)).symm▸dO.mono bM) λeg eE aL=>bK A eg aC au (bU.trans (cu A R C) eE) aL
theorem PC(sc:mu scope os cs)(co:iB env xs cs ci)
  (hI:xX B prog w A ρ env xs k lv iter aP ts)(uw:∀i∈ci,∀l,aP[i]?≠J (.own l))
  (hC:∀a_,xS B prog w A ρ (ig scope a_ env) (os++cs) os.length iI ifs elt ts (lJ os ci aP) ys i_)
  (hs:∀x,foldedSetIterable iter env x=pure x)(ht:iI= .Tuple elts kk ptt)(hsz:dh ts.length=aa)
  (S:SR B ρ hB fz env xs k lv s.heap)
  (hQ:∀s' fR(D a_:ak)vs nn m dz mc,bU s s'->Le fz fR->gp env->aN B ρ hB fR env xs k (lR os ci aP i_) m dz s'.heap->eT B hB fR env xs dz D->eT B hB fR env xs dz a_->D≠a_->
   s'.heap.get? D=J (lo vs nn)->aY ρ fR vs ys->s'.heap.Ns a_ mc->compPost (model prog w) A E use Q (.ref D) a_ (.ok .next) s'):
  wpAny (model prog w) A (comprehension (.ListComp elt [⟨iI,iter,ifs,0⟩] scope w6) scope env pos (newList []) aA (eval iter env) use) Q E s:=by
 have Hy:∀p∈scope.names,p.2= .free->(env.cells.lookup p.1).isSome=aa:=by
  intro p hp hf;refine cps λBb kk=>?_;obtain⟨eo,m,dz,S⟩:=S;have hm:=sc.free p hp hf;obtain⟨j,hj,e⟩:=ZW hm;have Sq:j<ci.length:=by rw [co.len];exact hj
  have hx:=co.at_ j _ p.1 (cP Sq) (by rw [cP hj,e]);have hi:ci[j]<lv.length:=by rw [S.len];exact(cw.mp hx).1
  obtain⟨ov,ha,_⟩:=S.vars _ _ _ hx (cP hi);refine kk ?_;rcases ha with⟨q,_⟩|⟨_,c,hc,_⟩
  .exact cg q (co.nl _ hm)
  .exact cS hc
 refine aaW C hs (Bm Hy) sc.kind sc.names (hI hB fz s _ _ S λs₁ fH I fp wr sh Pt St Mid m dz wR l₁ eo lj W hP r4 BV hw Sm HC Sv Se Sf=>(Fb (I0 sc.kind ?_)));have BS:s₁.heap.objs.size<(s₁.heap.push (lo [] 0)).objs.size:=by rw [jX];exact cY _
 obtain⟨QI,N6⟩:=KX (ol:=lo [] 0) sc co eo lj hw uw C C C C;have k4:bN s₁.heap (pushCells ((s₁.heap.push (lo [] 0)).push {cls:= .type "dict",data:= .dict #[]}) scope.names):=λb o e=>vD _ _ b o (eF _ (eF _ e));have DF:=λb hb=>HC b (Sv b hb);have K5:=W.frame 0 _ _ r4 λb Bb o e=>k4 b o e;have loop:codeAny (model prog w) A (.compLoop (.ListComp elt [⟨iI,iter,ifs,0⟩] scope w6) 0 (.ref I) (.ref s₁.heap.objs.size) (ig scope (s₁.heap.push (lo [] 0)).objs.size env))
   (compPost (model prog w) A E use Q (.ref s₁.heap.objs.size) (s₁.heap.push (lo [] 0)).objs.size) {s₁ with heap:=pushCells ((s₁.heap.push (lo [] 0)).push {cls:= .type "dict",data:= .dict #[]}) scope.names}:=by
  refine PD QI W hP K5 BV Sm (λq=>(λb hb=>fW (HC b hb)) _ q C) (λq=>nj _ (DF _ q)) Se Sf ht hsz N6 ?_ (hC _) ?_ C
  .exact vD _ _ _ _ (eF _ (eY _ C))
  .intro s' fR m' aa1 vs nn h' tk q l S' Sg d hk;refine cps λBb kk=>?_;obtain⟨Sb,fD,fC,fw⟩:=KW sc co lj hw uw BS l S';exact kk (hQ _ fR _ _ vs nn _ _ m' ((wR.trans q).trans (cu h' tk C)) (l₁.trans l) eo (Sb.Ie fw hk) fD fC (fW BS) (hk _ _ (λq=>nj _ (DF _ q)) Sg) d (zD S'.ns λo=>hk _ o (λq=>nj _ (rm BS (DF _ q)))))
 exact aaS loop (W.self 0 _ _ _ K5 loop)
theorem Qn(G:mu f os o)(co:iB env n o v)
  (X:xX e prog w F B env n i g h u j)(uw:∀b∈v,∀l,u[b]?≠J (.own l))
  (aE:∀a,xS e prog w F B (ig f a env) (os++o) os.length H s y j (lJ os v u) c i_)
  (P:∀x,foldedSetIterable h env x=pure x)(A:H= .Tuple aK aL aH)(m:dh j.length=aa)(Q:lR os v u i_=d):
  rH e prog w F B env n i g (.ListComp y [⟨H,h,s,0⟩] f aW) d c:=by
 intro aZ aJ aO aU aV S O;refine PC G co X uw aE P A m S λbg z k a t E L R T q l ai aj ao au ah aB aC az=>(aM T az (λaD r=>?_));have p:=aj.gR au r;rw [Q]at p;exact O _ z k t E L R (q.trans (cu aD _ C)) l ai p ao ((r.2 k ah).trans aB) aC
theorem Qe(u:F.handled=ae)(v:pA prog w F env n k ((assignEach i env).map (·.2)) is)(hl:is.length=d.length)(c:(assignEach i env).findIdx? (·.1)=ae):Ff l prog w F R env n k g (.Tuple i kk ah) d (wZ g is d):=by
 intro A f s H p Q y b S t z O;have G:∀{x:U (ay->Sem Unit)}{is:U Y},pA prog w F env n k x is->x.length=is.length:=by
  intro x is a
  induction a with
  |nil=>rfl
  |cons _ _ _ _ _ X=>simp [X]
 refine E7 u t ?_ c λL j=>?_
 .have:=G v;rw [cH]at this;rw [this,hl,<-z.length];simp
 .have P:b5 l f s f {s with heap:=L}:=b5.keeps (S.ready) λq o e=>j q o (fW (eM e)) e;obtain⟨E,B,T,S⟩:=S.step P;exact Bf E b v hl z S λm r h=>O m (P.same.trans r) h
theorem zq{u a b:Y}(h:a≠b):u+a≠u+b:=λq=>h (aah q)
theorem Me{u b:Y}(h:0<b):u≠u+b:=fW (aaj h)
theorem zl{a u b:Y}(h:a<u):a≠u+b:=fW (qk h (e5 _ _))
theorem x_{X:ak->Prop}{a b c d e:ak}(R:X a)(E:X b)(S:X c)(A:X d)(r:X e):∀x∈ [a,b,c,d,e],X x:=bl R (bl E (bl S (bl A (bl r dR))))
theorem uA{h:b8}{X:bE->Prop}(x:∃o,h.get? a=J o/\X o):(h.get? a).isSome=aa:=aG x λw e w=>cS e
theorem RB(dX:e6 F aL aU)(bD:aJ.handled=ae)(b_:u.kindOf "zip"=J .globalImplicit)(aZ:aL "zip"=ae)(i:aU "zip"=J (.type "zip"))
  (P:∀e∈d,∀ah p,e≠ .Starred ah p)(a:j7 F prog w aJ bK u bQ b7 cv cz d cE [.list ao, .list aE]):
  xX F prog w aJ bK u bQ b7 cv (.Call (.Name "zip" p) d [] cz) cE ((ao.zip aE).map λQ=> [Q.1,Q.2]):=by
 intro fa ff fx fy eg S aW;refine kG (mV dX S.1 S.ready.base b_ aZ i (C) (aay (jS d P) (jm P a S λc cO eL dm aO X z=>?_)));cases z with|cons bg z=>cases z with|cons bq z=>
 obtain rfl:=z.g6 C;refine gZ (mH bg) λbz O eK v H G=>?_;subst v;refine gZ (mH bq) λdJ t eX v h R=>?_;subst v;have r:=X.ready;refine call_zip_2 (fL r.bC H) (fL r.bC h) λeE s ai aj q au bA g=>?_;have k:=eM (r.bC _ _ H);have B:=eM (r.bC _ _ h);refine wpAny_pyIter_zip s ?_;obtain⟨aK,bW,bY,y⟩:=X;have az:=b5.keeps (t:=c.toks) r g;have n:∀m,c.heap.get? (c.heap.objs.size+m)=ae:=λm=>by
  cases cB:c.heap.get? (c.heap.objs.size+m)with
  |none=>rfl
  |some o=>exact cg (eM cB) (gW.mpr (e5 _ _))
 have cK:ZipApart (c.heap.objs.size+4) (c.heap.objs.size+2) (c.heap.objs.size+3) c.heap.objs.size (c.heap.objs.size+1) bz dJ:=by
  constructor<;>first|exact zq (nofun)|exact Me (c3 _)|exact(Me (by exact c3 _)).symm|exact zl k|exact(zl k).symm|exact fW k|exact tJ k|exact zl B|exact(zl B).symm|exact fW B|exact tJ B
 have aB:=WalksT.zip2 (prog:=prog) (w:=w) bD _ _ _ _ _ _ _ cK O.toArray t.toArray;have aV:min O.toArray.size t.toArray.size=((ao.zip aE).map λQ=> [Q.1,Q.2]).length:=by simp [(G.length),(R.length)]
 rw [aV]at aB;refine aW _ cO _ _ _ [c.heap.objs.size+4,c.heap.objs.size+3,c.heap.objs.size,c.heap.objs.size+1,c.heap.objs.size+2] _ _ _ bW bY (dm.trans az.same) aO aK (y.step az) aB (λaC eu i=>?_)
  (Sx s ai (cu _ _ aj) q au ((fL r.bC H).at λo e=>g _ o e) ((fL r.bC h).at λo e=>g _ o e)) (bl (.head _) (bl (.tail _ (.head _)) (bl (.tail _ (.tail _ (.head _))) (bl (.tail _ (.tail _ (.tail _ (.head _)))) dR))))
  (x_ ⟨y.free (n 4),cS s⟩ ⟨y.free (n 3),cS aj⟩ ⟨y.free (n 0),uA q⟩ ⟨y.free (n 1),uA au⟩ ⟨y.free (n 2),cS ai⟩)
  (bl (.inl (.head _)) (bl (.inl (.tail _ (.tail _ (.tail _ (.tail _ (.head _)))))) (bl (.inl (.tail _ (.head _))) (bl (.inl (.tail _ (.tail _ (.head _)))) (bl (.inl (.tail _ (.tail _ (.tail _ (.head _))))) (bl (.inr (cS H)) (bl (.inr (cS h)) dR)))))))
  (λbM c9=>bA▸bl (P:=(·<c.heap.objs.size+5)) (EM (by exact cY _) _) (bl (EM (by exact aX _ _) _) (bl (EM (by exact aX _ _) _) (bl (aaj (c3 _)) (bl (EM (by exact aX _ _) _) (bl (qk k (e5 _ _)) (bl (qk B (e5 _ _)) dR)))))) bM c9)
  (x_ (.head _) (.tail _ (.tail _ (.head _))) (.tail _ (.tail _ (.tail _ (.head _)))) (.tail _ (.tail _ (.tail _ (.tail _ (.head _))))) (.tail _ (.head _)))
  (λaC a x=>?_) (λaC T a x=>?_)
 .refine iD i λah fU c_ E dB=>?_;subst dB;have E:=by simpa using E
  refine aG (G.Hv (by simpa using c_)) λaD cV dS=>aG (R.Hv E) λaH dO d6=>(aM ([aD,aH]) ?_ (.cons dS (.cons d6 .nil)));rw [gD,(EB (z:=(aD,aH))).mpr ⟨cV,dO⟩];rfl
 .refine yt x λl b j f A d8=>?_;obtain⟨_,_,L⟩:=j;exact x_ (cS l) (cS L) (uA f) (uA A) (cS b)
 .refine yt x λl b j f A d8=>?_;obtain⟨_,_,L⟩:=j;exact x_ (cS l) (cS L) (uA f) (uA A) (cS b)
end
end
section
open PySem.Builtin.Str
theorem Dj:Slot "method_descriptor" "__get__" "method_descriptor.__get__":=
 .of (owner:= "method_descriptor") (n:= "__get__") (by rw [j2,j0];kernel_rfl) (C) (C) (C)
  (by first|exact .inl (C)|exact .inr (C)) (by rw [j1];exact C)
theorem TT:typeLookup (.type "method_descriptor") "__set__"=pure ae:=by rw [j2,j0];kernel_rfl
theorem TS:typeLookup (.type "method_descriptor") "__delete__"=pure ae:=by rw [j2,j0];kernel_rfl
theorem QD:entryFor table "method_descriptor.__get__"=J Builtin.«method_descriptor.__get__»:=AS (C)
theorem Ow(a b c:ay):argsOk "method_descriptor.__get__" ⟨[a,b,c], []⟩:=by unfold argsOk;kernel_rfl
theorem sub_list_self:isSubtype (.type "list") (.type (".".intercalate ("list.append".cutAt '.').dropLast))=pure aa:=by
 rw [show(".".intercalate ("list.append".cutAt '.').dropLast)= "list"from C,j1];exact C
section
variable{E:ay->aR->Prop}{os:OsState}
theorem Oo(hx:h.get? a=J o)(hc:o.cls= .type "list")(hq:R (.ok (.ret (.ref h.objs.size))) ⟨h.push (oj a),g,d,t,os⟩):
  codeAny (model prog w) A (.call (.builtin "method_descriptor.__get__") ⟨[.builtin "list.append", .ref a, .type "list"], []⟩) R ⟨h,g,d,t,os⟩:=by
 have hT:(⟨h,g,d,t,os⟩:aR).TypeIs (.ref a) "list":=(aM _ hx hc);have f8:=sub_list_self;refine ru Dj.plain QD (Dj.check _ _ _ _ _ _ _ _ (Ep) (Ow _ _ _) ?_)
 repeat(any_goals(first|assumption|wp_step))
theorem Ol(j:h.get? a=J {cls:= .type "list",dict:=ae,data:= .seq n u,slots:=#[]})(k:Q (.done (.ret (.ref h.objs.size))) ⟨h.push (oj a),P,d,e,os⟩):
  wpAny (model i X) b (Builtin.«object.__getattribute__» ⟨[.ref a, .str "append" R], []⟩) Q E ⟨h,P,d,e,os⟩:=by
 have t:(⟨h,P,d,e,os⟩:aR).TypeIs (.ref a) "list":=(aM _ j C);have s:(⟨h,P,d,e,os⟩:aR).TypeIs (.builtin "list.append") "method_descriptor":=Ep;have q:typeLookup (.type "list") "append"=pure (J (.builtin "list.append")):=MC.lookup;have g:=Dj.lookup;have r:=TT;have x:=TS
 repeat(any_goals(first|assumption|wp_step))
 refine Oo j C ?_
 repeat(any_goals(first|assumption|wp_step))
theorem Oj(j:h.get? a=J {cls:= .type "list",dict:=ae,data:= .seq n u,slots:=#[]})(k:p (.ok (.ret (.ref h.objs.size))) ⟨h.push (oj a),P,d,t,os⟩):
  codeAny (model i X) e (.call (.builtin "list.__getattribute__") ⟨[.ref a, .str "append" R], []⟩) p ⟨h,P,d,t,os⟩:=
 ru Eo.plain F.entry_list_ga (Eo.check _ _ _ _ _ _ _ _ ((aM _ j C)) (F.args_list_getattribute_2 _ _) (Ol j k))
theorem Oi(j:h.get? a=J {cls:= .type "list",dict:=ae,data:= .seq n u,slots:=#[]})(k:Q (.ref h.objs.size) ⟨h.push (oj a),P,d,e,os⟩):
  wpAny (model i X) x (getAttrBy (.ref a) (.str "append" R) aa aa) Q E ⟨h,P,d,e,os⟩:=by
 have t:(⟨h,P,d,e,os⟩:aR).TypeIs (.ref a) "list":=(aM _ j C);have c:=Eo.lookup;have v:=Eo.bind (.ref a)
 repeat(any_goals(first|assumption|wp_step))
 refine Oj j ?_
 repeat(any_goals(first|assumption|wp_step))
theorem Oh(j:h.get? a=J {cls:= .type "list",dict:=ae,data:= .seq n u,slots:=#[]})(k:Q (.ref h.objs.size) ⟨h.push (oj a),P,d,e+1,os⟩):
  wpAny (model i X) F (getAttr (.ref a) "append" aa) Q E ⟨h,P,d,e,os⟩:=by
 unfold getAttr
 repeat(any_goals(first|assumption|with_reducible apply Oi j|wp_step))
theorem Om(z:attributeBase e "append" env (eval e env)=eval e env)
  (h:wpAny (model i X) F (eval e env) (λv c=>v= .ref a/\c.heap.get? a=J {cls:= .type "list",dict:=ae,data:= .seq n u,slots:=#[]}/\Q (.ref c.heap.objs.size) {c with heap:=c.heap.push (oj a),toks:=c.toks+1}) E s)
  (b:∀o r,letTemporaryGo e o r=pure ()):
  wpAny (model i X) F (eval (.Attribute e "append" p) env) Q E s:=by
 rw [arm_eval_Attribute,z];refine aF (j3 h (λv c O=>(fF O λl j k=>?_)) λw w x=>x);subst l;refine aF (nk (aF (gf (Oh j ?_))));rw [b];exact aF (bP (bP k))
end
end
section
open PySem.Builtin.Str
section
variable{prog:ck}{w:b4}
theorem Xb:isSubtype (.type "list") (.type "module")=pure aA:=by rw [j1];exact C
theorem OZ(e:g.any (·.1)=aA)
  (l:wpAny (model prog w) F (evalArgs (.ref b) aa g []) (λx c=>c.heap.get? b=J (oj a)/\wpAny (model prog w) F (call (.ref b) x.pos x.kw) Q G c) G s):wpAny (model prog w) F (callWith n (.ref b) [] g []) Q G s:=by
 refine aF (gf (j3 l (λx c O=>aF (nk (bR O λk i=>?_))) λh h x=>x));rw [e];exact aF (aF (E_ k (bP (aF (j3 i (λr j H=>aF (gf (wpAny_point (bP H)))) λh h x=>x)))))
theorem O1(h:s.heap.get? b=J (oj a))(B:s.heap.get? a=J (lo y u))(q:y.length<=1000000)
  (O:∀L f,L.get? a=J (lo (y++ [v]) f)->gk a s.heap L->Q .none {s with heap:=L}):wpAny (model prog w) i (call (.ref b) [v]) Q G s:=by
 have x:s.TypeIs (.ref a) "list":=(aM _ B C);have e:kE (·.push v) (lo y u)=lo (y++ [v]) (u+1):=by simp [kE,lo]
 refine jH (codeAny_of_tree (aF (E_ h ?_)));have t:(k_ "builtin_function_or_method"!=k_ "method")=aa:=by decide
 show wpAny _ _ (if(k_ "builtin_function_or_method"!=k_ "method")=aa then(do checkBoundCall "list.append" ⟨[.ref a,v], []⟩;return<-again (.builtin "list.append" ⟨[.ref a,v], []⟩))else _) _ _ s;refine aF (m:=checkBoundCall "list.append" ⟨[.ref a,v], []⟩) ?_;have l:∀{o:Unit->aR->Prop}{d:ay->aR->Prop},o () s->wpAny (model prog w) i.in1 (checkBoundCall "list.append" ⟨[.ref a,v], []⟩) o d s:=by
  intro o d k;have n:=Xb
  repeat(any_goals(first|assumption|wp_step))
 refine l (aF (bP (bP (⟨Em _ (by decide+kernel),E4 F.entry_list_append ?_⟩))));show wpAny _ _ (updateSeq a (·.push v)>>=λj=>ret .none) _ _ s;have E:(1000000:Y)<=sizeLine:=by decide
 refine aF (wpAny_updateSeq B C (bP (O _ (u+1) ?_ (nf ..))) (hz:=by exact bh ‹_› ‹_›) (_hz':=by simp;exact bh ‹_› ‹_›));rw [nQ _ B (by exact C),e]
end
theorem Den.pU(a:ak)(d:Den B f v E):Den ⟨B.star,a⟩ f v E:=d.re (ρ:=B) (ρ':=⟨B.star,a⟩) C (Le.refl _)
theorem aY.pU(a:ak)(d:aY B f y j):aY ⟨B.star,a⟩ f y j:=d.re (ρ:=B) (ρ':=⟨B.star,a⟩) C (Le.refl _)
noncomputable def uN:AV t->bu
 | .fm _=>aA
 | .iF=>aA
 |_=>aa
section
variable{B:bV O}{xs:U af}{i j:Y}
theorem Holds.pU(a:ak)(c:Holds B ρ f h F s fp)(L:uN F=aa):Holds B ⟨ρ.star,a⟩ f h F s fp:=by
 cases F with
 |un=>exact c
 |t k=>obtain⟨e,v,i,d⟩:=c;exact⟨e,v,i,d.pU a⟩
 |own l=>obtain⟨b,y,u,t,Q,d,x⟩:=c;exact⟨b,y,u,t,Q,d.pU a,x⟩
 |obj o=>exact c
 |fm l=>exact dg C L
 |iF=>exact dg C L
theorem aN.pU(a:ak)(S:aN B ρ A f env xs k g H R h)(L:g.all uN=aa):aN B ⟨ρ.star,a⟩ A f env xs k g H R h:=
 {S with
  vars:=λi x F j d=>by
   obtain⟨s,r,c⟩:=S.vars i x F j d
   exact⟨s,r,c.pU a (kC.mp L F (cA d))⟩}
theorem XD(S:aN B b A f env xs k g H R e)(o:∀x s,xs[i]?=J x->dZ env H e x s->∀l,g[i]?=J l->Holds B b f e l s (R i)->Holds B b f e F s h):
  ∀(j:Y)(x:af)(Q:AV O),xs[j]?=J x->(g.set i F)[j]?=J Q->Fq B b f e env H x Q (bT R i h j):=by
 intro j x Q a d
 by_cases p:j=i
 .subst p;have G:=by
   have:=(cw.mp d).1;simpa using this
  obtain rfl:=bf ((qi G)▸d);obtain⟨s,r,c⟩:=S.vars j x _ a (cP G);refine⟨s,r,?_⟩;rw [show bT R j h j=h from bB C];exact o x s a r _ (cP G) c
 .rw [k9 (jk p)]at d;obtain⟨s,r,c⟩:=S.vars j x Q a d;exact⟨s,r,((show bT R i h j=R j from bF ‹_›)▸(c))⟩
theorem aN.C2{fp:U ak}(S:aN B a A f env xs q g H R h)(u:∀b∈fp,b∈R i)(o:∀x s,xs[i]?=J x->dZ env H h x s->∀n,g[i]?=J n->Holds B a f h n s (R i)->Holds B a f h F s fp):
  aN B a A f env xs q (g.set i F) H (bT R i fp) h:=by
 have e:∀j b,b∈bT R i fp j->b∈R j:=λj b t=>by
  by_cases p:j=i
  .subst p;rw [show bT R j fp j=fp from bB C]at t;exact u b t
  .rw [show bT R i fp j=R j from bF ‹_›]at t;exact t
 exact{S with
  len:=by simp [S.len]
  vars:=XD S o
  fp:=λj G b t=>S.fp j G b (e j b t)
  tab:=λX l=>(j_ ((S.tab X l).1) ((S.tab X l).2.1) ((S.tab X l).2.2.1) ((S.tab X l).2.2.2.1) (λj G t=>(S.tab X l).2.2.2.2 j G (e j X t)))
  apart:=λk b r t m c y v=>S.apart k b r t m c (e k c y) (e b c v)}
theorem aN.unmark(S:aN B e A f env xs k g H R h)(hl:g[i]?=J (.fm l)):aN B e A f env xs k (g.set i (.own l)) H (bT R i (R i)) h:=
 S.C2 (λw h=>h) λo s j r n d c=>by
  obtain rfl:=bf (hl▸d);obtain⟨y,x,t,Q,b,a⟩:=c;exact⟨e.mark,y,x,t,Q,b,a⟩
theorem aN.mark(S:aN B e A f env xs k g H R h)(j:xs[i]?=J x)(b:g[i]?=J (.own l))(r:dZ env H h x (J (.ref e.mark))):aN B e A f env xs k (g.set i (.fm l)) H (bT R i (R i)) h:=
 S.C2 (λw h=>h) λG o z L v d c=>by
  obtain rfl:=bf (j▸z);obtain rfl:=bf (b▸d);cases r.det L;obtain⟨q,y,s,t,Q,n,a⟩:=c;obtain rfl:=jZ (bf t);exact⟨y,s,C,Q,n,a⟩
theorem aN.forget(S:aN B e A f env xs k g H R h):aN B e A f env xs k (g.set i .un) H (bT R i []) h:=
 S.C2 (λw h=>gx _ ‹_›) λw w w w w w w=>C
theorem Rw(h:ez B e X F a env xs k (g.set i .un) y u fl):ez B e X F a env xs k g y u fl:=by
 rintro A f s Q G x⟨E,H,R,S⟩O;exact h A f s Q G x ⟨E,H,_,S.forget⟩ O
theorem RA(h:g[i]?=J (.fm l))(e:ez B a X F x env xs k (g.set i (.own l)) y u fl):ez B a X F x env xs k g y u fl:=by
 rintro A f s Q G b⟨E,H,R,S⟩O;exact e A f s Q G b ⟨E,H,_,S.unmark h⟩ O
theorem Qi(j:xs[i]?=J x)(hl:g[i]?=J (.fm l))(h:fQ B a X F ρ env xs k (g.set i (.own l)) e u t)(v:u[i]?=J (.own R)):fQ B a X F ρ env xs k g e (u.set i (.fm R)) t:=by
 rintro A f s Q G⟨eo,H,c,S⟩O;obtain⟨p,r,y,d,rfl,_⟩:=S.vars i x _ j hl;refine h (A.lock i (.ref ρ.mark)) f s Q G ⟨eo,H,_,(S.unmark hl).se j r⟩ λm b q l z=>cps λw T=>?_;obtain⟨_,n,o,z⟩:=z;exact T (O m b q l ⟨eo,n,_,z.unlock.mark j v (z.locked j)⟩)
theorem Ry(j:xs[i]?=J x)(n:i<k)(s:env.kindOf x=J .local\/env.kindOf x=J .cell)(h:∀a,ez B m z au ⟨ρ.star,a⟩ env xs k (g.set i (.fm [])) y u fl)
  (L:g.all uN=aa)(l:u.all uN=aa):ez B m z au ρ env xs k g (.Assign [.Name x aC] (.List [] aD) aB::y) u fl:=by
 intro A f t Q G e S O;refine gN (kF (GH kM C A f t _ _ S λaH w a aE r aJ aK o X eo p F v d=>?_));obtain rfl:=d.g6 C;refine gc (av:= .fm []) (fp:= [a]) eo e (p.pU a L) j n s ⟨[],r,C,v, .nil,C⟩ (.pP F) λH E T P=>h a A w H Q G e ⟨eo,E,_,P⟩ λR c ai aj ah b ao=>?_;obtain⟨_,az,q,b⟩:=b;exact O R c ai ((o.trans T).trans aj) (X.trans ah) ⟨eo,az,q,b.pU ρ.mark l⟩ (ao.map λd=>d.pU ρ.mark)
theorem Q4(b:xs[i]?=J x)(h:g[i]?=J (.fm l))(q:(x==("__debug__"))=aA)(hy:xs[j]?=J y)(t:j<k)(o:env.kindOf y=J .local\/env.kindOf y=J .cell)
  (z:attributeBase (.Name x e) "append" env (eval (.Name x e) env)=eval (.Name x e) env):gF B az X d a env xs k g (.Assign [.Name y p] (.Attribute (.Name x e) "append" apos) R) (g.set j .iF) .next:=by
 rintro aj f s Q G n⟨E,ao,au,S⟩O;refine cps λw T=>?_;obtain⟨H,r,A,L,rfl,v,ah,ai⟩:=S.vars i x _ b h;refine T (kF (Om z (eP (eH E S.ns r (cR C v ?_)) q) (λw w=>C)));have P:=b5.gR S.ready (oj a.mark) (s.toks+1);exact gc (av:= .iF) E n (S.step P) hy t o ⟨_,C,eY _ C,C⟩ (.pP (S.free (ir s))) λm c u F=>O m f .next (P.same.trans u) (Le.refl _) ⟨E,c,_,F⟩ trivial
theorem QT(a:xs[i]?=J x)(hy:xs[j]?=J y)(bq:g[j]?=J .iF)(ai:(y==("__debug__"))=aA)(c:cy B X aB F ρ n xs aC g e u L)(Q:u[j]?=J .iF)(ah:u[i]?=J (.fm l))
  (P:∀x p,e≠ .Starred x p)(aD:dh l.length=aa)(aH:swapsWith (.Call (.Name y aK) [e] [] aL) ae R.line n=pure aA):
  gF B X aB F ρ n xs aC g (.Expr (.Call (.Name y aK) [e] [] aL) R) (u.set i (.fm (l++ [L]))) .next:=by
 rintro A b7 cv bz cE bY⟨E,H,w,S⟩O;obtain⟨bW,r,b,rfl,bD,bQ⟩:=S.vars j y _ hy bq;have k:∀s∈ [e],∀x p,s≠ .Starred x p:=λs aj=>by rw [cI.mp aj];exact P
 refine rB (kG (eP (eH E S.ns r (OZ (a:=ρ.mark) (jS [e] k) (jm k (pH c kM P) (hB:=A.lock j (.ref b)) ⟨E,H,w,S.se hy r⟩ λcO ao bK au az t z=>?_))) ai)) (by unfold interactive;exact E.kind.symm▸C) aH;obtain⟨_,f,cz,t⟩:=t;obtain⟨cB,d,cK,rfl,o,cV⟩:=t.vars j y _ hy Q;obtain rfl:=jZ (bf ((t.locked hy).det d));have t:=t.unlock;obtain⟨bA,aE,T,bM,rfl,aJ,q,m⟩:=t.vars i x _ a ah;obtain⟨v,b_,rfl,aU,z⟩:=z.iO (P:=λaV=>∃v T,aV=v::T/\Den _ _ v _/\aY _ _ T _) λv T x y=>⟨v,T,C,x,y⟩;obtain rfl:=z.g6 C;refine⟨o,O1 o aJ (by rw [q.length];exact of_decide_eq_true aD) λaW aO bg aZ=>(O _ ao .next (au.trans (cu aW _ C)) az ⟨E,f,_,t.Ls a (λb h c9 e=>?_) aE ⟨_,aO,C,bg,q.append (.one aU),C⟩ λb h=> .inl (by rw [m];exact h)⟩ trivial)⟩;rw [m]at h;exact(aZ.2 b λG=>h (by simp [G])).trans e
end
end
section
open PySem.Builtin.Str
noncomputable def vG(w:bV t)(i:ck)(X:b4)(F:cZ)(B:Mk)(T:cW)(n:U af)(k:Y)(g:U (AV t))(d:U b9)(o:U Y)(S:U (AV t))(L:U Y):Prop:=
 ∀(A:HB)(f:Fz)(s:aR)(Q:af->aR->Prop)(G:ay->aR->Prop),SR w B A f T n k g s.heap->
  (∀m P,bU s m->Le f P->SR w B A P T n k S m.heap->Q ⟨L.toArray⟩ m)->Joins (model i X) F G (evalEach d T) ⟨o.toArray⟩ Q s
noncomputable def ux(x:T):U T->aS Y
 | []=>ae
 |E::r=>(e9 6 E x).bind λb=>if b then J 0 else(ux x r).map (·+1)
noncomputable def wq:U T->aS (U aq)
 | []=>J []
 | .int i::r=>(wq r).map (i::·)
 |_::_=>ae
section
theorem Qu:vG w i X F B env n k g [] o g o:=λA f s Q G S O=>O s f (bU.refl s) (Le.refl _) S
theorem Qt(a:cy B i X F ρ env n k g e u (.str l₁))(P:dh (o++l₁).length=aa)(h2:vG B i X F ρ env n k u d (o++l₁) x L):vG B i X F ρ env n k g (e::d) o x L:=by
 intro A f s Q G S O;refine a A f s _ _ S λc w p b l t j=>?_;obtain⟨E,rfl⟩:=jo j;refine(gG _ E C ?_ ?_)
 .rw [<-z6,str_len];exact kj P
 .rw [<-z6];exact h2 A w c Q G t λv q r m h=>O v q (b.trans r) (l.trans m) h
theorem Rh(h:vG w i X F B env n k g (H::cG::d) [] u L)(P:dh L.length=aa):cy w i X F B env n k g (.JoinedStr (H::cG::d) p) u (.str L):=by
 intro A f s Q G S O;refine wpAny_JoinedStr (h A f s _ _ S λc e o a t=>⟨?_,?_⟩)
 .rw [str_len];exact kj P
 .exact O _ e _ (o.trans (cu _ _ C)) a (t.step (b5.tok t.ready _)) (.str L _)
theorem Rf(a:cy h i w F ρ env n k g e u (.str X))(P:dh X.length=aa):cy h i w F ρ env n k g (.FormattedValue e (-1) ae p) u (.str X):=by
 intro A f s Q G S O;refine wpAny_FormattedValue_plain (a A f s _ _ S λc x v o b lj d=>(bZ (jo d) λE l=>?_));subst l;exact SB.field_str (λj R=>(O _ x _ (o.trans (cu _ _ C)) b (lj.step (b5.tok lj.ready _)) (.str _ _))) (by rw [str_len];exact kj P)
theorem HJ{x:T}:∀{j:U T}{m:Y},ux x j=J m->m<j.length/\(∃E,j[m]?=J E/\e9 6 E x=J aa)/\∀i,i<m->∃E,j[i]?=J E/\e9 6 E x=J aA
 |E::r,m,h=>by
  obtain⟨b,q,h⟩:=aaq.mp h;cases b with
  |true=>exact bf h▸((cR (c3 _) (aM E C q) (λi z=>cg z (Nat.not_lt_zero _))))
  |false=>
   refine aG (tL.mp h) λs R e=>?_;subst e;refine fF (HJ R) λa b c=>(cR (Nat.succ_lt_succ a) (b) (λi z=>?_));cases i with
   |zero=>exact(aM E C q)
   |succ i=>exact(c i (Nat.lt_of_succ_lt_succ z))
open Classical in
theorem Vr(g:dw F n)(w:sO h=aa)(l:Den B f az (.list j))(k:Den B f t h)(Q:i9 h j=J aU)(G:ux h j=J m)(ah:dh j.length=aa):PO aK (model aL aH) F B (call (.builtin "list.index") [az,t]) f (.int m):=by
 refine gZ (mH l) λa y au s p z=>?_;subst s;refine PO.give λaV aE aD r H=>bR (HO z Q) λA aJ=>fF (HJ G) λS L T=>?_;obtain⟨E,P,o⟩:=L
 let i:=λv=>decide (∃E,Den B f v E/\e9 6 E h=J aa)
 have u:∀v E c,Den B f v E->e9 6 E h=J c->i v=c:=λv E c d q=>by
  cases c with
  |true=>exact decide_eq_true (aM E d q)
  |false=>exact decide_eq_false λ⟨X,ai,aj⟩=>dg C (Lg w d ai q aj)
 have ao:m<y.toArray.size:=by simpa [(z.length)]using S
 refine xJ aaI (aM _ (r.bC _ _ p) C) PySem.F.entry_list_index (PySem.F.args_list_index_2 _ _)
  (list_indexAt a y.toArray au ae #[] t i m ao ?_ ?_ ?_) (cR (r.bC _ _ p) (λO R=>?_) (H _ _ (.int _ _)))
 .have:=of_decide_eq_true ah;omega
 .refine aG (z.get P) λv e d=>?_;have:y.toArray[m]=v:=by simpa [Mt]using(cw.mp e).2
  exact(aQ _ this).trans (u v E aa d o)
 .intro x aO aB;refine aG (T x aB) λX aC b=>aG (z.get aC) λv e d=>?_;have:y.toArray[x]=v:=by simpa [Mt]using(cw.mp e).2
  exact this▸(u v X aA d b)
 .exact dK (A O (by simpa using R)) λX c d q=>(u O X c d q)▸(vY r.bC (by show F.units+1+6<cLine;exact bL 0 (.a (.a (.a (.v 0) (.n 1)) (.n 6)) (.n 1)) (.v 2) (.a (.a (.a (.v 0) (.m 8 (.v 1))) (.n 64)) (.n 1)) (.v 2) C [_,_,_] (g.units)) d k q)
end
end
section
open PySem.Builtin.Str
variable{O:Type}
theorem mro_object:mroOf (.type "object")=pure [.type "object"]:=by rw [mroOf_type];exact C
theorem QE:entryFor table "object.__new__"=J Builtin.«object.__new__»:=AS (C)
section
variable{prog:ck}{w:b4}{A:cZ}{E:ay->aR->Prop}{s:aR}{Q:ay->aR->Prop}
theorem IG:typeLookup (.type "object") "__new__"=pure (J (.builtin "object.__new__")):=by rw [j2,j0];kernel_rfl
theorem WM:Slot "object" "__init__" "object.__init__":=
 .of (owner:= "object") (n:= "__init__") (by rw [j2,j0];kernel_rfl) (C) (C) (C)
  (by first|exact .inl (C)|exact .inr (C)) (by rw [j1];exact C)
theorem O6:TypeCalled "object" "object.__new__" "object.__init__":=
 ⟨C,C,(cu _ _ mro_object),madeBy_type mro_object IG (by decide+kernel),by decide+kernel,by rw [j1];exact C,WM⟩
theorem Xz:checkTypeCall "object" ⟨[], []⟩=pure ():=C
theorem Uh:checkBuiltinCall "object.__new__" ⟨[.type "object"], []⟩=pure ():=by kernel_rfl
theorem args_object_init_1(a:ay):argsOk "object.__init__" ⟨[a], []⟩:=by
 unfold argsOk;rw [signature?_of (n:= ['_','_','t','i','n','i','_','_']) (C) F.owner_object];kernel_rfl
set_option maxHeartbeats 2000000 in
theorem UU:Meets (Builtin.«object.__new__» ⟨[.type "object"], []⟩) (λe p s=>p (.ok (.ret (.ref s.heap.objs.size))) {s with heap:=s.heap.push {cls:= .type "object",data:= .plain}}):=
 .of_wp λprog w A p s h=>by
  obtain⟨H,P,d,R,os⟩:=s;have G:isSubtype (.type "object") (.type "object")=pure aa:=by rw [j1];exact C
  have c:=IG
  wp_walk
  dsimp only;rw [bF (by decide+kernel)]
  wp_walk
  dsimp only;rw [bF (by decide+kernel)]
  iterate 3(first|assumption|wp_step)
  rw [bF (by decide+kernel)];refine bP ?_;rw [bF (by exact Ek)];show wpAny _ _ (if typeHasDict (k_ "object")=aa then _ else _) _ _ _;rw [bF (show¬typeHasDict (.type "object")=aa from by decide+kernel)];refine aF (bP (aF (rD ?_)));show wpAny _ _ (if diesByItsTypesDel "object"=aa then _ else _) _ _ _;exact(bF (show¬diesByItsTypesDel "object"=aa from by decide+kernel)).symm▸(bP (aM _ C h))
theorem O4(h:Q (.ref s.heap.objs.size) {s with heap:=s.heap.push {cls:= .type "object",data:= .plain}}):wpAny (model prog w) A (call (.type "object") []) Q E s:=by
 refine callType_meets (Q₁:=λe c=>c.TypeIs e "object"/\Q e c) O6 Xz Uh QE F.entry_object_init UU ?_ λe c k=>?_
 .exact⟨(aM _ (eY _ C) C),h⟩
 .refine(cR k.1 (args_object_init_1 e) ⟨λa p s=>p (.ok (.ret .none)) s,?_,?_⟩)
  .exact .of_wp λprog w A p s P=>bP (aM _ C P)
  .exact⟨C,k.2⟩
end
section
variable{B:bV O}{prog:ck}{w:b4}{A:cZ}{ρ:Mk}{env:cW}{xs os cs:U af}{ci:U Y}{k n:Y}{lv aP cU Cz i_ lvo:U (AV O)}{fz fR fzn:Fz}{hB:HB}{m mn:af->aS ay}{dz aa2:Y->U ak}{scope:j5}{wr:U ak}{e oC cG iI elt iter c:b9}{ifs es:U b9}{ts ys l l':U T}{pos p px py w6 apos:Pos}{bb:bu}{i j:Y}{x y:af}{τ ta tb tx:T}{m9:U T}{h h':b8}{body rest orelse:U cf}{fl:eS}{st:cf}{va vb vc:ay}{vs:U ay}{acc out l₁ l₂ IL:U Y}{mg mb:af->aS ay}
theorem SX(d:aY ρ fz vs ts):∀{r:U aq},wq ts=J r->∃l:U (aq×fh),vs=l.map (λp=> .int p.1 p.2)/\l.map (·.1)=r:=
 d.ind (P:=λvs ts=>∀{r:U aq},wq ts=J r->∃l:U (aq×fh),vs=l.map (λp=> .int p.1 p.2)/\l.map (·.1)=r) (λh=>(aM ([]) C (bf h))) λ{v vs E ts}d w X=> @λr h=>by
  cases E<;>first|(exact aT C h;done)|skip
  refine bZ d.inv λE A=>?_;subst A;refine aG (tL.mp h) λa R x=>?_;subst x;refine aG (X R) λl A x=>?_;subst A x;exact(aM ((_,E)::l) C C)
theorem Vz(u:A.handled=ae)(d:Den ρ fz va (.list ts))(h:wq ts=J ns):PO B (model prog w) A ρ (call (.builtin "sum") [va]) fz (.int ns.sum):=by
 refine gZ (mH d) λa vs i v p z=>?_;subst v;refine aG (SX z h) λl e x=>?_;subst e x;intro s Q G r O;have L:s.heap.IsList a (intItems l.toArray):=by
  have:=fL r.bC p;simpa [intItems]using this
 refine sum_intListG u L λh' R X g=>?_;rw [preSum_eq,List.take_of_length_le (by simp)];exact O _ _ _ (b5.keeps r g) (.int _ _)
theorem Vu(j:Den ρ fz va (.str l₁))(i:Den ρ fz vb (.str l₂))(n:Den ρ fz vc (.str IL))(h:(occurrences ⟨l₁.toArray⟩ ⟨l₂.toArray⟩ 0 l₁.length (l₁.length+1)).isEmpty=aa):
  PO B (model prog w) A ρ (call (.builtin "str.replace") [va,vb,vc]) fz (.str l₁):=by
 refine bZ (jo j) λE e=>?_;subst e;refine bZ (jo i) λH e=>?_;subst e;refine bZ (jo n) λv e=>?_;subst e;have y:((occurrences (⟨l₁.toArray⟩:af) ⟨l₂.toArray⟩ 0 (⟨l₁.toArray⟩:af).length ((⟨l₁.toArray⟩:af).length+1)).isEmpty||((⟨l₂.toArray⟩:af).length==0&&(⟨IL.toArray⟩:af).length==0))=aa:=by
  rw [str_len,h];rfl
 exact PO.give λs Q G r O=>call_gives F.slot_str_replace (AU _ _ _) F.entry_str_replace (F.args_str_replace_3 _ _ _) (gives_str_replace _ _ _ E H v λq=>dg q y) ((bB y).symm▸(O _ s.toks (.str _ _)))
theorem Vn(j:Den ρ fz va (.str l₁)):PO B (model prog w) A ρ (call (.builtin "isinstance") [va, .type "str"]) fz (.bool aa):=by
 refine bZ (jo j) λE h=>?_;subst h;exact PO.give λs Q G r O=>IsiPair.str_str (O _ s.toks (.bool _))
end
end
section
open PySem.Builtin.Str
mutual
noncomputable def zz:T->bu
 | .atom=>aA
 | .list l=>qY l
 | .tup l=>qY l
 |_=>aa
noncomputable def qY:U T->bu
 | []=>aa
 |t::r=>zz t&&qY r
end
theorem Den.nF(a:ak){E:T}(d:Den B f v E):zz E=aa->Den ⟨a,B.mark⟩ f v E:=
 Den.rec (motive_2:=λy j w=>qY j=aa->aY ⟨a,B.mark⟩ f y j) (λw=> .none) (λb w=> .bool b) (λi E w=> .int i E) (λl E w=> .str l E) ((dg C)) (λv w=> .bO v) (λe w i h=> .list e (i h)) (λe w i h=> .tup e (i h)) (λw=> .nil)
  (λw w i m h=> .cons (i (ew.mp h).1) (m (ew.mp h).2)) d
theorem aY.nF(a:ak)(d:aY B f y j):qY j=aa->aY ⟨a,B.mark⟩ f y j:=
 d.ind (P:=λy j=>qY j=aa->aY ⟨a,B.mark⟩ f y j) (λw=> .nil) λa w i h=> .cons (a.nF _ (ew.mp h).1) (i (ew.mp h).2)
noncomputable def uM:AV t->bu
 | .t x=>zz x
 | .own l=>qY l
 | .fm l=>qY l
 |_=>aa
noncomputable def I9:eS->bu
 | .ret E=>zz E
 |_=>aa
section
variable{B:bV O}
theorem Holds.nF(a:ak)(c:Holds B h f x F k fp)(L:uM F=aa):Holds B ⟨a,h.mark⟩ f x F k fp:=by
 cases F with
 |un=>exact c
 |t n=>obtain⟨s,v,i,d⟩:=c;exact⟨s,v,i,d.nF a L⟩
 |own l=>obtain⟨b,y,u,t,Q,d,e⟩:=c;exact⟨b,y,u,t,Q,d.nF a L,e⟩
 |obj o=>exact c
 |fm l=>obtain⟨y,u,t,Q,d,e⟩:=c;exact⟨y,u,t,Q,d.nF a L,e⟩
 |iF=>exact c
theorem aN.nF(a:ak)(S:aN B ρ A f env n k g H R h)(L:g.all uM=aa):aN B ⟨a,ρ.mark⟩ A f env n k g H R h:=
 {S with
  vars:=λi x F j d=>by
   obtain⟨s,r,c⟩:=S.vars i x F j d
   exact⟨s,r,c.nF a (kC.mp L F (cA d))⟩}
theorem Rx(i:Y)(h:ez B prog X F e env n k g y u j):ez B prog X F e env n k g y (u.set i .un) j:=by
 intro A f s Q G a S O;refine h A f s Q G a S λc w z o x t d=>?_;obtain⟨E,L,b,t⟩:=t;exact O c w z o x ⟨E,L,_,t.forget⟩ d
theorem Rz(G:e6 B t r)(c:n[i]?=J x)(m:i<k)(w:env.kindOf x=J .local\/env.kindOf x=J .cell)(A:env.kindOf "object"=J .globalImplicit)(ao:t "object"=ae)(au:r "object"=J (.type "object"))
  (aB:∀e,ez B l X F ⟨e,ρ.mark⟩ env n k (g.set i (.t .atom)) y u j)(d:g.all uM=aa)(R:u.all uM=aa)(E:I9 j=aa):
  ez B l X F ρ env n k g (.Assign [.Name x aH] (.Call (.Name "object" aJ) [] [] aD) aE::y) u j:=by
 rintro f v s Q p a⟨eo,aK,aL,S⟩O;refine gN (kF (kG (mV G eo S.base A ao au (C) (PyProof.Rows.callWith_type0 (O4 ?_)))));have P:=b5.gR S.ready {cls:= .type "object",data:= .plain} s.toks;refine gc (av:= .t .atom) eo a ((S.nF _ d).step P) c m w ⟨C,_,C, .atom (ρ:=⟨s.heap.objs.size,ρ.mark⟩)⟩ .nil λH L o ah=>aB s.heap.objs.size f v H Q p a ⟨eo,L,_,ah⟩ λai aj z T az b h=>?_;obtain⟨_,aC,q,b⟩:=b;refine O ai aj z ((P.same.trans o).trans T) az ⟨eo,aC,q,b.nF ρ.star R⟩ ?_;cases z<;>cases j<;>first|exact h|exact h.nF ρ.star E
end
end
noncomputable def nW(w:bV t)(l:af->aS ay)(z:af)(u:Y):Prop:=
 ∃a o d code j,l z=J (.ref a)/\(∀{h},bN w.bI h->h.get? a=J o)/\o.data= .func (docDef z (gQ (bj u)) (cQ (bj u)) (d5 (bj u)) d code j)/\(∀{h},bN w.bI h->h.CodeRec code z)
noncomputable def xQ(w:bV t)(i:ck)(X:b4)(l:af->aS ay)(u:Y)(z:af)(g:U T)(r:T):Prop:=
 ∃a o f,l z=J (.ref a)/\(∀{h},bN w.bI h->h.get? a=J o)/\o.data= .func f/\A1 w i X u (.ref a) g r
section
variable{env:cW}{e:b9}
noncomputable def PJ(z:af)(i:Y)(d code j:ay)(A a:ak):cW:=callEnvC (docDef z (gQ (bj i)) (cQ (bj i)) (d5 (bj i)) d code j) A a
theorem OU(e:e6 w l f)(t:nW w l z i)(Q:n6 (d5 (bj i)) n)(G:E.length<=n.length)
  (x:∀d code j(y:U ay),y.length=E.length->bindArgs (docDef z (gQ (bj i)) (cQ (bj i)) (d5 (bj i)) d code j) ⟨y, []⟩=pure (eI n y))
  (s:∀F B d code j A a,dw F u->∃b,ez w k X F B (PJ z i d code j A a) n n.length (qV n E) (cQ (bj i)) b (.ret r)):xQ w k X l (u+1) z E r:=GC t λa o d code j R h S q=>(mQ a o _ R h S (F1 e h S q C C Q C C G (x d code j) λA F B p=>s F B d code j A a p))
theorem Rg(G:e6 w l r)(h:dw F u)(j:env.kindOf x=J .globalImplicit)(q:(x==("__debug__"))=aA)
  (P:∀e∈d,∀x p,e≠ .Starred x p)(a:j7 w i X F B env n k g b d s E)(y:xQ w i X l u x E L):
  cy w i X F B env n k g (.Call (.Name x p) d [] b) s L:=oA y λo f v R t S A=>Rc G h j R q t S P a A
noncomputable def dj(e:b9):bu:=!(swappedStores.match_5 (λw=>bu) e (λw G=>aa) λw=>aA)
theorem kS{d:U b9}(h:d.all dj=aa):∀e∈d,∀x p,e≠ .Starred x p:=by
 intro e u x p q;have:=kC.mp h e u;subst q;exact dg C this
theorem gq(h:dj e=aa):∀x p,e≠ .Starred x p:=by
 intro x p q;subst q;exact dg C h
end
noncomputable abbrev t7:U (af×ay):= [("len", .builtin "len"),("range", .type "range"),("ord", .builtin "ord"),("chr", .builtin "chr"),("sum", .builtin "sum"),("max", .builtin "max"),("sorted", .builtin "sorted"),
 ("zip", .type "zip"),("bytes", .type "bytes"),("isinstance", .builtin "isinstance"),("str", .type "str"),("object", .type "object"),("list", .type "list"),("tuple", .type "tuple"),("bool", .type "bool"),("set", .type "set"),("iter", .builtin "iter"),("StopIteration", .type "StopIteration"),("min", .builtin "min")]
structure Cx(O:Type)where
 B:bV O
 prog:ck
 w:b4
 A:cZ
 ρ:Mk
 env:cW
 mg:af->aS ay
 mb:af->aS ay
 n:Y
 G:e6 B mg mb
 R:dw A n
 bi:∀(i:Y)(x:af)(v:ay),t7[i]?=J (x,v)->mg x=ae/\mb x=J v
section
structure EE(c:Cx O)(xs:U af)(k:Y)(lv:U (AV O))(e:b9)(lv':U (AV O))(τ:T):Prop where
 ev:cy c.B c.prog c.w c.A c.ρ c.env xs k lv e lv' τ
structure EC(c:Cx O)(xs:U af)(k:Y)(lv:U (AV O))(e:b9)(lv':U (AV O))(b:bu):Prop where
 ev:fQ c.B c.prog c.w c.A c.ρ c.env xs k lv e lv' b
structure EF(c:Cx O)(xs:U af)(k:Y)(lv:U (AV O))(e:b9)(lv':U (AV O))(ts:U T):Prop where
 ev:rH c.B c.prog c.w c.A c.ρ c.env xs k lv e lv' ts
structure ER(c:Cx O)(xs:U af)(k:Y)(lv:U (AV O))(pos:Pos)(es:U b9)(lv':U (AV O))(ts:U T):Prop where
 ev:j7 c.B c.prog c.w c.A c.ρ c.env xs k lv pos es lv' ts
structure EI(tup:bu)(c:Cx O)(xs:U af)(k:Y)(lv:U (AV O))(e:b9)(lv':U (AV O))(ts:U T):Prop where
 ev:pq tup c.B c.prog c.w c.A c.ρ c.env xs k lv e lv' ts
structure EZ(c:Cx O)(xs:U af)(k:Y)(lv:U (AV O))(e:b9)(lv':U (AV O))(ts:U (U T)):Prop where
 ev:xX c.B c.prog c.w c.A c.ρ c.env xs k lv e lv' ts
structure EA(c:Cx O)(xs:U af)(k:Y)(lv:U (AV O))(e:b9)(τ:T)(lv':U (AV O)):Prop where
 ev:nq c.B c.prog c.w c.A c.ρ c.env xs k lv e τ lv'
structure ES(c:Cx O)(xs:U af)(k:Y)(lv:U (AV O))(st:cf)(lv':U (AV O))(fl:eS):Prop where
 ev:gF c.B c.prog c.w c.A c.ρ c.env xs k lv st lv' fl
structure EX(c:Cx O)(xs:U af)(k:Y)(lv:U (AV O))(st:U cf)(lv':U (AV O))(fl:eS):Prop where
 ev:ez c.B c.prog c.w c.A c.ρ c.env xs k lv st lv' fl
noncomputable abbrev EW(c:Cx t)(n:U af)(k:Y)(E:b9)(m i:U cf)(u:Y)(g S:U (AV t))(j:eS):Prop:=jK c.B c.prog c.w c.A c.ρ c.env n k E m i u g S j
noncomputable abbrev j6(c:Cx t)(n:U af)(k:Y)(H:b9)(m:U cf)(h:U T)(g S:U (AV t))(j:eS):Prop:=nr c.B c.prog c.w c.A c.ρ c.env n k H m h g S j
noncomputable abbrev rG(c:Cx t)(n:U af)(k:Y)(H:b9)(s:U b9)(y:b9)(j:U T)(g:U (AV t))(h:U T)(S:U (AV t)):Prop:=vF c.B c.prog c.w c.A c.ρ c.env n k H s y j g h S
structure EO(c:Cx O)(xs:U af)(k:Y)(lv:U (AV O))(e:aS b9)(lv':U (AV O))(i:aS aq):Prop where
 ev:vH c.B c.prog c.w c.A c.ρ c.env xs k lv e lv' i
noncomputable abbrev CN(c:Cx t)(z:af)(g:U T)(r:T):Prop:=xQ c.B c.prog c.w c.mg c.n z g r
structure Fm(env:cW)(xs:U af)(k:Y)(ns:U (af×dU)):Prop where
 loc:∀{i:Y}{x:af},xs[i]?=J x->i<k->env.kindOf x=J .local\/env.kindOf x=J .cell
 eU:∀{i:Y}{x:af},xs[i]?=J x->(x==("__debug__":af))=aA
 kn:∀(i:Y){x:af}{kd:dU},ns[i]?=J (x,kd)->kd≠ .free->env.kindOf x=J kd
 kf:∀(i:Y){x:af},ns[i]?=J (x, .free)->env.kindOf x=J .free\/env.kindOf x=J .cell
 kg:∀(i:Y){x:af}{kd:dU},ns[i]?=J (x,kd)->(x==("__debug__":af))=aA
noncomputable abbrev NQ(r:U (af×dU))(n:U af)(k:Y):Prop:=(∀x∈n.take k,r.lookup x=J .local\/r.lookup x=J .cell)/\(∀x∈n,(x==("__debug__":af))=aA)/\∀p∈r,r.lookup p.1=J p.2/\(p.1==("__debug__":af))=aA
noncomputable def nA(r:U (af×dU))(n:U af)(k:Y):bu:=decide (NQ r n k)
theorem IS{n:U af}(j:n[i]?=J x)(z:i<k):x∈n.take k:=cA ((List.getElem?_take.trans (bB z)).trans j)
theorem jQ(h:nA r n k=aa)(u:env.scope.names=r):Fm env n k r:=u▸fF (of_decide_eq_true (u.symm▸h)) λR E S=>
 ⟨λ{_ x}j z=>R x (IS j z),λ{_ x}j=>E x (cA j),λ_{_ _}j _=>(S _ (cA j)).1,λ_{_}j=> .inl (S _ (cA j)).1,λ_{_ _}j=>(S _ (cA j)).2⟩
theorem v7(h:nA G.names n k=aa):Fm (ig G a env) n k G.names:=fF (of_decide_eq_true h) λR E S=>
 ⟨λ{_ x}j z=>(R x (IS j z)).imp (wV (nofun)) (wV (nofun)),λ{_ x}j=>E x (cA j),λ_{_ _}j g=>wV g (S _ (cA j)).1,λ_{_}j=>Km (S _ (cA j)).1,λ_{_ _}j=>(S _ (cA j)).2⟩
noncomputable abbrev N3(G:j5)(n:U af):Prop:=G.kind= .function/\G.isCoroutine=aA/\G.isGenerator=aA/\(∀x∈n,G.names.lookup x=J .local\/G.names.lookup x=J .cell)/\n.Nodup
noncomputable def wX(G:j5)(n:U af):bu:=decide (N3 G n)
theorem kW(h:wX G n=aa):n6 G n:=rW (of_decide_eq_true h) n6.mk
noncomputable abbrev NN(G:j5)(os o:U af):Prop:=G.kind= .function/\(∀x∈os,G.names.lookup x=J .local\/G.names.lookup x=J .cell)/\(∀O∈o,G.names.lookup O=J .free/\(∀p∈G.names,p.1=O->p.2= .free)/\(O==("__classdict__":af))=aA)/\
 (∀p∈G.names,p.2= .free->p.1∈o)/\(os++o).Nodup/\∀x∈G.names,x.2= .local->G.names.lookup x.1=J .local
noncomputable def qF(G:j5)(os o:U af):bu:=decide (NN G os o)
theorem Bp{os o:U af}(h:qF G os o=aa):mu G os o:=yt (of_decide_eq_true h) mu.mk
noncomputable abbrev NL(r:U (af×dU))(n o:U af)(v:U Y):Prop:=v.map (n[·]?)=o.map J/\∀O∈o,(r.lookup O).isSome=aa/\r.lookup O≠J .local
noncomputable def qC(r:U (af×dU))(n o:U af)(v:U Y):bu:=decide (NL r n o v)
theorem Bk(F:Fm env n k r)(a:qC r n o v=aa):iB env n o v:=bR (of_decide_eq_true a) λR E=>
 ⟨(cH _).symm.trans ((aQ M3 R).trans (cH _)),λm _ _ G A=>bf ((aQ (qm (n[·]?)) G).symm.trans (gD.symm.trans ((aQ (·[m]?) R).trans (gD.trans (aQ (qm J) A))))),
  λO A q=>bR (E O A) λx b=>bZ (gn.mp x) λL e=>bZ (o8 (PySem.mem_of_lookup e)) λi z=>by
   by_cases h:L= .free
   .exact(F.kf i (h▸z)).elim (λP=>nc mj (bf (P.symm.trans q)) C) λP=>nc mj (bf (P.symm.trans q)) C
   .exact b (e.trans ((F.kn i z h).symm.trans q))⟩
end
section
variable{c:Cx O}{xs os:U af}{k:Y}{ns:U (af×dU)}{lv aP:U (AV O)}{ts l:U T}{st:cf}
noncomputable def qZ(e:b9):bu:=!qj (xV e).2.2 3
noncomputable def uO(e:b9):bu:=!qj (xV e).2.2 2
noncomputable def Dv(t:bu)(e:b9):bu:=qj (xV e).2.2 4||(qj (xV e).2.2 5&&t)
theorem zv(F:Fm c.env xs k ns)(i:Y)(j:xs[i]?=J x)(B:lv[i]?=J (.t L)):EE c xs k lv (.Name x p) lv L:=⟨Rm j B (F.eU j)⟩
theorem lW(F:Fm c.env xs k ns)(i:Y)(j:xs[i]?=J x)(B:lv[i]?=J (.own l)):EE c xs k lv (.Name x p) (lv.set i (.t (.list l))) (.list l):=⟨Rn j B (F.eU j)⟩
theorem zi(a:aq):EE c xs k lv (.Constant (.int a) kk p) lv (.int a):=⟨v3 C⟩
theorem zs(s:U Y)(h:m=⟨s.toArray⟩):EE c xs k lv (.Constant (.str m) kk p) lv (.str s):=⟨v3 (aQ Const.str h)⟩
theorem zb(a:bu):EE c xs k lv (.Constant (.bool a) kk p) lv (.bool a):=⟨v3 C⟩
theorem zn:EE c xs k lv (.Constant .none kk p) lv .none:=⟨v3 C⟩
theorem dI(R:EE c xs k lv H aP n)(E:EE c xs k aP cG B d)(h:iC P n d=J L):EE c xs k lv (.BinOp H P cG p) B L:=⟨Rb c.R R.1 E.1 h⟩
theorem xg(R:EE c xs k lv H aP n)(E:EE c xs k aP cG B d)(h:gY op n d=J b)(L:behindInMarks op cG=aA):EE c xs k lv (.Compare H [op] [cG] p) B (.bool b):=⟨Rd c.R R.1 E.1 h L⟩
theorem o5(R:EC c xs k lv H aP b)(E:EE c xs k aP (if b then cG else h) B L):EE c xs k lv (.IfExp H cG h p) B L:=⟨Rk R.1 E.1⟩
theorem An(R:EE c xs k lv e aP (.int i)):EE c xs k lv (.UnaryOp .USub e p) aP (.int (-i)):=⟨Ro R.1⟩
theorem Mc(R:EE c xs k lv e aP n)(h:nG n=J b):EE c xs k lv (.UnaryOp .Not e p) aP (.bool (!b)):=⟨Rp c.R R.1 h⟩
theorem cj:ER c xs k lv b [] lv []:=⟨kM⟩
theorem zr(R:EE c xs k lv e aP L)(E:ER c xs k aP b d B h)(P:dj e=aa):ER c xs k lv b (e::d) B (L::h):=⟨pH R.1 E.1 (gq P)⟩
theorem jT(h:ER c xs k lv b d aP E)(P:dh E.length=aa):EE c xs k lv (.List d b) aP (.list E):=⟨Rl h.1 P⟩
theorem xm(h:ER c xs k lv b d aP E)(P:dh E.length=aa):EE c xs k lv (.Tuple d kk b) aP (.tup E):=⟨BC h.1 P⟩
theorem cX(R:EE c xs k lv H aP n)(E:EE c xs k aP cG B d)(h:lI n d=J L)(P:uO cG=aa):EE c xs k lv (.Subscript H cG p) B L:=⟨Ri R.1 E.1 h λa b e p q=>by subst q;contradiction⟩
theorem jV{lo z:aS b9}(R:EE c xs k lv H aP n)(E:EO c xs k aP lo B h)(S:EO c xs k B z v j)(e:z3 n h j=J L):EE c xs k lv (.Subscript H (.Slice lo z ae u) p) v L:=⟨Ru R.1 E.1 S.1 e⟩
theorem kZ:EO c xs k lv ae lv ae:=⟨QJ⟩
theorem ji(h:EE c xs k lv e aP (.int i)):EO c xs k lv (J e) aP (J i):=⟨QK h.1⟩
theorem zf(h:EF c xs k lv e aP ts):EE c xs k lv e aP (.list ts):=⟨h.1.ev⟩
theorem o4(h:ER c xs k lv b d aP ts)(P:dh ts.length=aa):EF c xs k lv (.List d b) aP ts:=⟨GH h.1 P⟩
theorem zC(R:EE c xs k lv H aP n)(E:EE c xs k aP cG B d)(h:gY P n d=J b)(L:behindInMarks P cG=aA):EC c xs k lv (.Compare H [P] [cG] p) B b:=⟨Qg c.R R.1 E.1 h L⟩
theorem LR(F:Fm c.env xs k ns)(i:Y)(R:EE c xs k lv H aP n)(j:xs[i]?=J x)(B:aP[i]?=J (.own l))(h:gY P n (.list l)=J b):EC c xs k lv (.Compare H [P] [.Name x e] p) aP b:=⟨Qh c.R R.1 j B (F.eU j) h⟩
theorem DL(R:EC c xs k lv e aP b):EC c xs k lv (.UnaryOp .Not e p) aP (!b):=⟨Qj R.1⟩
theorem oX(R:EE c xs k lv e aP ta)(h:nG ta=J b)(u:∀x,isTrue e c.env x=do let v<-x;standAt e.pos;holding [v] (truthy v)):EC c xs k lv e aP b:=⟨Ql c.R R.1 h u⟩
theorem sV:EC c xs k lv (.BoolOp .And [] p) lv aa:=⟨Qf⟩
theorem Yh:EC c xs k lv (.BoolOp .Or [] p) lv aA:=⟨Qk⟩
theorem jg(h:EC c xs k lv e lv b₁)(E:b₁=aa->EC c xs k lv (.BoolOp .And r p) lv b₂):EC c xs k lv (.BoolOp .And (e::r) p) lv (b₁&&b₂):=by
 cases b₁ with
 |true=>exact⟨GF h.1 (E C).1⟩
 |false=>exact⟨GF h.1 (And.intro C C)⟩
theorem vf(h:EC c xs k lv e lv x)(E:x=aA->EC c xs k lv (.BoolOp .Or r p) lv a):EC c xs k lv (.BoolOp .Or (e::r) p) lv (x||a):=by
 cases x with
 |true=>exact⟨GG h.1 (And.intro C C)⟩
 |false=>exact⟨GG h.1 (E C).1⟩
theorem eO:EX c xs k lv [] lv .next:=⟨ik⟩
theorem zx(R:ES c xs k lv st aP .next)(E:EX c xs k aP y B j):EX c xs k lv (st::y) B j:=⟨Rv R.1 E.1⟩
theorem gU(R:ES c xs k lv st aP (.ret r)):EX c xs k lv (st::y) aP (.ret r):=⟨rX R.1 nofun⟩
theorem xn(R:ES c xs k lv st aP .brk):EX c xs k lv (st::y) aP .brk:=⟨rX R.1 nofun⟩
theorem Mp(R:ES c xs k lv st aP .cont):EX c xs k lv (st::y) aP .cont:=⟨rX R.1 nofun⟩
theorem fu(F:Fm c.env xs k ns)(i:Y)(j:xs[i]?=J x)(l:i<k)(h:EE c xs k lv e aP L)(P:swapsWith e (J (.Name x a)) p.line c.env=pure aA):ES c xs k lv (.Assign [.Name x a] e p) (aP.set i (.t L)) .next:=⟨GO j l (F.loc j l) h.1 P⟩
theorem q_(F:Fm c.env xs k ns)(i:Y)(j:xs[i]?=J x)(l:i<k)(h:EF c xs k lv e aP ts)(P:swapsWith e (J (.Name x a)) p.line c.env=pure aA):ES c xs k lv (.Assign [.Name x a] e p) (aP.set i (.own ts)) .next:=⟨Q5 j l (F.loc j l) h.1 P⟩
theorem dF(R:EC c xs k lv e aP b)(E:EX c xs k aP (if b then m else i) B j):ES c xs k lv (.If e m i p) B j:=⟨Q3 R.1 E.1⟩
theorem h8(h:EE c xs k lv e aP L):ES c xs k lv (.Return (J e) p) aP (.ret L):=⟨Q6 h.1⟩
theorem xe(h:EC c xs k lv e aP aa):ES c xs k lv (.Assert e i p) aP .next:=⟨QV h.1⟩
theorem LS:ES c xs k lv (.Break p) lv .brk:=⟨QZ⟩
theorem Yp:ES c xs k lv (.Continue p) lv .cont:=⟨Q1⟩
theorem l5(h:EW c xs k e m i u lv B j):ES c xs k lv (.While e m i p) B j:=⟨Q8 h⟩
theorem eJ(F:Fm c.env xs k ns)(i:Y)(j:xs[i]?=J x)(l:i<k):EA c xs k lv (.Name x p) L (lv.set i (.t L)):=⟨Qc j l (F.loc j l)⟩
theorem CM(h:qZ e=aa):∀v,foldedSetIterable e env v=pure v:=λv=>by cases e<;>first|rfl|exact dg C h
theorem Ln(h:Dv t H=aa):(∃x p,H= .Name x p)\/t=aa/\∃d B p,H= .Tuple d B p:=by cases H<;>first|exact .inl ⟨_,_,C⟩|exact .inr ⟨h,_,_,_,C⟩|exact dg C h
theorem iV(X:EI t c xs k lv h aP ts)(G:j6 c xs k H m ts aP B j)(P:qZ h=aa)(A:Dv t H=aa):ES c xs k lv (.For H h m [] p) B j:=⟨Q2 X.1 G (CM P) (Ln A)⟩
theorem oY(F:Fm c.env xs k ns)(i:Y)(j:xs[i]?=J x)(l:i<k)(B:lv[i]?=J (.t n))(h:EE c xs k lv e aP d)(A:lC P n d=J τ):ES c xs k lv (.AugAssign (.Name x a) P e p) (aP.set i (.t τ)) .next:=⟨QW j l (F.loc j l) B h.1 A⟩
theorem sX(F:Fm c.env xs k ns)(i:Y)(j:xs[i]?=J x)(h:i<k)(B:lv[i]?=J (.own l))(e:EE c xs k lv a aP (.list ts))(v:aP[i]?=J (.own R))(G:dh R.length=aa)(d:dh ts.length=aa):ES c xs k lv (.AugAssign (.Name x b) .Add a p) (aP.set i (.own (R++ts))) .next:=⟨QX j h (F.loc j h) B e.1 v G d⟩
theorem xd(F:Fm c.env xs k ns)(i:Y)(j:xs[i]?=J x)(B:lv[i]?=J (.own l))(h:EE c xs k lv e aP L)(v:aP[i]?=J (.own R))(P:dj e=aa)(w:(m.endLine==b.line)=aa)(q:dh R.length=aa):
  ES c xs k lv (.Expr (.Call (.Attribute (.Name x s) "append" m) [e] [] b) a) (aP.set i (.own (R++ [L]))) .next:=⟨QU j B (F.eU j) h.1 v (gq P) w C q C⟩
theorem kY(F:Fm c.env xs k ns)(m:Y)(G:ns[m]?=J (x, .globalImplicit))(h:ER c xs k lv b d aP E)(y:CN c x E L)(P:d.all dj=aa):EE c xs k lv (.Call (.Name x p) d [] b) aP L:=⟨Rg c.G c.R (F.kn m G nofun) (F.kg m G) (kS P) h.1 y⟩
theorem oZ(F:Fm c.env xs k ns)(m i:Y){id:String}(G:ns[m]?=J (x, .globalImplicit))(t:t7[i]?=J (x, .builtin id))(h:ER c xs k lv b d aP E)(P:d.all dj=aa)(H:∀f y,aY c.ρ f y E->PO c.B (model c.prog c.w) c.A c.ρ (call (.builtin id) y) f L):
  EE c xs k lv (.Call (.Name x p) d [] b) aP L:=⟨GR c.G (F.kn m G nofun) (c.bi i _ _ t).1 (c.bi i _ _ t).2 (F.kg m G) (kS P) h.1 H⟩
theorem Am(F:Fm c.env xs k ns)(m:Y)(G:ns[m]?=J (("len":af), .globalImplicit))(h:EE c xs k lv e aP (.str s))(a:dh s.length=aa)(P:dj e=aa):EE c xs k lv (.Call (.Name "len" p) [e] [] b) aP (.int s.length):=
 oZ F m 0 G C (zr h cj P) (by simp [P]) λf y d=>by refine aG d.iy λv A q=>?_;subst A;exact Vp q a
theorem DW(F:Fm c.env xs k ns)(m:Y)(G:ns[m]?=J (("len":af), .globalImplicit))(h:EE c xs k lv e aP (.list l))(a:dh l.length=aa)(P:dj e=aa):EE c xs k lv (.Call (.Name "len" p) [e] [] b) aP (.int l.length):=
 oZ F m 0 G C (zr h cj P) (by simp [P]) λf y d=>by refine aG d.iy λv A q=>?_;subst A;exact Ka q a
theorem YW(F:Fm c.env xs k ns)(m:Y)(G:ns[m]?=J (("ord":af), .globalImplicit))(h:EE c xs k lv e aP (.str [s]))(P:dj e=aa):EE c xs k lv (.Call (.Name "ord" p) [e] [] b) aP (.int s):=
 oZ F m 2 G C (zr h cj P) (by simp [P]) λf y d=>by refine aG d.iy λv A q=>?_;subst A;exact Vt q
theorem Ml(F:Fm c.env xs k ns)(m:Y)(G:ns[m]?=J (("sum":af), .globalImplicit))(h:EE c xs k lv e aP (.list l))(z:wq l=J is)(P:dj e=aa):EE c xs k lv (.Call (.Name "sum" p) [e] [] b) aP (.int is.sum):=
 oZ F m 4 G C (zr h cj P) (by simp [P]) λf y d=>by refine aG d.iy λv A q=>?_;subst A;exact Vz c.R.handled q z
theorem jU(F:Fm c.env xs k ns)(m:Y)(G:ns[m]?=J (("range":af), .globalImplicit))(h:ER c xs k lv b d aP E)(r:C3 E=J q)(Q:uW q=aa)(P:d.all dj=aa):EI aA c xs k lv (.Call (.Name "range" p) d [] b) aP (sM q):=⟨Qp c.G c.R.handled (F.kn m G nofun) (c.bi 1 _ _ C).1 (c.bi 1 _ _ C).2 (kS P) h.1 r Q⟩
theorem lU(h:EE c xs k lv e aP (.list ts)):EI aa c xs k lv e aP ts:=⟨Qo c.R.handled h.1⟩
theorem DV(h:EE c xs k lv e aP (.tup ts)):EI aA c xs k lv e aP ts:=⟨Qs c.R.handled h.1⟩
theorem DT(h:EE c xs k lv e aP (.str s)):EI aA c xs k lv e aP (s.map λa=> .str [a]):=⟨Qq c.R.handled h.1⟩
noncomputable abbrev Cx.fc(c:Cx O)(G:j5)(a:ak):Cx O:={c with env:=ig G a c.env}
noncomputable def noOwn(lv:U (AV O))(v:U Y):bu:=v.all λi=>match lv[i]? with|J (.own _)=>aA|_=>aa
theorem CI(h:noOwn lv v=aa):∀i∈v,∀l,lv[i]?≠J (.own l):=λi z l e=>by
 have:=kC.mp h i z;rw [e]at this;exact dg C this
theorem vh(os o:U af)(v:U Y)(F:Fm c.env xs k ns)(G:qF f os o=aa)(E:qC ns xs o v=aa)(j:nA f.names (os++o) os.length=aa)(X:EI t c xs k lv h aP ts)
  (S:noOwn aP v=aa)
  (d:∀a,Fm (c.fc f a).env (os++o) os.length f.names->rG (c.fc f a) (os++o) os.length H s y ts (lJ os v aP) e i_)
  (P:qZ h=aa)(A:Dv t H=aa)(q:dh ts.length=aa)(Q:lR os v aP i_=b):
  EF c xs k lv (.ListComp y [⟨H,h,s,0⟩] f R) b e:=⟨Qm (Bp G) (Bk F E) X.1 (CI S) (λa=>d a (v7 j)) (CM P) (Ln A) q Q⟩
noncomputable def mU(v:AV O):U T->AV O
 | []=>v
 |t::ts=>mU (.t t) ts
theorem L4{B:Type}(F:Fm c.env (x::xs) (k+1) ns)(P z:B->T):∀(A:U B)(v:AV O),(∀H∈A,EE c (x::xs) (k+1) (.t (P H)::i) y (.t (P H)::i) (z H))->
  rG c (x::xs) (k+1) (.Name x p) [] y (A.map P) (v::i) (A.map z) (mU v (A.map P)::i):=λf=>f.rec
 (λv w=> .nil)
 (λt A X v h=> .go (eJ F 0 C (c3 k)).1 yv (h t ee).1 (X _ λH a=>h H (dY _ a)))
theorem YL{B:Type}(F:Fm c.env (x::xs) (k+1) ns)(P z:B->T)(q:B->bu):∀(A:U B)(h:AV O),(∀H∈A,EC c (x::xs) (k+1) (.t (P H)::i) b (.t (P H)::i) (q H))->
  (∀H∈A,q H=aa->EE c (x::xs) (k+1) (.t (P H)::i) y (.t (P H)::i) (z H))->
  rG c (x::xs) (k+1) (.Name x p) [b] y (A.map P) (h::i) ((A.filter q).map z) (mU h (A.map P)::i):=λf=>f.rec
 (λh w w=> .nil)
 (λt A X h R E=>by
  have r:=X (.t (P t)) (λH a=>R H (dY _ a)) λH a=>E H (dY _ a);have e:=R t ee;cases v:q t with
  |true=>
   rw [v]at e;exact(Ew v).symm▸ .go (eJ F 0 C (c3 k)).1 (yw e.1) (E t ee v).1 r
  |false=>
   rw [v]at e;rw [Eu (by simp [v])]
   exact .skip (eJ F 0 C (c3 k)).1 (yw e.1) r)
theorem uR(H:pre.length=os.length):lR os v lv (pre++v.map λi=>(lv[i]?).getD .un)=lv:=by
 unfold lR;apply MQ;intro i;rw [MX];cases h:lv[i]? with
 |none=>rfl
 |some F=>
  simp only [AP]
  split
  .rename_i z;rw [l8 (by exact bL 0 (.v 0) (.a (.v 1) (.v 2)) (.v 0) (.v 1) C [_,_,_] (c4 H)),H,EN,gD,wg z];simp [h]
  .rfl
theorem p5{B:Type}{us:U B}{g:B->T}(x:af)(o:U af)(v:U Y)(z:B->T)(F:Fm c.env xs k ns)(G:qF f [x] o=aa)(E:qC ns xs o v=aa)(j:nA f.names (x::o) 1=aa)(e:EI t c xs k lv h aP (us.map g))(S:noOwn aP v=aa)
  (b:∀a,Fm (c.fc f a).env (x::o) 1 f.names->∀H∈us,EE (c.fc f a) (x::o) 1 (.t (g H)::v.map λi=>aP[i]?.getD .un) y (.t (g H)::v.map λi=>aP[i]?.getD .un) (z H))
  (P:qZ h=aa)(q:us.length<=1000000):EF c xs k lv (.ListComp y [⟨.Name x p,h, [],0⟩] f R) aP (us.map z):=
 vh [x] o v F G E j e S (λa X=>L4 X g z us .un (b a X)) P C (decide_eq_true (by rw [cH];exact q)) (uR (pre:= [mU .un _]) C)
theorem Ag{B:Type}{us:U B}{g:B->T}(x:af)(o:U af)(v:U Y)(z:B->T)(q:B->bu)(F:Fm c.env xs k ns)(G:qF f [x] o=aa)(E:qC ns xs o v=aa)(j:nA f.names (x::o) 1=aa)(b:EI t c xs k lv h aP (us.map g))(S:noOwn aP v=aa)
  (O:∀a,Fm (c.fc f a).env (x::o) 1 f.names->∀H∈us,EC (c.fc f a) (x::o) 1 (.t (g H)::v.map λi=>aP[i]?.getD .un) e (.t (g H)::v.map λi=>aP[i]?.getD .un) (q H))
  (s:∀a,Fm (c.fc f a).env (x::o) 1 f.names->∀H∈us,q H=aa->EE (c.fc f a) (x::o) 1 (.t (g H)::v.map λi=>aP[i]?.getD .un) y (.t (g H)::v.map λi=>aP[i]?.getD .un) (z H))
  (P:qZ h=aa)(l:us.length<=1000000):EF c xs k lv (.ListComp y [⟨.Name x p,h, [e],0⟩] f R) aP ((us.filter q).map z):=
 vh [x] o v F G E j b S (λa X=>YL X g z q us .un (O a X) (s a X)) P C (decide_eq_true (by rw [cH];exact l)) (uR (pre:= [mU .un _]) C)
end
section
theorem xj{id:String}(j:Slot "str" O id)(e:typeOf (.builtin id)=pure (.type "method_descriptor"))(Q:EE c n k g o u (.str s))(h:ER c n k u b d B E)
  (t:attributeBase o O c.env (eval o c.env)=eval o c.env)(P:d.all dj=aa)(G:d.length<30)(w:(m.endLine==b.line)=aa)
  (H:∀f v y,Den c.ρ f v (.str s)->aY c.ρ f y E->PO c.B (model c.prog c.w) c.A c.ρ (call (.builtin id) (v::y)) f L):EE c n k g (.Call (.Attribute o O m) d [] b) B L:=
 ⟨BB t (kS P) G w PySem.F.plainAttrs_str j e Q.1 h.1 (λf v s r a=>by cases a;exact⟨C,λi q=>nc aaO q C⟩) H⟩
theorem YR{id:String}(j:Slot "list" O id)(e:typeOf (.builtin id)=pure (.type "method_descriptor"))(Q:EE c n k g o u (.list l))(i:ER c n k u b d B E)
  (t:attributeBase o O c.env (eval o c.env)=eval o c.env)(P:d.all dj=aa)(G:d.length<30)(w:(m.endLine==b.line)=aa)
  (H:∀f v y,Den c.ρ f v (.list l)->aY c.ρ f y E->PO c.B (model c.prog c.w) c.A c.ρ (call (.builtin id) (v::y)) f L):EE c n k g (.Call (.Attribute o O m) d [] b) B L:=
 ⟨BB t (kS P) G w E1 j e Q.1 i.1 (λf v s r h=>by
  obtain⟨a,y,x,p,z,rfl⟩:=h.inv
  exact⟨(fL r.bC p).typeIs,λa q=>by obtain rfl:=jZ q;exact(aM _ (r.bC _ _ p) C)⟩) H⟩
theorem Ic:∀(l:U (U Y)),Str.join ⟨([]).toArray⟩ (l.map λl=>(⟨l.toArray⟩))=⟨l.flatten.toArray⟩
 | []=>C
 | [x]=>by simp [Str.join]
 |x::O::r=>by
  have X:=Ic (O::r);simp only [Ez]at X⊢;show(⟨x.toArray++#[]++_⟩:af)=_;rw [X];simp
theorem join_nil(l:U (U Y)):Np ⟨([]).toArray⟩ (l.map λl=>(⟨l.toArray⟩))=⟨l.flatten.toArray⟩:=by
 show Builtin.Str.glued _ _=_;rw [PySem.StrLaws.glued_eq_join];exact Ic l
theorem strs_map:∀(l:U (U Y)),z7 (l.map .str)=J l:=λf=>f.rec
 (C)
 (λx r X=>(aQ (qm (x::·)) X))
theorem Al{x:U (U Y)}(Q:EE c n k g o u (.str []))(h:EE c n k u e B (.list (x.map .str)))(t:attributeBase o "join" c.env (eval o c.env)=eval o c.env)(P:dj e=aa)(w:(m.endLine==b.line)=aa)
  (S:x.flatten.length<=16777216):EE c n k g (.Call (.Attribute o "join" m) [e] [] b) B (.str x.flatten):=
 xj PySem.F.slot_str_join PySem.F.type_str_join Q (zr h cj P) t (by simp [P]) (aX _ _) w λf v y d z=>by
  refine aG z.iy λX A q=>?_;subst A;refine Vo d q (strs_map x) ?_ (join_nil x);rw [List.length_flatten]at S;exact S
end
theorem di(l:U Char):Str.ofString (String.ofList l)=⟨(l.map Char.toNat).toArray⟩:=PySem.W.Fast.ofString_ofList l
theorem dM(h:u<=1000000):dh u=aa:=decide_eq_true h
theorem Ky(h:a.length+b.length<=1000000):iC .Add (.str a) (.str b)=J (.str (a++b)):=by
 show(if dh (a.length+b.length)=aa then J (T.str (a++b))else ae)=_;exact(bB (dM h))
theorem zU(h:a.length+b.length<=1000000):iC .Add (.list a) (.list b)=J (.list (a++b)):=by
 show(if dh (a.length+b.length)=aa then J (T.list (a++b))else ae)=_;exact(bB (dM h))
theorem oR(h:eA a=aa)(L:eA b=aa):iC .Mult (.int a) (.int b)=J (.int (a*b)):=by
 show(if(eA a&&eA b)=aa then J (T.int (a*b))else ae)=_;rw [h,L];rfl
theorem Kz(h:eA a=aa)(L:b≠0):iC .FloorDiv (.int a) (.int b)=J (.int (a.fdiv b)):=by
 have:(b !=0)=aa:=by simpa using L
 show(if(b !=0&&eA a)=aa then _ else ae)=_;rw [h,this];rfl
theorem KC(h:eA a=aa)(L:b≠0):iC .Mod (.int a) (.int b)=J (.int (a.fmod b)):=by
 have:(b !=0)=aa:=by simpa using L
 show(if(b !=0&&eA a)=aa then _ else ae)=_;rw [h,this];rfl
theorem C7(h:eA a=aa)(L:0<=b)(A:b<=1000):iC .Pow (.int a) (.int b)=J (.int (a^b.toNat)):=by
 show(if(decide (0<=b)&&eA a&&decide (b<=1000))=aa then _ else ae)=_;rw [h,decide_eq_true L,decide_eq_true A];rfl
theorem yg(h:a.natAbs<2^64):eA a=aa:=decide_eq_true (rm h (by decide+kernel))
theorem Ww(h:a.length+b.length<=1000000):lC .Add (.str a) (.str b)=J (.str (a++b)):=by
 show(if dh (a.length+b.length)=aa then J (T.str (a++b))else ae)=_;exact(bB (dM h))
theorem Wu(h:eA a=aa)(L:eA b=aa):lC .Mult (.int a) (.int b)=J (.int (a*b)):=by
 show(if(eA a&&eA b)=aa then J (T.int (a*b))else ae)=_;rw [h,L];rfl
theorem C_{i u:Y}(h:i<u):seqIndex? (i) u=J i:=by
 show(if(decide (0<=(if(i:aq)<0 then(i:aq)+u else i))&&decide ((if(i:aq)<0 then(i:aq)+u else i)<(u)))=aa then J (if(i:aq)<0 then(i:aq)+u else i).toNat else ae)=J i;rw [(bF (xt.mpr (vq i)))];exact bB (ew.mpr ⟨decide_eq_true (vq i),decide_eq_true (kB.mpr h)⟩)
theorem B7{i:Y}(h:i<2^60):iP (i)=aa:=by
 unfold iP;simp;omega
theorem kU{i:Y}(z:i<2^60)(h:s[i]?=J a):lI (.str s) (.int i)=J (.str [a]):=by
 show(if iP (i)then((seqIndex? (i) s.length).bind (s[·]?)).map λc=>T.str [c]else ae)=_;rw [bB (B7 z),C_ ((cw.mp h).1)];simp [h]
theorem gb{i:Y}(z:i<2^60)(h:s[i]?=J a):lI (.list s) (.int i)=J a:=by
 show(if iP (i)then(seqIndex? (i) s.length).bind (s[·]?)else ae)=_;rw [bB (B7 z),C_ ((cw.mp h).1)];assumption
theorem m4(h:decide (a<b)=d):gY .Lt (.int a) (.int b)=J d:=aQ J h
theorem zV(h:(a==b)=d):gY .Eq (.str a) (.str b)=J d:=aQ J h
theorem zX(h:(!(a==b))=d):gY .NotEq (.str a) (.str b)=J d:=aQ J h
theorem Wx(h:decide (a∈b)=d):gY .In (.str [a]) (.str b)=J d:=aQ J h
theorem zY{d:bu}(P:a.length<=1000000)(h:(!a.isEmpty)=d):nG (.list a)=J d:=by
 show(if dh a.length=aa then J (!a.isEmpty)else ae)=_;rw [bB (dM P),h]
theorem yc{l:U Y}:aaM ⟨l.toArray⟩ ⟨[o].toArray⟩ l.length i<->l[i]?=J o:=by
 unfold aaM Builtin.Str.subAt;have x:(⟨[o].toArray⟩:af).length=1:=C;refine x▸?_;have b:(l.toArray.extract i (i+1)).toList=(l.drop i).take 1:=by simp
 have e:((l.toArray.extract i (i+1))== [o].toArray)=aa<->(l.drop i).take 1= [o]:=by
  rw [beq_iff_eq,<-Array.toList_inj,b]
 rw [e];cases q:l.drop i with
 |nil=>
  have:=List.drop_eq_nil_iff.mp q;exact⟨λh=>cg h.2 (by simp),λh=>cg (cw.mp h).1 (λA=>jx (cF 0 (.n 1) (.n 0) (.v 0) (.v 1) (.a (.v 1) (.n 1)) (.v 0) C [_,_] this A))⟩
 |cons a r=>
  have z:l[i]?=J a:=by rw [<-List.head?_drop,q];rfl
  have B:=(cw.mp z).1;rw [z];simp;omega
theorem UZ{l:U Y}(h:l[i]?=J o)(L:∀k,k<i->l[k]?≠J o):∃r,My ⟨l.toArray⟩ ⟨[o].toArray⟩ 0 l.length 1=i::r:=by
 rcases aaN ⟨l.toArray⟩ ⟨[o].toArray⟩ 1 (ek _)with⟨_,v⟩|⟨m,r,e,a,v⟩
 .exact cg (yc.mpr h) (v i)
 .have:m=i:=by
   rcases Nat.lt_trichotomy m i with q|q|q
   .exact cg (yc.mp a) (L m q)
   .exact q
   .exact cg (yc.mpr h) (v i q)
  exact⟨r,this▸e⟩
section
variable{st:cf}
theorem wu{B:Type}{p:Prop} [Decidable p]{x O:B}(h:O=x):(if p then x else O)=x:=h▸ite_self O
theorem Xg{a b:b9}{d:U b9}(h:d.all (foldedForSure 8)=aa):swappedStores [.Tuple [a,b] q f] (.Tuple d l o) env=pure ae:=
 wu (wu (wu (bB h)))
theorem LP(F:Fm c.env n k r)(i m:Y)(j:n[i]?=J x)(z:i<k)(A:n[m]?=J O)(G:m<k)(h:ER c n k g p d u [H,y])(e:d.all (foldedForSure 8)=aa):
  ES c n k g (.Assign [.Tuple [.Name x a, .Name O w] q R] (.Tuple d l p) b) ((u.set i (.t H)).set m (.t y)) .next:=
 ⟨GP (BC h.1 C) (Qd c.R.handled j z (F.loc j z) A G (F.loc A G)) C (Xg e)⟩
theorem W2(h:swappedStores.match_5 (λw=>bu) e (λw G=>aa) (λw=>aA)=aa):dj e=aA:=aQ (!·) h
theorem Ld{a b:b9}(g:env.blockKind= .function)(j:env.kindOf x=J .local)(A:env.kindOf O=J .local)(B:e.line=w.line)(d:(O==x)=aA)
  (n: [a,b].all (foldedForSure 8)=aA)(y: [a,b].all (constantsAlone 8)=aA)(R:dj a=aa)(E:dj b=aa):swappedStores [.Tuple [.Name x e, .Name O w] o f] (.Tuple [a,b] k m) env=pure (J [x,O]):=by
 refine(bF (λq=>?_)).trans ((bF λq=>?_).trans ?_)
 .rw [g]at q;exact dg C q
 .refine aG (tE.mp q) λh u q=>?_;have:dj h=aa:=by rcases cC.mp u with rfl|u;exact R;exact cI.mp u▸E
  exact dg (W2 q) this
 have v:=(MR (l:= [vp O w]) (a:=vp x e) (f:=λh=>match h with| .Name id s=>if env.kindOf id==J .local&&s.line==e.line then J id else ae|_=>ae) (bB (ew.mpr ⟨beq_iff_eq.mpr j,beq_self_eq_true _⟩))).trans (aQ (x::·) (MR (bB (ew.mpr ⟨beq_iff_eq.mpr A,beq_iff_eq.mpr B.symm⟩))));have u: [x,O].eraseDups= [x,O]:=by
  rw [List.eraseDups_cons];show x::((match !(O==x)with|aa=> [O]|aA=> []).eraseDups)=_;exact d▸C
 exact(bF λq=>(dg (aQ (λl:U af=>l.length !=2) u) ((aQ (λt:U af=>(t.length !=2||t.eraseDups.length !=t.length)) v).symm.trans q))).trans ((bF (dg n)).trans ((bF (dg y)).trans (aQ (λi=>pure (J i)) v)))
theorem z2(F:Fm c.env n k r)(i m P T:Y){a b:b9}(j:n[i]?=J x)(z:i<k)(A:n[m]?=J O)(h:m<k)(e:r[P]?=J (x, .local))(q:r[T]?=J (O, .local))(g:ER c n k L ai [a,b] u [H,y])(B:l.line=w.line)(d:(O==x)=aA)
  (t: [a,b].all (foldedForSure 8)=aA)(o: [a,b].all (constantsAlone 8)=aA)(R:dj a=aa)(E:dj b=aa):
  ES c n k L (.Assign [.Tuple [.Name x l, .Name O w] aB au] (.Tuple [a,b] ao ai) az) ((u.set m (.t y)).set i (.t H)) .next:=by
 refine⟨λp X s Q G f S ah=>?_⟩;have aj:c.env.blockKind= .function:=by
  have:=S.1.kind
  first|exact this|(unfold Mz;simp [this])|trace_state
 exact Q7 c.R.handled (BC g.1 C) (.cons (λv Q G s=>K_ v Q G s) A h (F.loc A h) (.cons (λv Q G s=>K_ v Q G s) j z (F.loc j z) .nil)) C C C (Ld aj (F.kn P e nofun) (F.kn T q nofun) B d t o R E) p X s Q G f S ah
theorem dN(h:ES c n k g st u .next)(q:u=B):EX c n k g [st] B .next:=q▸zx h eO
theorem jE(h:EC c n k g e u b)(q:b=A):EC c n k g e u A:=q▸h
theorem sW(h:EE c n k g e u E)(q:E=τ):EE c n k g e u τ:=q▸h
theorem DR(h:EC c n k g e u b)(d:aq)(q:(if b then i else m)=d):EE c n k g (.IfExp e (.Constant (.int i) a x) (.Constant (.int m) l w) p) u (.int d):=by
 subst q;cases b with
 |true=>exact o5 h (zi i)
 |false=>exact o5 h (zi m)
theorem YB(h:EC c n k g e u b)(R:b=aa->EE c n k u H u L)(E:b=aA->EE c n k u cG u L):EE c n k g (.IfExp e H cG p) u L:=by
 cases b with
 |true=>exact o5 h (R C)
 |false=>exact o5 h (E C)
theorem DY(h:EE c n k g H u (.bool aa))(E:EE c n k u cG B L):EE c n k g (.BoolOp .And [H,cG] p) B L:=⟨Q9 c.R h.1 C (GQ E.1)⟩
theorem Mn(h:EE c n k g H u (.bool aA)):EE c n k g (.BoolOp .And [H,cG] p) u (.bool aA):=⟨Q_ c.R h.1 C⟩
theorem Zb(h:EE c n k g H u (.bool aA))(E:EE c n k u cG B L):EE c n k g (.BoolOp .Or [H,cG] p) B L:=⟨Rq c.R h.1 C (GQ E.1)⟩
theorem Zc(h:EE c n k g H u (.bool aa)):EE c n k g (.BoolOp .Or [H,cG] p) u (.bool aa):=⟨Rr c.R h.1 C⟩
theorem pV{l r:U Y}{lo z:aS aq}(P:l.length<=1000000)(h:cut lo z l=r):z3 (.str l) lo z=J (.str r):=by
 show(if dh l.length=aa then J (T.str (cut lo z l))else ae)=_;rw [bB (dM P),h]
theorem sN{lo z:aS aq}(P:l.length<=1000000)(h:cut lo z l=r):z3 (.list l) lo z=J (.list r):=by
 show(if dh l.length=aa then J (T.list (cut lo z l))else ae)=_;rw [bB (dM P),h]
theorem Ga{u H:Y}{i:aq}(e:(if i<0 then i+u else i)=(H))(h:H<=u):clipAt u i=H:=
 (aQ (λm:aq=>(max 0 (min m (u))).toNat) e).trans ((aQ (λm:aq=>(max 0 m).toNat) (Int.min_eq_left (iY.mpr h))).trans (aQ Ay (ZK (vq H))))
theorem Pj{u H:Y}{i:aq}(e:(if i<0 then i+u else i)=(H))(h:u<=H):clipAt u i=u:=
 (aQ (λm:aq=>(max 0 (min m (u))).toNat) e).trans ((aQ (λm:aq=>(max 0 m).toNat) (Int.min_eq_right (iY.mpr h))).trans (aQ Ay (ZK (vq u))))
theorem Gb(u H:Y):(if(H:aq)<0 then(H:aq)+u else H)=(H):=bF (xt.mpr (vq H))
theorem yk(u H:Y):clipAt u (H)=min H u:=
 (EU H u).elim (λh=>(Ga (Gb u H) h).trans (xE h).symm) λh=>(Pj (Gb u H) h).trans (M_ h).symm
theorem Pn(u H:Y)(d:0<H):clipAt u (-(H))=u-H:=by
 have e:(if-(H:aq)<0 then-(H:aq)+u else-(H))=-(H)+u:=bB (Int.neg_neg_of_pos (Int.natCast_pos.mpr d));rcases EU H u with h|h
 .exact Ga (e.trans ((Av _ _).trans (ZO h).symm)) (Nat.sub_le u H)
 .refine(aQ (λm:aq=>(max 0 (min m (u))).toNat) e).trans ((aQ Ay (Int.max_eq_left (xr (Int.min_le_left _ _) ?_))).trans (Nat.sub_eq_zero_of_le h).symm);rw [Av];exact Int.sub_nonpos_of_le (iY.mpr h)
theorem oq(l:U B)(u:Y):cut ae (J (u)) l=l.take u:=by
 show l.take (clipAt l.length (u))=_;rw [yk];exact aaa.symm
theorem Gh(l:U B)(u:Y):cut (J (u)) ae l=l.drop u:=by
 show(l.drop (clipAt l.length (u))).take (l.length-clipAt l.length (u))=_;rw [yk,<-xx,aab];exact(EU u l.length).elim (λh=>(xE h).symm▸C) λh=>(M_ h).symm▸(ZS.trans (MO h).symm)
theorem PG(l:U B)(u:Y)(d:0<u):cut (J (-(u))) ae l=l.drop (l.length-u):=by
 show(l.drop (clipAt l.length (-(u)))).take (l.length-clipAt l.length (-(u)))=_;rw [Pn _ _ d,<-xx,aab]
theorem Gj(l:U B)(u H:Y):cut (J (u)) (J (H)) l=(l.take H).drop u:=by
 show(l.drop (clipAt l.length (u))).take (clipAt l.length (H)-clipAt l.length (u))=_;rw [yk,yk,<-MP,<-aaa];rcases EU u l.length with h|h
 .rw [xE h]
 .rw [M_ h,MO (ZY H l),MO (bh (ZY H l) h)]
noncomputable def mL(a b:U Y):bu:=Txt.endswith ⟨a.toArray⟩ ⟨b.toArray⟩
theorem YJ(Q:EE c n k g o u (.str h))(a:EE c n k u e B (.str x))(t:attributeBase o "endswith" c.env (eval o c.env)=eval o c.env)(P:dj e=aa)(w:(m.endLine==b.line)=aa):EE c n k g (.Call (.Attribute o "endswith" m) [e] [] b) B (.bool (mL h x)):=
 xj PySem.F.slot_str_endswith PySem.F.type_str_endswith Q (zr a cj P) t (by simp [P]) (aX _ _) w λf v y d z=>by
  refine aG z.iy λX A q=>?_;subst A;exact Vm d q
theorem L3{i d:Y}(Q:EE c n k g o u (.str h))(a:EE c n k u e B (.str [d]))(t:attributeBase o "index" c.env (eval o c.env)=eval o c.env)(P:dj e=aa)(w:(m.endLine==b.line)=aa)(z:h[i]?=J d)(L:∀k,k<i->h[k]?≠J d):
  EE c n k g (.Call (.Attribute o "index" m) [e] [] b) B (.int i):=
 xj PySem.F.slot_str_index PySem.F.type_str_index Q (zr a cj P) t (by simp [P]) (aX _ _) w λf v y j x=>by
  refine aG x.iy λX A q=>?_;subst A;exact bZ (UZ z L) λr H=>Vv j q H
theorem L2(Q:EE c n k g o u (.list j))(h:EE c n k u e B L)(t:attributeBase o "index" c.env (eval o c.env)=eval o c.env)(P:dj e=aa)(w:(m.endLine==b.line)=aa)(a:sO L=aa)(l:i9 L j=J s)(G:ux L j=J x)(i:j.length<=1000000):
  EE c n k g (.Call (.Attribute o "index" m) [e] [] b) B (.int x):=
 YR aaI PySem.F.type_list_index Q (zr h cj P) t (by simp [P]) (aX _ _) w λf v y d z=>by
  refine aG z.iy λX A q=>?_;subst A;exact Vr c.R a d q l G (dM i)
end
theorem rR{a:Y}(h:a<2^2000):eA (a)=aa:=decide_eq_true (rm (h) (by decide+kernel))
theorem Ws{a b:Y}:iC .Add (.int a) (.int b)=J (.int ((a+b:Y))):=C
theorem KG{a b:Y}(h:a<2^2000)(L:b<2^2000):iC .Mult (.int a) (.int b)=J (.int ((a*b:Y))):=by rw [ZM];exact oR (rR h) (rR L)
theorem Wv{a b:Y}(h:a<2^2000)(L:b<2^2000):lC .Mult (.int a) (.int b)=J (.int ((a*b:Y))):=by rw [ZM];exact Wu (rR h) (rR L)
theorem KH{a b:Y}(h:a<2^2000)(L:b<=1000):iC .Pow (.int a) (.int b)=J (.int ((a^b:Y))):=by
 rw [C7 (rR h) (by exact iY.mpr (f_ (.n 0) (.v 0) C [_])) (iY.mpr (L)),xu,Int.natCast_pow]
theorem KA{a b:Y}(h:a<2^2000)(L:0<b):iC .FloorDiv (.int a) (.int b)=J (.int ((a/b:Y))):=by
 rw [Kz (rR h) (by exactλA=>jx (cF 0 (.n 1) (.n 0) (.a (.n 0) (.n 1)) (.v 0) (.v 0) (.n 0) C [_] L ((c4 (Ax A))))),ZF _ (by exact iY.mpr (f_ (.n 0) (.v 0) C [_]))];rfl
theorem KD{a b:Y}(h:a<2^2000)(L:0<b):iC .Mod (.int a) (.int b)=J (.int ((a%b:Y))):=by
 rw [KC (rR h) (by exactλA=>jx (cF 0 (.n 1) (.n 0) (.a (.n 0) (.n 1)) (.v 0) (.v 0) (.n 0) C [_] L ((c4 (Ax A))))),ZG _ (by exact iY.mpr (f_ (.n 0) (.v 0) C [_]))];rfl
section
structure EP(c:Cx O)(xs:U af)(k:Y)(lv:U (AV O))(e:b9)(τ:T):Prop where
 ev:nY c.B c.prog c.w c.A c.ρ c.env xs k lv e τ
theorem rf(a:aq):EP c n k g (.Constant (.int a) kk p) (.int a):=⟨QL⟩
theorem Ao(F:Fm c.env n k r)(i:Y)(j:n[i]?=J x)(B:g[i]?=J (.t L)):EP c n k g (.Name x p) L:=⟨BA j B (F.eU j)⟩
theorem DX(h:EP c n k g e (.int i)):EP c n k g (.UnaryOp .USub e p) (.int (-i)):=⟨QM h.1⟩
theorem sY(F:Fm c.env n k r)(m:Y)(j:n[m]?=J x)(B:g[m]?=J (.own l))(E:EP c n k g cG (.int i))(h:lI (.list l) (.int i)=J L)(P:uO cG=aa):EE c n k g (.Subscript (.Name x e) cG p) g L:=
 ⟨Rj j B (F.eU j) E.1 h λa b d p q=>by subst q;contradiction⟩
theorem DN(F:Fm c.env n k r)(i:Y)(j:n[i]?=J b)(e:g[i]?=J (.own t))(R:EE c n k g H u (.int o))(v:u[i]?=J (.own X))(a:lI (.list X) (.int o)=J h)
  (E:EE c n k u x B d)(f:B[i]?=J (.own l))(A:lC P h d=J τ)(z:iP o=aa)(G:seqIndex? o l.length=J m)
  (L:∀s Q y,augStore H s Q y=(do holding [y,s,Q] (setItem s Q y);release [y,s,Q] [];pure .next)):
  ES c n k g (.AugAssign (.Subscript (.Name b q) H w) P x p) (B.set i (.own (l.set m τ))) .next:=⟨QY j (F.eU j) e R.1 v a E.1 f A z G L⟩
theorem DO{B:Type}{us:U B}{g:B->T}(x:af)(o:U af)(v:U Y)(z:B->T){i i':Y}(F:Fm c.env n k r)(G:qF f [x] o=aa)(E:qC r n o v=aa)(j:nA f.names (x::o) 1=aa)(X:EI aE c n k aB b u (us.map g))(A:noOwn u v=aa)
  (Q:∀a,Fm (c.fc f a).env (x::o) 1 f.names->∀H∈us,EE (c.fc f a) (x::o) 1 (.t (g H)::v.map λi=>(u[i]?).getD .un) y (.t (g H)::v.map λi=>(u[i]?).getD .un) (z H))
  (P:qZ b=aa)(s:us.length<=1000000)(l:n[i]?=J w)(t:i<k)(m:r[i']?=J (w, .local))(d:q.line=R.line)(O:(f.names.any λ(h,L)=>h==w&&(L== .local||L== .cell))=aA):
  ES c n k aB (.Assign [.Name w q] (.ListComp y [⟨.Name x aH,b, [],0⟩] f R) aD) (u.set i (.own (us.map z))) .next:=by
 refine⟨λaj p au ah ai ao S az=>?_⟩;have aC:c.env.blockKind= .function:=by
  have:=S.1.kind;unfold Mz;simp [this,ScopeKind.isAnnotationScope]
 have e:=F.kn i' m nofun;refine Q0 (Bp G) (Bk F E) X.1 (CI A) (λa=>L4 (v7 j) g z us .un (Q a (v7 j))) (CM P) (.inl (cu _ _ C)) (decide_eq_true (by rw [cH];exact s)) (uR (pre:= [mU .un (us.map g)]) C) l t e ?_ aj p au ah ai ao S az
 .show(pure (c.env.blockKind== .function&&c.env.kindOf w==J .local&&q.line==R.line&&!(f.names.any λ(h,k)=>h==w&&(k== .local||k== .cell))))=pure aa;refine aC▸e▸d▸O▸?_;simp
theorem Zf{B L:Type}(F:Fm c.env (x::O::n) (k+2) r)(P:B->T)(h:L->T)(z:B->L->T):∀(j:U (B×L))(v X:AV l),(∀t∈j,EE c (x::O::n) (k+2) (.t (P t.1):: .t (h t.2)::i) y (.t (P t.1):: .t (h t.2)::i) (z t.1 t.2))->
  xS c.B c.prog c.w c.A c.ρ c.env (x::O::n) (k+2) (.Tuple [.Name x q, .Name O w] o p) [] y (j.map λt=> [P t.1,h t.2]) (v::X::i) (j.map λt=>z t.1 t.2) (mU v (j.map (P ·.1))::mU X (j.map (h ·.2))::i):=λf=>f.rec
 (λv X m=> .nil)
 (λt j b v X e=> .go (aP:= .t (P t.1):: .t (h t.2)::i) (Qe (is:= [0,1]) c.R.handled (.cons (λv Q G s=>u4 v Q G s) C (c3 _) (F.loc C (c3 _)) (.cons (λv Q G s=>u4 v Q G s) C (aX _ _) (F.loc C (aX _ _)) .nil)) C C) yv (e t ee).1 (b (.t (P t.1)) (.t (h t.2)) λH a=>e H (dY _ a)))
theorem Yr{B L:Type}{P:B->T}{e:L->T}{A:U B}{h:U L}(x O:af)(o:U af)(v:U Y)(z:B->L->T){j:Y}(F:Fm c.env n k r)(G:qF f [x,O] o=aa)(E:qC r n o v=aa)(b:nA f.names (x::O::o) 2=aa)(g:r[j]?=J (("zip":af), .globalImplicit))
  (H:ER c n k R ah d u [.list (A.map P), .list (h.map e)])(l:d.all dj=aa)(S:noOwn u v=aa)
  (q:∀a,Fm (c.fc f a).env (x::O::o) 2 f.names->∀t∈A.zip h,EE (c.fc f a) (x::O::o) 2 (.t (P t.1):: .t (e t.2)::v.map λi=>(u[i]?).getD .un) y (.t (P t.1):: .t (e t.2)::v.map λi=>(u[i]?).getD .un) (z t.1 t.2))
  (p:A.length<=1000000):EF c n k R (.ListComp y [⟨.Tuple [.Name x aB, .Name O ao] au az, .Call (.Name "zip" w) d [] ah, [],0⟩] f aj) u (o_ z A h):=by
 have m:((A.map P).zip (h.map e)).map (λQ=> [Q.1,Q.2])=(A.zip h).map λt=> [P t.1,e t.2]:=by rw [List.zip_map,d_];rfl
 have X:o_ z A h=(A.zip h).map λt=>z t.1 t.2:=by rw [List.zip,M5]
 have s:=RB c.G c.R.handled (F.kn j g nofun) (c.bi 7 _ _ C).1 (c.bi 7 _ _ C).2 (kS l) H.1 (p:=w);rw [m]at s;rw [X]
 exact⟨Qn (Bp G) (Bk F E) s (CI S) (λa=>Zf (v7 b) P e z (A.zip h) .un .un (q a (v7 b))) (λai=>C) C
  (dM (bh (by rw [cH,List.length_zip];exact Nat.min_le_left _ _) p)) (uR (pre:= [_,_]) C)⟩
end
theorem Li(u:Y)(a b:U Y):e9 (u+1) (.str a) (.str b)=J (a==b):=C
theorem uy(h:U Y):∀P:U (U Y),i9 (.str h) (P.map .str)=J (decide (h∈P))
 | []=>C
 |a::r=>by
  show(match e9 6 (.str a) (.str h),i9 (.str h) (r.map .str)with|J a,J b=>J (a||b)|_,_=>ae)=_;rw [(uy h r),Li 5];simp only [cC,Option.some.injEq];rw [tq];simp only [Zo,beq_iff_eq,decide_eq_true_eq];exact or_congr_left ⟨Eq.symm,Eq.symm⟩
theorem HL(h:U Y):∀P:U (U Y),h∈P->ux (.str h) (P.map .str)=J (P.idxOf h):=λf=>f.rec
 (λq=>nomatch q)
 (λa r X q=>by
  show(e9 6 (.str a) (.str h)).bind (λb=>if b then J 0 else(ux (.str h) (r.map .str)).map (·+1))=_;rw [Li 5]
  by_cases e:a=h
  .subst e;simp
  .have B:=beq_false_of_ne e
   rw [B,List.idxOf_cons,B,X ((cC.mp q).resolve_left λq=>e q.symm)];rfl)
section
variable{c:Cx O}{st:cf}
noncomputable abbrev Cx.re(c:Cx O)(a:ak):Cx O:={c with ρ:=⟨c.ρ.star,a⟩}
noncomputable abbrev Cx.sr(c:Cx O)(a:ak):Cx O:={c with ρ:=⟨a,c.ρ.mark⟩}
theorem L6(F:Fm c.env n k r)(i:Y)(j:n[i]?=J x)(l:i<k)(h:∀a,EX (c.re a) n k (g.set i (.fm [])) y u e)(L:g.all uN=aa)(A:u.all uN=aa):EX c n k g (.Assign [.Name x b] (.List [] w) p::y) u e:=
 ⟨Ry j l (F.loc j l) (λa=>(h a).1) L A⟩
theorem LU(i:Y)(h:EX c n k (g.set i .un) y u j):EX c n k g y u j:=⟨Rw h.1⟩
theorem vj(i:Y)(h:EX c n k g y aP j):EX c n k g y (aP.set i .un) j:=⟨Rx i h.1⟩
theorem Mm(i:Y)(B:g[i]?=J (.fm l))(h:EX c n k (g.set i (.own l)) y u j):EX c n k g y u j:=⟨RA B h.1⟩
theorem L8(F:Fm c.env n k r)(i m:Y)(j:n[i]?=J x)(B:g[i]?=J (.fm l))(A:n[m]?=J y)(t:m<k):ES c n k g (.Assign [.Name y w] (.Attribute (.Name x e) "append" h) p) (g.set m .iF) .next:=
 ⟨Q4 j B (F.eU j) A t (F.loc A t) C⟩
theorem pZ(F:Fm c.env n k r)(i m:Y)(j:n[i]?=J x)(A:n[m]?=J y)(B:g[m]?=J .iF)(h:EE c n k g e u L)(v:u[m]?=J .iF)(a:u[i]?=J (.fm l))(P:dj e=aa)(q:dh l.length=aa):
  ES c n k g (.Expr (.Call (.Name y w) [e] [] b) R) (u.set i (.fm (l++ [L]))) .next:=⟨QT j A B (F.eU A) h.1 v a (gq P) q C⟩
theorem LQ(i:Y)(j:n[i]?=J x)(B:g[i]?=J (.fm l))(h:EC c n k (g.set i (.own l)) e u b)(v:u[i]?=J (.own R)):EC c n k g e (u.set i (.fm R)) b:=⟨Qi j B h.1 v⟩
theorem Y8(F:Fm c.env n k r)(i m:Y)(j:n[i]?=J x)(l:i<k)(G:r[m]?=J (("object":af), .globalImplicit))(e:∀a,EX (c.sr a) n k (g.set i (.t .atom)) y u h)(d:g.all uM=aa)(R:u.all uM=aa)(E:I9 h=aa):
  EX c n k g (.Assign [.Name x b] (.Call (.Name "object" w) [] [] s) p::y) u h:=⟨Rz c.G j l (F.loc j l) (F.kn m G nofun) (c.bi 11 _ _ C).1 (c.bi 11 _ _ C).2 (λa=>(e a).1) d R E⟩
structure EJ(c:Cx O)(xs:U af)(k:Y)(lv:U (AV O))(es:U b9)(acc:U Y)(lv':U (AV O))(out:U Y):Prop where
 ev:vG c.B c.prog c.w c.A c.ρ c.env xs k lv es acc lv' out
theorem Ak:EJ c n k g [] o g o:=⟨Qu⟩
theorem zj(a:EE c n k g e u (.str h))(P:(o++h).length<=1000000)(E:EJ c n k u d (o++h) B L):EJ c n k g (e::d) o B L:=⟨Qt a.1 (dM P) E.1⟩
theorem Ai(h:EJ c n k g (H::cG::d) [] u out)(P:out.length<=1000000):EE c n k g (.JoinedStr (H::cG::d) p) u (.str out):=⟨Rh h.1 (dM P)⟩
theorem Ah(a:EE c n k g e u (.str h))(P:h.length<=1000000):EE c n k g (.FormattedValue e (-1) ae p) u (.str h):=⟨Rf a.1 (dM P)⟩
theorem DZ(h:EC c n k g e u aa)(E:EX c n k u m B .brk):EW c n k e m i a g B .next:= .brk h.1 E.1
theorem Mq(h:ES c n k g st u .next)(q:u=B)(E:EX c n k B y v j):EX c n k g (st::y) v j:=zx h (q▸E)
theorem vg(h:EX c n k g y u j)(q:u=B):EX c n k g y B j:=q▸h
theorem Af(F:Fm c.env n k o)(i:Y)(j:n[i]?=J x)(B:g[i]?=J (.own l))(h:nG (.list l)=J b):EC c n k g (.Name x p) g b:=by
 refine⟨?_⟩;rintro A f s Q G⟨E,H,z,S⟩O;exact qI (S.lend j B) λa t r e L dl y=>aaz (eP (eH E S.ns r (sS c.R dl h s _ _ e λm T P=>O m f P.same (Le.refl _) ⟨E,H,z,y _ _ P⟩)) (F.eU j)) C
end
section
theorem aN.w9(S:aN w aU m l env n aZ c H R h){fp:U ak}(ao:n[i]?=J bz)
  (g:∀b,b∉R i->b∉w.tabs->b≠env.locals->∀o,h.get? b=J o->L.get? b=J o)(bg:L.Ns env.locals H)(cE:w.inv L)(bq:Le l P)(bK:Le P L.get?)(aK:∀b o,P b=J o->l b=J o\/h.get? b=ae\/b∈R i)
  (bY:dZ env H h bz s)(aV:Holds w aU P L av s fp)(u:∀b∈fp,(b∈R i\/eT w m l env n R b)/\P b=ae):
  aN w aU m P env n aZ (c.set i av) H (bT R i fp) L:=by
 have z:=(cw.mp ao).1;have F:=S.fp i z;have aD:∀{b o},m.b b=J o->b∉R i:=λE e=>aT ((F _ e).1) E;have cO:∀{b o},l b=J o->b∉R i:=λE e=>aT ((F _ e).2.1) E;have aJ:∀{b o},m.b b=J o->b≠env.locals:=λE e=>aT ((aQ _ e).trans S.nL.1) E;have aE:bN w.bI L:=λb o e=>g b (aD (S.fB b o e)) (S.iH (S.fB b o e)) (aJ (S.fB b o e)) o (S.base b o e);have fr:∀b,l b=ae->(h.get? b).isSome=aa->b∉R i->P b=ae:=λb aW E bA=>by
  cases e:P b with
  |none=>rfl
  |some o=>
   rcases aK b o e with B|B|B
   .exact aT aW B
   .rw [B]at E;exact dg C E
   .exact cg B bA
 have T:∀{j O s},n[j]?=J O->dZ env H h O s->dZ env H L O s:=λ{j O s}A r=>by
  rcases r with⟨e,q⟩|⟨f,x,k,o,Q,bD⟩
  .exact .inl ⟨e,q⟩
  .have ah:env.kindOf O≠J .local:=λq=>by rw [q]at f;rcases f with f|⟨f,_⟩<;>exact nc mj (bf f) C
   exact .inr ⟨f,x,k,o,g x (λq=>(F x q).2.2.2 j O A ah k) (λq=>(S.tab x q).2.2.2.1 j O A ah k) (S.cell j O x A ah k).1 o Q,bD⟩
 have bQ:∀{j O},n[j]?=J O->∃av,c[j]?=J av:=λ{j O}A=>by
  have:j<c.length:=by rw [S.len];exact(cw.mp A).1
  exact⟨_,cP this⟩
 refine{S with len:=by simp [S.len],base:=aE,kept:=λb o e=>g b (aD e) (S.iH e) (aJ e) o (S.kept b o e),bC:=bK,lock:=λbW b_ O A=>T A (S.lock bW b_ O A),ns:=bg,nL:=⟨S.nL.1,?_⟩,vars:=λj O cz A d=>?_,cell:=λj O aH A X aj=>?_,fp:=λj G b t=>?_,inv:=cE,tab:=λau ai=>?_,dc:=λb t=>?_,new:=λb o e=>?_,apart:=λa b r t y x v=>?_}
 .exact i8 S.ns λo aL aL Q aL=>fr _ S.nL.2 (cS Q) λq=>(F _ q).2.2.1 C
 .by_cases p:j=i
  .subst p;obtain rfl:=bf (ao▸A);have G:=by
    have:=(cw.mp d).1;simpa using this
   obtain rfl:=bf ((qi G)▸d);rw [show bT R j fp j=fp from bB C];exact⟨s,T ao bY,aV⟩
  .have d:=(k9 (jk p))▸d;obtain⟨b7,r,az⟩:=S.vars j O cz A d;have G:=(cw.mp A).1;exact(show bT R i fp j=R j from bF ‹_›)▸(⟨b7,T A r,az.mono bq aE λb t o e=>g b (S.apart j i G z p b t) (λq=>(S.tab b q).2.2.2.2 j G t) (S.fp j G b t).2.2.1 o e⟩)
 .have:=S.cell j O aH A X aj;refine⟨this.1,fr _ this.2 (bZ (bQ A) λav d=>?_) λq=>(F aH q).2.2.2 j O A X aj⟩;obtain⟨s,r,_⟩:=S.vars j O av A d;rcases r with⟨e,_⟩|⟨_,x,bM,cK,cB,_⟩
  .exact cg e X
  .obtain rfl:=bf (aj▸bM);exact cS cB
 .by_cases p:j=i
  .subst p;rw [show bT R j fp j=fp from bB C]at t;refine bR (u b t) λq aO=>?_;rcases q with q|q
   .have:=F b q;exact(cR this.1 aO this.2.2)
   .exact(jt q.hb aO q.loc q.cell)
  .rw [show bT R i fp j=R j from bF ‹_›]at t;have:=S.fp j G b t;have cv:j<c.length:=by rw [S.len];exact G
   obtain⟨s,_,az⟩:=S.vars j _ _ (cP G) (cP cv);exact(cR this.1 (fr _ this.2.1 (az.live b t) (S.apart j i G z p b t)) this.2.2)
 .have:=S.tab au ai;refine(j_ this.1 (fr _ this.2.1 (w.live S.inv au ai) (this.2.2.2.2 i z)) this.2.2.1 this.2.2.2.1 (λj G t=>?_))
  by_cases p:j=i
  .subst p;rw [show bT R j fp j=fp from bB C]at t;rcases(u au t).1 with q|q
   .exact this.2.2.2.2 j G q
   .exact q.tab ai
  .have t:=(show bT R i fp j=R j from bF ‹_›)▸t;exact this.2.2.2.2 j G t
 .have:=S.dc b t;exact(cR this.1 (fr _ this.2.1 (bZ (gn.mp this.1) λo Q=>(cS (S.kept b o Q))) (λq=>by rw [(F b q).1]at this;exact dg C this.1)) this.2.2)
 .rcases aK b o e with q|q|q
  .exact S.new b o q
  .exact .inr (S.fresh q).1
  .exact .inr (F b q).1
 .by_cases aC:a=i<;>by_cases aB:b=i
  .exact cg (aC.trans aB.symm) y
  .subst aC;have v:=(show bT R a fp a=fp from bB C)▸v;refine(show bT R a fp b=R b from bF ‹_›)▸?_;rcases(u x v).1 with q|q
   .exact S.apart a b r t y x q
   .exact q.fp b t
  .subst aB;rw [show bT R b fp a=R a from bF ‹_›]at v;rw [show bT R b fp b=fp from bB C];intro q;rcases(u x q).1 with q|q
   .exact S.apart a b r t y x v q
   .exact q.fp a r v
  .have v:=(show bT R i fp a=R a from by simp [bT,aC])▸v;exact(show bT R i fp b=R b from by simp [bT,aB])▸(S.apart a b r t y x v)
theorem aN.u6(S:aN w B A f env n k g H R h){fp:U ak}(j:n[i]?=J x)
  (e:∀b,b∉R i->b∉w.tabs->∀o,h.get? b=J o->L.get? b=J o)(a:w.inv L)(s:Le f P)(X:Le P L.get?)(v:∀b o,P b=J o->f b=J o\/h.get? b=ae\/b∈R i)
  (p:dZ env H h x l)(m:Holds w B P L av l fp)(u:∀b∈fp,(b∈R i\/eT w A f env n R b)/\P b=ae):
  aN w B A P env n k (g.set i av) H (bT R i fp) L:=
 S.w9 j (λb t c y=>e b t c) (i8 S.ns λo d O Q r=>(kP o d O (e _ (λq=>(S.fp i (cw.mp j).1 _ q).2.2.1 C) (λq=>(S.tab _ q).2.2.1 C) o Q) r)) a s X v p m u
theorem aN.oU(S:aN w B A f env n k g H R h){fp:U ak}(j:n[i]?=J x)
  (l:∀b,b∉R i->b∉w.tabs->∀o,h.get? b=J o->L.get? b=J o)(e:w.inv L)(a:Le f P)(X:Le P L.get?)(v:∀b o,P b=J o->f b=J o\/h.get? b=ae\/b∈R i)
  (p:dZ env H h x s)(m:Holds w B P L F s fp)(u:∀b∈fp,(b∈R i\/h.get? b=ae)/\P b=ae):
  aN w B A P env n k (g.set i F) H (bT R i fp) L:=S.u6 j l e a X v p m λb t=>⟨(u b t).1.imp id S.free,(u b t).2⟩
end
section
variable{B:bV O}
noncomputable def A0(B:bV O)(i:ck)(X:b4)(u:Y)(z:ay)(o:O)(g:U T)(r:T)(l:O):Prop:=
 ∀(F:cZ)(e:Mk)(f:Fz)(H:ay)(y:U ay)(p:Result->aR->Prop)(s:aR)(h:U ak),dw F u->Ready B f s->B.ob.at_ o H s.heap h->(∀b∈h,f b=ae/\B.bI.get? b=ae/\b∉B.tabs)->aY e f y g->
  (∀m P v a,bU s m->Le f P->(∀b,b∉h->b∉B.tabs->∀x,s.heap.get? b=J x->m.heap.get? b=J x)->B.inv m.heap->Le P m.heap.get?->(∀b x,P b=J x->f b=J x\/s.heap.get? b=ae\/b∈h)->
   B.ob.at_ l H m.heap a->(∀b∈a,(b∈h\/s.heap.get? b=ae)/\P b=ae)->Den e P v r->p (.ok (.ret v)) m)->codeAny (model i X) F (.call z ⟨H::y, []⟩) p s
noncomputable def kR(o:O)(n:U af)(j:U T):U (AV O):= .obj o::j.map .t++fg (n.length-(j.length+1)) .un
theorem WS{s O:aR}(E:n6 f.scope h)(bq:f.globals=mainGlobals)(t:f.builtins=builtinsNs)(r:Ready B m s)(Q:B.ob.at_ o H s.heap fp)(F:∀b∈fp,m b=ae/\B.bI.get? b=ae/\b∉B.tabs)
  (aO:aY aZ m l m9)(aD:m9.length+1<=h.length)
  (T:InCallC s (callEnvC f s.heap.objs.size a).locals (bindL (callEnvC f s.heap.objs.size a).kindOf (eI h (H::l)) λw=>ae) (callEnvC f s.heap.objs.size a).cells (bindC (callEnvC f s.heap.objs.size a).kindOf (eI h (H::l)) λw=>ae) O):
  SR B aZ ⟨λb=>if b∈B.tabs\/b∈fp then ae else s.heap.get? b, [],m, []⟩ m (callEnvC f s.heap.objs.size a) h h.length (kR o h m9) O.heap:=by
 have u:=T.toInCall.keep;have p:∀n c,(callEnvC f s.heap.objs.size a).cells.lookup n=J c->s.heap.objs.size<c:=λn c y=>T.above n c (mem_of_lookup y);have aj:∀c,s.heap.objs.size<=c->s.heap.get? c=ae:=λc y=>by
  cases q:s.heap.get? c with
  |none=>rfl
  |some o=>exact cg (eM q) (gW.mpr y)
 have ai:∀c,s.heap.objs.size<=c->m c=ae:=λc y=>by
  cases q:m c with
  |none=>rfl
  |some o=>have:=r.bC c o q;exact aT (aj c y) this
 have ao:=λX k=>bZ (gn.mp (B.live r.inv X k)) λo Q=>eM Q;have au:=λb t=>bZ (gn.mp (B.ob.live Q b t)) λo Q=>eM Q;have ah:((eI h (H::l)).map (·.1)).Nodup:=by
  have:(eI h (H::l)).map (·.1)=h.take (H::l).length:=by
   unfold eI;rw [xh]
  rw [this];exact E.nodup.sublist (aac _ _)
 refine⟨⟨E.kind,bq,t⟩,(bindL (callEnvC f s.heap.objs.size a).kindOf (eI h (H::l)) λw=>ae),λi=>if i=0 then fp else [],({
  len:=by unfold kR;simp;exact fV (bL 0 (.a (.a (.v 0) (.v 2)) (.n 1)) (.v 1) (.a (.v 2) (.a (.v 0) (.n 1))) (.v 1) C [_,_,_] ((lM aD))) (bL 0 (.v 1) (.a (.a (.v 0) (.v 2)) (.n 1)) (.v 1) (.a (.v 2) (.a (.v 0) (.n 1))) C [_,_,_] nE)
  base:=λb o e=>u b o (r.base b o e)
  kept:=λb o e=>?_
  bC:=λb o e=>u b o (r.bC b o e)
  ns:=T.toInCall.ns
  nL:=⟨?_,ai _ (ek _)⟩
  fB:=λb o e=>?_
  vars:=λi x bQ j d=>?_
  own:=λi x c z j G y=>?_
  iN:=λi x c z j w w=>cg (cw.mp j).1 (gW.mpr z)
  cell:=λi x c j G y=>⟨tJ (p x c y),ai c (i3 (p x c y))⟩
  pF:=λi x z j=>cg (cw.mp j).1 (gW.mpr z)
  inj:=λi A x bM c j bg w w bA aE=>?_
  nodup:=λi A x z aH=>oJ E.nodup z aH
  fp:=λi w b t=>?_
  inv:=B.e8 r.inv λX w o e=>u X o e
  tab:=λX k=>(j_ (by simp [k]) (r.lS X k) (fW (ao X k)) (λA x j G y=>cg (p x X y) (gW.mpr (i3 (ao X k)))) (λi w S=>?_))
  apart:=λi A w w aK b t az=>?_
  dc:=λb t=>nomatch t
  new:=λb o e=> .inl e
  lock:=λbK aU=>cg aU gM})⟩
 .dsimp only at e
  split at e
  .exact aT C e
  .exact u b o e
 .show(if s.heap.objs.size∈B.tabs\/s.heap.objs.size∈fp then ae else s.heap.get? s.heap.objs.size)=ae
  split<;>first|rfl|exact(ir s)
 .have aV:b∉B.tabs:=λq=>aT (r.iH b q) e;have aW:b∉fp:=λq=>aT ((F b q).2.1) e;simp [aV,aW,r.base b o e]
 .have z:=(cw.mp j).1;have g:(callEnvC f s.heap.objs.size a).kindOf x=J .local\/(callEnvC f s.heap.objs.size a).kindOf x=J .cell:=E.names x (cA j);have aL:∃L,dZ (callEnvC f s.heap.objs.size a) (bindL (callEnvC f s.heap.objs.size a).kindOf (eI h (H::l)) λw=>ae) O.heap x L/\∀v,(x,v)∈eI h (H::l)->L=J v:=by
   rcases g with g|g
   .exact(aM _ (.inl ⟨g,C⟩) (λv P=>FY _ _ _ x v ah P g))
   .exact bZ (gn.mp (t8 f.scope.names (s.heap.objs.size+1) [] (.inl g))) λc y=>(aM _ (.inr ⟨.inl g,c,y,T.cell x c y⟩) (λv P=>FW _ _ _ x v ah P g))
  refine aG aL λL bz aB=>⟨L,bz,?_⟩;cases i with
  |zero=>
   obtain rfl:=bf d;have:(eI h (H::l))[0]?=J (x,H):=by
    unfold eI;rw [EB];exact⟨j,C⟩
   exact⟨H,aB H (cA this),(B.frame Q (λb o e=>u b o (r.base b o e)) λb w o e=>u b o e)⟩
  |succ i=>
   rw [bF (aan i)];have d:=by simpa [kR]using d
   by_cases R:i<m9.length
   .rw [l7 (by simpa using R)]at d;have aC:=cP R;simp only [gD,aC,AP]at d;obtain rfl:=bf d;refine aG (aO.get aC) λv bD aJ=>⟨C,v,aB v ?_,aJ⟩;have:(eI h (H::l))[i+1]?=J (x,v):=by
     unfold eI;rw [EB];exact⟨j,bD⟩
    exact cA this
   .rw [l8 (by simpa using R)]at d;have:=by
     rw [MY]at d
     split at d
     .exact(bf d).symm
     .exact aT C d
    subst this
    rfl
 .show(if c∈B.tabs\/c∈fp then ae else s.heap.get? c)=ae
  split<;>first|rfl|exact aj c (i3 (p x c y))
 .have:=Nv T.apart (mem_of_lookup bA) (mem_of_lookup aE);subst this;exact oJ E.nodup j bg
 .by_cases z:i=0
  .have t:=(bB z)▸t;refine(jt (by simp [t]) ((F b t).1) (fW (au b t)) (λA x j G y=>cg (p x b y) (gW.mpr (i3 (au b t)))))
  .rw [bF z]at t;exact nomatch t
 .by_cases z:i=0
  .rw [bB z]at S;exact(F X S).2.2 k
  .rw [bF z]at S;exact nomatch S
 .by_cases z:i=0
  .rw [bF (λq=>aK (z.trans q.symm))]at az;exact nomatch az
  .rw [bF z]at t;exact nomatch t
theorem GV(cV:e6 B aE d6)(cB:dw F aj){z x:af}(aW:env.kindOf z=J .globalImplicit)(b7:aE z=J (.ref a))(cv:(z==("__debug__"))=aA)
  (cz:∀{h},bN B.bI h->h.get? a=J k)(P:k.data= .func ah)(j:n[i]?=J x)(aK:(x==("__debug__"))=aA)(aL:g[i]?=J (.obj o))(bM:∀e∈d,∀x p,e≠ .Starred x p)
  (h:j7 B l X F ρ env n dS g pos d aP w)(Ss:aP[i]?=J (.obj o))(A:A0 B l X aj (.ref a) o w L Q)(G:∀{H h R c ai T},B.ob.at_ o H h R->B.ob.at_ o c ai T->c=H):
  cy B l X F ρ env n dS g (.Call (.Name z p) (.Name x ao::d) [] pos) (aP.set i (.obj Q)) L:=by
 intro au az aB eu dX S aH;have aJ:∀e∈(vp x ao::d),∀x p,e≠ .Starred x p:=λe u x p q=>by
  rcases cC.mp u with rfl|u
  .contradiction
  .exact bM e u x p q
 refine kG (pN cV S.1 S.ready.base aW b7 cv (AR (fd:=ah) (o:=k) ((mz (pos:=pos) (env:=env) (es:=d) (aJ _ ee))▸(tN (pn (cps λeg aO=>?_))))));obtain⟨E,aU,aV,y⟩:=S;obtain⟨eE,aZ,H,rfl,bg⟩:=y.vars i x _ j aL;refine aO (eP (eH E y.ns aZ (h au az aB _ _ ⟨E,aU,aV,y⟩ λbq bz bA bD bK t aD=>⟨⟨cz t.ready.base,P⟩,?_⟩)) aK);obtain⟨E,bQ,aC,t⟩:=t;obtain⟨d8,bY,LG,rfl,f⟩:=t.vars i x _ j Ss;have b_:=G bg f;subst b_;have v:=(cw.mp j).1;refine jH (A F ρ bz LG bA _ bq (aC i) cB t.ready f (λb m=>?_) aD λcE cK bW T q r c9 c_ dm cO dJ dB dO=>?_)
 .have s:=t.fp i v b m;refine(cR s.2.1 ?_ (λq=>(t.tab b q).2.2.2.2 i v m));cases e:B.bI.get? b with
  |none=>rfl
  |some O=>rw [t.fB b O e]at s;exact aT C s.1.symm
 .exact aH cE cK bW (bD.trans q) (bK.trans r) ⟨E,bQ,_,t.oU j c9 c_ r dm cO bY ⟨LG,C,dJ⟩ dB⟩ dO
end
open PySem.W
section
set_option backward.match.sparseCases true
section
variable{g:b8}
noncomputable def bV.up(w:bV t)(g:b8)(h:bN w.bI g):bV t:={w with bI:=g,base:=λk=>w.base (h.trans k),frame:=λa k z=>w.frame a (h.trans k) z}
theorem e6.up(G:e6 w l r)(h:bN w.bI g):e6 (w.up g h) l r:=⟨λk=>G.g (h.trans k),λk=>G.b (h.trans k),λk=>G.nolimit (h.trans k)⟩
theorem nW.up(i:nW a l z x)(e:bN a.bI g):nW (a.up g e) l z x:=
 i.imp λw=>En λw=>En λw=>En λw=>En λw h=>(jt h.1 (λk=>h.2.1 (e.trans k)) h.2.2.1 (λk=>h.2.2.2 (e.trans k)))
theorem SR.up(S:SR w B A f env n k a h)(e:bN w.bI g)(v:bN g h)(t:∀b o,g.get? b=J o->A.b b=J o)(z:A.it= []):SR (w.up g e) B A f env n k a h:=by
 obtain⟨eo,H,R,S⟩:=S;refine⟨eo,H,R,{len:=S.len,base:=v,kept:=S.kept,bC:=S.bC,ns:=S.ns,nL:=S.nL,fB:=t,vars:=λi x F j d=>?_,own:=S.own,iN:=S.iN,cell:=S.cell,pF:=S.pF,inj:=S.inj,nodup:=S.nodup,fp:=S.fp,inv:=S.inv,tab:=S.tab,dc:=λb t=>(by rw [z]at t;exact nomatch t),new:=S.new,lock:=S.lock,apart:=S.apart}⟩;obtain⟨s,r,u⟩:=S.vars i x F j d;refine⟨s,r,?_⟩;cases F<;>exact u
noncomputable def rest(h:b8)(l:U ak):b8:=hideAll h l
theorem zR(e:(rest h l).get? b=J o):h.get? b=J o/\b∉l:=
 ⟨of_hideAll l e,λq=>by rw [rest,ry l q]at e;exact aT C e⟩
theorem sJ(l:U ak):bN (rest h l) h:=λb o e=>(zR e).1
theorem mZ(e:h.get? b=J o)(q:b∉l):(rest h l).get? b=J o:=hideAll_get l e q
noncomputable def Binds(w:bV t)(i:ck)(X:b4)(h:tQ)(n:U af)(g E:U T):Prop:=
 ∀(F:cZ)(B:Mk)(H:ay)(y:U ay)(f:Fz)(s:aR)(Q:U (af×ay)->aR->Prop)(G:ay->aR->Prop),F.handled=ae->Ready w f s->aY B f y g->
  (∀m P d,b5 w f s P m->aY B P d E->bN s.heap m.heap->Q (eI n (H::d)) m)->wpAny (model i X) F (bindArgs h ⟨H::y, []⟩) Q G s
theorem Binds.plain(e:∀y,y.length=args.length+1->bindArgs f ⟨y, []⟩=pure (eI n y)):Binds w i X f n args args:=by
 intro F B H y h s Q G u P z O;exact(e (H::y) (by simp [z.length])).symm▸(bP (O s h y (b5.refl P) z (bN.refl _)))
theorem F0(dm:e6 w dS d6){az:bE}(aK:∀{h},bN w.bI h->h.get? a=J az)(dO:az.data= .func f)(aU:∀{h},bN w.bI h->h.CodeRec f.code f.qualname)
  (bg:f.body= .stmts bQ)(bW:f.closure= [])(Q:n6 f.scope n)(c9:f.globals=mainGlobals)(t:f.builtins=builtinsNs)(aJ:R.length+1<=n.length)(aO:Binds w y X f n bA R)
  {s:aR}{fp:U ak}(ai:dw F (d8+1))(P:Ready w k s)(aB:w.ob.at_ o H s.heap fp)(ah:∀b∈fp,k b=ae/\w.bI.get? b=ae/\b∉w.tabs)(aZ:aY B k ao bA)
  (bD:∀(l:bN w.bI (rest s.heap (w.tabs++fp)))A c p,bU s c->Le k p->(∀b x,p b=J x->k b=J x\/s.heap.get? b=ae)->SR (w.up _ l) B ⟨(rest s.heap (w.tabs++fp)).get?, [],p, []⟩ p (callEnvC f A a) n n.length (kR o n R) c.heap->(s.heap.get? A=ae)->
   wpAny (model y X) (F.deeper (callEnvC f A a)) (execs bQ (callEnvC f A a)) (λcE L=>u (.ok (.ret (match cE with| .ret dB=>dB|_=> .none))) L)
    (λe L=>wpAny (model y X) (F.deeper (callEnvC f A a)) (leaving (callEnvC f A a) e) (λm E=>u (.error e) E) (λaL E=>u (.error aL) E) L) c):
  codeAny (model y X) F (.call (.ref a) ⟨H::ao, []⟩) u s:=by
 refine aaR ai.d (aK P.base) dO Q.co Q.gen bg (aU P.base) (aO F.in1 B H ao k s _ _ ai.handled P aZ λd v aV g aW r=>?_);have O:=g.ready P;refine bW▸(wpAny_newFunctionEnv_cells Q.kind ?_ λdX bz c T=>?_)
 .intro x j;have bK:=by
   have:x.1∈(eI n (H::aV)).map (·.1):=gE j;unfold eI at this;rw [xh]at this;exact ri this
  rcases Q.names _ bK with h|h
  .exact .inl h
  .exact .inr ⟨h,t8 f.scope.names _ [] (.inl h)⟩
 .subst bz;refine⟨(dm.nolimit O.base).keeps T.toInCall.keep,codeAny_func ?_⟩;have bM:∀b∈fp,v b=ae/\w.bI.get? b=ae/\b∉w.tabs:=λb t=>by
   have:=ah b t;refine⟨?_,this.2⟩;cases e:v b with
   |none=>rfl
   |some x=>
    rcases g.new b x e with q|q
    .exact aT this.1 q
    .have aj:=w.ob.live aB b t;rw [q]at aj;exact dg C aj
  have S:=WS Q c9 t O (w.frame aB O.base λb m x e=>r b x e) bM aW aJ T;have b7:∀{b o},w.bI.get? b=J o->b∉w.tabs++fp:=λ{b o}e q=>by
   rcases fb.mp q with q|q
   .exact aT (P.iH b q) e
   .exact aT ((ah b q).2.1) e
  have l:bN w.bI (rest s.heap (w.tabs++fp)):=λb o e=>mZ (P.base b o e) (b7 e);have au:=r.trans T.toInCall.keep;have cv:∀b,d.heap.objs.size<=b->s.heap.get? b=ae:=λb t=>by
   cases q:s.heap.get? b with
   |none=>rfl
   |some o=>exact cg (eM (r _ _ q)) (gW.mpr t)
  refine bD l d.heap.objs.size c v (g.same.trans (dK T.done λcz cB bq m=>(cu cz cB bq))) g.le g.new ?_ (cv _ (ek _));have cK:SR w B ⟨(rest s.heap (w.tabs++fp)).get?, [],v, []⟩ v (callEnvC f d.heap.objs.size a) n n.length (kR o n R) c.heap:=by
   obtain⟨cO,cV,bY,S⟩:=S;have sub:∀{b},(if b∈w.tabs\/b∈fp then ae else d.heap.get? b)=ae->(rest s.heap (w.tabs++fp)).get? b=ae:=λ{b}e=>by
    cases q:(rest s.heap (w.tabs++fp)).get? b with
    |none=>rfl
    |some o=>
     refine bR (zR q) λb_ G=>?_;have:=r _ _ b_;simp only [fb,not_or]at G;simp [G.1,G.2,this]at e
   refine⟨cO,cV,bY,{S with kept:=λb x e=>au b x (zR e).1,nL:=⟨sub S.nL.1,S.nL.2⟩,fB:=λb x e=>l b x e,own:=λi x aC z j c_ dJ=>sub (S.own i x aC z j c_ dJ),iN:=λi x aC z j m m=>cg ((λi x j=>(cw.mp j).1) i x j) (gW.mpr z),fp:=λi z b t=>⟨sub (S.fp i z b t).1,(S.fp i z b t).2⟩,tab:=λaD aE=>⟨sub (S.tab aD aE).1,(S.tab aD aE).2⟩,dc:=λb t=>(by cases t),new:=λb x e=> .inl e,lock:=λeg aH=>(by cases aH)}⟩
  exact cK.up l (λb x e=>au b x (zR e).1) (λb x e=>e) C
end
end
section
variable{B:bV O}{prog:ck}{w:b4}{A:cZ}{ρ:Mk}{env:cW}{xs:U af}{k:Y}{lv aP:U (AV O)}
noncomputable def tZ(j:eS)(r:T):Prop:=j= .ret r\/(j= .next/\r= .none)
structure jJ(B:bV O)(a:ak)(ob:bE)(fd:tQ)(body:U cf)(xs:U af):Prop where
 ho:∀{h},bN B.bI h->h.get? a=J ob
 hd:ob.data= .func fd
 yQ:∀{h},bN B.bI h->h.CodeRec fd.code fd.qualname
 yP:fd.body= .stmts body
 yR:fd.closure= []
 wj:n6 fd.scope xs
 hg:fd.globals=mainGlobals
 hb:fd.builtins=builtinsNs
theorem jJ.up(h:jJ B a S f m xs)(g:bN B.bI P):jJ (B.up P g) a S f m xs:=
 ⟨λk=>h.ho (g.trans k),h.hd,λk=>h.yQ (g.trans k),h.yP,h.yR,h.wj,h.hg,h.hb⟩
noncomputable def eR(B:bV O)(prog:ck)(w:b4)(u:Y)(z:ay)(o:O)(g:U T)(q:O->T->Prop):Prop:=
 ∀(A:cZ)(ρ:Mk)(f:Fz)(H:ay)(y:U ay)(p:Result->aR->Prop)(s:aR)(h:U ak),dw A u->Ready B f s->B.ob.at_ o H s.heap h->(∀b∈h,f b=ae/\B.bI.get? b=ae/\b∉B.tabs)->aY ρ f y g->
  (∀m P v e i r,q i r->bU s m->Le f P->(∀b,b∉h->b∉B.tabs->∀x,s.heap.get? b=J x->m.heap.get? b=J x)->B.inv m.heap->Le P m.heap.get?->(∀b x,P b=J x->f b=J x\/s.heap.get? b=ae\/b∈h)->
   B.ob.at_ i H m.heap e->(∀b∈e,(b∈h\/s.heap.get? b=ae)/\P b=ae)->Den ρ P v r->p (.ok (.ret v)) m)->codeAny (model prog w) A (.call z ⟨H::y, []⟩) p s
theorem eR.ob(h:eR B prog w u z o g λt q=>t=i/\q=r):A0 B prog w u z o g r i:=
 λA ρ f H y e s O a b c d x k=>h A ρ f H y e s O a b c d x λm P v T t q p=>by obtain⟨rfl,rfl⟩:=p;exact k m P v T
theorem eR.mono(e:eR B prog w u z o g h)(p:∀i r,h i r->x i r):eR B prog w u z o g x:=
 λA ρ f H y a s O b l c d n k=>e A ρ f H y a s O b l c d n λm P v T i r q=>k m P v T i r (p i r q)
noncomputable def jl(B:bV O)(prog:ck)(w:b4)(A:cZ)(ρ:Mk)(env:cW)(xs:U af)(k:Y)(lv:U (AV O))(st:U cf)(T:U (AV O)->eS->Prop):Prop:=
 ∀(h:HB)(f:Fz)(s:aR)(Q:Flow->aR->Prop)(G:ay->aR->Prop),h.lk= []->SR B ρ h f env xs k lv s.heap->
  (∀m P z S j,T S j->bU s m->Le f P->SR B ρ h P env xs k S m.heap->FD ρ P z j->Q z m)->wpAny (model prog w) A (execs st env) Q G s
noncomputable def xW(B:bV O)(prog:ck)(w:b4)(A:cZ)(ρ:Mk)(env:cW)(xs:U af)(k:Y)(lv:U (AV O))(st:cf)(T:U (AV O)->eS->Prop):Prop:=
 ∀(h:HB)(f:Fz)(s:aR)(Q:Flow->aR->Prop)(G:ay->aR->Prop),h.lk= []->SR B ρ h f env xs k lv s.heap->
  (∀m P z S j,T S j->bU s m->Le f P->SR B ρ h P env xs k S m.heap->FD ρ P z j->Q z m)->wpAny (model prog w) A (exec st env) Q G s
section
variable{st:cf}{rest:U cf}{Φ:U (AV O)->eS->Prop}
theorem ez.p{st:U cf}(h:ez B prog w A ρ env xs k lv st aP fl)(p:Φ aP fl):jl B prog w A ρ env xs k lv st Φ:=λe f s Q G a b c=>h e f s Q G a b λm P z=>c m P z _ _ p
theorem gF.p(h:gF B prog w A ρ env xs k lv st aP fl)(p:Φ aP fl):xW B prog w A ρ env xs k lv st Φ:=λe f s Q G a b c=>h e f s Q G a b λm P z=>c m P z _ _ p
theorem w_(R:xW B prog w A ρ env xs k lv st Ψ)(E:∀aP j,Ψ aP j->j= .next/\jl B prog w A ρ env xs k aP rest Φ\/j≠ .next/\Φ aP j):jl B prog w A ρ env xs k lv (st::rest) Φ:=by
 intro e f s Q G a S O;refine gN (R e f s _ _ a S λc h z aP j p o X t d=>?_);rcases E aP j p with⟨rfl,E⟩|⟨v,p⟩
 .obtain rfl:=d.nx;exact E e h c Q G a t λx q z b j p r l F d=>O x q z b j p (o.trans r) (X.trans l) F d
 .have i:=O c h z aP j p o X t d;cases z<;>first|exact cg C (d.ne v)|exact i
theorem Ae(R:gF B prog w A ρ env xs k lv st aP .next)(E:jl B prog w A ρ env xs k aP rest Φ):jl B prog w A ρ env xs k lv (st::rest) Φ:=
 w_ (Ψ:=λl z=>l=aP/\z= .next) (R.p ⟨C,C⟩) λl z p=>by obtain⟨rfl,rfl⟩:=p;exact .inl ⟨C,E⟩
theorem Yc(p:Φ lv .next):jl B prog w A ρ env xs k lv [] Φ:=ik.p p
noncomputable def Wk(B:bV O)(F Q:AV O):Prop:=∀ρ f e s h,Holds B ρ f e F s h->Holds B ρ f e Q s h
noncomputable def n8(B:bV O)(lv S:U (AV O)):Prop:=lv.length=S.length/\∀(i:Y)(a b:AV O),lv[i]?=J a->S[i]?=J b->Wk B a b
theorem SR.wk(S:SR B ρ hB f env xs k lv h)(q:n8 B lv aP):SR B ρ hB f env xs k aP h:=by
 obtain⟨eo,H,R,S⟩:=S;refine⟨eo,H,R,{S with len:=q.1▸S.len,vars:=λi x F j d=>?_}⟩;have z:i<lv.length:=by rw [q.1];exact(cw.mp d).1
 obtain⟨s,r,u⟩:=S.vars i x _ j (cP z);exact⟨s,r,q.2 i _ _ (cP z) d _ _ _ _ _ u⟩
theorem jl.x{st:U cf}(e:jl B prog w A ρ env xs k lv st Φ)(p:∀S x,Φ S x->n8 B S aP/\x=j):ez B prog w A ρ env xs k lv st aP j:=
 λa f s Q G i b c=>e a f s Q G i b λm P z S x q o O l d=>by refine bR (p S x q) λw h=>?_;subst h;exact c m P z o O (l.wk w) d
theorem jl.wk{st:U cf}(i:jl B prog w A ρ env xs k lv st Φ)(p:∀S x,Φ S x->∃aP,n8 B S aP/\e aP x):jl B prog w A ρ env xs k lv st e:=
 λh f s Q G a b c=>i h f s Q G a b λm P z S x q o O l d=>aG (p S x q) λaP w q=>c m P z aP x q o O (l.wk w) d
end
noncomputable def A2(a:cZ->Prop)(B:bV O)(prog:ck)(w:b4)(u:Y)(z:ay)(o:O)(g:U T)(q:O->T->Prop):Prop:=
 ∀(A:cZ)(ρ:Mk)(f:Fz)(H:ay)(y:U ay)(p:Result->aR->Prop)(s:aR)(h:U ak),a A->dw A u->Ready B f s->B.ob.at_ o H s.heap h->(∀b∈h,f b=ae/\B.bI.get? b=ae/\b∉B.tabs)->aY ρ f y g->
  (∀m P v e i r,q i r->bU s m->Le f P->(∀b,b∉h->b∉B.tabs->∀x,s.heap.get? b=J x->m.heap.get? b=J x)->B.inv m.heap->Le P m.heap.get?->(∀b x,P b=J x->f b=J x\/s.heap.get? b=ae\/b∈h)->
   B.ob.at_ i H m.heap e->(∀b∈e,(b∈h\/s.heap.get? b=ae)/\P b=ae)->Den ρ P v r->p (.ok (.ret v)) m)->codeAny (model prog w) A (.call z ⟨H::y, []⟩) p s
theorem wW(e:h.get? b=J o)(B:b∉l)(c:b∉R):(rest h (l++R)).get? b=J o:=mZ e λq=>(fb.mp q).elim B c
inductive Fj(B:bV O)(fz f':Fz)(h h':b8)(fp mO:U ak)(L:ak)(u:ay)(N2:O->Prop):Prop
 |mk(o':O)(uh:U ak)(PP:N2 o')(kp:∀b,b∉mO->b∉B.tabs->∀x,h.get? b=J x->h'.get? b=J x)(nw:∀b x,f' b=J x->fz b=J x\/h.get? b=ae\/b∈fp)(hat:B.ob.at_ o' u h' uh)
  (fr:∀b∈uh,(b∈fp\/h.get? b=ae)/\f' b=ae)(in1:∀b∈uh,b≠L/\b∉B.tabs)(nL:f' L=ae)(nT:∀b∈B.tabs,f' b=ae)(m:af->aS ay)(ns:h'.Ns L m)
theorem J9{ρ:Mk}{p m:Fz}{env:cW}{R:Y->U ak}{j:O->Prop}(r:B.ob.at_ aC H h a)(ao:B.ob.at_ aB H h n)(sub:∀b∈n,b∈a)(s:∀b∈a,f b=ae/\b∉B.tabs)
  (ai:∀b x,p b=J x->f b=J x\/h.get? b=ae)(Q:h.get? env.locals=ae)(z:aN (B.up au aD) ρ ⟨(rest h (B.tabs++n)).get?, [],p, []⟩ m env xs k az E R L)(w:0<xs.length)(aE:B.ob.at_ aH H L (R 0))
  (ah:(∀b∈a,b∉n->∀x,h.get? b=J x->L.get? b=J x)->(∀b∈R 0,b∈n\/h.get? b=ae)->∃i T,j i/\B.ob.at_ i H L T/\∀b∈T,b∈R 0\/b∈a/\b∉n):Fj B f m h L a n env.locals H j:=by
 have F:=z.fp 0 w;have g:∀b∈R 0,b∉B.tabs:=λb t q=>(z.tab b q).2.2.2.2 0 w t;have d:=λb t=>(tu _).imp id λl=>jR λx e=>aT (F b t).1 (wW e (g b t) l);have o:=λb X S x e=>z.kept b x (wW e S X);refine iD (ah (λb t v x e=>o b v (s b t).2 x e) d) λi T G P u=>?_;have c:=λb x e=>(z.new b x e).imp (ai b x) λq=>(tu _).imp id λl=>jR λy aj=>aT q (wW aj (λA=>aT (z.tab b A).2.1 e) l);refine⟨i,T,G,o,λb x e=>(c b x e).elim (λq=>q.imp id .inl) λq=> .inr (q.symm.imp id (sub b)),P,λb t=>?_,λb t=>?_,z.nL.2,λb t=>(z.tab b t).2.1,E,z.ns⟩
 .refine(u b t).elim (λt=>⟨(d b t).imp (sub b) id,(F b t).2.1⟩) λ⟨t,v⟩=>⟨.inl t,jR λy e=>?_⟩;have lv:=B.ob.live r b t;exact(c b y e).elim (λq=>q.elim (aT (s b t).1) λq=>dg (aQ ro q) lv) λq=>q.elim v λq=>dg (aQ ro q) lv
 .exact(u b t).elim (λt=>⟨(F b t).2.2.1,g b t⟩) λ⟨t,_⟩=>⟨λq=>dg (aQ ro Q) (q▸B.ob.live r b t),(s b t).2⟩
theorem F3(aE:e6 B eg dS){o:O}{au u:O->T->Prop}(k:jJ B a d8 S bW xs)(az:aD.length+1<=xs.length)(aL:Binds B prog w S xs aO aD)
  (aZ:∀{H h e},B.ob.at_ o H h e->∃i,B.ob.at_ q H h i/\∀b∈i,b∈e)(aW:∀{H h e G L l x r},u x r->B.ob.at_ q H h e->B.ob.at_ x G L l->G=H)
  (aJ:∀{H h e i P}(p:bN B.bI P),B.ob.at_ o H h e->B.ob.at_ q H h i->(∀b s,h.get? b=J s->b∉B.tabs->b∉i->P.get? b=J s)->(∀b∈e,b∉B.tabs)->∀f A ρ,PA A->dw A (n+1)->
   jl (B.up P p) prog w (A.deeper (callEnvC S f a)) ρ (callEnvC S f a) xs xs.length (kR q xs aD) bW λaj aC=>∃x r,aj[0]?=J (.obj x)/\tZ aC r/\u x r)
  (bY:∀{H h e i L g x r},u x r->B.ob.at_ o H h e->B.ob.at_ q H h i->B.ob.at_ x H L g->(∀b∈e,b∉i->∀s,h.get? b=J s->L.get? b=J s)->(∀b∈g,b∈i\/h.get? b=ae)->∃m l,au m r/\B.ob.at_ m H L l/\∀b∈l,b∈g\/b∈e/\b∉i):
  A2 PA B prog w (n+1) (.ref a) o aO au:=by
 intro A ρ dX H d6 dB dO e aH ao aK j F aU aV;obtain⟨i,R,sub⟩:=aZ j;refine F0 aE k.ho k.hd k.yQ k.yP k.yR k.wj k.hg k.hb az aL ao aK R (λb t=>F b (sub b t)) aU λp f bg bq bz bA bD bK bM=>aJ p j R (λb s c y E=>mZ c (by simp [y,E])) (λb t=>(F b t).2.2) f A ρ aH ao _ bq bg _ _ C bK λb7 cv c_ aj aC X Q cz z d=>?_;obtain⟨x,r,cB,bQ,X⟩:=X;obtain⟨_,eu,dm,z⟩:=z;have aB:0<xs.length:=bL 0 (.a (.n 0) (.n 1)) (.v 1) (.a (.v 0) (.n 1)) (.v 1) C [_,_] az;obtain⟨dJ,_,G,rfl,ah⟩:=z.vars 0 _ _ (cP aB) cB;have cE:=aW X R ah;subst cE;obtain⟨m,l,b_,cO,cK,cV,c9,_⟩:=J9 j R sub (λb t=>⟨(F b t).1,(F b t).2.2⟩) bD bM z aB ah (bY X j R ah);have ai:=λv d=>aV b7 cv v l m r b_ (bz.trans Q) (bA.trans cz) (λb y E s c=>cO b (λQ=>y (sub b Q)) E s c) z.inv z.bC cK cV c9 d;rcases bQ with rfl|⟨rfl,rfl⟩
 .obtain⟨v,rfl,d⟩:=d.rt;exact ai _ d
 .obtain rfl:=d.nx;exact ai _ .none
theorem F2(G:e6 B aE aD){q nu:O->T->Prop}(u:jJ B a aC f y xs)(ah:E.length+1<=xs.length)(j:Binds B prog w f xs t E)
  (F:∀{H e h},B.ob.at_ o H e h->∃mO,B.ob.at_ o₁ H e mO/\∀b∈mO,b∈h)(Q:∀{H e h c L i v r},nu v r->B.ob.at_ o₁ H e h->B.ob.at_ v c L i->c=H)
  (m:∀{H e h mO P}(g:bN B.bI P),B.ob.at_ o H e h->B.ob.at_ o₁ H e mO->(∀b x,e.get? b=J x->b∉B.tabs->b∉mO->P.get? b=J x)->(∀b∈h,b∉B.tabs)->∀s A ρ,dw A z->
   jl (B.up P g) prog w A ρ (callEnvC f s a) xs xs.length (kR o₁ xs E) y λS X=>∃v r,S[0]?=J (.obj v)/\tZ X r/\nu v r)
  (R:∀{H e h mO L l v r},nu v r->B.ob.at_ o H e h->B.ob.at_ o₁ H e mO->B.ob.at_ v H L l->(∀b∈h,b∉mO->∀x,e.get? b=J x->L.get? b=J x)->(∀b∈l,b∈mO\/e.get? b=ae)->∃k i,q k r/\B.ob.at_ k H L i/\∀b∈i,b∈l\/b∈h/\b∉mO):
  eR B prog w (z+1) (.ref a) o t q:=λA ρ d H ao p ai h=>
 F3 (PA:=λaj=>True) G u ah j F Q (λg az au aB n s A ρ aj p=>m g az au aB n s _ ρ p.deeper) R A ρ d H ao p ai h trivial
end
noncomputable abbrev b3(l:U Y):af:=⟨l.toArray⟩
inductive gX:U ay->U (U Y)->Prop
 |nil:gX [] []
 |cons{l:U Y}{t:fh}{vs ls}:gX vs ls->gX (.str (b3 l) t::vs) (l::ls)
theorem gX.ou{y:U ay}{s:U (U Y)}(h:gX y s):aY ρ fz y (s.map .str):=gX.rec .nil (λw i=> .cons (.str _ _) i) h
theorem gX.of:∀{s:U (U Y)}{y:U ay},aY B f y (s.map .str)->gX y s
 | [],_,d=>d.g6 (P:=λy=>gX y []) .nil
 |_::_,_,d=>d.iO (P:=λy=>gX y _) λw T a b=>a.g_ (P:=λv=>gX (v::T) _) λw=> .cons (gX.of b)
theorem gX.append{s e:U (U Y)}(h:gX y s)(k:gX ws e):gX (y++ws) (s++e):=gX.rec k (λw i=> .cons i) h
structure Nd where
 key:U Y
 i:ak
 id:ak
 su:ak
 np:aq
 succ:U (U Y)
structure SG where
 self:ak
 d:ak
 D:ak
 cJ:aS ak
 rl:U (U Y)
 po:aq
 fi:aq
 bJ:U Nd
structure Cl where
 K:Frag
 a_:ak
 N:ak
 fs:U (af×ak)
 ni:ak
 p0:ak
 p1:ak
 p2:ak
theorem yp{u f:Y}(e:dictOf d u=dictOf i f):d=i:=aQ Zl (Data.dict.inj (aQ Nh e)).1
noncomputable def rV:aS ak->ay
 |J a=> .ref a
 |ae=> .none
inductive N1(D:ak)(cJ:aS ak)(po fi:aq)(o:bE):Prop
 |mk(es:U DictEntry)(n:Y)(tp tf:fh)(e:o=dictOf es n)(hl:es.length<=8)(h1:getL "_node2info" es=J (J (.ref D)))(h2:getL "_ready_nodes" es=J (J (rV cJ)))(h3:getL "_npassedout" es=J (J (.int po tp)))(h4:getL "_nfinished" es=J (J (.int fi tf)))
  (h5:∀x,x≠("_node2info":af)->x≠("_ready_nodes":af)->x≠("_npassedout":af)->x≠("_nfinished":af)->getL x es=J ae)
noncomputable def gT(G:SG):bE->Prop:=N1 G.D G.cJ G.po G.fi
noncomputable def fe(s:U (U Y))(o:bE):Prop:=∃y u,o=lo y u/\gX y s
noncomputable def oO(t:ak)(T:Nd)(o:bE):Prop:=∃E H,o=⟨.ref t,J T.id, .plain,#[J (.str (b3 T.key) E),J (.int T.np H),J (.ref T.su)]⟩
noncomputable def cM(G:SG):U (af×ay):=G.bJ.map λT=>(b3 T.key, .ref T.i)
noncomputable def jc(i:ck)(X:b4)(G:SG)(o:bE):Prop:=∀(h:b8)(a:ak),h.get? a=J o->h.DictOf (strKind i X) a (cM G)
noncomputable def ju(t:ak)(T:Nd):U (ak×(bE->Prop)):= [(T.i,oO t T),(T.id,λw=>True)]
noncomputable def fq(h:ak)(G:SG):U (ak×(bE->Prop)):=(G.self,λo=>o=instObj h G.d)::(G.d,gT G)::(match G.cJ with|J a=> [(a,fe G.rl)]|ae=> [])
noncomputable def fK(t:ak)(G:SG):U (ak×(bE->Prop)):=G.bJ.flatMap (ju t)
noncomputable def f9(i:ck)(X:b4)(G:SG):U (ak×(bE->Prop)):=(G.D,jc i X G)::G.bJ.map λT=>(T.su,fe T.succ)
noncomputable def objs(i:ck)(X:b4)(c:Cl):Y->SG->U (ak×(bE->Prop))
 |0,G=>fq c.a_ G++fK c.N G++f9 i X G
 |1,G=>fq c.a_ G++fK c.N G
 |_,G=>fq c.a_ G
theorem lN{c:Cl}:objs i X c 0 G=fq c.a_ G++fK c.N G++f9 i X G:=C
theorem lO{c:Cl}:objs i X c 1 G=fq c.a_ G++fK c.N G:=C
theorem lP{c:Cl}:objs i X c (u+2) G=fq c.a_ G:=C
noncomputable def oQ(i:ck)(X:b4)(c:Cl):Y->SG->U (ak×(bE->Prop))
 |0,_=> []
 |1,G=>f9 i X G
 |_,G=>fK c.N G++f9 i X G
noncomputable def qy(l:U (ak×(bE->Prop)))(h:b8):Prop:=∀x∈l,∃o,h.get? x.1=J o/\x.2 o
theorem qy.keep(s:qy l h)(k:∀b∈l.map (·.1),∀o,h.get? b=J o->L.get? b=J o):qy l L:=λx j=>aG (s x j) λo Q p=>(aM o (k _ (gE j) o Q) p)
structure fX(l:U (ak×(bE->Prop)))(h:b8)(fp:U ak):Prop where
 dH:qy l h
 ad:fp=l.map (·.1)
 nd:fp.Nodup
theorem fX.live(s:fX l h O):∀b∈O,(h.get? b).isSome=aa:=by
 intro b t;rw [s.ad]at t;refine aG (eZ.mp t) λx j e=>?_;subst e;refine aG (s.dH x j) λo Q w=>?_;rw [Q];rfl
theorem fX.keep{O:U ak}(s:fX l h O)(k:∀b∈O,∀o,h.get? b=J o->L.get? b=J o):fX l L O:=
 ⟨s.dH.keep (by rw [<-s.ad];exact k),s.ad,s.nd⟩
theorem fX.set{h L:b8}(s:fX l h O)(P:gk a h L)(e:R.map (·.1)=l.map (·.1))(B:∀x∈R,(x∈l/\x.1≠a)\/(x.1=a/\∃o,L.get? a=J o/\x.2 o)):fX R L O:=
 ⟨λx j=>by
  rcases B x j with⟨q,u⟩|⟨q,o,Q,p⟩
  .obtain⟨o,Q,p⟩:=s.dH x q;exact(aM o ((P.2 _ u).trans Q) p)
  .exact(aM o ((aQ _ q).trans Q) p),by rw [e];exact s.ad,s.nd⟩
theorem fX.sub{l X h:U (ak×(bE->Prop))}(s:fX (X++h) e O):fX X e (X.map (·.1)):=
 ⟨λx j=>s.dH x (gx _ j),C,by have:=s.nd;rw [s.ad,ej]at this;exact(gm.mp this).1⟩
inductive Ob where
 |bj(st:ak)(xs:U Y)(k:Y)
 |bS(p:Y)(G:SG)
 |Dn(p:Y)(G:SG)
 |bX(self:ak)(l:U (U Y×aq×U (U Y)))(cJ:aS (U (U Y)))(po fi:aq)
 |gH(self d:ak)(st:Y)
 |ja(st:Y)(nd:Nd)
 |dc(l:U (ak×Y))
 |uB(l:U (ak×Y))
 |set(l:U (U Y))
 |jN(l:U (U Y×aq))
noncomputable def slotsOf(T:Nd)(E H:fh):Y->j4 (aS ay)
 |0=>#[]
 |1=>#[J (.str (b3 T.key) E)]
 |2=>#[J (.str (b3 T.key) E),J (.int T.np H)]
 |_=>#[J (.str (b3 T.key) E),J (.int T.np H),J (.ref T.su)]
noncomputable def q1(t:ak)(st:Y)(T:Nd)(o:bE):Prop:=∃E H,o=⟨.ref t,J T.id, .plain,slotsOf T E H st⟩
noncomputable def uH(t:ak)(st:Y)(T:Nd):U (ak×(bE->Prop)):=(T.i,q1 t st T)::(T.id,λw=>True)::(if st=3 then [(T.su,fe T.succ)]else [])
noncomputable def SG.abs(G:SG):Ob:= .bX G.self (G.bJ.map λT=>(T.key,T.np,T.succ)) (G.cJ.map λw=>G.rl) G.po G.fi
noncomputable def iQ:Y->af
 |0=> "_node2info"
 |1=> "_ready_nodes"
 |2=> "_npassedout"
 |_=> "_nfinished"
noncomputable def Cd(k:ak)(n T:fh):Y->ay
 |0=> .ref k
 |1=> .none
 |2=> .int 0 n
 |_=> .int 0 T
noncomputable def pK(k:ak)(n T:fh):Y->af->aS ay
 |0,_=>ae
 |u+1,x=>if x=iQ u then J (Cd k n T u)else pK k n T u x
theorem SQ:pK k n t2 0 x=ae:=C
theorem Cc:pK k n t2 (u+1) x=if x=iQ u then J (Cd k n t2 u)else pK k n t2 u x:=C
noncomputable def pR(k:ak)(st:Y)(o:bE):Prop:=∃d u n T,o=dictOf d u/\d.length<=st/\∀x,getL x d=J (pK k n T st x)
noncomputable def HR(i:ck)(X:b4)(a F d k:ak)(st:Y):U (ak×(bE->Prop)):=
 (F,λo=>o=instObj a d)::(d,pR k st)::(if st=0 then []else [(k,jc i X ⟨F,d,k,ae, [],0,0, []⟩)])
noncomputable def sQ:aS cf:=dD 1 (cQ (bj 21))
theorem pD(H:f.params=p)(q:f.defaults=d)(g:Args):bindArgs f g=bindArgs {f with params:=p,defaults:=d} g:=by subst H q;rfl
structure Fo(fd:tQ)(c1 c2 cc:ak):Prop where
 params:fd.params=gQ sQ
 body:fd.body= .stmts (cQ sQ)
 scope:fd.scope=d5 sQ
 mC:fd.closure= [(("octets":af),c2),(("at":af),c1)]
 R6:fd.globals=mainGlobals
 OR:fd.builtins=builtinsNs
 code:fd.code= .ref cc
 PV:fd.defaults= .none
 kdf:fd.kwdefaults= .none
inductive jI:U ay->U Y->Prop
 |nil:jI [] []
 |cons{i:Y}{t:fh}{vs xs}:jI vs xs->jI (.int (i:aq) t::vs) (i::xs)
noncomputable def Vg(P:ak)(o:bE):Prop:=∀(h:b8)(a:ak),h.get? a=J o->h.Ns a λx=>if x= "read"then J (.ref P)else ae
noncomputable def u3(st d P n a H v L:ak)(h:U Y)(k:Y):U (ak×(bE->Prop)):=
 [(st,λo=>∃f z,o=⟨.type "function",J d, .func f,z⟩),(d,Vg P),
  (P,λo=>∃f z,o=⟨.type "function",ae, .func f,z⟩/\Fo f n H L/\f.qualname= "_law_stream.<locals>._law_read"),(n,λo=>o.data= .cell (J (.ref a))),(a,λo=>∃E u,o=lo [.int (k:aq) E] u),(H,λo=>o.data= .cell (J (.ref v))),
  (v,λo=>∃y u,o=lo y u/\jI y h),(L,λo=>∃y E,o.data= .fields y/\y[1]?=J (.str "_law_stream.<locals>._law_read" E))]
theorem sC(i:ck)(X:b4)(c:Cl)(p:Y)(G:SG):objs i X c 0 G=objs i X c p G++oQ i X c p G:=by
 match p with
 |0=>exact(rg _).symm
 |1=>rfl
 |u+2=>exact vt _ _ _
section
open Builtin Builtin.ObjectAttr Builtin.Getset_descriptor
set_option tactic.hygienic true
theorem Kg(O:af)(z:aq)(a v:ay)(d:U DictEntry):(putL O z a v d).length<=d.length+1:=by
 induction d with
 |nil=>exact ek _
 |cons e r X=>
  unfold putL;split
  .exact xD _
  .exact xG X
theorem VE(r:U DictEntry):(putL O z (.str O R) v r).any (·.refKey)=r.any (·.refKey):=by
 induction r with
 |nil=>rfl
 |cons e r X=>
  unfold putL;split
  .rfl
  .exact aQ (e.refKey||·) X
section
variable{prog:ck}{w:b4}{A:cZ}{K:Frag}{R:Result->aR->Prop}
theorem U5{n:Y}(T:K.In s.heap)
  (e:InstAt s.heap b l a (J (dictOf d n)))(q:l.dict=J i)(H:plainOver K a=aa)(t:takerIn K a O=J ae)(j:hasDictIn K a=aa)
  (B:(getL O d).isSome=aa)(g:d.length<=900)
  (p:∀L,gk i s.heap L->L.get? i=J (dictOf (putL O (qo w.params O) (.str O s.toks) v d) (putN O d n))->R (.ok (.ret .none)) {s with heap:=L,toks:=s.toks+1}):
  codeAny (model prog w) A (.call (.builtin "object.__setattr__") ⟨[.ref b, .str O E,v], []⟩) R s:=by
 refine osa_open T e H t λai=>cps λF o=>aG (any_some j) λP y f=>?_;obtain⟨m,r,ah,k⟩:=e;obtain⟨aj,X,S,Q⟩:=l;refine o ?_;dsimp only at r q k;subst r q;have k:s.heap.get? i=J (dictOf d n):=k;have x:=putName_dict O (qo w.params O) (.str O s.toks) v d n;have G:(s.heap.update i (Nj O (qo w.params O) (.str O s.toks) v)).get? i=J (dictOf (putL O (qo w.params O) (.str O s.toks) v d) (putN O d n)):=by
  rw [nQ _ k (aQ _ x),x]
 refine aF (bP (aF (aF (Fa m (aF ((looks_clsIn T y).here ?_))))));rw [f];refine bP (aF (bP (aF (aF (aF (wpAny_askSetting (bP (aF (xN (aF (Fa k ?_)))))))))));have c:(!d.toArray.any (·.key.isStr O)&&d.toArray.any (·.refKey))=aA:=by
  rw [MN,MN];unfold getL at B
  split at B
  .rename_i z u;exact(tE.mpr (aM z (List.mem_of_find?_eq_some u) (List.find?_some u))).symm▸C
  .split at B
   .exact dg C B
   .rename_i h;rw [Bool.not_eq_true]at h;rw [h,Bool.and_false]
 dsimp only;rw [aRefKeyMayBeTheName_at,c];refine NI k ?_;have len:=Kg O (qo w.params O) (.str O s.toks) v d;exact aF (wpAny_lookBehind G (pastItsLine_dict (l_.symm▸jG.symm▸(cF 0 (.v 1) (.a (.n 16777216) (.n 1)) (.v 0) (.n 900) (.v 1) (.a (.v 0) (.n 1)) C [_,_] g len))) (bP (p _ (nf ..) G)))
theorem RZ(o:bE)(z:j4 (aS ay)):({o with slots:=z}).isFreed=o.isFreed:=by
 obtain⟨_,_,d,_⟩:=o;cases d<;>rfl
theorem WN{p i:Y}(T:K.In s.heap)(e:InstAt s.heap x l a X)
  (H:slotIn K p a=J i)(z:i<1000)(k:l.isFreed=aA)
  (c:∀L,gk x s.heap L->L.get? x=J {l with slots:=(l.slots++Ej (i+1-l.slots.size) ae).setIfInBounds i (J v)}->R (.ok (.ret .none)) {s with heap:=L}):
  codeAny (model prog w) A (.call (.builtin "member_descriptor.__set__") ⟨[.ref p, .ref x,v], []⟩) R s:=by
 refine cps λh t=>?_;obtain⟨n,q,m,b,d,B,E,f,Q,y,u,r,rfl⟩:=slot_of T H;refine t ?_;have j:=e.at_;have h:=c (s.heap.update x (λo=>{o with slots:=(o.slots++Ej (f.slotNames.length-1-b.toNat+1-o.slots.size) ae).setIfInBounds (f.slotNames.length-1-b.toNat) (J v)})) (nf ..)
  (nQ _ j ((RZ l _).trans k))
 have S:=e.type (M:=model prog w);have O:=looks_mroIn (M:=model prog w) T u;have F:Looks (model prog w) s.heap (Slots.slotNamesOf (.ref a)) f.slotNames:=(looks_clsIn T y).andThen .now;have G:=E5 (M:=model prog w) Q 0 (v:= .str n q) C;have P:=E5 (M:=model prog w) Q 1 (v:=m) C;have ah:=E5 (M:=model prog w) Q 3 (v:= .builtin "proto.slot#set") C;have ai:=E5 (M:=model prog w) Q 4 (v:= .int b d) C;refine ru ML.plain KF.entry_mset (ML.check _ _ _ _ _ _ _ _ (aM _ Q C) (KF.args_mset _ _ _) ?_);unfold Builtin.«member_descriptor.__set__»descrSet descrStoreThrough descrCheckInstance descrNameAndClass isInstance;have aj:Looks (model prog w) s.heap (descrItself (.ref p)) [.ref p]:=((Looks.ld Q).andThen .now).andThen (Looks.of_pure (C))
 repeat lk
 refine⟨Em _ (by decide+kernel),E4 KF.entry_slotset ?_⟩;unfold Builtin.«proto.slot#set»Slots.target
 repeat lk
 refine(bF r)▸(bP (aF ?_));unfold setSlotAt;dsimp only;rw [bF (by rw [jG];exactλg=>jx (cF 0 (.n 1) (.n 0) (.a (.v 0) (.n 1)) (.n 1000) (.n 16777216) (.v 0) C [_] z g))];exact NI j (bP h)
theorem z0(T:K.In s.heap)
  (e:InstAt s.heap x n a (J (dictOf d t)))(q:n.dict=J i)(P:findIn K (.ref a) "__setattr__"=J (J (.builtin "object.__setattr__")))(H:plainOver K a=aa)(b:takerIn K a O=J ae)(u:hasDictIn K a=aa)
  (B:(getL O d).isSome=aa)(k:d.length<=900)
  (h:∀L z R f,gk i s.heap L->L.get? i=J (dictOf (putL O z (.str O R) v d) f)->Q () {s with heap:=L,toks:=s.toks+2}):
  wpAny (model prog w) A (setAttr (.ref x) O v) Q G s:=
 set_plain T e P (U5 T e q H b u B k λL j l=>h L _ _ _ j l)
theorem Dd{p i:Y}(T:K.In s.heap)(e:InstAt s.heap x l a q)
  (P:findIn K (.ref a) "__setattr__"=J (J (.builtin "object.__setattr__")))(H:plainOver K a=aa)(h:takerIn K a O=J (J (.ref p)))(t:typeIn K (.ref p)=J (.type "member_descriptor"))(z:slotIn K p a=J i)(k:i<1000)(n:l.isFreed=aA)
  (j:∀L,gk x s.heap L->L.get? x=J {l with slots:=(l.slots++Ej (i+1-l.slots.size) ae).setIfInBounds i (J v)}->Q () {s with heap:=L,toks:=s.toks+1}):
  wpAny (model prog w) A (setAttr (.ref x) O v) Q G s:=
 set_plain T e P (osa_descr ML T e H h t (WN T e z k n λL o b=>j L o b))
theorem Ci{x O:af}(u:x≠O){k:ay}(h:k.isStr O=aa):¬k.isStr x=aa:=by
 cases k with
 |str s E=>exactλq=>u ((eq_of_beq (a:=s) q).symm.trans (eq_of_beq (a:=s) h))
 |_=>exact dg C h
theorem H7(O:af)(R:fh):(Nt O R).isStr O=aa:=beq_self_eq_true O
theorem v_{x:af}{r:U DictEntry}(h:¬e.key.isStr x=aa):(e::r).find? (·.key.isStr x)=r.find? (·.key.isStr x):=MU h
theorem G8{x:af}{r:U DictEntry}(h:e.key.isStr x=aa):(e::r).find? (·.key.isStr x)=J e:=MV h
theorem R5(h:d.find? (·.key.isStr O)=J e):getL O d=J (J e.val):=by
 unfold getL;rw [h]
theorem RG(h:getL O d=J (J r)):∃e,d.find? (·.key.isStr O)=J e:=by
 unfold getL at h
 split at h
 .exact⟨_,‹_›⟩
 .split at h<;>exact nomatch h
theorem RH(d:U DictEntry):∃a b,(putL O z (.str O tk) v d).find? (·.key.isStr O)=J ⟨a,b,v⟩:=by
 induction d with
 |nil=>exact(cu _ _ (G8 (H7 O tk)))
 |cons e r X=>
  unfold putL
  split
  .exact(cu _ _ (G8 ‹_›))
  .exact X.imp λw q=>q.imp λw q=>(v_ ‹_›).trans q
theorem RE{O x:af}(u:x≠O)(d:U DictEntry):(putL O z (.str O tk) v d).find? (·.key.isStr x)=d.find? (·.key.isStr x):=by
 induction d with
 |nil=>exact v_ (Ci u (H7 O tk))
 |cons e r X=>
  unfold putL
  split
  .exact(v_ (Ci u ‹_›)).trans (v_ (Ci u ‹_›)).symm
  .rw [MT,MT,X]
theorem yO(d:U DictEntry):getL O (putL O z (.str O tk) v d)=J (J v):=jP (RH d) λw w h=>R5 h
theorem lF{O x:af}(u:x≠O)(d:U DictEntry):getL x (putL O z (.str O tk) v d)=getL x d:=by
 unfold getL;rw [RE u,VE]
theorem VF{x:DictEntry}(d:U DictEntry)(h:d.find? (·.key.isStr O)=J x):(putL O z a v d).length=d.length:=by
 induction d with
 |nil=>exact aT C h
 |cons e r X=>
  unfold putL
  split
  .rfl
  .exact aQ (·+1) (X ((v_ ‹_›).symm.trans h))
theorem CZ(d:U DictEntry)(h:∃r,getL O d=J (J r)):(putL O z a v d).length=d.length:=h.elim λw h=>(RG h).elim λw h=>VF d h
end
end
structure dQ(prog:ck)(w:b4)(c:Cl)(p:Y)(G:SG)(v:ay)(h:b8)(fp:U ak):Prop where
 v:v= .ref G.self
 sm:(G.D==sysModules)=aA
 nd:((cM G).map (·.1)).Nodup
 ob:fX (objs prog w c p G) h fp
inductive N4(prog:ck)(w:b4)(l:U (U Y))(v:ay)(h:b8)(fp:U ak):Prop
 |mk(a:ak)(n:Y)(e:v= .ref a)(f:fp= [a])(g:n<=l.length)(s:h.SetOf (strKind prog w) a (λk=>l.any (λx=>decide (b3 x=k))) n)
inductive fj:U (af×ay)->U (U Y×aq)->Prop
 |nil:fj [] []
 |cons{l:U Y}{i:aq}{t:fh}{kv r}:fj kv r->fj ((b3 l, .int i t)::kv) ((l,i)::r)
inductive xT(prog:ck)(w:b4)(l:U (U Y×aq))(v:ay)(h:b8)(fp:U ak):Prop
 |mk(a:ak)(kv:U (af×ay))(e:v= .ref a)(f:fp= [a])(g:(a==sysModules)=aA)(s:h.DictOf (strKind prog w) a kv)(q:fj kv l)
structure vK(c:Cl)(st:Y)(nd:Nd)(v:ay)(h:b8)(fp:U ak):Prop where
 v:v= .ref nd.i
 ob:∃su,fX (uH c.N st {nd with su:=su}) h fp
structure vI(prog:ck)(w:b4)(c:Cl)(sf d:ak)(st:Y)(v:ay)(h:b8)(fp:U ak):Prop where
 v:v= .ref sf
 ob:∃D,(st≠0->(D==sysModules)=aA)/\fX (HR prog w c.a_ sf d D st) h fp
noncomputable abbrev jw(a:ak):bE:={cls:= .type "method-wrapper",data:= .fields #[.builtin "list_iterator.__next__", .ref a]}
noncomputable def g5(a:ak)(T:U (ak×ak)):U ak:=a::T.flatMap λX=> [X.1,X.2]
noncomputable def A6(h:b8)(T:U (ak×ak))(l:U (ak×Y)):Prop:=∀(i:Y)(X:ak×ak)(x:ak×Y),T[i]?=J X->l[i]?=J x->h.get? X.1=J (jw X.2)/\h.IsListIter X.2 x.1 x.2
inductive nt(x:Y)(l:U (ak×Y))(v:ay)(h:b8)(fp:U ak):Prop
 |mk(a:ak)(ws:U (ak×ak))(n:Y)(e:v= .ref a)(f:fp=g5 a ws)(nd:fp.Nodup)(hl:ws.length=l.length+x)(lv:∀b∈fp,(h.get? b).isSome=aa)(g:h.get? a=J (lo (ws.map λw=> .ref w.1) n))(r:A6 h ws l)
inductive vL(st:ak)(xs:U Y)(k:Y)(v:ay)(h:b8)(fp:U ak):Prop
 |mk(e:v= .ref st)(d rd c1 a c2 oc cc:ak)(ob:fX (u3 st d rd c1 a c2 oc cc xs k) h fp)
theorem vL.v{st:ak}{v:ay}(x:vL st n k v h O):v= .ref st:=by cases x;assumption
theorem Ck{i:Y}(a:ak)(h:ws[i]?=J X):X.1∈g5 a ws/\X.2∈g5 a ws:=by
 have:=cA h;exact⟨dY _ (tG.mpr (aM X this (by simp))),dY _ (tG.mpr (aM X this (by simp)))⟩
theorem nt.keep{O:U ak}(x:nt u n v i O)(k:∀b∈O,∀x,i.get? b=J x->L.get? b=J x):nt u n v L O:=by
 obtain⟨a,l,u,e,z,T,B,m,r,h⟩:=x;subst z;refine⟨a,l,u,e,C,T,B,λb t=>?_,k a (ee) _ r,λs X x p j=>?_⟩
 .refine bZ (gn.mp (m b t)) λo Q=>?_;rw [k b t o Q];rfl
 .refine bR (h s X x p j) λc A=>?_;obtain⟨o,Q,E⟩:=A;have H:=Ck a p;exact⟨k _ H.1 _ c,o,k _ H.2 _ Q,E⟩
theorem nt.live(x:nt u l v h O):∀b∈O,(h.get? b).isSome=aa:=
 by cases x;assumption
noncomputable def uP(i:ck)(X:b4)(c:Cl)(o:Ob)(v:ay)(h:b8)(O:U ak):Prop:=
 match o with
 | .bS p G=>dQ i X c p G v h O
 | .set l=>N4 i X l v h O
 | .jN l=>xT i X l v h O
 | .Dn p G=>∃a,dQ i X c p {G with cJ:=J a} v h O
 | .bX Q l r w u=>∃G:SG,G.abs= .bX Q l r w u/\dQ i X c 0 G v h O
 | .gH F d st=>vI i X c F d st v h O
 | .ja st T=>vK c st T v h O
 | .bj st n k=>vL st n k v h O
 | .dc l=>nt 0 l v h O
 | .uB l=>nt 1 l v h O
theorem N5{h L:b8}{a:ak}(x:h.SetOf (strKind i X) a S u)(k:∀o,h.get? a=J o->L.get? a=J o):L.SetOf (strKind i X) a S u:=P_ x λo d O E Q r=>Sy o d O E (k o Q) r
theorem Fe{h L:b8}{m:U _}(x:h.DictOf (strKind i X) a m)(k:∀o,h.get? a=J o->L.get? a=J o):L.DictOf (strKind i X) a m:=i8 x λo d O Q r=>kP o d O (k o Q) r
theorem UT(x:uP i X c o v h O):∀b∈O,(h.get? b).isSome=aa:=by
 cases o with
 |bS p G=>have x:=x;exact x.ob.live
 |Dn p G=>obtain⟨a,x⟩:∃a,dQ i X c p {G with cJ:=J a} v h O:=x;exact x.ob.live
 |bX s l r w u=>obtain⟨G,_,x⟩:∃G:SG,G.abs= .bX s l r w u/\dQ i X c 0 G v h O:=x;exact x.ob.live
 |gH F d st=>
  have x:=x;exact aG x.ob λq f S=>S.live
 |ja st T=>
  have x:=x;exact bZ x.ob λm S=>S.live
 |set l=>
  obtain⟨a,j,_,e,_,o,n,k,E,Q,_⟩:=x;intro b t;subst e;rw [cI.mp t,Q];rfl
 |jN l=>
  obtain⟨a,g,_,e,_,⟨o,n,k,Q,_⟩,_⟩:=x;intro b t;subst e;rw [cI.mp t,Q];rfl
 |bj st y z=>
  obtain⟨_,d,P,H,a,A,B,L,S⟩:=x;exact S.live
 |dc l=>have x:=x;exact x.live
 |uB l=>have x:=x;exact x.live
theorem US{O:U ak}(x:uP i X c o v h O)(k:∀b∈O,∀x,h.get? b=J x->q.get? b=J x):uP i X c o v q O:=by
 cases o with
 |bS p G=>
  have x:=x;exact⟨x.v,x.sm,x.nd,x.ob.keep k⟩
 |gH F d st=>
  have x:=x;exact aG x.ob λn e S=>⟨x.v,n,e,S.keep k⟩
 |ja st T=>
  have x:=x;exact bZ x.ob λf S=>⟨x.v,f,S.keep k⟩
 |Dn p G=>
  obtain⟨a,x⟩:∃a,dQ i X c p {G with cJ:=J a} v h O:=x;exact⟨a,x.v,x.sm,x.nd,x.ob.keep k⟩
 |bX Q l r w j=>
  obtain⟨G,e,x⟩:∃G:SG,G.abs= .bX Q l r w j/\dQ i X c 0 G v h O:=x;exact⟨G,e,x.v,x.sm,x.nd,x.ob.keep k⟩
 |set l=>
  obtain⟨a,u,e,z,P,s⟩:=x;exact⟨a,u,e,z,P,N5 s (k a (by rw [z];simp))⟩
 |jN l=>
  obtain⟨a,m,e,z,P,s,g⟩:=x;exact⟨a,m,e,z,P,Fe s (k a (by rw [z];simp)),g⟩
 |bj st A u=>
  obtain⟨e,d,t,y,a,H,E,L,S⟩:=x;exact⟨e,d,t,y,a,H,E,L,S.keep k⟩
 |dc l=>have x:=x;exact x.keep k
 |uB l=>have x:=x;exact x.keep k
noncomputable def Fg(i:ck)(X:b4)(c:Cl):OB Ob:=⟨uP i X c,UT⟩
structure rO(c:Cl)(x:af)(p:ak)(i:Y):Prop where
 fi:findIn c.K (.ref c.N) x=J (J (.ref p))
 sp:specialIn c.K (.ref p) "__get__"=J (J (.builtin "member_descriptor.__get__"))
 ta:takesIn c.K (.ref p)=J aa
 sl:slotIn c.K p c.N=J i
 ty:typeIn c.K (.ref p)=J (.type "member_descriptor")
theorem rO.Ds{p:Y}(h:rO c x p i):takerIn c.K c.N x=J (J (.ref p)):=by
 unfold takerIn;rw [h.fi,xH];simp [h.ta]
structure rF(c:Cl):Prop where
 pg:∀x,plainGet c.K c.a_ x=aa
 hd:hasDictIn c.K c.a_=aa
 sa:findIn c.K (.ref c.a_) "__setattr__"=J (J (.builtin "object.__setattr__"))
 po:plainOver c.K c.a_=aa
 CB:makesIn c.K c.a_=aa
 Il:keepIn c.K (.ref c.a_)=aa
 Ik:keepIn c.K (.ref c.N)=aa
 lt:2<=c.a_
 FN:(["_node2info", "_ready_nodes", "_npassedout", "_nfinished"]:U af).all (λx=>findIn c.K (.ref c.a_) x==J ae)=aa
 G_:c.fs.all (λp=>findIn c.K (.ref c.a_) p.1==J (J (.ref p.2))&&isFn c.K (.ref p.2))=aa
 CJ:∀x,plainGet c.K c.N x=aa
 IZ:isClsIn c.K c.N=aa
 zE:findIn c.K (.ref c.N) "__setattr__"=J (J (.builtin "object.__setattr__"))
 zB:plainOver c.K c.N=aa
 I8:makesIn c.K c.N=aa
 I3:findIn c.K (.ref c.N) "__init__"=J (J (.ref c.ni))
 I2:isFn c.K (.ref c.ni)=aa
 s0:rO c "node" c.p0 0
 s1:rO c "npredecessors" c.p1 1
 s2:rO c "successors" c.p2 2
theorem rF.at_(l:rF c)(x:af)(j:x∈(["_node2info", "_ready_nodes", "_npassedout", "_nfinished"]:U af)):findIn c.K (.ref c.a_) x=J ae:=beq_iff_eq.mp (kC.mp l.FN x j)
theorem rF.fs(l:rF c)(p:af×ak)(H:p∈c.fs):findIn c.K (.ref c.a_) p.1=J (J (.ref p.2))/\isFn c.K (.ref p.2)=aa:=
 have q:=ew.mp (kC.mp l.G_ p H)
 ⟨beq_iff_eq.mp q.1,q.2⟩
structure bH(B:bV Ob)(prog:ck)(w:b4)(c:Cl):Prop where
 ob:B.ob=Fg prog w c
 gS:∀{h},bN B.bI h->c.K.In h
 ok:rF c
theorem bH.up(l:bH w i X c)(g:bN w.bI P):bH (w.up P g) i X c:=⟨l.ob,λk=>l.gS (g.trans k),l.ok⟩
structure GT(G:SG)(x:af)(τ:T):Prop where
 mem:x∈(["_node2info", "_ready_nodes", "_npassedout", "_nfinished"]:U af)
 get:∀{o:bE},gT G o->∃es n v,o=dictOf es n/\getL x es=J (J v)/\handedIn v=aa/\∀ρ fz,Den ρ fz v τ
section
theorem GT.sq:GT G "_node2info" (.bO (.ref G.D)):=⟨cN 0 C,λp=>by
 obtain⟨d,u,_,_,e,_,h,_⟩:=p
 exact mQ d u _ e h C λ_ _=> .bO _⟩
theorem GT.Kl(q:G.cJ=ae):GT G "_ready_nodes" .none:=⟨cN 1 C,λp=>by
 obtain⟨d,u,_,_,e,_,_,h,_⟩:=p
 rw [q]at h;exact mQ d u _ e h C λ_ _=> .none⟩
theorem GT.sI(q:G.cJ=J a):GT G "_ready_nodes" (.bO (.ref a)):=⟨cN 1 C,λp=>by
 obtain⟨d,u,_,_,e,_,_,h,_⟩:=p
 rw [q]at h;exact mQ d u _ e h C λ_ _=> .bO _⟩
theorem GT.po:GT G "_npassedout" (.int G.po):=⟨cN 2 C,λp=>by
 obtain⟨d,u,_,_,e,_,_,_,h,_⟩:=p
 exact mQ d u _ e h C λ_ _=> .int _ _⟩
theorem GT.fi:GT G "_nfinished" (.int G.fi):=⟨cN 3 C,λp=>by
 obtain⟨d,u,_,_,e,_,_,_,_,h,_⟩:=p
 exact mQ d u _ e h C λ_ _=> .int _ _⟩
structure NT(c:Cl)(nd:Nd)(x:af)(p:ak)(i:Y)(τ:T):Prop where
 slot:rF c->rO c x p i
 get:∀{o:bE},oO c.N nd o->∃v,(o.slots[i]?).join=J v/\handedIn v=aa/\∀ρ fz,Den ρ fz v τ
theorem NT.node:NT c nd "node" c.p0 0 (.str nd.key):=⟨λk=>k.s0,λh=>jP h λE H e=>e▸i12 _ C C λ_ _=> .str _ _⟩
theorem NT.np:NT c nd "npredecessors" c.p1 1 (.int nd.np):=⟨λk=>k.s1,λh=>jP h λE H e=>e▸i12 _ C C λ_ _=> .int _ _⟩
theorem NT.su:NT c nd "successors" c.p2 2 (.bO (.ref nd.su)):=⟨λk=>k.s2,λh=>jP h λE H e=>e▸i12 _ C C λ_ _=> .bO _⟩
end
theorem lQ(h:x∈fq c.a_ G):x∈objs i X c p G:=by
 match p with
 |0=>exact gx _ (gx _ h)
 |1=>exact gx _ h
 |u+2=>exact h
theorem J3(H:p<=1)(h:x∈fK c.N G):x∈objs i X c p G:=by
 match p,H with
 |0,_=>exact gx _ (i0 _ h)
 |1,_=>exact i0 _ h
section
variable{i:Y}
noncomputable def qw(c:Cx Ob)(n:U af)(k:Y)(g:U (AV Ob))(X:b8->Prop):Prop:=∀A f H R h,aN c.B c.ρ A f c.env n k g H R h->X h
theorem jB(l:bH c.B c.prog c.w L)(j:n[i]?=J x)(B:g[i]?=J (.obj (.bS q G))):qw c n k g λh=>∃O,dQ c.prog c.w L q G (.ref G.self) h O:=by
 intro A f H R h S;obtain⟨s,_,v,_,m⟩:=S.vars i x _ j B;have m:=l.ob▸m;have m:=m;have e:=m.v;subst e;exact⟨_,m⟩
theorem KI(h:∀h,bN c.B.bI h->X h):qw c n k g X:=λA f H R u S=>h u S.base
theorem iW(l:bH c.B c.prog c.w L)(F:Fm c.env n k a)(i:Y)(j:n[i]?=J x)(B:g[i]?=J (.obj (.bS q G))):EE c n k g (.Name x p) g (.bO (.ref G.self)):=by
 constructor;rintro A f s Q h⟨E,H,R,S⟩O;refine cps λw T=>?_;obtain⟨b,r,v,rfl,m⟩:=S.vars i x _ j B;refine T ?_;have m:=l.ob▸m;have m:=m;have e:=m.v;subst e;exact eP (eH E S.ns r (O s f _ (bU.refl s) (Le.refl _) ⟨E,H,R,S⟩ (.bO _))) (F.eU j)
theorem jF(l:bH c.B c.prog c.w L)(m:qw c n k u λe=>∃O,dQ c.prog c.w L aC G (.ref G.self) e O)(e:EE c n k g o u (.bO (.ref G.self)))(P:GT G x z)
  (i:eval (.Attribute o x p) c.env=do let s<-eval o c.env;standAt p.atName;let r<-holding [s] (getAttr s x aa);letTemporaryGo o s r;pure r):EE c n k g (.Attribute o x p) u z:=by
 constructor;intro A f ah aH aL ai aj;refine Mv (e.1 A f ah _ _ ai λh w v b X j d=>?_) i;obtain rfl:=d.inv;refine cps λq T=>?_;obtain⟨E,H,R,y⟩:=j;obtain⟨O,_,_,_,S⟩:=m A w H R _ y;refine aG (S.dH (G.self,λo=>o=instObj L.a_ G.d) (lQ (by simp [fq]))) λaK a t=>aG (S.dH (G.d,gT G) (lQ (by simp [fq]))) λaJ F B=>T ?_;dsimp only at t a F B;subst t;refine cps λq T=>oA (P.get B) λaD aE v au ao az aB=>?_;subst au;refine T ?_;have Q:b5 c.B w h w {h with toks:=h.toks+1}:=b5.tok y.ready _;exact get_value (l.gS y.base) ⟨a,C,C,F⟩ (tO (l.ok.pg x)).1 (findObj_own l.ok.hd (l.ok.at_ x P.mem) C (by rw [lookIn_dict];exact ao)) az (aj _ w v (b.trans Q.same) X ⟨E,H,R,y⟩ (aB _ _))
end
section
set_option tactic.hygienic true
section
variable{c:Cx Ob}{nd:Nd}
theorem g9(l:bH c.B c.prog c.w L)(S:aN c.B c.ρ A f c.env n k g H R h)(j:n[i]?=J x)(B:g[i]?=J (.obj (.bS q G))):dZ c.env H h x (J (.ref G.self))/\dQ c.prog c.w L q G (.ref G.self) h (R i):=by
 refine cps λ_ T=>?_;obtain⟨s,r,v,rfl,m⟩:=S.vars i x _ j B;refine T ?_;rw [l.ob]at m;have m:=m;exact(m.v)▸(⟨r,m⟩)
theorem z5(l:bH c.B c.prog c.w x)(S:aN c.B c.ρ A f c.env n k g H R s)(j:n[i]?=J d)(B:g[i]?=J (.obj (.bS q G)))(r:a∈R i)(P:gk a s L)
  (O:y.self=G.self)(p:dQ c.prog c.w x q y (.ref y.self) L (R i)):aN c.B c.ρ A f c.env n k (g.set i (.obj (.bS q y))) H (bT R i (R i)) L:=by
 refine bR (g9 l S j B) λm w=>?_;have z:=(cw.mp j).1;have F:=S.fp i z;have h:∀{b},b∉R i->b≠a:=λ{b}u q=>u (by rw [q];exact r);refine S.oU j (λb u _ o e=>(P.2 b (h u)).trans e) (c.B.e8 S.inv λX v o e=>(P.2 X (h ((S.tab X v).2.2.2.2 i z))).trans e) (Le.refl _) (λb o e=>(P.2 b λq=>?_).trans (S.bC b o e)) (λb o e=> .inl e) m ⟨.ref G.self,C,?_⟩ (λb t=>⟨.inl t,(F b t).2.1⟩)
 .exact aT ((aQ _ q).trans ((F a r).2.1)) e
 .rw [l.ob,<-O];exact p
theorem Hu(l:bH c.B c.prog c.w L)(S:aN c.B c.ρ A f c.env n y g H R s.heap)(d:dQ c.prog c.w L m G (.ref G.self) s.heap k)(P:GT G x h)
  (O:∀v E,Den c.ρ f v h->Q v {s with toks:=E}):wpAny (model c.prog c.w) c.A (getAttr (.ref G.self) x w) Q b s:=by
 refine cps λ_ T=>aG (d.ob.dH (G.self,λo=>o=instObj L.a_ G.d) (lQ (.head _))) λj a t=>aG (d.ob.dH (G.d,gT G) (lQ (cA (i:=1) C))) λq F B=>T ?_;dsimp only at t a F B;subst t;refine cps λ_ T=>oA (P.get B) λr p v i z u e=>?_;subst i;exact T (get_value (l.gS S.base) (⟨a,C,C,F⟩) (tO (l.ok.pg x)).1 (findObj_own l.ok.hd (l.ok.at_ x P.mem) C (by assumption)) u (O v _ (e _ _)))
structure GS(G:SG)(x:af)(τ:T)(G':SG):Prop where
 eq:∃p f,G'={G with po:=p,fi:=f}
 mem:x∈(["_node2info", "_ready_nodes", "_npassedout", "_nfinished"]:U af)
 put:∀{ρ:Mk}{fz:Fz}{es:U DictEntry}{n n':Y}{v:ay}{BV:aq}{tk:fh},gT G (dictOf es n)->Den ρ fz v τ->gT G' (dictOf (putL x BV (.str x tk) v es) n')
theorem Uq:("_node2info":af)≠ "_ready_nodes":=nofun
theorem Ur:("_node2info":af)≠ "_npassedout":=nofun
theorem Us:("_node2info":af)≠ "_nfinished":=nofun
theorem I5:("_ready_nodes":af)≠ "_npassedout":=nofun
theorem I6:("_ready_nodes":af)≠ "_nfinished":=nofun
theorem I7:("_npassedout":af)≠ "_nfinished":=nofun
theorem GS.po(m:aq):GS G "_npassedout" (.int m) {G with po:=m}:=⟨⟨m,G.fi,C⟩,cN 2 C,λ{_ _ d _ f _ _ _}p h=>by
 obtain⟨s,X,g,n,e,B,R,E,S,A,r⟩:=p;obtain rfl:=yp e;obtain⟨a,rfl⟩:=h.inv
 exact⟨_,f,a,n,C,(CZ d ⟨_,S⟩).symm▸B,(lF Ur d).trans R,(lF I5 d).trans E,yO d,(lF (jk I7) d).trans A,λx i b c h=>(lF c d).trans (r x i b c h)⟩⟩
theorem GS.fi(m:aq):GS G "_nfinished" (.int m) {G with fi:=m}:=⟨⟨G.po,m,C⟩,cN 3 C,λ{_ _ d _ f _ _ _}p h=>by
 obtain⟨s,X,g,n,e,B,R,E,S,A,r⟩:=p;obtain rfl:=yp e;obtain⟨a,rfl⟩:=h.inv
 exact⟨_,f,g,a,C,(CZ d ⟨_,A⟩).symm▸B,(lF Us d).trans R,(lF I6 d).trans E,(lF I7 d).trans S,yO d,λx i b c h=>(lF h d).trans (r x i b c h)⟩⟩
theorem gT.has{o:bE}(p:gT G o)(j:x∈(["_node2info", "_ready_nodes", "_npassedout", "_nfinished"]:U af)):∃d u,o=dictOf d u/\d.length<=8/\(getL x d).isSome=aa:=by
 obtain⟨i,X,g,n,e,B,R,E,S,A,r⟩:=p;refine(gG i X e B ?_);simp only [cC,gM,or_false]at j;rcases j with rfl|rfl|rfl|rfl
 .exact cS R
 .exact cS E
 .exact cS S
 .exact cS A
theorem J1(i:ck)(X:b4)(L:Cl)(q:Y)(G:SG)(p z:aq):∃l,objs i X L q G=(G.self,λo=>o=instObj L.a_ G.d)::(G.d,gT G)::l/\objs i X L q {G with po:=p,fi:=z}=(G.self,λo=>o=instObj L.a_ G.d)::(G.d,gT {G with po:=p,fi:=z})::l:=
 match q with
 |0=>⟨_,C,C⟩
 |1=>⟨_,C,C⟩
 |_+2=>⟨_,C,C⟩
theorem WE(l:bH c.B c.prog c.w e)(S:aN c.B c.ρ hB f c.env n o lv X az s.heap)(j:n[k]?=J aL)(a:lv[k]?=J (.obj (.bS q G)))(g:GS G x u G')(d:Den c.ρ f H u)
  (O:∀L E ai ao,aN c.B c.ρ hB f c.env n o (lv.set k (.obj (.bS q G'))) ai ao L->m () {s with heap:=L,toks:=E}):wpAny (model c.prog c.w) c.A (setAttr (.ref G.self) x H) m au s:=by
 obtain⟨⟨p,z,rfl⟩,b,r⟩:=g;refine bR (g9 l S j a) λw hS=>aG (hS.ob.dH (G.self,λy=>y=instObj e.a_ G.d) (lQ (.head _))) λaK i t=>aG (hS.ob.dH (G.d,gT G) (lQ (cA (i:=1) C))) λaJ F B=>?_;dsimp only at t i F B;subst t;refine iD (B.has b) λaE aH T R A=>?_;subst T;refine z0 (l.gS S.base) (⟨i,C,C,F⟩) C l.ok.sa l.ok.po (by unfold takerIn;rw [l.ok.at_ x b,xH]) l.ok.hd A (bh R (bx C)) λL aB aC aD P ah=>O L _ X _ (z5 l S j a ?_ P C ?_)
 .refine aG (J1 c.prog c.w e q G p z) λaj t w=>?_;rw [hS.ob.ad,t];exact .tail _ (.head _)
 .refine⟨C,hS.sm,hS.nd,(aG (J1 c.prog c.w e q G p z) λaj t Q=>?_)⟩;have v:=hS.ob.nd;rw [hS.ob.ad,t,iA,iA,l9,l9]at v;refine hS.ob.set P (by rw [t,Q];rfl) λaO h=>?_;rw [Q]at h;rw [t];rcases cC.mp h with rfl|h
  .refine .inl ⟨.head _,λq=>v.1 ?_⟩;dsimp only at q;rw [cC];exact .inl q
  .rcases cC.mp h with rfl|h
   .exact .inr ⟨C,_,ah,r B d⟩
   .exact .inl ⟨.tail _ (.tail _ h),λq=>v.2.1 (by have E:=gE (f:=(·.1)) h;rw [q]at E;exact E)⟩
theorem fX.upd{l R:U (ak×(bE->Prop))}{a:ak}{n:bE->Prop}(h:fX l b O)(x:l=P++(a,n)::p)(B:R=P++(a,t)::p)(e:gk a b L)(Q:L.get? a=J i)(H:t i):fX R L O:=by
 subst x B;have v:=h.nd;rw [h.ad,ej,iA]at v;refine fF (gm.mp v) λw c k=>h.set e (by simp) λj s=>?_;rcases fb.mp s with s|s
 .exact .inl ⟨gx _ s,λq=>k a (q▸(gE s)) a (.head _) C⟩
 .rcases cC.mp s with rfl|s
  .exact .inr ⟨C,i,Q,H⟩
  .refine .inl ⟨i0 _ (.tail _ s),λq=>(l9.mp c).1 ?_⟩;have E:=gE (f:=(·.1)) s;rw [q]at E;exact E
noncomputable def SG.np(G:SG)(m:Y)(nd:Nd)(u:aq):SG:={G with bJ:=G.bJ.set m {nd with np:=u}}
noncomputable def SG.ap(G:SG)(m:Y)(nd:Nd)(l:U Y):SG:={G with bJ:=G.bJ.set m {nd with succ:=nd.succ++ [l]}}
theorem oS{B:Type}{l:U B}{a:B}(h:l[m]?=J a):∃F w,l=F++a::w/\∀g,l.set m g=F++g::w:=by
 have G:=(cw.mp h).1;refine(eV (l.take m) (l.drop (m+1)) ?_ (λg=>List.set_eq_take_append_cons_drop ..|>.trans ((bB G))));rw [<-((cw.mp h).2),<-AA G,List.take_append_drop]
theorem Ir(h:G.bJ[m]?=J nd):cM (G.np m nd u)=cM G:=by
 refine dK (oS h) λF w e B=>?_;unfold cM SG.np;dsimp only;rw [B,e];simp
theorem Io(h:G.bJ[m]?=J nd):cM (G.ap m nd l)=cM G:=by
 refine dK (oS h) λF w e B=>?_;unfold cM SG.ap;dsimp only;rw [B,e];simp
theorem J0(i:ck)(X:b4)(L:Cl)(e:G.bJ[m]?=J nd)(k:q<=1):∃h p,objs i X L q G=h++(nd.i,oO L.N nd)::p/\objs i X L q (G.np m nd n)=h++(nd.i,oO L.N {nd with np:=n})::p:=by
 refine dK (oS e) λF w a B=>?_;have Q:fK L.N G=F.flatMap (ju L.N)++(nd.i,oO L.N nd)::(nd.id,λ_=>True)::w.flatMap (ju L.N):=by
  unfold fK;rw [a];simp [ju]
 have x:fK L.N (G.np m nd n)=F.flatMap (ju L.N)++(nd.i,oO L.N {nd with np:=n})::(nd.id,λ_=>True)::w.flatMap (ju L.N):=by
  unfold fK SG.np;dsimp only;rw [B];simp [ju]
 have b:fq L.a_ (G.np m nd n)=fq L.a_ G:=C;have s:f9 i X (G.np m nd n)=f9 i X G:=by
  unfold f9 jc;rw [Ir e];unfold SG.np;dsimp only;rw [B,a];simp
 match q,k with
 |0,_=>exact(eV (fq L.a_ G++F.flatMap (ju L.N)) ((nd.id,λ_=>True)::w.flatMap (ju L.N)++f9 i X G) (by simp [lN,lO,lP,Q]) (by simp [lN,lO,lP,x,b,s]))
 |1,_=>exact(eV (fq L.a_ G++F.flatMap (ju L.N)) ((nd.id,λ_=>True)::w.flatMap (ju L.N)) (by simp [lN,lO,lP,Q]) (by simp [lN,lO,lP,x,b]))
theorem UY(i:ck)(X:b4)(L:Cl)(e:G.bJ[m]?=J nd):∃h p,objs i X L 0 G=h++(nd.su,fe nd.succ)::p/\objs i X L 0 (G.ap m nd l)=h++(nd.su,fe (nd.succ++ [l]))::p:=by
 refine cps λ_ T=>dK (oS e) λF w a B=>T ?_;have Q:fK L.N (G.ap m nd l)=fK L.N G:=by
  unfold fK SG.ap;dsimp only;rw [B,a];simp [ju];rfl
 have b:fq L.a_ (G.ap m nd l)=fq L.a_ G:=C;have n:f9 i X (G.ap m nd l)=(G.D,jc i X G)::(F.map λnd=>(nd.su,fe nd.succ))++(nd.su,fe (nd.succ++ [l]))::w.map λnd=>(nd.su,fe nd.succ):=by
  unfold f9 jc;rw [Io e];unfold SG.ap;dsimp only;rw [B];simp
 have x:f9 i X G=(G.D,jc i X G)::(F.map λnd=>(nd.su,fe nd.succ))++(nd.su,fe nd.succ)::w.map λnd=>(nd.su,fe nd.succ):=by
  unfold f9;rw [a];simp
 exact(eV (fq L.a_ G++fK L.N G++((G.D,jc i X G)::(F.map λnd=>(nd.su,fe nd.succ)))) (w.map λnd=>(nd.su,fe nd.succ)) (by simp [lN,lO,lP,x]) (by simp [lN,lO,lP,Q,b,n]))
noncomputable def tX(L:Cl)(nd:Nd)(h:b8):Prop:=(∃o,h.get? nd.i=J o/\oO L.N nd o)/\∃n,h.get? nd.id=J n
theorem dQ.info{v:ay}(d:dQ i X L q G v e O)(k:q<=1)(h:nd∈G.bJ):tX L nd e:=aG (d.ob.dH (nd.i,oO L.N nd) (J3 k (tG.mpr (aM nd h (.head _))))) λc a t=>aG (d.ob.dH (nd.id,λ_=>True) (J3 k (tG.mpr (aM nd h (.tail _ (.head _)))))) λj F w=>⟨(aM c a t),j,F⟩
theorem HT(X:tX L nd h):∃o n,h.get? nd.i=J o/\oO L.N nd o/\InstAt h nd.i o L.N (J n):=by
 refine cps λ_ T=>bR X λs A=>aG s λo Q p=>bZ A λn q=>jP (p) λE H x=>?_;subst x;exact T ((gG _ n Q p ⟨Q,C,C,q⟩))
theorem Ht(l:bH c.B c.prog c.w L)(S:aN c.B c.ρ A f c.env n t g H R s.heap)(X:tX L nd s.heap){i m:Y}(P:NT L nd x i m h)
  (O:∀v E,Den c.ρ f v h->Q v {s with toks:=E}):wpAny (model c.prog c.w) c.A (getAttr (.ref nd.i) x q) Q G s:=by
 refine cps λ_ a=>iD (HT X) λo k j p e=>jq (P.get p) λv b u d=>a ?_;have z:=P.slot l.ok;have T:=l.gS S.base;exact get_bind T e (tO (l.ok.CJ x)).1 (findObj_data l.ok.IZ z.fi z.sp z.ta) (tO (l.ok.CJ x)).2 (jH (slot_get T e z.sl b (handed_on u (O v _ (d _ _)))))
theorem KO(l:bH c.B c.prog c.w h)(S:aN c.B c.ρ A f c.env n e g H aB s.heap)(j:n[i]?=J ah)(B:g[i]?=J (.obj (.bS q G)))(k:q<=1)(v:G.bJ[m]?=J nd)(x:Den c.ρ f y (.int u)){Q:Unit->aR->Prop}
  (O:∀L E o r,aN c.B c.ρ A f c.env n e (g.set i (.obj (.bS q (G.np m nd u)))) o r L->Q () {s with heap:=L,toks:=E}):wpAny (model c.prog c.w) c.A (setAttr (.ref nd.i) "npredecessors" y) Q aj s:=by
 refine bR (g9 l S j B) λw d=>iD (HT (d.info k (cA v))) λao au ai p b=>?_;have z:=l.ok.s1;refine jP p λE az X=>?_;subst X;refine Dd (l.gS S.base) b l.ok.zE l.ok.zB z.Ds z.ty z.sl (aX _ _) C λL P F=>O L _ H _ (z5 l S j B ?_ P C ?_)
 .refine dK (J0 c.prog c.w h (n:=u) v k) λT R t w=>?_;rw [d.ob.ad,t];simp
 .refine dK (J0 c.prog c.w h (n:=u) v k) λT R t a=>?_;cases x;refine⟨C,d.sm,by rw [Ir v];exact d.nd,d.ob.upd t a P F (cu E _ C)⟩
end
end
section
variable{c:Cx Ob}{i:Y}{G':SG}{j:Y}
theorem sZ(l:bH c.B c.prog c.w L)(a:qw c n k u (tX L nd))(e:EE c n k lv o u (.bO (.ref nd.i))){i j:Y}(P:NT L nd x i j m)
  (g:eval (.Attribute o x p) c.env=(do let s<-eval o c.env;standAt p.atName;let r<-holding [s] (getAttr s x aa);letTemporaryGo o s r;pure r)):EE c n k lv (.Attribute o x p) u m:=by
 constructor;intro A f b Q G S O;refine Mv (e.1 A f b _ _ S λh w v q X t d=>?_) g;obtain rfl:=d.inv;obtain⟨E,H,R,y⟩:=t;refine Ht l y (a _ _ _ _ _ y) P λv B d=>?_;have z:b5 c.B w h w {h with toks:=B}:=b5.tok y.ready _;exact O _ w v (q.trans z.same) X ⟨E,H,R,y⟩ d
theorem Mi(l:bH c.B c.prog c.w bD)(i:Y)(j:n[i]?=J bz)(ai:EE c n k g o g (.bO (.ref G.self)))(Q:g[i]?=J (.obj (.bS q G)))(m:GT G x t)(ao:EE c n k g az u d)(v:u[i]?=J (.obj (.bS q G)))(s:lC P t d=J τ)(f:GS G x τ G'):
  ES c n k g (.AugAssign (.Attribute o x bg) P az aL) (u.set i (.obj (.bS q G'))) .next:=by
 constructor;intro A r p aO aU aV S O;refine aaT (ai.1 A r p _ _ S λh w bA X B L T=>?_);obtain rfl:=T.inv;obtain⟨E,F,R,y⟩:=L;refine Hu l y (g9 l y j Q).2 m λaW e aj=>?_;have z:b5 c.B w h w {h with toks:=e}:=b5.tok y.ready _;refine ao.1 A w _ _ _ ⟨E,F,R,y.step z⟩ λbK bY b7 au a aB ah=>cy.uQ ((X.trans z.same).trans au) (B.trans a) aB (yf (aj.mono a) ah s) λaZ aD bq aE aC b aJ=>?_;obtain⟨_,bM,bQ,b⟩:=b;exact WE l b j v f aJ λbW e aH aK H=>O _ aD .next (aE.trans (cu _ _ C)) aC ⟨E,aH,aK,H⟩ trivial
theorem Md(b:bH c.B c.prog c.w ai)(i:Y)(h:xs[i]?=J ao)(x:EE c xs k g e u (.int n))(ho:EE c xs k u o B (.bO (.ref nd.i)))(hl:B[i]?=J (.obj (.bS q G)))(s:q<=1)(hn:G.bJ[j]?=J nd)
  (P:swapsWith e (J (.Attribute o "npredecessors" m)) p.line c.env=pure aA):ES c xs k g (.Assign [.Attribute o "npredecessors" m] e p) (B.set i (.obj (.bS q (G.np j nd n)))) .next:=by
 constructor;intro A f t aC ah aJ S O;refine vC (x.1 A f t _ _ S λr w aj a X y d=>ho.1 A w r _ _ y λau v aH H l F L=>?_) P;obtain rfl:=L.inv;obtain⟨E,az,aB,Q⟩:=F;exact KO b Q h hl s hn (d.mono l) λaD aE T R z=>O _ v .next ((a.trans H).trans (cu _ _ C)) (X.trans l) ⟨E,T,R,z⟩ trivial
theorem L_(l:bH c.B c.prog c.w aW)(i:Y)(hx:xs[i]?=J aZ)(ho:EE c xs e g m g (.bO (.ref nd.i)))(B:g[i]?=J (.obj (.bS q G)))(k:q<=1)(v:G.bJ[j]?=J nd)(H:EE c xs e g t u F)(ah:u[i]?=J (.obj (.bS q G)))(BU:lC ao (.int nd.np) F=J (.int n)):
  ES c xs e g (.AugAssign (.Attribute m "npredecessors" aE) ao t aL) (u.set i (.obj (.bS q (G.np j nd n)))) .next:=by
 constructor;intro A f o bg aH aK S O;refine aaT (ho.1 A f o _ _ S λh w aJ d X r p=>?_);obtain rfl:=p.inv;obtain⟨E,L,R,y⟩:=r;refine Ht l y ((g9 l y hx B).2.info k (cA v)) .np λaU a Q=>?_;have z:b5 c.B w h w {h with toks:=a}:=b5.tok y.ready _;refine H.1 A w _ _ _ ⟨E,L,R,y.step z⟩ λbq bK bM P x ai aj=>cy.uQ ((d.trans z.same).trans P) (X.trans x) ai (yf (Q.mono x) aj BU) λaO T aV au az b aC=>?_;obtain⟨_,bz,bA,b⟩:=b;exact KO l b hx ah k v aC λbD a aB aD s=>O _ T .next (au.trans (cu _ _ C)) az ⟨E,aB,aD,s⟩ trivial
noncomputable def qx(c:Cx Ob)(n:U af)(k:Y)(g:U (AV Ob))(G:SG):Prop:=qw c n k g λh=>(G.D==sysModules)=aA/\((cM G).map (·.1)).Nodup/\h.DictOf (strKind c.prog c.w) G.D (cM G)
theorem dQ.map{v:ay}(d:dQ prog X L 0 G v h O):h.DictOf (strKind prog X) G.D (cM G):=aG (d.ob.dH (G.D,jc prog X G) (by simp [lN,lO,lP,f9])) λo Q p=>p h G.D Q
theorem C8(l:bH c.B c.prog c.w L)(j:n[i]?=J x)(B:g[i]?=J (.obj (.bS 0 G))):qx c n k g G:=λA f H R h S=>(cR ((g9 l S j B).2.sm) ((g9 l S j B).2.nd) ((g9 l S j B).2.map))
theorem zZ(l:bH c.B c.prog c.w L)(j:n[i]?=J x)(B:g[i]?=J (.obj (.bS q G)))(k:q<=1)(v:nd∈G.bJ):qw c n h g (tX L nd):=λA f H R e S=>(g9 l S j B).2.info k v
theorem DB(q:((cM G).map (·.1)).Nodup)(v:G.bJ[j]?=J nd):valueAt (cM G) (b3 nd.key)=J (.ref nd.i):=
 valueAt_of_get q (by unfold cM;rw [gD,v];rfl)
theorem q2(h:b3 a=b3 b):a=b:=by injection h with h;simpa using h
theorem XC(h:∀T∈G.bJ,T.key≠l):valueAt (cM G) (b3 l)=ae:=by
 unfold valueAt;rw [Option.map_eq_none_iff,Ey];intro w s;refine aG (eZ.mp s) λT v x=>?_;subst x;simp only [decide_eq_true_eq];exactλq=>h T v (q2 q)
set_option tactic.hygienic true in
theorem DQ(d:qx c n k B G)(O:EE c n k g H P (.bO (.ref G.D)))(ah:EE c n k P cG B (.str nd.key))(v:G.bJ[j]?=J nd)(au:uO cG=aa):EE c n k g (.Subscript H cG p) B (.bO (.ref nd.i)):=by
 constructor;intro A f s aC aj S h;refine vA (O.1 A f s _ _ S λe w a o X t i=>ah.1 A w e _ _ t λx q b r m u E=>?_);obtain rfl:=i.inv;obtain⟨az,rfl⟩:=E.inv;obtain⟨T,l,R,y⟩:=u;refine fF (d _ _ _ _ _ y) λao Q L=>tM L.typeIs F.slot_dict_getitem.lookup (NC (knd:=strKind c.prog c.w) (k:=b3 nd.key) (rA ..) L.mapOf (DB Q v) ?_) (u5 λa b aB p ai=>by subst ai;contradiction);have z:b5 c.B q x q {x with toks:=x.toks+1}:=b5.tok y.ready _;exact h _ q _ ((o.trans r).trans z.same) (X.trans m) ⟨T,l,R,y.step z⟩ (.bO _)
set_option tactic.hygienic true in
theorem DP{L:T}(bg:qx c n k B G)(aJ:EE c n k aK o u (.bO (.ref G.D)))(s:qx c n k u G)(aD:EE c n k u e B (.str l))(j:((cM G).map (·.1)).Nodup->(valueAt (cM G) (b3 l)).getD .none=v)(r:∀g f,Den g f v L)
  (aH:attributeBase o "get" c.env (eval o c.env)=eval o c.env)(P:dj e=aa)(w:(m.endLine==b.line)=aa):EE c n k aK (.Call (.Attribute o "get" m) [e] [] b) B L:=by
 constructor;intro A f t bD bz S O;have d:∀h∈ [e],∀p H,h≠ .Starred p H:=λh X=>by rw [cI.mp X];exact gq P
 have R:backTo b (starEach [e] c.env)= [(aA,eval e c.env)]:=mz (d e (.head _));refine wpAny_Call_method1_late aH w R (aJ.1 A f t _ _ S λah ai bA aj ao au az=>?_);obtain rfl:=az.inv;obtain⟨E,aC,Q,a⟩:=au;refine fF (s _ _ _ _ _ a) λaE bK i=>(HH ("dict") ("dict.get") Zx F.slot_dict_get F.type_dict_get i.typeIs i.mapOf.noDict (wpAny_dict_get1 (knd:=strKind c.prog c.w) aE (aD.1 A ai ah _ _ ⟨E,aC,Q,a⟩ λx q bQ aL aB aU aV=>?_)));obtain⟨bW,rfl⟩:=aV.inv;obtain⟨_,aW,aO,y⟩:=aU;refine fF (bg _ _ _ _ _ y) λbM aZ bq=>(gG (b3 l) (valueAt (cM G)) (rA ..) bq.mapOf ((j aZ)▸?_));have z:b5 c.B q x q {x with toks:=x.toks+1}:=b5.tok y.ready _;exact O _ q _ ((aj.trans aL).trans z.same) (ao.trans aB) ⟨E,aW,aO,y.step z⟩ (r _ _)
theorem LW{P:CmpOp}(f:Fm c.env n k bz)(i:Y)(j:n[i]?=J H)(l:i<k)(az:EE c n k g e u ta)(BW:EE c n k (u.set i (.t ta)) cG B h)(y:gY P ta h=J b)(L:behindInMarks P cG=aA)
  (t:EX c n k B (if b then m else x) v s):ES c n k g (.If (.Compare (.NamedExpr (.Name H bY) e b7) [P] [cG] aZ) m x bg) v s:=by
 constructor;intro A r w Q G a S O;refine AW (xM (wpAny_NamedExpr (az.1 A r w _ _ S λbW E X T R ah d=>?_)) L);obtain⟨eo,bM,bQ,ai⟩:=ah;refine qs (gc (av:= .t ta) eo a ai j l (f.loc j l) ⟨C,X,C,d⟩ .nil λo q aj F=>(BW.1 A E o _ _ ⟨eo,q,_,F⟩ λbA bD bK au p aB aC=>(cy.to (vS c.R (d.mono p) aC y) aB λaD aE bq aH ao aK aL=>?_)));obtain rfl:=aL.inv;refine vE ?_;have:=t.1 A aE aD Q G a aK λaO aJ aV aU aW z d=>O aO aJ aV (T.trans (aj.trans (au.trans (aH.trans aU)))) (R.trans (p.trans (ao.trans aW))) z d;cases b
 .exact this
 .exact this
theorem L5(l:bH c.B c.prog c.w L)(i:Y)(j:n[i]?=J E){a:ak}{s:U (U Y)}{X R:U (ak×(bE->Prop))}(Q:EE c n k g o aj (.bO (.ref a)))(cO:aj[i]?=J (.obj (.bS q G)))(h:EE c n k aj e ao (.str w))(x:ao[i]?=J (.obj (.bS q G)))
  (t:objs c.prog c.w L q G=X++(a,fe s)::R)(bq:objs c.prog c.w L q G'=X++(a,fe (s++ [w]))::R)(O:G'.self=G.self/\G'.D=G.D/\cM G'=cM G)(cB:s.length<=1000)
  (c_:attributeBase o "append" c.env (eval o c.env)=eval o c.env)(aE:dj e=aa)(aJ:(bg.endLine==p.line)=aa):
  ES c n k g (.Expr (.Call (.Attribute o "append" bg) [e] [] p) eK) (ao.set i (.obj (.bS q G'))) .next:=by
 constructor;intro A f bW eg eL fx S bD;have B:∀P∈ [e],∀b cE,P≠ .Starred b cE:=λP dJ=>by rw [cI.mp dJ];exact gq aE
 have ah:=jS (pos:=p) (env:=c.env) [e] B;refine rB (qq c_ (wD ah (bx C)) aJ MB MC Ep (Q.1 A f bW _ _ S λeX fa dS aL aO aU aV=>?_)) (by unfold interactive;exact S.1.kind.symm▸C) C;cases aV.inv;have ai:∀{h f aW aZ g},g[i]?=J (AV.obj (Ob.bS q G))->aN c.B c.ρ A f c.env n k g aW aZ h->∃y u,h.get? a=J (lo y u)/\gX y s:=λbz S=>by
  refine aG ((g9 l S j bz).2.ob.dH (a,fe s) (by rw [t];simp)) λo Q bA=>?_;obtain⟨y,u,e,m⟩:=bA;exact(eV y u (by rw [Q,e]) m)
 refine cps λ_ bK=>?_;obtain⟨au,bM,bQ,az⟩:=aU;refine dK (ai cO az) λy d6 aB eu=>bK ((cR (aM _ aB C) (λeE bY=>by obtain rfl:=jZ bY;exact(aM _ aB C)) (nS ah (jm B (pH h.1 kM (gq aE)) ⟨au,bM,bQ,az⟩ λff aK dX b_ cv cz z=>?_))));obtain⟨v,y,rfl,m,z⟩:=z.iO (P:=λcK=>∃v T,cK=v::T/\Den _ _ v _/\aY _ _ T _) λv T b E=>⟨v,T,C,b,E⟩;obtain rfl:=z.g6 C;obtain⟨b7,rfl⟩:=m.inv;obtain⟨_,c9,d8,r⟩:=cz;refine dK (ai x r) λT dm cV aD=>?_;refine E9 (hsz:=(by rw [l_,jG,((aD.ou (ρ:=c.ρ) (fz:=f)).length)];simp;exact bh cB (bx C))) ⟨dm,cV⟩ λaC H aH=>bZ H λdB H=>?_;have dO:aC.get? a=J (lo (T++ [.str (b3 w) b7]) dB):=by rw [H];simp [lo]
 refine bR (g9 l r j x) λfy d=>bD _ aK .next (aL.trans (b_.trans (cu aC _ C))) (aO.trans cv) ⟨au,c9,_,z5 l r j x ?_ aH O.1 ⟨C,by rw [O.2.1];exact d.sm,by rw [O.2.2];exact d.nd,d.ob.upd t bq aH dO (eV _ _ C (aD.append (.cons .nil)))⟩⟩ trivial
 rw [d.ob.ad,t];simp
end
structure XP{O:Type}(c:Cx O)(xs:U af)(k:Y)(lv:U (AV O))(st:U cf)(Φ:U (AV O)->eS->Prop):Prop where
 ev:jl c.B c.prog c.w c.A c.ρ c.env xs k lv st Φ
structure SP{O:Type}(c:Cx O)(xs:U af)(k:Y)(lv:U (AV O))(st:cf)(Φ:U (AV O)->eS->Prop):Prop where
 ev:xW c.B c.prog c.w c.A c.ρ c.env xs k lv st Φ
section
variable{c:Cx Ob}{i:Y}
theorem gT.none{o:bE}(p:gT G o)(h:x∉(["_node2info", "_ready_nodes", "_npassedout", "_nfinished"]:U af)):∃d u,o=dictOf d u/\getL x d=J ae:=by
 obtain⟨i,X,g,n,e,B,R,E,S,A,r⟩:=p;simp only [cC,gM,or_false,not_or]at h;exact(eV i X e (r x h.1 h.2.1 h.2.2.1 h.2.2.2))
theorem zm(l:bH c.B c.prog c.w L)(F:Fm c.env n o au)(t:n[i]?=J x)(A:gp c.env)(y:aN c.B c.ρ aO aJ c.env n o aK H aE s.heap)(p:dZ c.env H s.heap x (J (.ref G.self)))(h:dQ c.prog c.w L aC G (.ref G.self) s.heap aD)(v:(z,a)∈L.fs)(m:z∉(["_node2info", "_ready_nodes", "_npassedout", "_nfinished"]:U af))
  (P:(backTo b (starEach d c.env)).any (·.1)=aA)(g:d.length<30)(w:(r.endLine==b.line)=aa)
  (E:wpAny (model c.prog c.w) c.A (evalArgs (.ref a) aa (backTo b (starEach d c.env)) []) (λx k=>(k.heap.get? a=J S/\S.data= .func az)/\wpAny (model c.prog c.w) c.A (call (.ref a) ([.ref G.self]++x.pos) x.kw) Q e k) e s):
  wpAny (model c.prog c.w) c.A (eval (.Call (.Attribute (.Name x aH) z r) d [] b) c.env) Q e s:=by
 refine aF (eP (eH A y.ns p (aF (nk ?_))) (F.eU t));unfold methodCall;refine(wD P g)▸(cps λ_ T=>(aG (h.ob.dH (G.self,λq=>q=instObj L.a_ G.d) (lQ (.head _))) λaL X B=>aG (h.ob.dH (G.d,gT G) (lQ (cA (i:=1) C))) λaB O R=>(dK (R.none m) λj f ai ah=>?_)));subst ai;have aj:InstAt s.heap G.self (instObj L.a_ G.d) L.a_ (J (dictOf j f)):=⟨X.trans (aQ J B),C,C,O⟩;exact bR (l.ok.fs _ v) λao u=>T (aF (gf (method_fn (l.gS y.base) aj (tO (l.ok.pg z)).1 (tO (l.ok.pg z)).2 ao (beq_iff_eq.mp u) (by show(lookIn z (dictOf j f)).map (·.isSome)=J aA;rw [lookIn_dict,ah];rfl) (aF (iL (IV w) (AR E))))))
theorem T3(l:bH c.B c.prog c.w L)(ah:Fm c.env n k cv)(i:Y)(j:n[i]?=J B)(hl:g[i]?=J (.obj (.bS q G)))(aC:(z,a)∈L.fs)(aU:z∉(["_node2info", "_ready_nodes", "_npassedout", "_nfinished"]:U af))
  (Q:∀{e},bN c.B.bI e->e.get? a=J F)(P:F.data= .func b7)(e:ER c n k g b d u x)(o:u[i]?=J (.obj (.bS q G)))(f:eR c.B c.prog c.w c.n (.ref a) (.bS q G) x p)(r4:d.all dj=aa)(H:d.length<30)(w:(A.endLine==b.line)=aa)
  (S:SR c.B c.ρ hB X c.env n k g s.heap)
  (O:∀m fR v h r,p h r->bU s m->Le X fR->SR c.B c.ρ hB fR c.env n k (u.set i (.obj h)) m.heap->Den c.ρ fR v r->ai v m):
  wpAny (model c.prog c.w) c.A (eval (.Call (.Attribute (.Name B bY) z A) d [] b) c.env) ai bW s:=by
 refine cps λ_ au=>?_;obtain⟨E,az,aB,y⟩:=S;refine bR (g9 l y j hl) λaD aE=>au (zm l ah j E y aD aE aC aU (jS d (kS r4)) H w (jm (kS r4) e.1 ⟨E,az,aB,y⟩ λaH aJ aK aL aO t ao=>⟨⟨Q t.ready.base,P⟩,?_⟩));obtain⟨_,aj,aV,t⟩:=t
 exact bR (g9 l t j o) λaW aZ=>jH (f c.A c.ρ aJ (.ref G.self) aK _ aH (aV i) c.R t.ready (l.ob.symm▸aZ) (t.um (kh j)) ao λm fR v b_ h r bg bq R bA bD bz bM bK bQ T=>
  O m fR v h r bg (aL.trans bq) (aO.trans R) ⟨E,aj,_,t.oU j bA bD R bz bM aW ⟨.ref G.self,C,bK⟩ bQ⟩ T)
theorem L7(X:bH c.B c.prog c.w L)(F:Fm c.env n k bg)(i m:Y)(az:n[i]?=J s)(B:g[i]?=J (.obj (.bS q G)))(o:(z,x)∈L.fs)(T:z∉(["_node2info", "_ready_nodes", "_npassedout", "_nfinished"]:U af))
  (Q:∀{e},bN c.B.bI e->e.get? x=J aB)(aJ:aB.data= .func bD)(e:ER c n k g b d u f)(v:u[i]?=J (.obj (.bS q G)))(y:eR c.B c.prog c.w c.n (.ref x) (.bS q G) f p)(P:d.all dj=aa)(H:d.length<30)(w:(l.endLine==b.line)=aa)
  (A:n[m]?=J O)(t:m<k)(R:swapsWith (.Call (.Attribute (.Name s ah) z l) d [] b) (J (.Name O ai)) aj.line c.env=pure aA):
  SP c n k g (.Assign [.Name O ai] (.Call (.Attribute (.Name s ah) z l) d [] b) aj) λS au=>∃h r,p h r/\S=(u.set i (.obj h)).set m (.t r)/\au= .next:=by
 constructor;intro bW bY bq bA bQ aC aD aE;refine kF (T3 X F i az B o T Q aJ e v y P H w aD λbz aH ao h r aK aL aO a aV=>?_) R;obtain⟨E,bK,bM,a⟩:=a;exact gc (av:= .t r) E aC a A t (F.loc A t) ⟨C,ao,C,aV⟩ .nil λaU aW aZ j=>aE aU aH .next _ .next (gG h r aK C C) (aL.trans aZ) aO ⟨E,aW,_,j⟩ trivial
end
noncomputable def Iv(e:b9):b9:=(xV e).1
noncomputable def VR(s:aS cf):b9:=(kq s).1
noncomputable def OH(e:b9):b9:=(xV e).2.1
noncomputable def OS(e:b9):b9:=(xV e).1
section
structure Ly(O:Type)where
 B:bV O
 prog:ck
 w:b4
 mg:af->aS ay
 mb:af->aS ay
 G:e6 B mg mb
 bi:∀(i:Y)(x:af)(v:ay),t7[i]?=J (x,v)->mg x=ae/\mb x=J v
noncomputable abbrev Ly.c(O:Ly t)(F:cZ)(B:Mk)(T:cW)(u:Y)(p:dw F u):Cx t:=⟨O.B,O.prog,O.w,F,B,T,O.mg,O.mb,u,O.G,p,O.bi⟩
noncomputable abbrev Ly.D(O:Ly t)(z:af)(i:Y):Prop:=nW O.B O.mg z i
noncomputable abbrev Ly.F(O:Ly t)(u:Y)(z:af)(g:U T)(r:T):Prop:=xQ O.B O.prog O.w O.mg u z g r
theorem Ly.fn(O:Ly t)(i:Y)(n:U af)(r:U (af×dU))(D:O.D z i)(v:(d5 (bj i)).names=r)(Q:wX (d5 (bj i)) n=aa)(a:nA r n n.length=aa)
  (G:E.length<=n.length)(e:∀d code j(y:U ay),y.length=E.length->bindArgs (docDef z (gQ (bj i)) (cQ (bj i)) (d5 (bj i)) d code j) ⟨y, []⟩=pure (eI n y))
  (s:∀F B T(p:dw F u),Fm T n n.length r->∃S,EX (O.c F B T u p) n n.length (qV n E) (cQ (bj i)) S (.ret h)):O.F (u+1) z E h:=
 OU O.G D (kW Q) G e λF B d code j A b p=>(s F B _ p (jQ a v)).imp λw x=>x.1
end
section
variable{y:Ly O}
theorem Tq{B:Type}{y:U B}{P:U B->Prop}(h:y.length=0)(k:P []):P y:=(AB h).symm▸k
theorem wA{B:Type}{y:U B}{X:U B->Prop}(h:y.length=u+1)(k:∀a r,r.length=u->X (a::r)):X y:=match y,h with
 |a::r,h=>k a r (E0 h)
section
variable{α:Type}{P:U α->Prop}
theorem Cu(h:∀a,P [a])(l:U α)(B:l.length=1):P l:=wA B λa w R=>Tq (P:=λr=>P (a::r)) R (h a)
theorem Cv(h:∀a b,P [a,b])(l:U α)(B:l.length=2):P l:=wA B λa r R=>Cu (P:=λr=>P (a::r)) (h a) r R
theorem qU(h:∀a b c,P [a,b,c])(l:U α)(B:l.length=3):P l:=wA B λa r R=>Cv (P:=λr=>P (a::r)) (h a) r R
theorem Iz(h:∀a b c d,P [a,b,c,d])(l:U α)(B:l.length=4):P l:=wA B λa r R=>qU (P:=λr=>P (a::r)) (h a) r R
theorem IA(h:∀a b c d e,P [a,b,c,d,e])(l:U α)(B:l.length=5):P l:=wA B λa r R=>Iz (P:=λr=>P (a::r)) (h a) r R
end
theorem oG{P:Y->Prop}(d:P 0)(R:P 1)(E:P 2):∀i,i<3->P i
 |0,_=>d
 |1,_=>R
 |2,_=>E
section
noncomputable abbrev nU(f:tQ)(n:U af)(y:U ay):Prop:=bindArgs f ⟨y, []⟩=pure (eI n y)
theorem bind1(h:∀a,nU f n [a]):∀y,y.length=1->nU f n y:=Cu h
theorem vP(h:∀a b,nU f n [a,b]):∀y,y.length=2->nU f n y:=Cv h
theorem OK(h:∀a b d,nU f n [a,b,d]):∀y,y.length=3->nU f n y:=qU h
theorem OL(h:∀a b d e,nU f n [a,b,d,e]):∀y,y.length=4->nU f n y:=Iz h
theorem OM(h:∀a b d e z,nU f n [a,b,d,e,z]):∀y,y.length=5->nU f n y:=IA h
end
noncomputable def Ub:U (af×dU):= [("text", .local),("len", .globalImplicit)]
noncomputable def X9:U af:= ["text"]
theorem XF(k:y.D "_law_counted" 22)(s:U Y)(P:s.length<=1000):y.F (n+1) "_law_counted" [.str s] (.list (.int s.length::s.map λ(a:Y)=> .int a)):=by
 refine y.fn 22 X9 Ub k C (C) (C) (ek _) (λd code j=>bind1 λa=>C) λh B T p F=>?_;apply Zw;refine gU (h8 (dI (jT (zr (Am F 1 C (zv F 0 C C) (dM (bh P (bx C))) C) cj C) C) (zf (p5 "sign" [] [] (λ(a:Y)=> .int a) F (C) (C) (C) (DT (zv F 0 C C)) C (λe X E A=>?_) C (bh P (bx C)))) ?_))
 .exact YW X 2 C (zv X 0 C C) C
 .exact zU (by simp;exact bL 0 (.a (.n 1) (.v 0)) (.n 1000000) (.v 0) (.n 1000) C [_] P)
noncomputable def Uc:U (af×dU):= [("signs", .cell),("x", .cell),("range", .globalImplicit)]
noncomputable def X_:U af:= ["signs", "x"]
theorem G5(a b:Y):((a:aq)).fdiv (b)=((a/b:Y)):=(ZF _ (iY.mpr (f_ (.n 0) (.v 0) C [_])))
theorem RP(a b:Y):((a:aq)).fmod (b)=((a%b:Y)):=(ZG _ (iY.mpr (f_ (.n 0) (.v 0) C [_])))
theorem FU{a:Y}(h:a<2^60):eA (a)=aa:=yg (by omega)
noncomputable def e_(a b x:Y):U Y:=(rj 3).map λm=>if x/2^m%2=0 then a else b
theorem XZ(k:y.D "_law_word" 23)(a b x:Y)(j:x<2^60):y.F (n+1) "_law_word" [.str [a,b], .int x] (.str (e_ a b x)):=by
 refine y.fn 23 X_ Uc k C (C) (C) (ek _) (λd code i=>vP λa b=>C) λs B T p F=>?_;apply Zw;have e:e_ a b x=((rj 3).map λm=> [if x/2^m%2=0 then a else b]).flatten:=C;rw [e]
 refine gU (h8 (Al (zs [] (di [])) (zf (p5 "j" ["signs", "x"] [0,1] (λm=> .str [if x/2^m%2=0 then a else b]) F (C) (C) (C) (jU F 2 C (zr (zi 3) cj C) C C C) C
  (λl X m G=>?_) C (aX _ _))) C C C (by rw [<-e];exact aX _ _)))
 rw [show(0+(m:aq)*1)=m by omega];have H:(2:aq)^m=((2^m:Y):aq):=C;refine cX (zv X 1 C C) (dI (dI (zv X 2 C C) (dI (zi 2) (zv X 0 C C) (C7 (yg (aX _ _)) (iY.mpr (f_ (.n 0) (.v 0) C [_])) (iY.mpr (bL 0 (.v 0) (.n 1000) (.a (.v 0) (.n 1)) (.n 3) C [_] (Z6.mp G))))) (Kz (FU j) ?_)) (zi 2) (KC ?_ (nofun))) ?_ C
 .exact Int.ne_of_gt (Int.pow_pos (by decide))
 .rw [xu,H,G5];exact FU (cF 0 (.a (.v 2) (.n 1)) (.v 1) (.a (.v 0) (.n 1)) (.v 1) (.v 2) (.v 0) C [_,_,_] j (Nat.div_le_self x (2^m)))
 .simp only [xu];rw [H,G5,show(2:aq)=((2:Y):aq)from C,RP];refine kU (by omega) ?_;show [a,b][x/2^m%2]?=J (if x/2^m%2=0 then a else b);rcases Na (x/2^m)with h|h<;>simp [h]
noncomputable def Ud:U (af×dU):= [("head", .local)]
noncomputable def Yb:U af:= ["head"]
noncomputable def iu(a:Y):U Y:=if a∈ [42,63,91]then [91,a,93]else [a]
theorem J_(a:Y):(iu a).length<=3:=by unfold iu;split<;>simp
noncomputable def jd(s:U Y):U Y:=42::(s.map iu).flatten
theorem yD{B L:Type}(z:B->U L)(H:Y):∀(s:U B),(∀a∈s,(z a).length<=H)->(s.map z).flatten.length<=H*s.length:=λf=>f.rec
 (λw=>ek _)
 (λa r X h=>by
  simp only [iA,Ez,ic,gw,Nb]
  exact cF 0 (.a (.v 0) (.v 2)) (.a (.v 3) (.r (.v 1) 1)) (.v 0) (.v 1) (.v 2) (.v 3) C [_,_,_,_] (h a ee) (X λb t=>h b (dY _ t)))
theorem Vh(X:Fm c.env ["sign"] 1 r)(a:Y):EE c ["sign"] 1 [.t (.str [a])] (Iv (OS (OH (VR (dD 0 (cQ (bj 24))))))) [.t (.str [a])] (.str (iu a)):=by
 refine o5 (zC (zv X 0 C C) (zs [42,63,91] (di ['*','?','['])) C C) ?_
 by_cases h:a∈ [42,63,91]
 .rw [decide_eq_true h];show EE _ _ _ _ _ _ (T.str (iu a));rw [show iu a= [91]++ [a]++ [93]by exact bB ‹_›];exact dI (dI (zs [91] (di ['['])) (zv X 0 C C) C) (zs [93] (di [']'])) C
 .rw [decide_eq_false h];show EE _ _ _ _ _ _ (T.str (iu a));rw [show iu a= [a]by exact bF ‹_›];exact zv X 0 C C
theorem XT(k:y.D "_law_pattern" 24)(s:U Y)(P:s.length<=1000):y.F (n+1) "_law_pattern" [.str s] (.str (jd s)):=by
 refine y.fn 24 Yb Ud k C (C) (C) (ek _) (λd code j=>bind1 λa=>C) λh e T p F=>?_;have B:=yD iu 3 s λa w=>J_ a;refine⟨_,gU (h8 (dI (zs [42] (di ['*'])) (Al (zs [] (di [])) (zf (by rw [d_];exact p5 "sign" [] [] _ F (C) (C) (C) (DT (zv F 0 C C)) C (λi X a w=>Vh X a) C (bh P (bx C)))) C C C (pO 0 (.v 1) (.n 16777216) (.v 0) (.n 1000) (.v 0) (.n 1000) (.v 0) (.n 1000) (.v 1) (.m 3 (.v 0)) C [_,_] P P P B)) (Ky (by simp only [gw,tF];exact pO 0 (.a (.a (.n 0) (.n 1)) (.v 1)) (.n 1000000) (.v 0) (.n 1000) (.v 0) (.n 1000) (.v 0) (.n 1000) (.v 1) (.m 3 (.v 0)) C [_,_] P P P B))))⟩
end
structure gO{O:Type}(B:bV O)(a i j:Y)(ob:bE)(fd:tQ)(xs:U af):Prop where
 d:jJ B a ob fd (cQ (e7 i j)) xs
 ar:fd.params=gQ (e7 i j)
 sc:fd.scope=d5 (e7 i j)
 df:fd.defaults= .none
 kd:fd.kwdefaults= .none
section
variable{c:Cx Ob}{st:Y}
theorem bJ{B:Type}{l:U B}{c:B}(h:l.Nodup)(u:c∉l):(l++ [c]).Nodup:=gm.mpr ⟨h,l9.mpr ⟨gM,xC⟩,λa r b t e=>u (cI.mp t▸e▸r)⟩
theorem zA(l:bH c.B c.prog c.w L)(S:aN c.B c.ρ A f c.env n k g H R h)(j:n[i]?=J x)(B:g[i]?=J (.obj (.ja st nd))):dZ c.env H h x (J (.ref nd.i))/\vK L st nd (.ref nd.i) h (R i):=by
 refine cps λw T=>?_;obtain⟨s,r,v,rfl,m⟩:=S.vars i x _ j B;refine T ?_;rw [l.ob]at m;have m:=m;exact(m.v)▸(⟨r,m⟩)
theorem Mb(l:bH c.B c.prog c.w L)(F:Fm c.env n k h)(i:Y)(j:n[i]?=J x)(B:g[i]?=J (.obj (.ja st nd))):EE c n k g (.Name x p) g (.bO (.ref nd.i)):=by
 constructor;rintro A f s Q G⟨E,H,R,S⟩O;exact bR (zA l S j B) λr m=>eP (eH E S.ns r (O s f _ (bU.refl s) (Le.refl _) ⟨E,H,R,S⟩ (.bO _))) (F.eU j)
theorem Ma(l:bH c.B c.prog c.w L)(i:Y)(j:n[i]?=J cz)(aH:EE c n k bM e aU τ)(az:EE c n k aU o B (.bO (.ref nd.i)))(aJ:B[i]?=J (.obj (.ja st nd)))(z:rO L x cv st)(hz:st<1000)
  (bQ:∀{f:Fz}{v:ay}(su:ak)(E H:fh),Den c.ρ f v τ->q1 L.N (st+1) {nd with su:=su} ⟨.ref L.N,J nd.id, .plain,(slotsOf {nd with su:=su} E H st++Ej (st+1-(slotsOf {nd with su:=su} E H st).size) ae).setIfInBounds st (J v)⟩)
  (e0:∀su,uH L.N st {nd with su:=su}= [(nd.i,q1 L.N st {nd with su:=su}),(nd.id,λ_=>True)])(aO:∀su,uH L.N (st+1) {nd with su:=su}= [(nd.i,q1 L.N (st+1) {nd with su:=su}),(nd.id,λ_=>True)])
  (bg:swapsWith e (J (.Attribute o x bD)) bK.line c.env=pure aA):ES c n k bM (.Assign [.Attribute o x bD] e bK) (B.set i (.obj (.ja (st+1) nd))) .next:=by
 constructor;intro A f bW b7 cE cB p O;refine vC (aH.1 A f bW _ _ p λT Q v G P ah ai=>az.1 A Q T _ _ ah λaj ao H au a aB aC=>(aC.J5 (P:=λH=>wpAny _ _ (setAttr H x v) _ _ _) ?_)) bg;obtain⟨d,aE,R,y⟩:=aB;refine bR (zA l y j aJ) λaK aL=>bZ aL.ob λsu S=>?_;have zG:=S;rw [e0]at zG;refine aG (zG.dH (nd.i,q1 L.N st {nd with su:=su}) (.head _)) λb_ aV aW=>jP aW λE H aZ=>aG (zG.dH (nd.id,λw=>True) (.tail _ (.head _))) λbq aD w=>?_;have bA:InstAt aj.heap nd.i ⟨.ref L.N,J nd.id, .plain,slotsOf {nd with su:=su} E H st⟩ L.N (J bq):=⟨aZ▸aV,C,C,aD⟩;have s:=(cw.mp j).1;have h:nd.i∈R i:=zG.ad.symm▸ .head _;have F:=y.fp i s;refine Dd (l.gS y.base) bA l.ok.zE l.ok.zB z.Ds z.ty z.sl hz C λm r bz=>?_;have g:∀{b},b∉R i->b≠nd.i:=λ{b}u q=>u (q▸h)
 refine O _ ao .next ((G.trans au).trans (cu m _ C)) (P.trans a) ⟨d,aE,_,y.oU j (λb u w o e=>(r.2 b (g u)).trans e) (c.B.e8 y.inv λX bY o e=>(r.2 X (g ((y.tab X bY).2.2.2.2 i s))).trans e) (Le.refl _) (λb o e=>(r.2 b λq=>aT ((aQ _ q).trans ((F nd.i h).2.1)) e).trans (y.bC b o e)) (λb o e=> .inl e) aK
  ⟨.ref nd.i,C,l.ob.symm▸(⟨C,su,S.upd (P:= []) (e0 su) (aO su) r bz (bQ su E H (ai.mono a))⟩:vK L (st+1) nd (.ref nd.i) m (R i))⟩ (λb t=>⟨.inl t,(F b t).2.1⟩)⟩ trivial
theorem YV(l:bH c.B c.prog c.w L)(i:Y)(j:t[i]?=J bQ)(P:EF c t k aO e u [])(au:nY c.B c.prog c.w c.A c.ρ c.env t k u o (.bO (.ref nd.i)))(aU:u[i]?=J (.obj (.ja 2 nd)))(aV:nd.succ= [])
  (aD:swapsWith e (J (.Attribute o "successors" aW)) aj.line c.env=pure aA):ES c t k aO (.Assign [.Attribute o "successors" aW] e aj) (u.set i (.obj (.ja 3 nd))) .next:=by
 constructor;intro A aE aH bM b_ cv aK ai;refine vC (P.1 A aE aH _ _ aK λs m a bW bY d R bg bq T y Fr bD ah=>(au A m s _ _ ⟨T,d,R,y⟩ λb7 H ao=>?_)) aD;obtain rfl:=ao.inv;obtain rfl:=ah.g6 C;refine cps λw az=>bR (zA l y j aU) λaB aC=>bZ aC.ob λsu S=>aG (S.dH (nd.i,q1 L.N 2 {nd with su:=su}) (.head _)) λbK X aJ=>?_;obtain⟨B,H,v⟩:=aJ;refine aG (S.dH (nd.id,λw=>True) (cA (i:=1) C)) λO F w=>az ?_;dsimp only at X F v;subst v;have z:=l.ok.s2;have aL:InstAt s.heap nd.i ⟨.ref L.N,J nd.id, .plain,slotsOf {nd with su:=su} B H 2⟩ L.N (J O):=⟨X,C,C,F⟩;have hi:=(cw.mp j).1;have ad:R i= [nd.i,nd.id]:=by rw [S.ad];exact C
 have x:nd.i∈R i:=by rw [ad];exact .head _
 have n:=y.fp i hi;have p:nd.id∈R i:=ad.symm▸ .tail _ (.head _);have E:=Fr.fp i hi;refine Dd (l.gS y.base) aL l.ok.zE l.ok.zB z.Ds z.ty z.sl (aX _ _) C λh r aZ=>?_;have r:gk nd.i s.heap h:=r;have g:∀{b},b∉R i->b≠nd.i:=λ{b}q f=>q (by rw [f];exact x);have Q:=ad▸S.nd;have bz:vK L 3 nd (.ref nd.i) h [nd.i,nd.id,a]:=⟨C,a,⟨bl (aM _ aZ ⟨B,H,C⟩) (bl (aM O ((r.2 nd.id (oH Q 1 0 C C C)).trans F) trivial) (bl (aM _ ((r.2 a (g E)).trans bD) ⟨_,_,C,aV.symm▸ .nil⟩) dR)),C,bJ Q (ad▸E)⟩⟩;exact ai _ m .next (bg.trans (cu h _ C)) bq ⟨T,d,_,y.u6 j (λb q w o e=>(r.2 b (g q)).trans e) (c.B.e8 y.inv λG bA o e=>(r.2 G (g ((y.tab G bA).2.2.2.2 i hi))).trans e) (Le.refl _) (λb o e=>(r.2 b λf=>(aT ((aQ _ f).trans ((n nd.i x).2.1)) e)).trans (y.bC b o e)) (λb o e=> .inl e) aB ⟨.ref nd.i,C,l.ob.symm▸bz⟩ (bl ⟨.inl x,(n _ x).2.1⟩ (bl ⟨.inl p,(n _ p).2.1⟩ (bl ⟨.inr Fr,Fr.fz⟩ dR)))⟩ trivial
end
noncomputable abbrev Ly.up(O:Ly t)(P:b8)(g:bN O.B.bI P):Ly t:=⟨O.B.up P g,O.prog,O.w,O.mg,O.mb,O.G.up g,O.bi⟩
theorem XB(F:cZ)(a:ak)(l:U ay)(T:U (af×ay)):(F.under (.builtin "type.__call__" ⟨.ref a::l,T⟩)).units=F.units+1:=C
theorem dw.call(r:dw F (n+1)):dw (F.under (.builtin "type.__call__" ⟨.ref a::l,kw⟩)) n:=
 ⟨by have:=r.depth;rw [depth_under_kw];exact bL 0 (.a (.a (.a (.a (.v 0) (.n 1)) (.m 4 (.v 1))) (.n 16)) (.n 1)) (.v 2) (.a (.a (.a (.v 0) (.m 4 (.a (.v 1) (.n 1)))) (.n 16)) (.n 1)) (.v 2) C [_,_,_] this,by have:=r.units;rw [XB];exact bL 0 (.a (.a (.a (.a (.v 0) (.n 1)) (.m 8 (.v 1))) (.n 64)) (.n 1)) (.v 2) (.a (.a (.a (.v 0) (.m 8 (.a (.v 1) (.n 1)))) (.n 64)) (.n 1)) (.v 2) C [_,_,_] this,r.handled⟩
section
variable{y:Ly Ob}
theorem QN{c:Cx Ob}{st:Y}(l:bH c.B c.prog c.w L)(F:Fm c.env n k h)(i:Y)(j:n[i]?=J x)(B:g[i]?=J (.obj (.ja st nd))):nY c.B c.prog c.w c.A c.ρ c.env n k g (.Name x p) (.bO (.ref nd.i)):=by
 rintro A f s Q G⟨E,H,R,S⟩O;exact bR (zA l S j B) λr m=>eP (eH E S.ns r (O s.toks _ (.bO _))) (F.eU j)
theorem qB{w:bV ai}{i:ck}{X:b4}{R b:af->aS ay}{n:U af}(G:e6 w R b)(p:jJ w a ah f m n)(s:E.length+1<=n.length)(k:Binds w i X f n j E)
  (Q:∀{H e O c L T v r},q v r->w.ob.at_ o H e O->w.ob.at_ v c L T->c=H)
  (l:∀{P}(g:bN w.bI P)A F B,dw F u->jl (w.up P g) i X F B (callEnvC f A a) n n.length (kR o n E) m λS d=>∃v r,S[0]?=J (.obj v)/\tZ d r/\q v r):
  eR w i X (u+1) (.ref a) o j q:=
 F2 G p s k (λe=>(aM _ e (λy t=>t))) Q (λg h h h h A F B z=>l g A F B z) λx h h L h h=>(gG _ _ x L (λy t=> .inl t))
noncomputable def Uu:U (af×dU):= [("self", .local),("node", .local)]
noncomputable def sU:U af:= ["self", "node"]
theorem XS(l:bH y.B y.prog y.w L)(k:gO y.B L.ni 14 1 S f sU)(T:Nd)(x:T.np=0)(b:T.succ= []):eR y.B y.prog y.w (u+1) (.ref L.ni) (.ja 0 T) [.str T.key] λs r=>s= .ja 3 T/\r= .none:=by
 refine qB y.G k.d (ek _) (.plain λe B=>?_) (λX R E=>?_) λ{P}g A a i p=>?_
 .exact vP (λj n=>(pD k.ar k.df _).trans C) e B
 .obtain⟨rfl,_⟩:=X;rw [l.ob]at R E;have R:=R;have E:=E;rw [R.v,E.v]
 .have F:Fm (callEnvC f A L.ni) sU sU.length Uu:=jQ (C) (by show f.scope.names=_;exact aQ _ k.sc)
  let c:=(y.up P g).c a i (callEnvC f A L.ni) u p
  have z:=l.up g;exact ez.p (aP:= [.obj (.ja 3 T), .t (.str T.key)]) (EX.ev (c:=c) (zx (Ma z 0 C (zv F 1 C C) (Mb z F 0 C C) C z.ok.s0 (bx C) (λ{_ v}su t H d=>d.g_ (P:=λv=>q1 L.N 1 {T with su:=su} ⟨.ref L.N,J T.id, .plain,#[J v]⟩) λh=>⟨h,H,C⟩) (λw=>C) (λw=>C) C) (zx (Ma z 0 C (by rw [show aaD 0=aaD T.np by rw [x]];exact zi _) (Mb z F 0 C C) C z.ok.s1 (bx C) (λ{_ v}su t H d=>d.gh (P:=λv=>q1 L.N 2 {T with su:=su} ⟨.ref L.N,J T.id, .plain,#[J (.str (b3 T.key) t),J v]⟩) λh=>⟨t,h,C⟩) (λw=>C) (λw=>C) C) (zx (YV z 0 C (o4 cj C) (QN z F 0 C C) C b C) ⟨ik⟩)))) (lG _ _ C (.inr ⟨C,C⟩) C C)
end
section
variable{c:Cx Ob}{h:b8}
theorem KQ(l:bH c.B c.prog c.w L)(S:aN c.B c.ρ A f c.env n k g H R h):(h.objs.size==sysModules)=aA:=by
 obtain⟨_,_,_,_,Q,_⟩:=(makes_of (M:=model c.prog c.w) (l.gS S.base) l.ok.CB).obj;exact beq_eq_false_iff_ne.mpr (tJ (rm (cY _) (kD l.ok.lt (eM Q))))
noncomputable def iG(l:U Y)(i id f:ak):Nd:=⟨l,i,id,f,0, []⟩
theorem TP(h:bH c.B c.prog c.w L)(bD:dw c.A (aK+2))(bq:∀i id f,eR c.B c.prog c.w (aK+1) (.ref L.ni) (.ja 0 (iG l i id f)) [.str l] λw r=>w= .ja 3 (iG l i id f)/\r= .none)(S:aN c.B c.ρ A x c.env n v g H R s.heap)(bA:Den c.ρ x ao (.str l))
  (aE:∀m P i id f,bU s m->Le x P->aN c.B c.ρ A P c.env n v g H R m.heap->fX (uH L.N 3 (iG l i id f)) m.heap [i,id,f]->(∀b∈ [i,id,f],eT c.B A P c.env n R b)->aW (.ref i) m):wpAny (model c.prog c.w) c.A (call (.ref L.N) [ao]) aW b7 s:=by
 obtain⟨u,Q,aj,E,os⟩:=s;have T:=h.gS S.base;have p:aN c.B c.ρ A x c.env n v g H R u:=S;have r:=S.ready;refine jH (make_core (makes_of T h.ok.I8) (looks_findIn T h.ok.I3) (λaJ=>bind_fn T aJ (beq_iff_eq.mp h.ok.I2)) (.inl C) ?_);have d:=b5.gR r emptyDict E;have bK:=S.step d;have aH:=bK.step (b5.gR (d.ready r) (instObj L.N u.objs.size) E);have bW:((u.push emptyDict).objs.size)=u.objs.size+1:=jX ..;have aO:((u.push emptyDict).push (instObj L.N u.objs.size)).get? (u.objs.size+1)=J (instObj L.N u.objs.size):=by heap_get
 have B:u.get? u.objs.size=ae:=ir ⟨u,Q,aj,E,os⟩;have y:u.get? (u.objs.size+1)=ae:=by
  cases q:u.get? (u.objs.size+1)with
  |none=>rfl
  |some o=>exact cg (eM q) (gW.mpr (xD _))
 have bz:fX (uH L.N 0 (iG l (u.objs.size+1) u.objs.size 0)) ((u.push emptyDict).push (instObj L.N u.objs.size)) [u.objs.size+1,u.objs.size]:=⟨λX a=>by
  simp only [iG]at a;rcases cC.mp a with rfl|a
  .exact(aM _ aO ⟨0,0,C⟩)
  .rcases cC.mp a with rfl|a
   .exact(aM _ (by heap_get) trivial)
   .simp at a,C,by simp⟩
 have bM:c.B.ob.at_ (.ja 0 (iG l (u.objs.size+1) u.objs.size 0)) (.ref (u.objs.size+1)) ((u.push emptyDict).push (instObj L.N u.objs.size)) [u.objs.size+1,u.objs.size]:=by
  rw [h.ob];exact(⟨C,0,bz⟩)
 have G:=S.free B;have j:=S.free y;refine bq (u.objs.size+1) u.objs.size 0 _ c.ρ x _ [ao] _ ⟨(u.push emptyDict).push (instObj L.N u.objs.size),Q,aj,E,os⟩ [u.objs.size+1,u.objs.size] bD.call aH.ready bM (bl (cR j.fz j.h0 j.tab) (bl (cR G.fz G.h0 G.tab) dR)) (.one bA) ?_
 .rintro m P b_ F w bY⟨rfl,rfl⟩aL ah aU aV ai aZ k O bg;obtain rfl:=bg.inv;refine⟨C,?_⟩;rw [h.ob]at k;have k:vK L 3 (iG l (u.objs.size+1) u.objs.size 0) (.ref (u.objs.size+1)) m.heap F:=k;refine bZ k.ob λf au=>?_;have ad:F= [u.objs.size+1,u.objs.size,f]:=by rw [au.ad];exact C
  subst ad;have az:=λ{b o}e t=>bl (P:=λb=>u.get? b=J o->False) (aT y) (bl (aT B) dR) b t e;have aC:∀{b o},u.get? b=J o->((u.push emptyDict).push (instObj L.N u.objs.size)).get? b=J o:=λe=>eF _ (eF _ e);have aB:∀{b},((u.push emptyDict).push (instObj L.N u.objs.size)).get? b=ae->u.get? b=ae:=λ{b}e=>by
   cases q:u.get? b with
   |none=>rfl
   |some o=>rw [aC q]at e;assumption
  have aD:∀{b},b∈ [u.objs.size+1,u.objs.size]->u.get? b=ae:=λ{b}t=>by
   cases q:u.get? b with
   |none=>rfl
   |some o=>exact cg t (az q)
  have bQ:=p.grow (λb t o e=>aU b (az e) t o (aC e)) aV ah λb o e=>by
   rcases aZ b o e with q|q|q
   .exact .inl q
   .exact .inr ⟨aB q,ai b o e⟩
   .exact .inr ⟨aD q,ai b o e⟩
  refine aE m P _ _ f (bU.trans (cu _ _ C) aL) ah bQ au λb t=>?_;have X:u.get? b=ae:=by
   rcases(O b t).1 with q|q
   .exact aD q
   .exact aB q
  have z:=p.free X;exact⟨z.hb,(O b t).2,z.loc,z.cell,z.fp,z.tab,z.h0⟩
noncomputable def SG.add(G:SG)(T:Nd):SG:={G with bJ:=G.bJ++ [T]}
theorem Vf(q:h.DictOf (strKind i X) k (cM G)):∃o,h.get? k=J o/\jc i X G o:=i8 q λo d O Q r=>(aM o Q (λh a e=>(kP o d O e r)))
theorem Im(G:SG)(T:Nd):cM (G.add T)=cM G++ [(b3 T.key, .ref T.i)]:=by simp [cM,SG.add]
theorem stored_new(h:∀T∈G.bJ,T.key≠l)(v:ay):stored (cM G) (b3 l) v=cM G++ [(b3 l,v)]:=by
 unfold stored;rw [bF];intro q;refine aG (tE.mp q) λw s e=>aG (eZ.mp s) λT a x=>?_;subst x;simp only [decide_eq_true_eq]at e;exact h T a (q2 e)
theorem UX(i:ck)(X:b4)(L:Cl)(G:SG)(T:Nd):((objs i X L 0 (G.add T)).map (·.1)).Perm ((objs i X L 0 G).map (·.1)++ [T.i,T.id,T.su]):=by
 have t:(objs i X L 0 (G.add T)).map (·.1)=(fq L.a_ G).map (·.1)++(fK L.N G).map (·.1)++ [T.i,T.id]++(G.D::G.bJ.map (·.su))++ [T.su]:=by
  simp [lN,lO,lP,fK,SG.add,ju,f9,fq,ZZ]
 have Q:(objs i X L 0 G).map (·.1)=(fq L.a_ G).map (·.1)++(fK L.N G).map (·.1)++(G.D::G.bJ.map (·.su)):=by
  simp [lN,lO,lP,f9]
 rw [t,Q];have:=(List.perm_append_comm (l₁:= [T.i,T.id]) (l₂:=G.D::G.bJ.map (·.su))).append_left ((fq L.a_ G).map (·.1)++(fK L.N G).map (·.1));have:=this.append_right [T.su];simpa [vt]using this
theorem UW(s:w∈objs i X L 0 (G.add nd)):
  w∈fq L.a_ G++fK L.N G\/w∈(G.bJ.map λnd=>(nd.su,fe nd.succ))\/w=(G.D,jc i X (G.add nd))\/w∈ju L.N nd\/w=(nd.su,fe nd.succ):=by
 have t:objs i X L 0 (G.add nd)=fq L.a_ G++fK L.N G++ju L.N nd++((G.D,jc i X (G.add nd))::(G.bJ.map λnd=>(nd.su,fe nd.succ))++ [(nd.su,fe nd.succ)]):=by
  simp [lN,lO,lP,fK,SG.add,f9]
  rfl
 rw [t]at s;rcases fb.mp s with s|s
 .rcases fb.mp s with s|s
  .exact .inl s
  .exact .inr (.inr (.inr (.inl s)))
 .rcases fb.mp s with s|s
  .rcases cC.mp s with s|s
   .exact .inr (.inr (.inl s))
   .exact .inr (.inl s)
  .exact .inr (.inr (.inr (.inr (cI.mp s))))
theorem zJ(i:ck)(X:b4)(L:Cl)(G:SG):objs i X L 0 G=(fq L.a_ G++fK L.N G)++(G.D,jc i X G)::(G.bJ.map λT=>(T.su,fe T.succ)):=C
theorem WU(d:dQ i X L 0 G m h O)(S:fX (uH L.N 3 nd) h [nd.i,nd.id,nd.su])(f:∀b∈ [nd.i,nd.id,nd.su],b∉O)(P:gk G.D h l)(H:l.DictOf (strKind i X) G.D (cM (G.add nd)))(T:∀u∈G.bJ,u.key≠nd.key):
  dQ i X L 0 (G.add nd) m l ((objs i X L 0 (G.add nd)).map (·.1))/\∀b∈(objs i X L 0 (G.add nd)).map (·.1),b∈O\/b∈ [nd.i,nd.id,nd.su]:=by
 have e:=UX i X L G nd;have k:=d.ob.nd;rw [d.ob.ad]at k f;refine⟨⟨d.v,d.sm,?_,⟨λw s=>?_,C,?_⟩⟩,λb t=>?_⟩
 .rw [Im,ej,gm];refine(cR d.nd (by simp) (λn r b t=>?_));rw [iA,EH,cI]at t;subst t;refine aG (eZ.mp r) λw s x=>?_;subst x;refine aG (eZ.mp s) λu z x=>?_;subst x;exactλq=>T u z (q2 q)
 .have a:=k;rw [zJ,ej,iA]at a;refine fF (gm.mp a) λB c v=>?_;have j:=λ{w}s g=>aG (d.ob.dH w s) λo Q p=>(aM o ((P.2 _ g).trans Q) p);have y:=λ{w}s=>by
   refine aG (S.dH w s) λo Q p=>(aM o ((P.2 _ λq=>f w.1 ?_ (by rw [q];exact(by rw [zJ];simp))).trans Q) p);have:=gE (f:=(·.1)) s
   assumption
  rcases UW s with s|s|rfl|s|rfl
  .exact j (gx _ ‹_›) λq=>v G.D (q▸(gE s)) G.D (.head _) C
  .refine j (by rw [zJ];exact i0 _ (.tail _ s)) λq=>(l9.mp c).1 ?_;have E:=gE (f:=(·.1)) s;rw [q]at E;exact E
  .exact Vf H
  .simp only [ju,cC,gM,or_false]at s;rcases s with rfl|rfl
   .refine aG (y (.head _)) λo Q x=>?_;obtain⟨E,F,A⟩:=x;exact(aM o Q ⟨E,F,A⟩)
   .exact aG (y (cA (i:=1) C)) λo Q B=>(aM o Q trivial)
  .exact y (cA (i:=2) C)
 .rw [e.nodup_iff,gm];refine(cR k S.nd (λn r b t q=>f b t (q▸r)))
 .rw [e.mem_iff,<-d.ob.ad]at t;exact fb.mp t
end
section
set_option tactic.hygienic true
section
noncomputable abbrev tU(c:Cx Ob)(n:U af)(k:Y)(g:U (AV Ob))(e:b9)(L:T):Prop:=nY c.B c.prog c.w c.A c.ρ c.env n k g e L
theorem QO(l:bH c.B c.prog c.w L)(F:Fm c.env n k h)(i:Y)(j:n[i]?=J x)(B:g[i]?=J (.obj (.bS q G))):tU c n k g (.Name x p) (.bO (.ref G.self)):=by
 rintro A f s Q e⟨E,H,R,S⟩O;obtain⟨r,m⟩:=g9 l S j B;exact eP (eH E S.ns r (O s.toks _ (.bO _))) (F.eU j)
theorem QS(l:bH c.B c.prog c.w q)(i:Y)(j:n[i]?=J y)(B:g[i]?=J (.obj (.bS m G)))(a:tU c n k g o (.bO (.ref G.self)))(P:GT G x L)
  (u:eval (.Attribute o x p) c.env=(do let s<-eval o c.env;standAt p.atName;let r<-holding [s] (getAttr s x aa);letTemporaryGo o s r;pure r)):tU c n k g (.Attribute o x p) L:=by
 rintro A f h Q t⟨e,H,R,S⟩O;refine Mv (a A f h _ _ ⟨e,H,R,S⟩ λb v d=>?_) u;obtain rfl:=d.inv;exact Hu (s:={h with toks:=b}) l S (g9 l S j B).2 P λv E d=>O E v d
theorem Yq(Z:bH c.B c.prog c.w n)(F:Fm c.env xs k bW)(cB:dw c.A (u+2))(aH:∀i id f,eR c.B c.prog c.w (u+1) (.ref n.ni) (.ja 0 (iG l i id f)) [.str l] λaL bD=>aL= .ja 3 (iG l i id f)/\bD= .none)
  (jf:Y)(S:bW[jf]?=J (z, .globalImplicit))(b_:c.mg z=J (.ref n.N))(i m:Y)(hx:xs[i]?=J aj)(bq:g[i]?=J (.obj (.bS 0 G)))(cO:tU c xs k g e (.str l))(P:dj e=aa)(aE:tU c xs k g o (.bO (.ref G.D)))(aJ:tU c xs k g cG (.str l))
  (v:∀bg∈G.bJ,bg.key≠l)(hy:xs[m]?=J O)(B:m<k)(az:G.bJ.length<=1000)
  (bY:swappedStores [.Subscript o cG w6, .Name O cv] (.Call (.Name z aW) [e] [] j) c.env=pure ae):
  SP c xs k g (.Assign [.Subscript o cG w6, .Name O cv] (.Call (.Name z aW) [e] [] j) p) λcE cK=>∃a id f,cE=(g.set i (.obj (.bS 0 (G.add (iG l a id f))))).set m (.t (.bO (.ref a)))/\cK= .next:=by
 constructor;intro A b7 r d8 d6 aB aC aD;refine wpAny_Assign_two ?_ C bY;obtain⟨E,H,dz,y⟩:=aC;refine kG (pN c.G E y.base (F.kn jf S nofun) b_ (F.kg jf S) ?_);have dX:∀ai∈ [e],∀aj p,ai≠ .Starred aj p:=λai aO=>by rw [cI.mp aO];exact gq P
 have hb:starEach [e] c.env=(aA,eval e c.env)::starEach [] c.env:=K8 (gq P);refine callWith_K (Z.gS y.base) Z.ok.Ik ?_ hb C;have aU:backTo j (starEach [e] c.env)= [(aA,eval e c.env)]:=by rw [hb];rfl
 rw [aU];refine pn (cO A b7 r _ _ ⟨E,H,dz,y⟩ λaV dS aZ=>rz ⟨Z.gS y.base,(TP (s:={r with toks:=aV}) Z cB aH y aZ λh w a id f bz bA t bK Fr=>?_)⟩);show wpAny _ _ (assign (.Subscript o cG w6) c.env (.ref a)) _ _ _;refine aF (gf (aE A w h _ _ ⟨E,H,dz,t⟩ λbM bQ x=>?_));obtain rfl:=x.inv;refine aF (gf (aJ A w {h with toks:=bM} _ _ ⟨E,H,dz,t⟩ λX bQ x=>?_));obtain⟨dO,rfl⟩:=x.inv;refine aF (nk (aF (gf ?_)));obtain⟨aK,d⟩:=g9 Z t hx bq;have s:=(cw.mp hx).1;have T:=t.fp i s;refine wpAny_setItem_pairs (s:={h with toks:=X}) (rA ..) d.map ?_ (by rw [jG];simp [cM];exact bh az (bx C));intro L R hs;have hs:gk G.D h.heap L:=hs;rw [stored_new v]at R;have ah:G.D∈dz i:=by rw [d.ob.ad,zJ];simp
 have Q:∀{b},b∉dz i->b≠G.D:=λ{b}u q=>u (by rw [q];exact ah);obtain⟨cz,c_⟩:=WU d bK (λb hb=>(Fr b hb).fp i s) hs (by rw [Im];exact R) v;have c9:=t.u6 (av:= .obj (.bS 0 (G.add (iG l a id f)))) (fp:=(objs c.prog c.w n 0 (G.add (iG l a id f))).map (·.1)) hx (λb u _ o e=>(hs.2 b (Q u)).trans e) (c.B.e8 t.inv λao dm o e=>(hs.2 ao (Q ((t.tab ao dm).2.2.2.2 i s))).trans e) (Le.refl _)
  (λb o e=>(hs.2 b λq=>aT ((aQ _ q).trans ((T G.D ah).2.1)) e).trans (t.bC b o e)) (λb o e=> .inl e) aK ⟨.ref G.self,C,Z.ob.symm▸cz⟩ (λb hb=>by
   rcases c_ b hb with q|q
   .exact⟨.inl q,(T b q).2.1⟩
   .exact⟨.inr (Fr b q),(Fr b q).fz⟩)
 exact wpAny_release (qs (gc (s:={h with heap:=L,toks:=X+1}) (av:= .t (.bO (.ref a))) E aB c9 hy B (F.loc hy B) ⟨C,_,C, .bO _⟩ .nil λcV dB dJ au=>aD cV w .next _ .next (kP a id f C C) ((bU.trans (cu _ _ C) bz).trans (bU.trans (cu L _ C) dJ)) bA ⟨E,dB,_,au⟩ trivial))
end
end
section
variable{st:cf}{rest:U cf}
theorem EX.xp{st:U cf}(h:EX c n k g st u fl)(p:Φ u fl):XP c n k g st Φ:=⟨ez.p h.1 p⟩
theorem o6(R:ES c n k g st u .next)(E:XP c n k u rest Φ):XP c n k g (st::rest) Φ:=⟨Ae R.1 E.1⟩
theorem Aq(R:SP c n k g st e)(E:∀u j,e u j->(j= .next/\XP c n k u rest Φ)\/(j≠ .next/\Φ u j)):XP c n k g (st::rest) Φ:=⟨w_ R.1 λl z p=>(E l z p).imp (λq=>⟨q.1,q.2.1⟩) id⟩
theorem Mr(p:Φ g .next):XP c n k g [] Φ:=⟨Yc p⟩
theorem XP.ex{st:U cf}(h:XP c n k g st Φ)(p:∀S x,Φ S x->n8 c.B S u/\x=j):EX c n k g st u j:=⟨jl.x h.1 p⟩
theorem XP.wk{st:U cf}(h:XP c n k g st Φ)(p:∀S x,Φ S x->∃u,n8 c.B S u/\e u x):XP c n k g st e:=⟨jl.wk h.1 p⟩
theorem XP.mono{st:U cf}(h:XP c n k g st Φ)(p:∀S x,Φ S x->e S x):XP c n k g st e:=⟨λA f s Q G a b d=>h.1 A f s Q G a b λm P z S x q=>d m P z S x (p S x q)⟩
theorem YC(F:Fm c.env n k bM)(i:Y)(j:n[i]?=J o)(l:i<k)(T:EE c n k ao e u ta)(BW:EE c n k (u.set i (.t ta)) cG B h){b:bu}(y:gY P ta h=J b)(L:behindInMarks P cG=aA)
  (t:XP c n k B (if b then m else s) Φ):SP c n k ao (.If (.Compare (.NamedExpr (.Name o bY) e bg) [P] [cG] bQ) m s bW) Φ:=by
 constructor;intro A f q Q G a S O;refine AW (xM (wpAny_NamedExpr (T.1 A f q _ _ S λb_ w v H X E d=>?_)) L);obtain⟨eo,bD,bK,x⟩:=E;refine qs (gc (av:= .t ta) eo a x j l (F.loc j l) ⟨C,v,C,d⟩ .nil λR ah r ai=>(BW.1 A w R _ _ ⟨eo,ah,_,ai⟩ λbq bz bA g p au az=>(cy.to (vS c.R (d.mono p) az y) au λaB aC b7 aD aE aH aj=>?_)));obtain rfl:=aj.inv;refine vE ?_;have:=t.1 A aC aB Q G a aH λaK aL aO aJ aV aU aW aZ z d=>O aK aL aO aJ aV aU (H.trans (r.trans (g.trans (aD.trans aW)))) (X.trans (p.trans (aE.trans aZ))) z d;cases b
 .exact this
 .exact this
end
section
variable{y:Ly Ob}{f:ak}
structure n5(G:SG)(l:U Y)(G':SG)(j:Y)(nd:Nd):Prop where
 at_:G'.bJ[j]?=J nd
 key:nd.key=l
 how:(G'=G/\∃nd∈G.bJ,nd.key=l)\/((∀nd∈G.bJ,nd.key≠l)/\∃i id su,G'=G.add (iG l i id su)/\nd=iG l i id su)
noncomputable def Uo:U (af×dU):= [("self", .local),("node", .local),("result", .local),("_NodeInfo", .globalImplicit)]
noncomputable def nJ:U af:= ["self", "node", "result"]
set_option maxHeartbeats 1000000
theorem XM(b:bH y.B y.prog y.w L)(k:gO y.B f 16 1 aK x nJ)(o:gO y.B L.ni 14 1 ai S sU)(aD:y.mg "_NodeInfo"=J (.ref L.N))(q:G.bJ.length<=1000):
  eR y.B y.prog y.w (Q+3) (.ref f) (.bS 0 G) [.str l] λao r=>∃e m T,n5 G l e m T/\e.self=G.self/\ao= .bS 0 e/\r= .bO (.ref T.i):=by
 refine qB y.G k.d (dP C) (.plain λu B=>?_) (λX R E=>?_) λ{P}g A aC aB p=>?_
 .exact vP (λa aO=>(pD k.ar k.df _).trans C) u B
 .refine oA X λe m T w O H w=>?_;subst H;rw [b.ob]at R E;have R:=R;have E:=E;rw [R.v,E.v,O]
 .have F:Fm (callEnvC x A f) nJ nJ.length Uo:=jQ (C) (by show x.scope.names=_;exact aQ _ k.sc)
  let c:=(y.up P g).c aC aB (callEnvC x A f) (Q+2) p
  have z:bH c.B c.prog c.w L:=b.up g;have ah:gO (y.up P g).B L.ni 14 1 ai S sU:=⟨o.d.up g,o.ar,o.sc,o.df,o.kd⟩;refine XP.ev (c:=c) ?_;have d:qx c nJ nJ.length (kR (.bS 0 G) nJ [.str l]) G:=C8 z (i:=0) C C;have aL:∀a,qx c nJ nJ.length [.obj (.bS 0 G), .t (.str l),a] G:=λa=>C8 z (i:=0) C C
  by_cases n:∃T∈G.bJ,T.key=l
  .refine aG n λT i az=>?_;subst az;exact bZ (o8 i) λm s=>EX.xp (zx (LW F 2 C (by exact cY _) (DP d (jF z (jB z (i:=0) C C) (iW z F 0 C C) .sq C) d (zv F 1 C C) (λv=>by rw [DB v s,aas]) (λw w=> .bO _) C C C) zn (b:=aA) C C ⟨ik⟩) (⟨rX (h8 (zv F 2 C C)).1 (by exact nofun)⟩)) (gG _ _ C (.inl C) ⟨G,m,T,⟨s,C, .inl ⟨C,T,i,C⟩⟩,C,C,C⟩)
  .have n:∀T∈G.bJ,T.key≠l:=λT i aj=>n (aM T i aj);refine Aq (YC (Φ:=λau j=>∃a id h,au= [.obj (.bS 0 (G.add (iG l a id h))), .t (.str l), .t (.bO (.ref a))]/\j= .next) F 2 C (cY _) (DP d (jF z (jB z (i:=0) C C) (iW z F 0 C C) .sq C) d (zv F 1 C C) (λv=>(XC n).symm▸C) (λw w=> .none) C C C) zn (b:=aa) C C ?_) ?_
   .refine Aq (Yq z F p (λaH id h=>XS z ah (iG l aH id h) C C) 3 C aD 0 2 C C (BA (i:=1) C C C) C (QS z 0 C C (QO z F 0 C C) .sq C) (BA (i:=1) C C C) n C (cY _) q C) λaE j X=>i8 X λa id h aJ t=>?_;subst aJ t;exact .inl ⟨C,Mr (kP a id h C C)⟩
   .rintro aE j⟨a,id,h,rfl,rfl⟩;refine .inl ⟨C,EX.xp (fl:= .ret (.bO (.ref a))) ⟨rX (h8 (zv F 2 C C)).1 (nofun)⟩ (gG _ _ C (.inl C) ⟨G.add (iG l a id h),G.bJ.length,iG l a id h,⟨?_,C, .inr ⟨n,a,id,h,C,C⟩⟩,C,C,C⟩)⟩;simp [SG.add]
end
noncomputable abbrev AN:=U Y×aq×U (U Y)
noncomputable def fJ(A:U AN)(l:U Y):U AN:=if A.any (λa=>decide (a.1=l))then A else A++ [(l,0, [])]
noncomputable def kT(A:U AN)(l:U Y)(d:aq):U AN:=A.map λa=>if a.1=l then(a.1,a.2.1+d,a.2.2)else a
noncomputable def iU(A:U AN)(l s:U Y):U AN:=A.map λa=>if a.1=l then(a.1,a.2.1,a.2.2++ [s])else a
noncomputable def jM(A:U AN)(O:U Y)(a:U (U Y)):U AN:=a.foldl (λA p=>iU (fJ A p) p O) (kT (fJ A O) O a.length)
noncomputable def SG.al(G:SG):U AN:=G.bJ.map λT=>(T.key,T.np,T.succ)
noncomputable def SG.kn(G:SG):Prop:=(G.bJ.map (·.key)).Nodup
theorem SG.abs_eq(G:SG):G.abs= .bX G.self G.al (G.cJ.map λw=>G.rl) G.po G.fi:=C
theorem Cn(h:((cM G).map (·.1)).Nodup):G.kn:=by
 have e:(cM G).map (·.1)=(G.bJ.map (·.key)).map b3:=by simp [cM]
 rw [e]at h;exact List.Pairwise.of_map b3 (λa b c q=>c (aQ _ q)) h
section
variable{G:SG}
theorem IM{z g:Nd->AN}{bJ:U Nd}(h:(bJ.map (·.key)).Nodup)(G:bJ[m]?=J nd)(a:Nd)(R:z a=H (z nd))(E:∀n∈bJ,n.key≠nd.key->H (z n)=z n):(bJ.set m a).map z=(bJ.map z).map H:=by
 refine dK (oS G) λF w e B=>?_;rw [B];rw [e]at h;simp only [ej,iA]at h;refine fF (gm.mp h) λs c l=>?_;have i:∀n∈F,n.key≠nd.key:=λn v q=>l n.key (gE v) nd.key (.head _) q;have A:∀n∈w,n.key≠nd.key:=λn v q=>(l9.mp c).1 (q▸(gE v));have b:(F.map z).map H=F.map z:=by
  rw [d_];exact iZ λn v=>E n (by rw [e];exact gx _ ‹_›) (i n v)
 have x:(w.map z).map H=w.map z:=by
  rw [d_];exact iZ λn v=>E n (by rw [e];simp [v]) (A n v)
 rw [e];simp only [ej,iA];rw [b,x,R]
theorem Of(g:G.kn)(h:G.bJ[m]?=J nd):(G.np m nd (nd.np+d)).al=kT G.al nd.key d:=
 IM (g:=λu=>(u.key,u.np,u.succ)) g h _ (by simp) λu w q=>bF ‹_›
theorem Oe(g:G.kn)(h:G.bJ[m]?=J nd):(G.ap m nd s).al=iU G.al nd.key s:=
 IM (g:=λu=>(u.key,u.np,u.succ)) g h _ (by simp) λu w q=>bF ‹_›
theorem n5.al(h:n5 G l y m nd):y.al=fJ G.al l:=by
 unfold fJ;rcases h.how with⟨rfl,u,v,e⟩|⟨v,i,id,f,rfl,_⟩
 .rw [bB];exact tE.mpr (aM _ (gE v) (decide_eq_true e))
 .rw [bF]
  .simp [SG.al,SG.add,iG]
  .intro q;refine aG (tE.mp q) λa r e=>aG (eZ.mp r) λu k x=>?_;subst x;exact v u k (by simpa using e)
theorem n5.kn(h:n5 G l y m nd)(g:G.kn):y.kn:=by
 rcases h.how with⟨rfl,_⟩|⟨v,i,id,f,rfl,_⟩
 .exact g
 .unfold SG.kn SG.add at*;rw [ej,gm];refine(cR g (by simp) (λa r b t q=>(aG (eZ.mp r) λu k x=>?_)));subst x;simp only [iA,EH,cI,iG]at t;exact v u k (q.trans t)
theorem n5.same(h:n5 G l y m nd):y.self=G.self/\y.cJ=G.cJ/\y.rl=G.rl/\y.po=G.po/\y.fi=G.fi:=by
 rcases h.how with⟨rfl,_⟩|⟨v,i,id,f,rfl,_⟩<;>exact(j_ C C C C C)
theorem IB(A:U AN)(l:U Y):(fJ A l).length<=A.length+1:=by unfold fJ;split<;>simp
theorem Tr(A:U AN)(l:U Y)(d:aq):(kT A l d).length=A.length:=cH _
theorem Tt(A:U AN)(l s:U Y):(iU A l s).length=A.length:=cH _
end
section
variable{c:Cx Ob}{al:U AN}
theorem gA(a:AV t):Wk e a a:=λw w w w w h=>h
theorem nH(t:T):Wk w (.t t) (.un):=λB f h s O u=>u.1
theorem Ac(l:bH c.B c.prog c.w L)(G:SG):Wk c.B (.obj (.bS 0 G)) (.obj G.abs):=by
 rintro B f h s O⟨v,e,m⟩;rw [l.ob]at m;exact⟨v,e,(l.ob.symm▸(((aM G C (m)):∃y,y.abs= .bX G.self G.al (G.cJ.map λw=>G.rl) G.po G.fi/\dQ c.prog c.w L 0 y v h O)))⟩
theorem KY(l:bH c.B c.prog c.w L)(S:SR c.B c.ρ b f c.env n k g h)(j:n[i]?=J x)(B:g[i]?=J (.obj (.bX Q al P w u))):
  ∃G,G.abs= .bX Q al P w u/\G.kn/\SR c.B c.ρ b f c.env n k (g.set i (.obj (.bS 0 G))) h:=by
 obtain⟨E,H,R,S⟩:=S;obtain⟨t,r,v,rfl,m⟩:=S.vars i x _ j B;rw [l.ob]at m;obtain⟨G,s,a⟩:∃G:SG,G.abs= .bX Q al P w u/\dQ c.prog c.w L 0 G v h (R i):=m;refine⟨G,s,Cn a.nd,E,H,R,{S with len:=by simp [S.len],vars:=λe O F A d=>?_}⟩
 by_cases q:e=i
 .subst q;rw [j]at A;obtain rfl:=bf A;rw [qi (by rw [S.len];exact(cw.mp j).1)]at d;obtain rfl:=bf d;exact⟨_,r,v,C,l.ob.symm▸a⟩
 .rw [k9 (jk q)]at d;exact S.vars e O F A d
theorem LL(l:bH c.B c.prog c.w L)(i:Y){st:U cf}(h:n[i]?=J v)(B:g[i]?=J (.obj (.bX Q al P w u)))(e:∀G:SG,G.abs= .bX Q al P w u->G.kn->EX c n k (g.set i (.obj (.bS 0 G))) st a j):EX c n k g st a j:=
 ⟨λA f s b x t S d=>jq (KY l S h B) λG q o S=>(e G q o).1 A f s b x t S d⟩
theorem er(h:Wk w a g)(r:n8 w l R):n8 w (a::l) (g::R):=by
 refine⟨by simp [r.1],λm x O j A=>?_⟩;cases m with
 |zero=>obtain rfl:=bf j;exact bf A▸h
 |succ m=>exact r.2 m x O j A
theorem pY(l:U (AV t)):n8 w l l:=⟨C,λm x O j A=>by rw [j]at A;exact bf A▸(gA _)⟩
theorem EX.wk{st:U cf}(h:EX c n k g st u j)(q:n8 c.B u B):EX c n k g st B j:=⟨λA f s Q G a S d=>h.1 A f s Q G a S λm P v o O z=>d m P v o O (z.wk q)⟩
end
noncomputable def kr(s:aS cf):b9:=(kq s).1
noncomputable def qM(s:aS cf):b9:=(kq s).1
noncomputable def Fy(s:aS cf):b9:=(kq s).1
noncomputable def yb(s:aS cf):b9:=(kq s).1
noncomputable def yX(s:aS cf):b9:=(kq s).1
noncomputable def jD(s:aS cf):U cf:=(kq s).2.2.1
noncomputable def fY(s:aS cf):U cf:=(kq s).2.2.1
noncomputable def HM(s:aS cf):U cf:=(kq s).2.2.1
noncomputable def yW(s:aS cf):U cf:=(kq s).2.2.2.1
theorem q4(h:a+b=d):lC .Add (.int a) (.int b)=J (.int d):=by subst h;rfl
theorem uY(h:a+b=d):iC .Add (.int a) (.int b)=J (.int d):=by subst h;rfl
theorem Wy(h:a-b=d):iC .Sub (.int a) (.int b)=J (.int d):=by subst h;rfl
section
theorem lZ(h:EC c n k g e u aA)(E:EX c n k u i B j):EW c n k e m i a g B j:= .stop h.1 E.1
theorem lX(a:EC c h k g e u aa)(E:EX c h k u m B .next)(S:EW c h k e m i n B v j):EW c h k e m i (n+1) g v j:= .go a.1 E.1 (.inl C) S
theorem jh:j6 c n k H m [] g g .next:= .nil
theorem fO(R:EA c n k g H E u)(h:EX c n k u m cU .next)(S:j6 c n k H m e cU v j):j6 c n k H m (E::e) g v j:= .go R.1 h.1 (.inl C) S
noncomputable def zo:U (af×dU):= [("text", .local),("word", .local),("k", .local),("tail", .local),("bracket", .local),("len", .globalImplicit)]
noncomputable def sT:U af:= ["text", "word", "k", "tail", "bracket"]
theorem yu(F:Fm c.env sT 5 zo){l word:U Y}{k:Y}{b e:bu}(d:l[k]?=J i)(t:(i==91)=b)(v:i∉ [40,41,42,43,63,123,124,94,36,46])(R:l[k+b.toNat]?=J n)(u:(n==92)=e)
  (E:l[k+b.toNat+e.toNat]?=J a)(S:b=aa->l[k+b.toNat+e.toNat+1]?=J 93)(g:l.length<=100000)(A:Q.length<=100000):
  EX c sT 5 [.t (.str l), .t (.str word), .t (.int k), .t (.str Q),br] (jD (dD 1 (cQ (bj 25)))) [.t (.str l), .t (.str word), .t (.int (k+b.toNat+e.toNat+(1+b.toNat):Y)), .t (.str (Q++ [a])), .t (.bool b)] .next:=by
 have o:=(cw.mp E).1
 exact zx (fu F 4 C (cY _) (xg (cX (zv F 0 C C) (zv F 2 C C) (kU (by omega) d) C) (zs [91] (di ['['])) (zV (by simpa using t)) C) C) (zx (dF (zC (cX (zv F 0 C C) (zv F 2 C C) (kU (by omega) d) C) (zs [40,41,42,43,63,123,124,94,36,46] (di ['(',')','*','+','?','{','|','^','$','.'])) (Wx (decide_eq_false v)) C) eO) (zx (oY (τ:= .int ((k+b.toNat:Y):aq)) F 2 C (aX _ _) C (DR (b:=b) (oX (zv F 4 C C) C λw=>C) (b.toNat:aq) (by cases b<;>rfl)) (q4 (C))) (zx (oY (τ:= .int ((k+b.toNat+e.toNat:Y):aq)) F 2 C (aX _ _) C (DR (b:=e) (zC (cX (zv F 0 C C) (zv F 2 C C) (kU (by omega) R) C) (zs [92] (di ['\\'])) (zV (by simpa using u)) C) (e.toNat:aq) (by cases e<;>rfl)) (q4 (C))) (zx (oY F 3 C (aX _ _) C (cX (zv F 0 C C) (zv F 2 C C) (kU (by omega) E) C) (Ww (by simp;exact bh A (bx C)))) (zx (dF (jE (b:=b&&aA) (jg (oX (zv F 4 C C) C λw=>C) λt=>jg (b₁:=aA) (b₂:=aA)
  (zC (cX (zv F 0 C C) (dI (zv F 2 C C) (zi 1) (uY (by exact C))) (kU (by have:=(cw.mp (S t)).1;omega) (S t)) C) (zs [93] (di [']'])) C C) nofun) (by cases b<;>rfl)) eO) (zx (oY (τ:= .int ((k+b.toNat+e.toNat+(1+b.toNat):Y):aq)) F 2 C (by exact aX _ _) C (DR (b:=b) (oX (zv F 4 C C) C λw=>C) ((1+b.toNat:Y):aq) (by cases b<;>rfl)) (q4 (by exact C))) (eO)))))))
noncomputable def pX:U Y:= [40,41,91,93,123,125,63,42,43,45,124,94,36,92,46,38,126,35,32,9,10,13,11,12]
noncomputable def jr(a:Y):U Y:=if a∈pX then [92,a]else [a]
noncomputable def dW(a:Y):U Y:=if a∈ [42,63,91]then(if a=91 then [91,92,91,93]else [91,a,93])else jr a
noncomputable def wh:U Y:= [40,63,115,58]
noncomputable def sR:U Y:= [41,92,90]
noncomputable def hU(s:U Y):U Y:=wh++ [46,42]++(s.map dW).flatten++sR
theorem i6{B:Type}{l u H i:U B}(m:Y)(h:l=u++(H++i))(G:m<H.length):l[u.length+m]?=H[m]?:=by
 subst h;rw [l8 (e5 _ _),EN,l7 G]
theorem QC(F:Fm c.env sT 5 zo){l word Q u:U Y}(h:l=u++(dW a++i))(g:l.length<=100000)(A:Q.length<=100000):
  ∃k,EX c sT 5 [.t (.str l), .t (.str word), .t (.int u.length), .t (.str Q),br] (jD (dD 1 (cQ (bj 25)))) [.t (.str l), .t (.str word), .t (.int (u++dW a).length), .t (.str (Q++ [a])),k] .next:=by
 by_cases H:a∈ [42,63,91]
 .by_cases b:a=91
  .have e:dW a= [91,92,91,93]:=by unfold dW;rw [bB H,bB b]
   rw [e]at h⊢;refine⟨.t (.bool aa),?_⟩;have:=yu F (word:=word) (k:=u.length) (a:=a) (b:=aa) (e:=aa) (br:=br)
    (i6 0 h (c3 _)) C (nofun) (i6 1 h (aX _ _)) C (by rw [b];exact i6 2 h (e5 _ _)) (λw=>i6 3 h (cY _)) g A
   exact ic.symm▸this
  .have e:dW a= [91,a,93]:=by unfold dW;rw [bB H,bF b]
   rw [e]at h⊢;refine⟨.t (.bool aa),?_⟩;have x:(a==92)=aA:=by
    simp only [cC,gM,or_false]at H;rcases H with rfl|rfl|rfl<;>rfl
   have:=yu F (word:=word) (k:=u.length) (b:=aa) (br:=br)
    (i6 0 h (c3 _)) C (nofun) (i6 1 h (e5 _ _)) x (i6 1 h (e5 _ _)) (λw=>i6 2 h (cY _)) g A
   exact ic.symm▸this
 .by_cases P:a∈pX
  .have e:dW a= [92,a]:=by unfold dW jr;rw [bF H,bB P]
   rw [e]at h⊢;refine⟨.t (.bool aA),?_⟩;have:=yu F (word:=word) (k:=u.length) (b:=aA) (e:=aa) (br:=br)
    (i6 0 h (c3 _)) C (nofun) (i6 0 h (c3 _)) C (i6 1 h (cY _)) nofun g A
   exact ic.symm▸this
  .have e:dW a= [a]:=by unfold dW jr;rw [bF H,bF P]
   rw [e]at h⊢;refine⟨.t (.bool aA),?_⟩;simp only [pX,cC,gM,or_false,not_or]at P;have:=yu F (word:=word) (k:=u.length) (b:=aA) (e:=aA) (br:=br)
    (i6 0 h (by simp)) (by simp [P]) (by simp [P]) (i6 0 h (by simp)) (by simp [P]) (i6 0 h (by simp)) nofun g A
   exact ic.symm▸this
theorem QB(F:Fm c.env sT 5 zo)(g:text.length<=100000):∀(s u Q:U Y)(e:AV t),text=u++((s.map dW).flatten++sR)->Q.length+s.length<=100000->
  ∃k,EW c sT 5 (kr (dD 1 (cQ (bj 25)))) (jD (dD 1 (cQ (bj 25)))) [] s.length [.t (.str text), .t (.str i), .t (.int u.length), .t (.str Q),e] [.t (.str text), .t (.str i), .t (.int (text.length-3:Y)), .t (.str (Q++s)),k] .next:=λf=>f.rec
 (λu Q e h A=>by
  have B:text.length=u.length+3:=by rw [h];exact ic
  refine⟨e,?_⟩;rw [show text.length-3=u.length by exact fV (cF 0 (.v 2) (.v 1) (.v 0) (.a (.v 1) (.n 3)) (.a (.v 2) (.n 3)) (.v 0) C [_,_,_] ((c4 B)) ((lM (bL 0 (.n 3) (.v 0) (.a (.v 1) (.n 3)) (.v 0) C [_,_] ((dG B)))))) (cF 0 (.v 1) (.v 2) (.a (.v 1) (.n 3)) (.v 0) (.v 0) (.a (.v 2) (.n 3)) C [_,_,_] ((dG B)) nE),rg]
  exact lZ (zC (zv F 2 C C) (dI (Am F 5 C (zv F 0 C C) (dM (bh g (bx C))) C) (zi 3) C) (m4 (decide_eq_false (by omega))) C) eO)
 (λa s X u Q e h A=>by
  rw [gw]at A;have L:text=u++(dW a++((s.map dW).flatten++sR)):=by rw [h];simp
  refine bZ (QC F (word:=i) (br:=e) L g (bL 0 (.v 0) (.n 100000) (.a (.v 0) (.a (.v 1) (.n 1))) (.n 100000) C [_,_] A)) λb l=>bZ (X (u++dW a) (Q++ [a]) b (by rw [L];exact(vt _ _ _).symm) (by simp;exact bL 0 (.a (.a (.v 0) (.n 1)) (.v 1)) (.n 100000) (.a (.v 0) (.a (.v 1) (.n 1))) (.n 100000) C [_,_] A)) λn x=>?_;have B:u.length+4<=text.length:=by
   rw [L];simp [sR];have:1<=(dW a).length:=by unfold dW jr;split<;>split<;>exact c3 _
   exact bL 0 (.n 4) (.a (.v 0) (.a (.v 1) (.n 3))) (.n 1) (.v 0) C [_,_] this
  exact⟨n,((show Q++a::s=(Q++ [a])++s by simp).symm▸(lX (zC (zv F 2 C C) (dI (Am F 5 C (zv F 0 C C) (dM (bh g (bx C))) C) (zi 3) C) (m4 (decide_eq_true (by omega))) C) l x))⟩)
end
section
variable{y:Ly O}
theorem GK(a:Y):(dW a).length<=4:=by unfold dW jr;split<;>split<;>simp
theorem Lm(s:U Y):(hU s).length<=4*s.length+9:=by
 have:=yD dW 4 s λa w=>GK a;simp only [hU,ic,tF];exact bL 0 (.a (.a (.a (.a (.a (.a (.a (.n 0) (.n 1)) (.n 1)) (.n 1)) (.n 1)) (.a (.a (.n 0) (.n 1)) (.n 1))) (.v 0)) (.a (.a (.a (.n 0) (.n 1)) (.n 1)) (.n 1))) (.a (.m 4 (.v 1)) (.n 9)) (.v 0) (.m 4 (.v 1)) C [_,_] this
theorem XI(k:y.D "_law_ends" 25)(s i:U Y)(P:s.length<=1000)(x:i.length<=1000):y.F (u+1) "_law_ends" [.str (hU s), .str i] (.bool (mL i s)):=by
 refine y.fn 25 sT zo k C (C) (C) (dP C) (λd code j=>vP λa b=>C) λh e T p F=>?_;have g:=Lm s;obtain⟨l,B⟩:=QB (c:=y.c h e T u p) F (text:=hU s) (by omega) s (wh++ [46,42]) [] .un (C) (by simp;exact bh P (bx C))
 refine⟨_,zx (LP F 2 3 C (dP C) C (e5 _ _) (zr (zi 6) (zr (zs [] (di [])) cj C) C) C) (zx (l5 B) (gU (h8 (DY
  (xg (dI (jV (zv F 0 C C) kZ (ji (zi 6)) (pV (r:=wh++ [46,42]) (by omega) (by rw [show(6)=((6:Y):aq)from C,oq];exact C)))
   (jV (zv F 0 C C) (ji (An (zi 3))) kZ (pV (r:=sR) (by omega) ?_)) C) (zs [40,63,115,58,46,42,41,92,90] (di ['(','?','s',':','.','*',')','\\','Z'])) C C) (YJ (zv F 1 C C) (zv F 3 C C) C C C)))))⟩
 rw [show(3:aq)=((3:Y))from C,PG _ _ (by exact c3 _)];have:(hU s).length-3=(wh++ [46,42]++(s.map dW).flatten).length:=by simp only [hU,ic];simp [sR]
 rw [this];unfold hU;exact List.drop_left
end
section
set_option tactic.hygienic true
section
theorem Vq{w:bV t}(d:Den B f k (.tup l))(P:dh l.length=aa):PO w (model i X) F B (call (.builtin "len") [k]) f (.int l.length):=by
 obtain⟨a,y,u,p,z,rfl⟩:=d.inv;refine PO.give λs Q G r O=>PyProof.Rows.len_tuple (uz r.bC p) ?_ ?_
 .have:=w4 P;simpa [z.length]using this
 .have e:y.toArray.size=l.length:=by simp [z.length]
  exact e.symm▸(O _ _ (.int _ _))
theorem L1(F:Fm c.env n k r)(m:Y)(G:r[m]?=J (("len":af), .globalImplicit))(h:EE c n k g e u (.tup l))(a:dh l.length=aa)(P:dj e=aa):EE c n k g (.Call (.Name "len" p) [e] [] b) u (.int l.length):=
 oZ F m 0 G C (zr h cj P) (by simp [P]) λf y d=>by refine aG d.iy λv A q=>?_;subst A;exact Vq q a
end
theorem OP{w:bV Ob}{b:ck}{X:b4}(B:dh j.length=aa)(h:∀H v rest,bindArgs f ⟨H::v::rest, []⟩=newTuple rest>>=λE=>pure (eI n [H,v,E])):Binds w b X f n (a::j) [a, .tup j]:=by
 intro F k H y t s Q G u i z O;obtain⟨v,y,rfl,d,z⟩:=z.iO (P:=λA=>∃v T,A=v::T/\Den _ _ v _/\aY _ _ T _) λv T x l=>⟨v,T,C,x,l⟩;rw [h];refine aF (wpAny_newTuple ?_ (by rw [z.length];exact kj B));have P:=b5.push i (q7 y 0) s.toks C;exact bP (O _ _ [v, .ref s.heap.objs.size] P (.cons (d.mono P.le) (.one (.tup (bB C) (z.mono P.le)))) λo q e=>eF _ e)
section
variable{y:Ly Ob}{f fH:ak}{al:U AN}
theorem C6{l R:U AN}(a:uP i X L (.bX Q l r x b) H h O)(E:uP i X L (.bX Q R t g A) c h' uh):c=H:=by
 obtain⟨G,s,k⟩:∃G:SG,G.abs= .bX Q l r x b/\dQ i X L 0 G H h O:=a;obtain⟨y,B,e⟩:∃G:SG,G.abs= .bX Q R t g A/\dQ i X L 0 G c h' uh:=E;rw [k.v,e.v,(by injection s:G.self=Q),(by injection B:y.self=Q)]
noncomputable def CE:U (af×dU):= [("self", .local),("node", .local),("predecessors", .local),("nodeinfo", .local),("pred", .local),("pred_info", .local),("ValueError", .globalImplicit),("len", .globalImplicit)]
noncomputable def m8:U af:= ["self", "node", "predecessors", "nodeinfo", "pred", "pred_info"]
noncomputable def om(i:Y)(b:U cf):aS cf:=dD i b
theorem CC(h:a∈fJ A l):a∈A\/a=(l,0, []):=by
 unfold fJ at h
 split at h
 .exact .inl h
 .rcases fb.mp h with h|h
  .exact .inl h
  .exact .inr (cI.mp h)
theorem TZ(h:a∈iU A l s):∃b∈A,a.2.2.length<=b.2.2.length+1:=by
 refine aG (eZ.mp h) λb t x=>?_;subst x;refine⟨b,t,?_⟩
 split<;>simp
theorem TY(h:a∈kT A l d):∃b∈A,a.2.2.length=b.2.2.length:=by
 refine aG (eZ.mp h) λb t x=>?_;subst x;refine⟨b,t,?_⟩
 split<;>rfl
set_option maxHeartbeats 1000000
theorem Od(l:bH c.B c.prog c.w L)(F:Fm c.env m8 m8.length CE)(aB:(("_get_nodeinfo":af),fH)∈L.fs)(az:∀{i},bN c.B.bI i->i.get? fH=J aC)(aE:aC.data= .func bg)
  (aj:∀(G:SG)(b:U Y),G.bJ.length<=1000->eR c.B c.prog c.w c.n (.ref fH) (.bS 0 G) [.str b] λn r=>∃y m T,n5 G b y m T/\y.self=G.self/\n= .bS 0 y/\r= .bO (.ref T.i))
  (O p:U Y)(A:U AN)(aU:A.length<=950)(ah:∀a∈A,a.2.2.length<=950):
  EX c m8 m8.length [.obj (.bX Q A ae w u), .t (.str O), .t g,o, .t (.str p), .un] (fY (om 3 (cQ (e7 16 2)))) [.obj (.bX Q (iU (fJ A p) p O) ae w u), .t (.str O), .t g,o, .un, .un] .next:=by
 refine LL l 0 C C λG aK aL=>?_;obtain⟨aO,H,z,E,B⟩:G.self=Q/\G.al=A/\G.cJ=ae/\G.po=w/\G.fi=u:=by
  injection aK with a P R e f
  exact⟨a,P,by simpa using R,e,f⟩
 refine XP.ex (Φ:=λS j=>∃y,y.abs= .bX Q (iU (fJ A p) p O) ae w u/\(∃a,S= [.obj (.bS 0 y), .t (.str O), .t g,o, .t (.str p), .t (.bO a)])/\j= .next) ?_ λS bq X=>?_
 .refine Aq (L7 l F 0 5 C C aB (nofun) az aE (zr (zv F 4 C C) cj C) C (aj G p (cF 0 (.v 1) (.n 1000) (.v 0) (.n 950) (.v 1) (.v 0) C [_,_] aU ((c4 (by rw [<-H];simp [SG.al]:G.bJ.length=A.length))))) C (dP C) C C (dP C) C) λaV j X=>iD X λn r x v aD=>oA x λy m T h aZ ai ao=>?_;subst ai ao v aD;refine .inl ⟨C,(dK (UY c.prog c.w L (l:=O) h.at_) λX aW aH au=>?_)⟩;have s:=h.al;have d:=h.same;have aJ:T.succ.length<=1000:=by
   have k:(T.key,T.np,T.succ)∈y.al:=eZ.mpr ⟨T,cA h.at_,C⟩;rw [s,H]at k;rcases CC k with q|q
   .have:=ah _ q;dsimp only at this;exact bh this (bx C)
   .injection q with _ q;injection q with _ q;rw [q];exact mh _
  refine o6 (L5 l 0 C (sZ l (zZ l (i:=0) C C (mh _) (cA h.at_)) (zv F 5 C C) .su C) C (zv F 1 C C) C aH au ⟨C,C,Io h.at_⟩ aJ C C C) (Mr ⟨y.ap m T O,?_,⟨_,C⟩,C⟩);rw [SG.abs_eq,Oe (h.kn aL) h.at_,s,H,h.key];show Ob.bX y.self _ (y.cJ.map λ_=>y.rl) y.po y.fi=_;rw [d.1,d.2.1,d.2.2.2.1,d.2.2.2.2,aO,z,E,B];rfl
 .refine jq X λy e x v=>bZ x λa t=>?_;subst t v;refine⟨?_,C⟩;have:=Ac l y;rw [e]at this;exact er this (er (gA _) (er (gA _) (er (gA _) (er (nH _) (er (nH _) (pY _))))))
theorem EX.pre{g lv' u:U (AV Ob)}{st:U cf}(h:EX c n k lv' st u j)(q:n8 c.B g lv'):EX c n k g st u j:=⟨λA f s Q G a S d=>h.1 A f s Q G a (S.wk q) d⟩
theorem Tu(A:U AN)(p s:U Y):(iU (fJ A p) p s).length<=A.length+1:=by rw [Tt];exact IB A p
theorem Xe{H:Y}(h:∀a∈A,a.2.2.length<=H):∀a∈iU (fJ A p) p s,a.2.2.length<=H+1:=λa r=>by
 refine aG (TZ r) λb t q=>?_;rcases CC t with t|rfl
 .have:=h b t;exact cF 0 (.v 0) (.a (.v 2) (.n 1)) (.v 0) (.a (.v 1) (.n 1)) (.v 1) (.v 2) C [_,_,_] q this
 .simp at q;exact bL 0 (.v 0) (.a (.v 1) (.n 1)) (.v 0) (.n 1) C [_,_] q
theorem Oa(e:bH c.B c.prog c.w L)(F:Fm c.env m8 m8.length CE)(n:(("_get_nodeinfo":af),fH)∈L.fs)(s:∀{h},bN c.B.bI h->h.get? fH=J z)(k:z.data= .func q)
  (i:∀(G:SG)(l:U Y),G.bJ.length<=1000->eR c.B c.prog c.w c.n (.ref fH) (.bS 0 G) [.str l] λt j=>∃y m T,n5 G l y m T/\y.self=G.self/\t= .bS 0 y/\j= .bO (.ref T.i))
  (O:U Y):∀(u:U (U Y))(A:U AN)(H:Y),A.length+u.length<=950->(∀a∈A,a.2.2.length<=H)->H+u.length<=950->
   j6 c m8 m8.length (qM (om 3 (cQ (e7 16 2)))) (fY (om 3 (cQ (e7 16 2)))) (u.map .str) [.obj (.bX Q A ae x b), .t (.str O), .t g,o, .un, .un] [.obj (.bX Q (u.foldl (λA p=>iU (fJ A p) p O) A) ae x b), .t (.str O), .t g,o, .un, .un] .next:=λf=>f.rec
 (λA H w w w=>jh)
 (λp u X A H R E S=>by
  simp only [gw]at R S
  exact fO (eJ F 4 C (e5 _ _)) (Od e F n s k i O p A (bL 0 (.v 0) (.n 950) (.a (.v 0) (.a (.v 1) (.n 1))) (.n 950) C [_,_] R) λa r=>by have:=E a r;exact cF 0 (.v 2) (.n 950) (.a (.v 1) (.a (.v 0) (.n 1))) (.n 950) (.v 2) (.v 1) C [_,_,_] S this) (X (iU (fJ A p) p O) (H+1) (cF 0 (.a (.v 2) (.v 1)) (.n 950) (.a (.v 0) (.a (.v 1) (.n 1))) (.n 950) (.v 2) (.a (.v 0) (.n 1)) C [_,_,_] R (Tu A p O)) (Xe E) (bL 0 (.a (.a (.v 0) (.n 1)) (.v 1)) (.n 950) (.a (.v 0) (.a (.v 1) (.n 1))) (.n 950) C [_,_] S)))
set_option maxHeartbeats 1000000
theorem w_add(ah:bH y.B y.prog y.w L)(k:gO y.B f 16 2 cK t m8)(p:gO y.B fH 16 1 aW aU nJ)(o:gO y.B L.ni 14 1 cv bY sU)(aK:y.mg "_NodeInfo"=J (.ref L.N))(ai:(("_get_nodeinfo":af),fH)∈L.fs)
  (O:U Y)(h:U (U Y))(q:al.length+h.length<=900)(aC:∀a∈al,a.2.2.length+h.length<=900):
  eR y.B y.prog y.w (n+4) (.ref f) (.bX Q al ae w u) (.str O::h.map .str) λb r=>b= .bX Q (jM al O h) ae w u/\r= .none:=by
 refine qB y.G k.d (dP C) (OP (dM (by simp;exact bL 0 (.v 1) (.n 1000000) (.a (.v 0) (.v 1)) (.n 900) C [_,_] q)) λb7 v rest=>?_) (λX R ao=>?_) λ{az}g aB bD bK bW=>?_
 .refine(pD k.ar k.df _).trans ?_;cases rest<;>rfl
 .refine bR X λs cB=>?_;subst s;rw [ah.ob]at R ao;exact C6 R ao
 .have F:Fm (callEnvC t aB f) m8 m8.length CE:=jQ (C) (by show t.scope.names=_;exact aQ _ k.sc)
  let c:=(y.up az g).c bD bK (callEnvC t aB f) (n+3) bW
  have z:bH c.B c.prog c.w L:=ah.up g;have x:gO (y.up az g).B fH 16 1 aW aU nJ:=⟨p.d.up g,p.ar,p.sc,p.df,p.kd⟩;refine XP.ev (c:=c) (XP.mono (Φ:=λS H=>S= [.obj (.bX Q (jM al O h) ae w u), .t (.str O), .t (.tup (h.map .str)), .un, .un, .un]/\H= .next) ?_ λS H X=>by refine bR X λs aZ=>?_;subst s aZ;exact⟨_,_,C, .inr ⟨C,C⟩,C,C⟩);refine EX.xp (LL z 0 C C λG aD aE=>?_) ⟨C,C⟩;obtain⟨aJ,aj,P,aL,aO⟩:G.self=Q/\G.al=al/\G.cJ=ae/\G.po=w/\G.fi=u:=by
   injection aD with a E aV l f
   exact⟨a,E,by simpa using aV,l,f⟩
  refine XP.ex (o6 (dF (b:=aA) (zC (jF z (jB z (i:=0) C C) (iW z F 0 C C) (.Kl P) C) zn C C) ⟨ik⟩) ?_) λS cE X=>X;have au:∀(G:SG)(j:U Y),G.bJ.length<=1000->eR c.B c.prog c.w c.n (.ref fH) (.bS 0 G) [.str j] λb r=>∃e m T,n5 G j e m T/\e.self=G.self/\b= .bS 0 e/\r= .bO (.ref T.i):=
   λG j bg=>XM z x (⟨o.d.up g,o.ar,o.sc,o.df,o.kd⟩) aK bg
  refine Aq (L7 z F 0 3 C C ai (nofun) x.d.ho x.d.hd (zr (zv F 1 C C) cj C) C (au G O (cF 0 (.v 2) (.n 1000) (.a (.v 0) (.v 1)) (.n 900) (.v 2) (.v 0) C [_,_,_] q ((c4 (by rw [<-aj];simp [SG.al]:G.bJ.length=al.length))))) C (dP C) C C (dP C) C) λcz H X=>iD X λb r aH bz bA=>oA aH λe m T i b_ bq bM=>?_;subst bq bM bz bA;refine .inl ⟨C,?_⟩;have d:=i.same;refine o6 (L_ (n:=T.np+h.length) z 0 C (zv F 3 C C) C (mh _) i.at_ (L1 F 7 C (zv F 2 C C) (dM (by simp;exact bL 0 (.v 1) (.n 1000000) (.a (.v 0) (.v 1)) (.n 900) C [_,_] q)) C) C (by rw [cH];rfl)) (EX.xp (fl:= .next) (EX.pre (lv':= [.obj (.bX Q (kT (fJ al O) O h.length) ae w u), .t (.str O), .t (.tup (h.map .str)), .t (.bO (.ref T.i)), .un, .un]) (zx (iV (DV (zv F 2 C C)) (Oa z F ai x.d.ho x.d.hd au O h (kT (fJ al O) O h.length) (900-h.length) ?_ ?_ (bh ((lM (bL 0 (.v 1) (.n 900) (.a (.v 0) (.v 1)) (.n 900) C [_,_] q))) (bx C))) C C) ⟨ik⟩) ?_) ⟨?_,C⟩)
  .rw [Tr];have:=IB al O;exact cF 0 (.a (.v 2) (.v 1)) (.n 950) (.a (.v 0) (.v 1)) (.n 900) (.v 2) (.a (.v 0) (.n 1)) C [_,_,_] q this
  .intro a bQ;refine aG (TY bQ) λE A B=>?_;rcases CC A with A|rfl
   .have:=aC E A;exact ki 0 (.v 0) (.v 3) (.v 0) (.v 1) (.a (.v 1) (.v 2)) (.n 900) (.n 900) (.a (.v 3) (.v 2)) C [_,_,_,_] ((c4 B)) this nE
   .exact bL 0 (.v 0) (.v 1) (.v 0) (.n 0) C [_,_] ((c4 (B)))
  .have l:(e.np m T (T.np+h.length)).abs= .bX Q (kT (fJ al O) O h.length) ae w u:=by
    rw [SG.abs_eq,Of (i.kn aE) i.at_,i.al,aj,i.key];show Ob.bX e.self _ (e.cJ.map λ_=>e.rl) e.po e.fi=_;rw [d.1,d.2.1,d.2.2.2.1,d.2.2.2.2,aJ,P,aL,aO];rfl
   have:=Ac z (e.np m T (T.np+h.length));rw [l]at this;exact er this (pY _)
  .exact er (gA _) (er (gA _) (er (gA _) (er (nH _) (pY _))))
end
end
noncomputable def SG.gj(G:SG)(p:U Y)(v:aq):SG:={G with bJ:=G.bJ.map λT=>if T.key=p then{T with np:=v}else T}
noncomputable def sx(A:U AN)(l:U Y)(v:aq):U AN:=A.map λa=>if a.1=l then(a.1,v,a.2.2)else a
section
variable{i:Y}{G:SG}
theorem Jb(g:G.kn)(a:G.bJ[m]?=J nd):G.np m nd v=G.gj nd.key v:=by
 unfold SG.np SG.gj
 congr 1
 refine dK (oS a) λF w x B=>?_;rw [B];unfold SG.kn at g;rw [x]at g⊢;simp only [ej,iA]at g⊢;refine fF (gm.mp g) λb c l=>?_;have i:F.map (λh=>if h.key=nd.key then{h with np:=v}else h)=F:=by
  conv=>rhs;rw [<-xB F]
  exact iZ λu e=>by rw [bF λq=>l u.key (gE e) nd.key (.head _) q];rfl
 have A:w.map (λh=>if h.key=nd.key then{h with np:=v}else h)=w:=by
  conv=>rhs;rw [<-xB w]
  exact iZ λu e=>by rw [bF λq=>(l9.mp c).1 (by rw [<-q];exact gE e)];rfl
 rw [i,A,bB trivial]
theorem Co{p:U Y}(g:G.kn):(G.gj p v).kn:=by
 unfold SG.kn SG.gj at*;rw [d_];have:((λx=>x.key)∘λT:Nd=>if T.key=p then{T with np:=v}else T)=λT=>T.key:=by funext T;simp only [xq];split<;>rfl
 exact this.symm▸g
theorem Ig{p:U Y}(h:∃T∈G.bJ,T.key=r):∃T∈(G.gj p v).bJ,T.key=r:=by
 refine aG h λT a e=>(aM (if T.key=p then{T with np:=v}else T) (eZ.mpr (aM T a C)) ?_)
 split<;>exact e
theorem FA{p:U Y}:(G.gj p v).al=sx G.al p v:=by
 unfold SG.al SG.gj sx;rw [d_,d_];refine iZ λT w=>?_;simp only [xq]
 split<;>rfl
theorem Aj{c:Cx t}{k:Y}{g:U (AV t)}(F:Fm c.env n k r)(m:Y)(G:r[m]?=J (x, .globalImplicit))(h:c.mg x=J v)(q:∀B f,Den B f v L):EE c n k g (.Name x p) g L:=
 ⟨λA f s Q e S O=>pN c.G S.1 S.ready.base (F.kn m G nofun) h (F.kg m G) (O s f v (bU.refl s) (Le.refl _) S (q _ _))⟩
noncomputable def rN(c:Cx Ob)(n:U af)(k:Y)(g:U (AV Ob))(a:ak)(s:U (U Y)):Prop:=qw c n k g λh=>∃o,h.get? a=J o/\fe s o
theorem KJ(l:bH c.B c.prog c.w L)(j:n[i]?=J x)(B:g[i]?=J (.obj (.bS q G)))(H:G.cJ=J a):rN c n k g a G.rl:=λA f h R e S=>
 (g9 l S j B).2.ob.dH (a,fe G.rl) (lQ (by simp [fq,H]))
theorem YU(F:Fm c.env n k H)(m:Y)(G:H[m]?=J (("tuple":af), .globalImplicit))(Q:EE c n k g e u (.bO (.ref aK)))(d:rN c n k u aK s)(j:s.length<=1000)(P:dj e=aa):
  EE c n k g (.Call (.Name "tuple" p) [e] [] aL) u (.tup (s.map .str)):=by
 constructor;intro bg bz aO aW aZ S O;have a:∀B∈ [e],∀x p,B≠ .Starred x p:=λB t=>by rw [cI.mp t];exact gq P
 refine bR (c.bi 13 "tuple" (.type "tuple") C) λo R=>kG (mV c.G S.1 S.ready.base (F.kn m G nofun) o R (F.kg m G) (E2 (jS [e] a) (jm a (pH Q.1 kM (gq P)) S λr w h E X A z=>?_)));obtain⟨v,h,rfl,ah,z⟩:=z.iO (P:=λai=>∃v T,ai=v::T/\Den _ _ v _/\aY _ _ T _) λv T x aj=>⟨v,T,C,x,aj⟩;obtain rfl:=z.g6 C;obtain rfl:=ah.inv;refine cps λbq ao=>?_;obtain⟨au,az,L,y⟩:=A;refine aG (d _ _ _ _ _ y) λaV aC aD=>?_;obtain⟨h,aE,rfl,b⟩:=aD;refine ao (call_tuple_list (i12 _ aC C ⟨aE,C⟩) (λaU aB=>?_) (by rw [l_,jG,((b.ou (ρ:=c.ρ) (fz:=w)).length)];simp;exact bh j (bx C)));have i:=b5.keeps (t:=r.toks) y.ready aB;have l:=y.step i;exact(l.ready).tup (b.ou) λaJ aH v f q=>O aJ aH v (E.trans (i.same.trans f.same)) (X.trans f.le) ⟨au,az,L,l.step f⟩ q
theorem YQ(l:bH c.B c.prog c.w L)(i:Y)(j:n[i]?=J aU)(Q:EE c n g ao o u (.bO (.ref a)))(v:u[i]?=J (.obj (.bS q G)))
  (t:objs c.prog c.w L q G=X++(a,fe ls)::z)(E:objs c.prog c.w L q G'=X++(a,fe [])::z)(O:G'.self=G.self/\G'.D=G.D/\cM G'=cM G)(aE:ls.length<=1000)
  (aC:attributeBase o "clear" c.env (eval o c.env)=eval o c.env)(aH:(m.endLine==b.line)=aa):
  ES c n g ao (.Expr (.Call (.Attribute o "clear" m) [] [] b) aL) (u.set i (.obj (.bS q G'))) .next:=by
 constructor;intro A k p aK bq bz S H;refine rB (qq aC (vo _) aH MB F.slot_list_clear F.type_list_clear (Q.1 A k p _ _ S λh w aZ B T R ah=>?_)) (by unfold interactive;exact S.1.kind.symm▸C) C;obtain rfl:=ah.inv;obtain⟨ai,s,aO,e⟩:=R;refine bR (g9 l e j v) λaW d=>aG (d.ob.dH (a,fe ls) (by rw [t];simp)) λbg r au=>?_;obtain⟨az,aB,rfl,aj⟩:=au;dsimp only at r;have dl:=(aj.ou (ρ:=c.ρ) (fz:=w)).length;refine(cR (aM _ r C) (λaV aD=>by obtain rfl:=jZ aD;exact(aM _ r C)) (PySem.P.clear_list r ?_ (by rw [l_,jG,dl];simp;exact bh aE (bx C))));have y:∃f,(h.heap.update a (kE λx=>#[])).get? a=J (lo [] f):=by
  obtain⟨f,aJ⟩:∃f,kE (λx=>#[]) (lo az aB)=lo [] f:=⟨_,C⟩;exact⟨f,by rw [nQ _ r (C),aJ]⟩
 refine bZ y λf y=>?_;have P:gk a h.heap (h.heap.update a (kE λx=>#[])):=nf ..;refine H _ w .next (B.trans (cu _ _ C)) T ⟨ai,s,_,z5 l e j v ?_ P O.1 ⟨C,by rw [O.2.1];exact d.sm,by rw [O.2.2];exact d.nd,d.ob.upd t E P y (eV _ _ C (.nil))⟩⟩ trivial
 rw [d.ob.ad,t];simp
end
section
variable{y:Ly Ob}{f:ak}{al:U AN}
theorem J2(i:ck)(X:b4)(L:Cl)(q:Y)(H:G.cJ=J a)(e:U (U Y)):∃h p,objs i X L q G=h++(a,fe G.rl)::p/\objs i X L q {G with rl:=e}=h++(a,fe e)::p:=by
 obtain⟨F,d,k,b,rl,w,u,bJ⟩:=G;dsimp only at H;subst H
 match q with
 |0=>exact(eV ([(F,λo=>o=instObj L.a_ d),(d,gT ⟨F,d,k,J a,rl,w,u,bJ⟩)]) (fK L.N ⟨F,d,k,J a,rl,w,u,bJ⟩++f9 i X ⟨F,d,k,J a,rl,w,u,bJ⟩) (C) C)
 |1=>exact(eV ([(F,λo=>o=instObj L.a_ d),(d,gT ⟨F,d,k,J a,rl,w,u,bJ⟩)]) (fK L.N ⟨F,d,k,J a,rl,w,u,bJ⟩) C C)
 |x+2=>exact(eV ([(F,λo=>o=instObj L.a_ d),(d,gT ⟨F,d,k,J a,rl,w,u,bJ⟩)]) ([]) C C)
theorem Kf(l:bH c.B c.prog c.w L)(i:Y){st:U cf}(j:n[i]?=J t)(B:g[i]?=J (.obj (.bX Q al P w u)))(h:∀G:SG,G.abs= .bX Q al P w u->G.kn->XP c n k (g.set i (.obj (.bS 0 G))) st Φ):XP c n k g st Φ:=
 ⟨λA f s a e x S d=>jq (KY l S j B) λG b o S=>(h G b o).1 A f s a e x S d⟩
noncomputable def I1:U (af×dU):= [("self", .local),("result", .local),("n2i", .local),("node", .local),("ValueError", .globalImplicit),("tuple", .globalImplicit),("_NODE_OUT", .globalImplicit),("len", .globalImplicit)]
noncomputable def q8:U af:= ["self", "result", "n2i", "node"]
noncomputable def jb(G:SG)(u:U (U Y)):SG:=u.foldl (λG p=>G.gj p (-1)) G
noncomputable def jy(A:U AN)(u:U (U Y)):U AN:=u.foldl (λA p=>sx A p (-1)) A
theorem Og:∀(u:U (U Y))(G:SG),(jb G u).al=jy G.al u:=λf=>f.rec
 (λw=>C)
 (λp u X G=>by show(jb (G.gj p (-1)) u).al=jy (sx G.al p (-1)) u;rw [X,FA])
theorem Wr:∀(u:U (U Y))(G:SG),(jb G u).self=G.self/\(jb G u).D=G.D/\(jb G u).cJ=G.cJ/\(jb G u).rl=G.rl/\(jb G u).po=G.po/\(jb G u).fi=G.fi:=λf=>f.rec
 (λw=>(wo C C C C C C))
 (λp u X G=>X (G.gj p (-1)))
set_option maxHeartbeats 1000000
theorem U9(l:bH c.B c.prog c.w L)(F:Fm c.env q8 q8.length I1)(z:c.mg "_NODE_OUT"=J (.int (-1) e)):∀(u:U (U Y))(G:SG),G.kn->(∀p∈u,∃T∈G.bJ,T.key=p)->
  j6 c q8 q8.length (qM (om 3 (cQ (e7 16 4)))) (fY (om 3 (cQ (e7 16 4)))) (u.map .str) [.obj (.bS 0 G), .t i, .t (.bO (.ref G.D)), .un] [.obj (.bS 0 (jb G u)), .t i, .t (.bO (.ref G.D)), .un] .next:=λf=>f.rec
 (λG w w=>jh)
 (λp u X G o H=>by
  refine aG (H _ ee) λT v x=>?_;subst x;refine bZ (o8 v) λm h=>fO (cU:= [.obj (.bS 0 (G.gj T.key (-1))), .t i, .t (.bO (.ref G.D)), .un]) (eJ F 3 C (cY _)) ?_ ?_
  .exact EX.wk (zx (Md l 0 C (Aj F 6 C z λw w=> .int _ _) (DQ (C8 l (i:=0) C C) (zv F 2 C C) (zv F 3 C C) h C) C (mh _) h C) ⟨ik⟩) ((Jb o h).symm▸(er (gA _) (er (gA _) (er (gA _) (er (nH _) (pY _))))))
  .exact X (G.gj T.key (-1)) (Co o) λp B=>Ig (H p (dY _ B)))
theorem XN(l:bH y.B y.prog y.w L)(k:gO y.B f 16 4 bA h q8)(aU:y.mg "_NODE_OUT"=J (.int (-1) bg))(q:rl.length<=900)(B:∀p∈rl,∃a∈al,a.1=p):
  eR y.B y.prog y.w (aW+1) (.ref f) (.bX Q al (J rl) po u) [] λO ah=>O= .bX Q (jy al rl) (J []) (po+rl.length) u/\ah= .tup (rl.map .str):=by
 refine qB y.G k.d (dP C) (.plain λaz aE=>?_) (λX R E=>?_) λ{au}n A r aH aB=>?_
 .exact bind1 (λa=>(pD k.ar k.df _).trans C) az aE
 .refine bR X λs aL=>?_;subst s;rw [l.ob]at R E;exact C6 R E
 .have F:Fm (callEnvC h A f) q8 q8.length I1:=jQ (C) (by show h.scope.names=_;exact aQ _ k.sc)
  let c:=(y.up au n).c r aH (callEnvC h A f) aW aB
  have z:bH c.B c.prog c.w L:=l.up n;refine XP.ev (c:=c) (XP.mono (Φ:=λS j=>(∃b,S= [.obj (.bX Q (jy al rl) (J []) (po+rl.length) u), .t (.tup (rl.map .str)), .t (.bO b), .un])/\j= .ret (.tup (rl.map .str))) ?_ λS j X=>by refine bR X λs P=>?_;obtain⟨b,rfl⟩:=s;subst P;exact(lG _ _ C (.inl C) C C));refine Kf z 0 C C λG ai aj=>?_;obtain⟨a,ao,H,t,o,aC,w⟩:∃a,G.self=Q/\G.al=al/\G.cJ=J a/\G.rl=rl/\G.po=po/\G.fi=u:=by
   injection ai with a b d e f
   cases v:G.cJ with
   |none=>rw [v]at d;exact aT C d
   |some aJ=>rw [v]at d;exact(BX aJ a b C (bf d) e f)
  have aK:∀p∈G.rl,∃x∈G.bJ,x.key=p:=λp g=>by
   rw [o]at g;refine aG (B p g) λbq m e=>?_;rw [<-H]at m;refine aG (eZ.mp m) λx aV aO=>?_;subst aO;exact(aM x aV e)
  subst o;have i:=Wr G.rl G;refine dK (J2 c.prog c.w L 0 (by rw [i.2.2.1,t]) []) λX bz aZ aD=>o6 (dF (zC (jF z (jB z (i:=0) C C) (iW z F 0 C C) (.sI t) C) zn C C) ⟨ik⟩) (o6 (fu F 1 C (dP C) (YU F 5 C (jF z (jB z (i:=0) C C) (iW z F 0 C C) (.sI t) C) (KJ z (i:=0) C C t) (bh q (bx C)) C) C) (o6 (fu F 2 C (e5 _ _) (jF z (jB z (i:=0) (q:=0) C C) (iW z F 0 C C) .sq C) C) (o6 (iV (DV (zv F 1 C C)) (U9 z F aU G.rl G aj aK) C C) (o6 (YQ (G:=jb G G.rl) (G':={jb G G.rl with rl:= []}) (ls:=(jb G G.rl).rl) z 0 C (jF z (jB z (i:=0) (q:=0) C C) (iW z F 0 C C) (.sI (a:=a) (by rw [i.2.2.1,t])) C) C aZ aD (cR C C C) (by exact i.2.2.2.1.symm▸(bh q (bx C))) C C) (o6 (Mi (τ:= .int (G.po+G.rl.length)) z 0 C (iW z F 0 C C) C .po (L1 F 7 C (zv F 1 C C) (dM (by simp;exact bh q (bx C))) C) C (by rw [cH];show J (T.int ((jb G G.rl).po+_))=_;exact i.2.2.2.2.1.symm▸C) (.po _)) (XP.wk (EX.xp (Φ:=λS j=>S= [.obj (.bS 0 {jb G G.rl with rl:= [],po:=G.po+G.rl.length}), .t (.tup (G.rl.map .str)), .t (.bO (.ref G.D)), .un]/\j= .ret (.tup (G.rl.map .str))) ⟨rX (h8 (zv F 1 C C)).1 (by exact nofun)⟩ ⟨C,C⟩) ?_))))));rintro S j⟨rfl,rfl⟩;refine(i12 _ (er (Ac z _) (pY _)) ⟨.ref G.D,?_⟩ C);rw [SG.abs_eq];show [AV.obj (Ob.bX (jb G G.rl).self (jb G G.rl).al ((jb G G.rl).cJ.map λaL=> []) _ (jb G G.rl).fi),_,_,_]=_;rw [i.1,i.2.2.1,i.2.2.2.2.2,Og,ao,H,t,aC,w]
  rfl
end
theorem TU(l:ak)(n:j4 ay)(e:(n.size:aq)<2^63):
  Meets (Builtin.«bool.__new__» ⟨[.type "bool", .ref l], []⟩) (λw p s=>s.heap.IsList l n/\p (.ok (.ret (.bool (!n.isEmpty)))) {s with toks:=s.toks+1+1}):=
 Meets.of_wp λi X h p s P=>by
  obtain⟨H,a,d,R,os⟩:=s;refine bR P λB P=>?_;have G:=F.conv_sub_bool
  repeat(any_goals(first|assumption|(with_reducible refine wpAny_truthy_list B e ?_)|wp_step))
  all_goals first|exact(aM _ C P)|exact P|skip
theorem O2(B:s.heap.IsList l n)(e:(n.size:aq)<2^63)(h:Q (.bool (!n.isEmpty)) {s with toks:=s.toks+1+1}):
  wpAny (model i X) F (call (.type "bool") [.ref l]) Q G s:=
 call_bool_1 (TU l n e) ((cR B C h))
section
theorem YN(F:Fm c.env n k r)(m:Y)(G:r[m]?=J (("bool":af), .globalImplicit))(l:EE c n k g e u (.bO (.ref E)))(L:rN c n k u E s)(aE:s.length<=1000)(P:dj e=aa):
  EE c n k g (.Call (.Name "bool" p) [e] [] aD) u (.bool (!s.isEmpty)):=by
 constructor;intro aK aL aB aC aO S O;have i:∀B∈ [e],∀x p,B≠ .Starred x p:=λB t=>by rw [cI.mp t];exact gq P
 refine bR (c.bi 14 "bool" (.type "bool") C) λf R=>kG (mV c.G S.1 S.ready.base (F.kn m G nofun) f R (F.kg m G) (E2 (jS [e] i) (jm i (pH l.1 kM (gq P)) S λh w y q X H z=>?_)));obtain⟨v,y,rfl,d,z⟩:=z.iO (P:=λA=>∃v T,A=v::T/\Den _ _ v _/\aY _ _ T _) λv T x Q=>⟨v,T,C,x,Q⟩;obtain rfl:=z.g6 C;obtain rfl:=d.inv;refine cps λaJ o=>?_;obtain⟨ai,aj,ah,a⟩:=H;refine aG (L _ _ _ _ _ a) λaH au ao=>?_;obtain⟨y,az,rfl,b⟩:=ao;refine o ?_;have dl:=(b.ou (ρ:=c.ρ) (fz:=w)).length;rw [cH]at dl;refine O2 (i12 _ au C ⟨az,C⟩) (by rw [l_,dl];omega) ?_;have e:(!y.toArray.isEmpty)=!s.isEmpty:=by
  cases y<;>cases s<;>first|rfl|exact nomatch b
 rw [e];have j:b5 c.B w h w {h with toks:=h.toks+1+1}:=b5.tok a.ready _;exact O _ w _ (q.trans j.same) X ⟨ai,aj,ah,a⟩ (.bool _)
end
section
variable{y:Ly Ob}{f:ak}{al:U AN}
noncomputable def Up:U (af×dU):= [("self", .local),("ValueError", .globalImplicit),("bool", .globalImplicit)]
noncomputable def ve:U af:= ["self"]
set_option maxHeartbeats 1000000
theorem XO(l:bH y.B y.prog y.w L)(k:gO y.B f 16 5 ao e ve)(q:o.length<=900):
  eR y.B y.prog y.w (u+1) (.ref f) (.bX Q al (J o) po fi) [] λb T=>b= .bX Q al (J o) po fi/\T= .bool (decide (fi<po)||!o.isEmpty):=by
 refine qB y.G k.d (dP C) (.plain λi B=>?_) (λX R E=>?_) λ{P}n A s v p=>?_
 .exact bind1 (λa=>(pD k.ar k.df _).trans C) i B
 .obtain⟨rfl,_⟩:=X;rw [l.ob]at R E;exact C6 R E
 .have F:Fm (callEnvC e A f) ve ve.length Up:=jQ (C) (by show e.scope.names=_;exact aQ _ k.sc)
  let c:=(y.up P n).c s v (callEnvC e A f) u p
  have z:bH c.B c.prog c.w L:=l.up n;refine XP.ev (XP.mono (Φ:=λS j=>S= [.obj (.bX Q al (J o) po fi)]/\j= .ret (.bool (decide (fi<po)||!o.isEmpty))) (Kf z 0 C C λG O ai=>?_) λS j X=>by obtain⟨rfl,rfl⟩:=X;exact(lG _ _ C (.inl C) C C));obtain⟨a,aj,ah,t,r,x,m⟩:∃a,G.self=Q/\G.al=al/\G.cJ=J a/\G.rl=o/\G.po=po/\G.fi=fi:=by
   injection O with a w d H f
   cases h:G.cJ with
   |none=>rw [h]at d;exact aT C d
   |some g=>rw [h]at d;exact(BX g a w C (bf d) H f)
  subst r;refine o6 (dF (zC (jF z (jB z (i:=0) C C) (iW z F 0 C C) (.sI t) C) zn C C) ⟨ik⟩) (XP.wk (EX.xp (Φ:=λS j=>S= [.obj (.bS 0 G)]/\j= .ret (.bool (decide (fi<po)||!G.rl.isEmpty))) ⟨rX (ES.ev (h8 ?_)) (nofun)⟩ ⟨C,C⟩) ?_)
  .have R:EE c ve ve.length [.obj (.bS 0 G)] _ [.obj (.bS 0 G)] (.bool (decide (G.fi<G.po))):=xg (op:= .Lt) (p:=⟨168,15,168,49⟩) (jF (p:=⟨168,15,168,30⟩) z (jB z (i:=0) C C) (iW (p:=⟨168,15,168,19⟩) z F 0 C C) .fi C) (jF (p:=⟨168,33,168,49⟩) z (jB z (i:=0) (q:=0) C C) (iW (p:=⟨168,33,168,37⟩) z F 0 C C) .po C) C C
   by_cases h:fi<po
   .rw [decide_eq_true h,Bool.true_or];rw [m,x,decide_eq_true h]at R;exact Zc R
   .rw [decide_eq_false h,Bool.false_or];rw [m,x,decide_eq_false h]at R;exact Zb R (YN F 2 C (jF z (jB z (i:=0) (q:=0) C C) (iW z F 0 C C) (.sI t) C) (KJ z (i:=0) C C t) (bh q (bx C)) C)
  .rintro S j⟨rfl,rfl⟩;refine(i12 _ (er (Ac z _) (pY _)) ?_ C);rw [O]
end
section
variable{c:Cx Ob}{j:Y}{G:SG}
theorem YD(l:EE c aE ao u i F (.bO (.ref a)))(r:c.B.bI.get? a=J (lo y au))(g:gX y s):EI aa c aE ao u i F (s.map .str):=by
 constructor;intro A X x Q G S O;refine l.1 A X x _ _ S λh w v ah ai e aB=>?_;obtain rfl:=aB.inv;have E:=e.ready.base _ _ r;have L:h.heap.IsList a y.toArray:=(i12 _ E C ⟨au,C⟩);have z:aY c.ρ w y (s.map .str):=g.ou;have H:=z.length;refine NF L ?_;have P:=b5.gR (e.ready) {cls:= .type "list_iterator",data:= .fields #[.ref a, .int 0 0]} h.toks;obtain⟨d,p,R,j⟩:=e;have o:=eM E;have q:=Walks.list (prog:=c.prog) (w:=c.w) c.R.handled h.heap.objs.size a (fW o) y.toArray;rw [show y.toArray.size=(s.map T.str).length from H]at q;refine O _ w _ _ _ _ _ p R (ah.trans P.same) ai d (j.step P) q (λn v m=>?_) ⟨(i12 _ (eY _ C) C C),L.at λaj i=>eF _ i⟩ (λb t=>?_) (λb t=>?_) (λb t=>?_) (λn l st b t=>by rw [cI.mp t];refine bR st λaz aJ=>?_;obtain⟨aj,aC,_⟩:=az;exact cS aC) ?_
 .have m:=by simpa using m
  have f:=H▸(cw.mp m).1;refine aG (z.get (cP f)) λaH B aD=>?_;rw [m]at B;exact bf B▸((aM _ (cP f) aD))
 .rw [cI.mp t];exact⟨j.free (ir h),aQ _ (eY _ C)⟩
 .rcases cC.mp t with rfl|t
  .exact .inl (.head _)
  .rw [cI.mp t];right;right;exact cS r
 .show b<(h.heap.push _).objs.size;rw [jX];rcases cC.mp t with rfl|t
  .exact cY _
  .rw [cI.mp t];exact ql o
 .intro _ n x aK aL aO v Q G st k;cases v with
  |ref T=>exact aaX st.1 k
  |_=>exact bP k
noncomputable def SG.gy(G:SG)(p:U Y):SG:={G with bJ:=G.bJ.map λT=>if T.key=p then{T with np:=T.np-1}else T}
noncomputable def decA(A:U AN)(l:U Y):U AN:=A.map λa=>if a.1=l then(a.1,a.2.1-1,a.2.2)else a
noncomputable def oM(A:U AN)(l:U Y):aq:=match A.find? (λa=>decide (a.1=l))with|J a=>a.2.1|ae=>0
theorem Uy(g:G.kn)(e:G.bJ[j]?=J nd):G.np j nd (nd.np-1)=G.gy nd.key:=by
 unfold SG.np SG.gy
 congr 1
 refine dK (oS e) λF w a B=>?_;rw [B];unfold SG.kn at g;rw [a]at g⊢;simp only [ej,iA]at g⊢;refine fF (gm.mp g) λx c l=>?_;have i:F.map (λh=>if h.key=nd.key then{h with np:=h.np-1}else h)=F:=by
  conv=>rhs;rw [<-xB F]
  exact iZ λu v=>by rw [bF λq=>l u.key (gE v) nd.key (.head _) q];rfl
 have A:w.map (λh=>if h.key=nd.key then{h with np:=h.np-1}else h)=w:=by
  conv=>rhs;rw [<-xB w]
  exact iZ λu v=>by rw [bF λq=>(l9.mp c).1 (by rw [<-q];exact gE v)];rfl
 rw [i,A,bB trivial]
theorem Ii{p:U Y}(g:G.kn):(G.gy p).kn:=by
 unfold SG.kn SG.gy at*;rw [d_];have:((λx=>x.key)∘λT:Nd=>if T.key=p then{T with np:=T.np-1}else T)=λT=>T.key:=by funext T;simp only [xq];split<;>rfl
 exact this.symm▸g
theorem S9{p r:U Y}(h:∃T∈G.bJ,T.key=r):∃T∈(G.gy p).bJ,T.key=r:=by
 refine aG h λT v e=>(aM (if T.key=p then{T with np:=T.np-1}else T) (eZ.mpr (aM T v C)) ?_)
 split<;>exact e
theorem Be{p:U Y}:(G.gy p).al=decA G.al p:=by
 unfold SG.al SG.gy decA;rw [d_,d_];refine iZ λT w=>?_;simp only [xq]
 split<;>rfl
theorem Jc(g:G.kn)(h:G.bJ[j]?=J nd):oM G.al nd.key=nd.np:=by
 refine dK (oS h) λF i e w=>?_;unfold SG.kn at g;rw [e,ej,iA]at g;refine fF (gm.mp g) λw c l=>?_;unfold oM SG.al;rw [e,ej,iA,MS];have:(F.map λnd=>((nd.key,nd.np,nd.succ):AN)).find? (λa=>decide (a.1=nd.key))=ae:=by
  rw [Ey];intro a r;refine aG (eZ.mp r) λu v x=>?_;subst x;simp only [decide_eq_true_eq];exact(l u.key (gE v) nd.key (.head _))
 rw [this,aat];simp
end
theorem OQ{w:bV Ob}(B:dh j.length=aa)(a:∀H rest,bindArgs f ⟨H::rest, []⟩=newTuple rest>>=λE=>pure (eI n [H,E])):Binds w i X f n j [.tup j]:=by
 intro F x H y b s Q G u h z O;rw [a];refine aF (wpAny_newTuple ?_ (by rw [z.length];exact kj B));have P:=b5.push h (q7 y 0) s.toks C;exact bP (O _ _ [.ref s.heap.objs.size] P (.one (.tup (bB C) (z.mono P.le))) λl o e=>eF _ e)
noncomputable def SG.fE(G:SG)(s:U Y):SG:=if oM (G.gy s).al s=0 then{G.gy s with rl:=G.rl++ [s]}else G.gy s
theorem Ip:cM (G.gy s)=cM G:=by
 unfold cM SG.gy;rw [d_];refine iZ λT w=>?_;simp only [xq]
 split<;>rfl
section
variable{i:Y}{G:SG}
theorem C9(l:bH c.B c.prog c.w L)(j:n[i]?=J x)(B:g[i]?=J (.obj (.bS q G)))(p:c.B.bI.DictOf (strKind c.prog c.w) G.D (cM G)):qx c n k g G:=
 λA f H R h S=>(cR ((g9 l S j B).2.sm) ((g9 l S j B).2.nd) (Fe p λo e=>S.base _ o e))
noncomputable def wG:U (af×dU):= [("self", .local),("nodes", .local),("n2i", .local),("node", .local),("nodeinfo", .local),("stat", .local),("successor", .local),("successor_info", .local),("ValueError", .globalImplicit),("_NODE_OUT", .globalImplicit),("_NODE_DONE", .globalImplicit)]
noncomputable def gB:U af:= ["self", "nodes", "n2i", "node", "nodeinfo", "stat", "successor", "successor_info"]
noncomputable abbrev yq:aS cf:=om 2 (cQ (e7 16 7))
noncomputable abbrev Br:aS cf:=om 4 (fY yq)
set_option maxHeartbeats 1000000
theorem PX(l:bH c.B c.prog c.w L)(F:Fm c.env gB gB.length wG)(p:c.B.bI.DictOf (strKind c.prog c.w) G.D (cM G))(H:G.cJ=J j)(f:G.rl.length<=900)(o:G.kn){s:U Y}(P:∃T∈G.bJ,T.key=s):
  EX c gB gB.length [.obj (.bS 1 G), .t n, .t (.bO (.ref G.D)), .t t3, .t k, .t t5, .t (.str s), .un] (fY Br) [.obj (.bS 1 (G.fE s)), .t n, .t (.bO (.ref G.D)), .t t3, .t k, .t t5, .un, .un] .next:=by
 refine aG P λT v x=>?_;subst x;refine bZ (o8 v) λm h=>?_;have i:(G.gy T.key).bJ[m]?=J {T with np:=T.np-1}:=by
  unfold SG.gy;dsimp only;rw [gD,h];simp
 have b:oM (G.gy T.key).al T.key=T.np-1:=Jc (Ii o) i;refine zx (fu F 7 C (cY _) (DQ (C9 l (i:=0) C C p) (zv F 2 C C) (zv F 6 C C) h C) C) (zx (L_ l 0 C (zv F 7 C C) C (ek _) h (zi 1) C C) ?_);rw [Uy o h];have cond:EC c gB gB.length [.obj (.bS 1 (G.gy T.key)), .t n, .t (.bO (.ref G.D)), .t t3, .t k, .t t5, .t (.str T.key), .t (.bO (.ref T.i))] (.Compare (.Attribute (.Name "successor_info" ⟨192,19,192,33⟩) "npredecessors" ⟨192,19,192,47⟩) [.Eq] [.Constant (.int 0) 0 ⟨192,51,192,52⟩] ⟨192,19,192,52⟩)
   [.obj (.bS 1 (G.gy T.key)), .t n, .t (.bO (.ref G.D)), .t t3, .t k, .t t5, .t (.str T.key), .t (.bO (.ref T.i))] (decide (T.np-1=0)):=
  zC (sZ l (zZ l (i:=0) C C (ek _) (cA i)) (zv F 7 C C) .np C) (zi 0) C C
 by_cases e:T.np-1=0
 .rw [decide_eq_true e]at cond;refine dK (J2 c.prog c.w L 1 (G:=G.gy T.key) H (G.rl++ [T.key])) λX q t Q=>EX.wk (zx (dF cond (zx (L5 (G':={G.gy T.key with rl:=G.rl++ [T.key]}) l 0 C (jF l (jB l (i:=0) C C) (iW l F 0 C C) (.sI H) C) C (zv F 6 C C) C t Q (cR C C C) (bh f (bx C)) C C C) ⟨ik⟩)) ⟨ik⟩) ?_;have a:G.fE T.key={G.gy T.key with rl:=G.rl++ [T.key]}:=by unfold SG.fE;rw [b,bB e]
  exact a.symm▸(er (gA _) (er (gA _) (er (gA _) (er (gA _) (er (gA _) (er (gA _) (er (nH _) (er (nH _) (pY _)))))))))
 .rw [decide_eq_false e]at cond;refine EX.wk (zx (dF cond ⟨ik⟩) ⟨ik⟩) ?_;have a:G.fE T.key=G.gy T.key:=by unfold SG.fE;rw [b,bF e]
  exact a.symm▸(er (gA _) (er (gA _) (er (gA _) (er (gA _) (er (gA _) (er (gA _) (er (nH _) (er (nH _) (pY _)))))))))
theorem vU:(G.fE s).self=G.self/\(G.fE s).D=G.D/\(G.fE s).cJ=G.cJ/\(G.fE s).po=G.po/\(G.fE s).fi=G.fi/\cM (G.fE s)=cM G/\(G.fE s).rl.length<=G.rl.length+1/\(G.fE s).bJ=(G.gy s).bJ:=by
 unfold SG.fE
 split
 .exact(HE C C C C C Ip (by simp) C)
 .exact(HE C C C C C Ip (e5 _ _) C)
theorem Ih(g:G.kn):(G.fE s).kn:=by
 have:=Ii (p:=s) g;unfold SG.kn at*;exact vU.2.2.2.2.2.2.2.symm▸this
theorem S8{s r:U Y}(h:∃T∈G.bJ,T.key=r):∃T∈(G.fE s).bJ,T.key=r:=vU.2.2.2.2.2.2.2.symm▸(S9 h)
noncomputable def jn(G:SG)(a:U (U Y)):SG:=a.foldl (λG s=>G.fE s) G
theorem PW(l:bH c.B c.prog c.w e)(F:Fm c.env gB gB.length wG):∀(h:U (U Y))(G:SG),c.B.bI.DictOf (strKind c.prog c.w) G.D (cM G)->G.cJ=J a->G.rl.length+h.length<=900->G.kn->(∀s∈h,∃T∈G.bJ,T.key=s)->
  j6 c gB gB.length (qM Br) (fY Br) (h.map .str) [.obj (.bS 1 G), .t n, .t (.bO (.ref G.D)), .t t3, .t k, .t j, .un, .un] [.obj (.bS 1 (jn G h)), .t n, .t (.bO (.ref G.D)), .t t3, .t k, .t j, .un, .un] .next:=λf=>f.rec
 (λG w w w w w=>jh)
 (λs h X G p H B o P=>by
  have d:=vU (G:=G) (s:=s);simp only [gw]at B;refine fO (eJ F 6 C (e5 _ _)) (PX l F p H (bL 0 (.v 0) (.n 900) (.a (.v 0) (.a (.v 1) (.n 1))) (.n 900) C [_,_] B) o (P s ee)) ?_;have:=X (G.fE s) (d.2.1.symm▸d.2.2.2.2.2.1.symm▸p) (d.2.2.1.trans H) (by have:=d.2.2.2.2.2.2.1;exact cF 0 (.a (.v 2) (.v 1)) (.n 900) (.a (.v 0) (.a (.v 1) (.n 1))) (.n 900) (.v 2) (.a (.v 0) (.n 1)) C [_,_,_] B d.2.2.2.2.2.2.1) (Ih o) λm L=>S8 (P m (dY _ L))
  exact d.2.1▸this)
end
section
structure RO(c:Cx Ob)(G:SG):Prop where
 d:c.B.bI.DictOf (strKind c.prog c.w) G.D (cM G)
 s:∀nd∈G.bJ,∃vs nn,c.B.bI.get? nd.su=J (lo vs nn)/\gX vs nd.succ
theorem Td:cM (G.gj s v)=cM G:=by
 unfold cM SG.gj;dsimp only;rw [d_];refine iZ λT w=>?_;simp only [xq]
 split<;>rfl
theorem RO.gj{s:U Y}(r:RO c G):RO c (G.gj s e):=⟨by rw [Td];exact r.d,λT v=>by
 refine aG (eZ.mp v) λh k x=>?_;subst x;have:=r.s h k
 split<;>exact this⟩
theorem RO.fE{s:U Y}(r:RO c G):RO c (G.fE s):=by
 have d:=vU (G:=G) (s:=s);refine⟨d.2.1.symm▸d.2.2.2.2.2.1.symm▸r.d,λT v=>?_⟩;rw [d.2.2.2.2.2.2.2]at v;refine aG (eZ.mp v) λh k x=>?_;subst x;have:=r.s h k
 split<;>exact this
theorem RO.Gq:∀(a:U (U Y))(G:SG),RO c G->RO c (jn G a):=λf=>f.rec
 (λw r=>r)
 (λs a X G r=>X _ r.fE)
theorem PS:∀(a:U (U Y))(G:SG),(jn G a).self=G.self/\(jn G a).D=G.D/\(jn G a).cJ=G.cJ/\(jn G a).po=G.po/\(jn G a).fi=G.fi/\(jn G a).rl.length<=G.rl.length+a.length:=λf=>f.rec
 (λG=>(wo C C C C C (ek _)))
 (λs a X G=>by
  have h:=vU (G:=G) (s:=s);have r:=X (G.fE s);refine(wo (r.1.trans h.1) (r.2.1.trans h.2.1) (r.2.2.1.trans h.2.2.1) (r.2.2.2.1.trans h.2.2.2.1) (r.2.2.2.2.1.trans h.2.2.2.2.1) ?_);have:=r.2.2.2.2.2;have:=h.2.2.2.2.2.2.1;show(jn (G.fE s) a).rl.length<=_
  simp only [gw];exact cF 0 (.v 2) (.a (.v 1) (.a (.v 3) (.n 1))) (.v 0) (.a (.v 1) (.n 1)) (.v 2) (.a (.v 0) (.v 3)) C [_,_,_,_] h.2.2.2.2.2.2.1 r.2.2.2.2.2)
theorem S_:∀(a:U (U Y))(G:SG),G.kn->(jn G a).kn:=λf=>f.rec
 (λw k=>k)
 (λs a X G k=>X _ (Ih k))
noncomputable def SG.ow(G:SG)(T:Nd):SG:={jn (G.gj T.key (-2)) T.succ with fi:=G.fi+1}
set_option maxHeartbeats 2000000
theorem PY(l:bH c.B c.prog c.w L)(F:Fm c.env gB gB.length wG)(z:c.mg "_NODE_OUT"=J (.int (-1) E))(j:c.mg "_NODE_DONE"=J (.int (-2) A))(x:RO c G)(H:G.cJ=J r)(o:G.kn)(v:h∈G.bJ)(b:h.np=-1)(f:G.rl.length+h.succ.length<=900)(X:∀s∈h.succ,∃u∈G.bJ,u.key=s):
  EX c gB gB.length [.obj (.bS 1 G), .t n, .t (.bO (.ref G.D)), .t (.str h.key), .un, .un, .un, .un] (fY yq) [.obj (.bS 1 (G.ow h)), .t n, .t (.bO (.ref G.D)), .un, .un, .un, .un, .un] .next:=by
 refine bZ (o8 v) λq e=>?_;have d:∀t,qx c gB gB.length [.obj (.bS 1 G), .t n, .t (.bO (.ref G.D)), .t (.str h.key),t, .un, .un, .un] G:=λt=>C9 l (i:=0) C C x.d;have g:NT L h "npredecessors" L.p1 1 (.int (-1)):=by rw [<-b];exact .np
 refine zx (LW F 4 C (dP C) (DP (d _) (zv F 2 C C) (d _) (zv F 3 C C) (λm=>by rw [DB m e,aas]) (λw w=> .bO _) C C C) zn C C ⟨ik⟩) (zx (fu F 5 C (dP C) (sZ l (zZ l (i:=0) C C (ek _) v) (zv F 4 C C) g C) C) (zx (dF (b:=aA) (zC (zv F 5 C C) (Aj F 9 C z λw w=> .int _ _) C C) ⟨ik⟩) (zx (Md (n:=-2) l 0 C (Aj F 10 C j λw w=> .int _ _) (zv F 4 C C) C (ek _) e C) ?_)));rw [Jb o e];have k:({h with np:=-2}:Nd)∈(G.gj h.key (-2)).bJ:=eZ.mpr (aM h v (bB C));exact dK (x.s h v) λy p a i=>zx (iV (YD (sZ l (zZ l (i:=0) C C (ek _) k) (zv F 4 C C) .su C) a i) (PW l F h.succ (G.gj h.key (-2)) x.gj.d H f (Co o) λs P=>Ig (X s P)) C C) (EX.wk (zx (Mi (τ:= .int (G.fi+1)) l 0 C (iW l F 0 C C) C .fi (zi 1) C (by show J (T.int ((jn (G.gj h.key (-2)) h.succ).fi+1))=_;exact(PS h.succ (G.gj h.key (-2))).2.2.2.2.1.symm▸C) (.fi _)) ⟨ik⟩) (er (gA _) (er (gA _) (er (gA _) (er (nH _) (er (nH _) (er (nH _) (pY _))))))))
end
noncomputable def sP(u:Nd):U Y×ak×ak×ak×U (U Y):=(u.key,u.i,u.id,u.su,u.succ)
noncomputable def SG.sk(G:SG):U (U Y×ak×ak×ak×U (U Y)):=G.bJ.map sP
structure i5(G G':SG):Prop where
 self:G'.self=G.self
 d:G'.d=G.d
 D:G'.D=G.D
 cJ:G'.cJ=G.cJ
 po:G'.po=G.po
 sk:G'.sk=G.sk
theorem i5.refl(G:SG):i5 G G:=⟨C,C,C,C,C,C⟩
theorem i5.trans(a:i5 G y)(b:i5 y h):i5 G h:=⟨b.self.trans a.self,b.d.trans a.d,b.D.trans a.D,b.cJ.trans a.cJ,b.po.trans a.po,b.sk.trans a.sk⟩
section
theorem KR(bJ:U Nd)(H:Nd->Nd)(h:∀u,sP (H u)=sP u):(bJ.map H).map sP=bJ.map sP:=d_.trans (iZ λu w=>h u)
theorem WJ(G:SG)(s:U Y)(v:aq):i5 G (G.gj s v):=⟨C,C,C,C,C,KR _ _ λu=>by split<;>rfl⟩
theorem WH(G:SG)(s:U Y):i5 G (G.fE s):=by
 have h:(G.gy s).bJ.map sP=G.bJ.map sP:=KR _ _ λu=>by split<;>rfl
 unfold SG.fE
 split
 .exact⟨C,C,C,C,C,h⟩
 .exact⟨C,C,C,C,C,h⟩
theorem WI:∀(a:U (U Y))(G:SG),i5 G (jn G a):=λf=>f.rec
 ((.refl))
 (λs a X G=>(WH G s).trans (X _))
theorem Dh(G:SG)(T:Nd):i5 G (G.ow T):=by
 have h:=(WJ G T.key (-2)).trans (WI T.succ (G.gj T.key (-2)));exact⟨h.self,h.d,h.D,h.cJ,h.po,h.sk⟩
theorem i5.cM(h:i5 G y):i4.cM y=i4.cM G:=by
 have e:∀G:SG,i4.cM G=G.sk.map λx=>(b3 x.1, .ref x.2.1):=λG=>by unfold i4.cM SG.sk;rw [d_];rfl
 rw [e,e,h.sk]
theorem i5.map(h:i5 G y)(i:ck)(X:b4):f9 i X y=f9 i X G:=by
 have e:∀G:SG,(G.bJ.map λT=>(T.su,fe T.succ))=G.sk.map λx=>(x.2.2.2.1,fe x.2.2.2.2):=λG=>by unfold SG.sk;rw [d_];rfl
 unfold f9 jc;rw [e,e,h.sk,h.D,h.cM]
theorem i5.ad(h:i5 G y)(i:ck)(X:b4)(L:Cl):(objs i X L 1 y).map (·.1)=(objs i X L 1 G).map (·.1):=by
 have e:∀G:SG,(fK L.N G).map (·.1)=G.sk.flatMap λx=> [x.2.1,x.2.2.1]:=λG=>by
  unfold fK SG.sk;rw [ZZ,List.flatMap_map];rfl
 have s:∀G,(fq L.a_ G).map (·.1)=G.self::G.d::(match G.cJ with|J a=> [a]|ae=> []):=λG=>by
  unfold fq;cases G.cJ<;>rfl
 show((fq L.a_ y++fK L.N y).map _)=((fq L.a_ G++fK L.N G).map _);rw [ej,ej,e,e,s,s,h.sk,h.self,h.d,h.cJ]
theorem WV{O n:U ak}(k:i5 G y)(d:dQ i X L 0 G H e O)(R:dQ i X L 1 y H h B)(E:dQ i X L 1 G H e n)
  (l:∀b∈O,b∉n->∀x,e.get? b=J x->h.get? b=J x):dQ i X L 0 y H h O/\B=n:=by
 have m:objs i X L 0 G=objs i X L 1 G++f9 i X G:=by simp [lN,lO,lP]
 have a:objs i X L 0 y=objs i X L 1 y++f9 i X G:=by rw [<-k.map i X];exact C
 refine⟨⟨R.v,R.sm,R.nd,⟨λw s=>?_,?_,d.ob.nd⟩⟩,(by rw [R.ob.ad,E.ob.ad,k.ad])⟩
 .rw [a]at s;rcases fb.mp s with s|s
  .exact R.ob.dH w s
  .refine aG (d.ob.dH w (i0 _ ‹_›)) λo Q p=>?_;have v:=d.ob.nd;rw [d.ob.ad,m,ej]at v;refine(aM o (l w.1 (by rw [d.ob.ad];exact gE (i0 _ ‹_›)) (λq=>?_) o Q) p);rw [E.ob.ad]at q;exact(gm.mp v).2.2 w.1 q w.1 (gE s) C
 .rw [d.ob.ad,m,a,ej,ej,k.ad]
end
theorem OV{T:U AN}(l:bH w i X L)
  (e:∀G:SG,G.abs= .bX Q T P h u->G.kn->eR w i X a z (.bS 0 G) g q):eR w i X a z (.bX Q T P h u) g q:=by
 intro F B f H y p s O b x r k n j;rw [l.ob]at r;obtain⟨G,t,d⟩:∃G:SG,G.abs= .bX Q T P h u/\dQ i X L 0 G H s.heap O:=r;exact e G t (Cn d.nd) F B f H y p s O b x (l.ob.symm▸d) k n j
inductive qt:SG->U (U Y)->SG->Prop
 |nil{G:SG}:qt G [] G
 |cons{G G':SG}{nd:Nd}{ps:U (U Y)}:nd∈G.bJ->nd.np=-1->G.rl.length+nd.succ.length<=900->(∀s∈nd.succ,∃n∈G.bJ,n.key=s)->qt (G.ow nd) ps G'->qt G (nd.key::ps) G'
theorem qt.sk(d:qt G u y):i5 G y:=by
 induction d with
 |nil=>exact .refl _
 |cons _ _ _ _ _ X=>exact(Dh _ _).trans X
section
theorem RO.ow(r:RO c G):RO c (G.ow nd):=⟨(RO.Gq nd.succ _ r.gj).d,(RO.Gq nd.succ _ r.gj).s⟩
theorem Ij{G:SG}(k:G.kn):(G.ow nd).kn:=S_ nd.succ _ (Co k)
theorem PZ(l:bH c.B c.prog c.w L)(F:Fm c.env gB gB.length wG)(z:c.mg "_NODE_OUT"=J (.int (-1) q))(j:c.mg "_NODE_DONE"=J (.int (-2) E)){G y:SG}{u:U (U Y)}(d:qt G u y):RO c G->G.cJ=J a->G.kn->
  j6 c gB gB.length (qM yq) (fY yq) (u.map .str) [.obj (.bS 1 G), .t n, .t (.bO (.ref G.D)), .un, .un, .un, .un, .un] [.obj (.bS 1 y), .t n, .t (.bO (.ref G.D)), .un, .un, .un, .un, .un] .next:=by
 induction d with
 |nil=>intro _ _ _;exact jh
 |cons v b t P d X=>
  intro x H o;refine fO (eJ F 3 C (by decide)) (PY l F z j x H o v b t P) ?_;have:=X x.ow (by rw [(Dh _ _).cJ];exact H) (Ij o);rw [(Dh _ _).D]at this;exact this
end
section
variable{y:Ly Ob}{f:ak}
set_option maxHeartbeats 2000000
theorem XH(l:bH y.B y.prog y.w L)(k:gO y.B f 16 7 S a gB)(au:y.mg "_NODE_OUT"=J (.int (-1) bY))(aC:y.mg "_NODE_DONE"=J (.int (-2) bW))(x:qt G u h)(b:G.cJ=J bQ)(aE:G.kn)(aH:u.length<=900):
  eR y.B y.prog y.w (aJ+1) (.ref f) (.bS 0 G) (u.map .str) λaV r=>aV=h.abs/\r= .none:=by
 have B:=x.sk;have m:∀(i:ck)(e:b4),objs i e L 0 G=objs i e L 1 G++f9 i e G:=λi e=>C;refine F2 y.G (o₁:= .bS 1 G) (nu:=λn r=>n= .bS 1 h/\r= .none) k.d (dP C) (OQ (dM (by simp;exact bh aH (bx C))) λH rest=>?_) (λ{H ah O}d=>?_) (λX R E=>?_) (λ{H ah O aD P}s d R aK aL A aW bg bz=>?_) (λ{H ah O aD bK az n r}X d E R aB _=>?_)
 .refine(pD k.ar k.df _).trans ?_;cases rest<;>rfl
 .rw [l.ob]at d;have d:=d;have S:=d.ob;rw [m]at S;refine(aM _ (by rw [l.ob];exact(⟨d.v,d.sm,d.nd,S.sub (l:= [])⟩)) (λai t=>?_));rw [S.ad,ej];exact gx _ t
 .obtain⟨rfl,_⟩:=X;rw [l.ob]at R E;have R:=R;have E:=E;rw [R.v,E.v,B.self]
 .have F:Fm (callEnvC a A f) gB gB.length wG:=jQ (C) (by show a.scope.names=_;exact aQ _ k.sc)
  let c:=(y.up P s).c aW bg (callEnvC a A f) aJ bz
  have z:bH c.B c.prog c.w L:=l.up s;rw [l.ob]at d R;have d:=d;have R:=R;have j:qy (f9 y.prog y.w G) P:=λw aO=>by
   obtain⟨o,Q,p⟩:=d.ob.dH w (i0 _ ‹_›);have v:=d.ob.nd;rw [d.ob.ad,m,ej]at v;refine(aM o (aK _ _ Q (aL _ (by rw [d.ob.ad];exact gE (i0 _ ‹_›))) λq=>?_) p);rw [R.ob.ad]at q;exact(gm.mp v).2.2 w.1 q w.1 (gE aO) C
  have bq:RO c G:=⟨by
   obtain⟨o,Q,p⟩:=j (G.D,jc y.prog y.w G) (.head _);exact p P G.D Q,λT v=>by
   obtain⟨o,Q,aU,aZ,bD,bA⟩:=j (T.su,fe T.succ) (.tail _ (eZ.mpr (aM T v C)))
   exact(eV aU aZ (bD▸Q) bA)⟩
  exact XP.ev (c:=c) (XP.mono (Φ:=λaj ao=>aj= [.obj (.bS 1 h), .t (.tup (u.map .str)), .t (.bO (.ref G.D)), .un, .un, .un, .un, .un]/\ao= .next) (EX.xp (zx (dF (b:=aA) (zC (jF z (jB z (i:=0) (q:=1) C C) (iW z F 0 C C) (.sI b) C) zn C C) ⟨ik⟩) (zx (fu F 2 C (dP C) (jF z (jB z (i:=0) (q:=1) C C) (iW z F 0 C C) .sq C) C) (zx (iV (DV (zv F 1 C C)) (PZ z F au aC x bq b aE) C C) ⟨ik⟩))) ⟨C,C⟩) λaj ao X=>by obtain⟨rfl,rfl⟩:=X;exact(lG _ _ C (.inr ⟨C,C⟩) C C))
 .obtain⟨rfl,rfl⟩:=X;rw [l.ob]at d R E;obtain⟨bM,rfl⟩:=WV B (d) (R) (E) aB;refine(gG h.abs O ⟨C,C⟩ (l.ob.symm▸(((aM h C bM):∃g,g.abs= .bX h.self h.al (h.cJ.map λ_=>h.rl) h.po h.fi/\dQ y.prog y.w L 0 g H bK O))) (λai t=>?_))
  by_cases q:ai∈az
  .exact .inl q
  .exact .inr ⟨t,q⟩
end
noncomputable def je(A:U AN)(l:U Y):U (U Y):=match A.find? (λa=>decide (a.1=l))with|J a=>a.2.2|ae=> []
noncomputable def qG(s:U AN×U (U Y))(p:U Y):U AN×U (U Y):=(decA s.1 p,if oM (decA s.1 p) p=0 then s.2++ [p]else s.2)
noncomputable def vV(s:U AN×U (U Y))(p:U Y):U AN×U (U Y):=(je s.1 p).foldl qG (sx s.1 p (-2),s.2)
noncomputable def mJ(s:U AN×U (U Y))(u:U (U Y)):U AN×U (U Y):=u.foldl vV s
noncomputable def pQ:U AN×U (U Y)->U (U Y)->bu
 |_, []=>aa
 |s,p::u=>s.1.any (λa=>decide (a.1=p))&&decide (oM s.1 p=-1)&&(je s.1 p).all (λx=>s.1.any λa=>decide (a.1=x))&&decide (s.2.length+(je s.1 p).length<=900)&&pQ (vV s p) u
section
variable{G:SG}{j:Y}
theorem z8(g:G.kn)(h:G.bJ[j]?=J nd):je G.al nd.key=nd.succ:=by
 refine dK (oS h) λF i e w=>?_;unfold SG.kn at g;rw [e,ej,iA]at g;refine fF (gm.mp g) λw c l=>?_;unfold je SG.al;rw [e,ej,iA,MS];have:(F.map λnd=>((nd.key,nd.np,nd.succ):AN)).find? (λa=>decide (a.1=nd.key))=ae:=by
  rw [Ey];intro a r;refine aG (eZ.mp r) λu v x=>?_;subst x;simp only [decide_eq_true_eq];exact(l u.key (gE v) nd.key (.head _))
 rw [this,aat,MT];simp
theorem WY(s:U Y):((G.fE s).al,(G.fE s).rl)=qG (G.al,G.rl) s:=by
 unfold SG.fE qG;dsimp only;rw [Be]
 split
 .rename_i h;rw [show({G.gy s with rl:=G.rl++ [s]}:SG).al=(G.gy s).al from C,Be]
 .rename_i h;exact Be.symm▸C
theorem WZ:∀(a:U (U Y))(G:SG),((jn G a).al,(jn G a).rl)=a.foldl qG (G.al,G.rl):=λf=>f.rec
 (λw=>C)
 (λs a X G=>by
  show((jn (G.fE s) a).al,(jn (G.fE s) a).rl)=a.foldl qG (qG (G.al,G.rl) s)
  rw [X,WY])
theorem K7(g:G.kn)(h:G.bJ[j]?=J nd):((G.ow nd).al,(G.ow nd).rl)=vV (G.al,G.rl) nd.key:=by
 unfold vV;rw [z8 g h];have:=WZ nd.succ (G.gj nd.key (-2));rw [FA]at this;exact this
theorem CD(h:(G.al.any λa=>decide (a.1=p))=aa):∃T∈G.bJ,T.key=p:=by
 refine aG (tE.mp h) λa r e=>aG (eZ.mp r) λT v x=>?_;subst x;exact(aM T v (of_decide_eq_true e))
theorem P1:∀(u:U (U Y))(G:SG),G.kn->pQ (G.al,G.rl) u=aa->∃y,qt G u y/\(y.al,y.rl)=mJ (G.al,G.rl) u/\y.fi=G.fi+u.length:=λf=>f.rec
 (λG w w=>(i12 G (.nil) C (by simp)))
 (λp u X G o h=>by
  have h:(_&&_&&_&&_&&_)=aa:=h;simp only [qg,decide_eq_true_eq]at h;refine cps λw T=>?_;obtain⟨⟨⟨⟨R,E⟩,S⟩,A⟩,r⟩:=h;obtain⟨a,v,rfl⟩:=CD R;obtain⟨j,e⟩:=o8 v;refine T ?_;rw [Jc o e]at E;rw [z8 o e]at S A;rw [<-K7 o e]at r;obtain⟨y,d,i,z⟩:=X (G.ow a) (Ij o) r;refine(i12 y (.cons v E A (λs P=>CD (kC.mp S s P)) d) ?_ ?_)
  .rw [i,K7 o e];rfl
  .rw [z];show G.fi+1+_=_;simp;omega)
end
section
variable{y:Ly Ob}{f:ak}
theorem XG(l:bH y.B y.prog y.w R)(k:gO y.B f 16 7 S ah gB)(z:y.mg "_NODE_OUT"=J (.int (-1) B))(j:y.mg "_NODE_DONE"=J (.int (-2) F))(u:U (U Y))(P:u.length<=900)(n:pQ (al,o) u=aa):
  eR y.B y.prog y.w (L+1) (.ref f) (.bX Q al (J o) w i) (u.map .str) λb r=>b= .bX Q (mJ (al,o) u).1 (J (mJ (al,o) u).2) w (i+u.length)/\r= .none:=by
 refine OV l λG O x=>?_;obtain⟨a,c,H,t,q,v,m⟩:∃a,G.self=Q/\G.al=al/\G.cJ=J a/\G.rl=o/\G.po=w/\G.fi=i:=by
  injection O with a s d e f
  cases h:G.cJ with
  |none=>rw [h]at d;exact aT C d
  |some p=>rw [h]at d;exact(BX p a s C (bf d) e f)
 subst H q;refine jq (P1 u G x n) λT d e g=>(XH l k z j d t x P).mono λb r X=>bR X λE A=>?_;subst E A;refine⟨?_,C⟩;rw [SG.abs_eq,<-e,d.sk.self,d.sk.cJ,d.sk.po,t,c,v,g,m]
 rfl
end
theorem HQ(u:Y):iQ u∈(["_node2info", "_ready_nodes", "_npassedout", "_nfinished"]:U af):=by
 match u with
 |0=>simp [iQ]
 |1=>simp [iQ]
 |2=>simp [iQ]
 |u+3=>simp [iQ]
theorem SS:∀(u:Y)(x:af),u<=2->pK k n t2 u x=pK k A h u x
 |0,x,_=>C
 |1,x,_=>C
 |2,x,_=>C
theorem J8{st:Y}{R:fh}{v:ay}(P:st<4)(p:pR k st (dictOf d n))(m:v= .ref k/\st=0\/v= .none/\st=1\/(∃E,v= .int 0 E)/\2<=st):pR k (st+1) (dictOf (putL (iQ st) z (.str (iQ st) R) v d) f):=by
 refine uc p λl X h T b B i=>?_;obtain rfl:=yp b;have a:∀A e,v=Cd k A e st->(∀x,pK k A e st x=pK k h T st x)->pR k (st+1) (dictOf (putL (iQ st) z (.str (iQ st) R) v d) f):=λA e m L=>by
  refine(B0 _ f A e C (cF 0 (.v 2) (.a (.v 1) (.n 1)) (.v 0) (.v 1) (.v 2) (.a (.v 0) (.n 1)) C [_,_,_] B (Kg (iQ st) z (.str (iQ st) R) v d)) (λx=>?_))
  by_cases j:x=iQ st
  .subst j;rw [yO];simp [Cc,m]
  .rw [lF j,i,Cc,bF j,L]
 rcases m with⟨rfl,rfl⟩|⟨rfl,rfl⟩|⟨⟨E,rfl⟩,s⟩
 .exact a h T C λw=>C
 .exact a h T C λw=>C
 .rcases(aak.mp P).imp (λq=>fV (aai q) s) id with rfl|rfl
  .exact a E T C λx=>SS 2 x (ek _)
  .exact a h E C λx=>C
theorem Ve{o:bE}(p:pR k 4 o):gT ⟨F,h,k,ae, [],0,0, []⟩ o:=by
 refine uc p λd u n T e B v=>⟨d,u,n,T,e,bh B (bx C),?_,?_,?_,?_,λx a b c z=>?_⟩
 .rw [v];rfl
 .rw [v];rfl
 .rw [v];rfl
 .rw [v];rfl
 .rw [v];simp [SQ,Cc,iQ,a,b,c,z]
section
variable{c:Cx Ob}{st:Y}
theorem Ce(l:bH c.B c.prog c.w L)(S:aN c.B c.ρ A f c.env n k g H R h)(j:n[i]?=J x)(B:g[i]?=J (.obj (.gH Q d st))):dZ c.env H h x (J (.ref Q))/\vI c.prog c.w L Q d st (.ref Q) h (R i):=by
 refine cps λw T=>?_;obtain⟨s,r,v,rfl,m⟩:=S.vars i x _ j B;refine T ?_;rw [l.ob]at m;have m:=m;exact(m.v)▸(⟨r,m⟩)
theorem GL(l:bH c.B c.prog c.w L)(F:Fm c.env n k e)(i:Y)(j:n[i]?=J x)(B:g[i]?=J (.obj (.gH Q d st))):nY c.B c.prog c.w c.A c.ρ c.env n k g (.Name x p) (.bO (.ref Q)):=by
 rintro A f s h G⟨E,H,R,S⟩O;exact bR (Ce l S j B) λr m=>eP (eH E S.ns r (O s.toks _ (.bO _))) (F.eU j)
theorem DU(l:bH c.B c.prog c.w L)(aU:Fm c.env a G dO)(i:Y)(j:a[i]?=J O)(c_:u[i]?=J (.obj (.gH Q d st)))(aZ:EE c a G u e H ai)(P:H[i]?=J (.obj (.gH Q d st)))(x:st≠0)(A:st<4)(au:ai= .none/\st=1\/ai= .int 0/\2<=st)
  (bW:swapsWith e (J (.Attribute (.Name O aO) (iQ st) aW)) bQ.line c.env=pure aA):ES c a G u (.Assign [.Attribute (.Name O aO) (iQ st) aW] e bQ) (H.set i (.obj (.gH Q d (st+1)))) .next:=by
 constructor;intro s aD aK cv dm c9 bz bA;refine vC (aZ.1 s aD aK _ _ bz λf w v bD bM m g=>(GL l aU i j P s w f _ _ m λdB dS az=>?_)) bW;obtain rfl:=az.inv;obtain⟨aB,aC,R,y⟩:=m;refine bR (Ce l y j P) λaH aJ=>aG aJ.ob λk aL S=>aG (S.dH (Q,λo=>o=instObj L.a_ d) (cA (i:=0) C)) λdX p z=>aG (S.dH (d,pR k st) (cA (i:=1) C)) λcV F B=>?_;dsimp only at p F z B;subst z;refine uc (B) λdJ n cK cO bg bq aE=>?_;subst bg;have E:=(cw.mp j).1;have X:d∈R i:=by rw [S.ad];exact cA (i:=1) C
 have T:=y.fp i E;refine z0 (l.gS y.base) (⟨p,C,C,F⟩) C l.ok.sa l.ok.po (by unfold takerIn;rw [l.ok.at_ _ (HQ st),xH]) l.ok.hd (by rw [aE];rfl) (cF 0 (.v 1) (.n 900) (.a (.v 0) (.n 1)) (.n 4) (.v 1) (.v 0) C [_,_] A bq) λh cz cB cE r aV=>?_;have r:gk d f.heap h:=r;have ah:∀{b},b∉R i->b≠d:=λ{b}n q=>n (by rw [q];exact X);have bK:v= .ref k/\st=0\/v= .none/\st=1\/(∃aj,v= .int 0 aj)/\2<=st:=by
  rcases au with⟨rfl,e⟩|⟨rfl,e⟩
  .obtain rfl:=g.inv;exact .inr (.inl ⟨C,e⟩)
  .obtain⟨aj,rfl⟩:=g.inv;exact .inr (.inr ⟨⟨_,C⟩,e⟩)
 have b7:vI c.prog c.w L Q d (st+1) (.ref Q) h (R i):=by
  refine⟨C,k,λbY=>aL x,S.upd (P:= [(Q,λo=>o=instObj L.a_ d)]) C ?_ r aV (J8 A B bK)⟩;show _=(Q,λo=>o=instObj L.a_ d)::(d,pR k (st+1))::_;unfold HR;rw [bF x,bF (aan st)]
 refine bA _ w .next (bD.trans (cu h _ C)) bM ⟨aB,aC,_,y.oU j (λb n bY o e=>(r.2 b (ah n)).trans e) (c.B.e8 y.inv λao b_ o e=>(r.2 ao (ah ((y.tab ao b_).2.2.2.2 i E))).trans e) (Le.refl _) (λb o e=>(r.2 b λq=>?_).trans (y.bC b o e)) (λb o e=> .inl e) aH ⟨.ref Q,C,?_⟩ (λb t=>⟨.inl t,(T b t).2.1⟩)⟩ trivial
 .exact aT ((aQ _ q).trans ((T d X).2.1)) e
 .exact l.ob.symm▸b7
end
section
theorem YF(l:bH c.B c.prog c.w w)(bg:Fm c.env n t b7)(i:Y)(j:n[i]?=J O)(X:g[i]?=J (.obj (.gH Q d 0)))
  (bD:swapsWith (.Dict [] [] aB) (J (.Attribute (.Name O aE) (iQ 0) az)) aW.line c.env=pure aA):ES c n t g (.Assign [.Attribute (.Name O aE) (iQ 0) az] (.Dict [] [] aB) aW) (g.set i (.obj (.gH Q d 1))) .next:=by
 constructor;intro A f s cE cV bM h aC;refine vC (wpAny_Dict_empty ?_) bD;have P:=b5.gR h.ready emptyDict s.toks;refine GL l bg i j X A f {s with heap:=s.heap.push emptyDict} _ _ (h.step P) λaL cK aO=>?_;obtain rfl:=aO.inv;obtain⟨aU,R,m,p⟩:=h;have Fr:=p.free (ir s);have y:=p.step P;have y:aN c.B c.ρ A f c.env n t g R m (s.heap.push emptyDict):=y;refine bR (Ce l y j X) λbq aV=>aG aV.ob λbz b_ S=>aG (S.dH (Q,λo=>o=instObj w.a_ d) (cA (i:=0) C)) λcO a H=>aG (S.dH (d,pR bz 0) (cA (i:=1) C)) λcv aj B=>?_;dsimp only at a aj H B;subst H;refine uc (B) λaD u aH aJ aK G v=>?_;subst aK;have z:=(cw.mp j).1;have ad:m i= [Q,d]:=by rw [S.ad];exact C
 have x:d∈m i:=by rw [ad];exact .tail _ (.head _)
 have k:=y.fp i z;refine z0 (s:={s with heap:=s.heap.push emptyDict,toks:=aL}) (l.gS y.base) (⟨a,C,C,aj⟩) C l.ok.sa l.ok.po (by unfold takerIn;rw [l.ok.at_ _ (HQ 0),xH]) l.ok.hd (by rw [v];rfl) (bh G (bx C)) λL bQ bW bY r aZ=>?_;have r:gk d (s.heap.push emptyDict) L:=r;have E:∀{b},b∉m i->b≠d:=λ{b}u q=>u (by rw [q];exact x);have bA:vI c.prog c.w w Q d 1 (.ref Q) L [Q,d,s.heap.objs.size]:=by
  have F:=ad▸S.nd;have ah:=ad▸(Fr.fp i z);exact⟨C,s.heap.objs.size,λT=>(KQ l p),⟨bl (aM _ ((r.2 Q (oH F 0 1 C C C)).trans a) C) (bl (aM _ aZ (J8 (c3 _) ((B0 aD u aH aJ C G v)) (.inl ⟨C,C⟩))) (bl (aM _ ((r.2 _ (λq=>ah (q▸cN 1 C))).trans (eY s.heap C)) (λcz cB e=>(BY _ (#[]) 0 e (cR C C C) C (λT bK=>by simp at bK) (.nil) xC))) dR)),C,(bJ F ah)⟩⟩
 have ai:=Fr;refine aC _ f .next (cu L _ C) (Le.refl _) ⟨aU,R,_,y.u6 j (λb u T o e=>(r.2 b (E u)).trans e) (c.B.e8 y.inv λao au o e=>(r.2 ao (E ((y.tab ao au).2.2.2.2 i z))).trans e) (Le.refl _) (λb o e=>(r.2 b λq=>?_).trans (y.bC b o e)) (λb o e=> .inl e) bq ⟨.ref Q,C,?_⟩ (bl ⟨.inl (by rw [ad];exact .head _),(k _ (by rw [ad];exact .head _)).2.1⟩ (bl ⟨.inl x,(k _ x).2.1⟩ (bl ⟨.inr ai,ai.fz⟩ dR)))⟩ trivial
 .exact aT ((aQ _ q).trans ((k d x).2.1)) e
 .exact l.ob.symm▸bA
end
theorem SU(x:vI i X L Q d 4 v h O):∃G,G.abs= .bX Q [] ae 0 0/\dQ i X L 0 G v h O:=by
 refine aG x.ob λk a S=>(aM ⟨Q,d,k,ae, [],0,0, []⟩ C (⟨x.v,a (nofun),xC,⟨λw s=>?_,S.ad,S.nd⟩⟩));have s:w∈ [(Q,λo=>o=instObj L.a_ d),(d,gT ⟨Q,d,k,ae, [],0,0, []⟩),(k,jc i X ⟨Q,d,k,ae, [],0,0, []⟩)]:=s;simp only [cC,gM,or_false]at s;rcases s with rfl|rfl|rfl
 .exact S.dH (Q,λo=>o=instObj L.a_ d) (cA (i:=0) C)
 .exact aG (S.dH (d,pR k 4) (cA (i:=1) C)) λo e p=>(aM o e (Ve p))
 .exact S.dH (k,jc i X ⟨Q,d,k,ae, [],0,0, []⟩) (cA (i:=2) C)
section
variable{y:Ly Ob}
noncomputable def UD:U (af×dU):= [("self", .local),("graph", .local),("node", .local),("predecessors", .local)]
noncomputable def q9:U af:= ["self", "graph", "node", "predecessors"]
set_option maxHeartbeats 1000000
theorem XV(l:bH y.B y.prog y.w L)(k:jJ y.B z aJ f (cQ (e7 16 0)) q9)(x:f.scope=d5 (e7 16 0))(t:Binds y.B y.prog y.w f q9 [] [.none]):
  eR y.B y.prog y.w (u+1) (.ref z) (.gH Q d 0) [] λi r=>i= .bX Q [] ae 0 0/\r= .none:=by
 have b:eR y.B y.prog y.w (u+1) (.ref z) (.gH Q d 0) [] λi r=>i= .gH Q d 4/\r= .none:=by
  refine qB y.G k (dP C) t (λX R E=>?_) λ{P}g A e B p=>?_
  .obtain⟨rfl,_⟩:=X;rw [l.ob]at R E;have R:=R;have E:=E;rw [R.v,E.v]
  .have F:Fm (callEnvC f A z) q9 q9.length UD:=jQ (C) (by show f.scope.names=_;exact aQ _ x)
   let c:=(y.up P g).c e B (callEnvC f A z) u p
   have h:bH c.B c.prog c.w L:=l.up g;exact XP.ev (XP.mono (Φ:=λS j=>S= [.obj (.gH Q d 4), .t .none, .un, .un]/\j= .next) (EX.xp (zx (YF h F 0 C C C) (zx (DU (st:=1) h F 0 C C zn C (nofun) (aX _ _) (.inl ⟨C,C⟩) C) (zx (DU (st:=2) h F 0 C C (zi 0) C (nofun) (aX _ _) (.inr ⟨C,ek _⟩) C) (zx (DU (st:=3) h F 0 C C (zi 0) C (nofun) (cY _) (.inr ⟨C,aX _ _⟩) C) (zx (dF (b:=aA) (zC (zv F 1 C C) zn C C) ⟨ik⟩) ⟨ik⟩))))) ⟨C,C⟩) λS j X=>by obtain⟨rfl,rfl⟩:=X;exact(lG _ _ C (.inr ⟨C,C⟩) C C))
 intro e B s H n p o O q v w T G ah;refine b e B s H n p o O q v w T G λm aj ao au aL aK ai aD az aC aB aE aH a=>?_;obtain⟨rfl,rfl⟩:=ai;rw [l.ob]at a;exact ah m aj ao au (.bX Q [] ae 0 0) .none ⟨C,C⟩ aD az aC aB aE aH (by rw [l.ob];exact SU a)
end
section
variable{c:Cx Ob}
theorem TR(l:bH c.B c.prog c.w L)(aE:dw c.A (aW+2))(aD:(("__init__":af),bA)∈L.fs)(aj:∀Q ao,eR c.B c.prog c.w (aW+1) (.ref bA) (.gH Q ao 0) [] λd r=>d= .bX Q [] ae 0 0/\r= .none)(S:aN c.B c.ρ A f c.env n k g H R s.heap)
  (aC:∀m P Q O,bU s m->Le f P->aN c.B c.ρ A P c.env n k g H R m.heap->c.B.ob.at_ (.bX Q [] ae 0 0) (.ref Q) m.heap O->(∀b∈O,eT c.B A P c.env n R b)->bg (.ref Q) m):wpAny (model c.prog c.w) c.A (call (.ref L.a_) []) bg bQ s:=by
 obtain⟨u,i,x,E,os⟩:=s;have T:=l.gS S.base;have p:aN c.B c.ρ A f c.env n k g H R u:=S;have r:=S.ready;refine bR (l.ok.fs _ aD) λau aL=>jH (make_core (makes_of T l.ok.CB) (looks_findIn T au) (λaV=>bind_fn T aV (beq_iff_eq.mp aL)) (.inl C) ?_);have j:=b5.gR r emptyDict E;have bz:=S.step j;have bq:=bz.step (b5.gR (j.ready r) (instObj L.a_ u.objs.size) E);have B:u.get? u.objs.size=ae:=ir ⟨u,i,x,E,os⟩;have a:u.get? (u.objs.size+1)=ae:=by
  cases q:u.get? (u.objs.size+1)with
  |none=>rfl
  |some o=>exact cg (eM q) (gW.mpr (xD _))
 have az:c.B.ob.at_ (.gH (u.objs.size+1) u.objs.size 0) (.ref (u.objs.size+1)) ((u.push emptyDict).push (instObj L.a_ u.objs.size)) [u.objs.size+1,u.objs.size]:=by
  rw [l.ob];refine(⟨C,0,(cg C),⟨bl (aM _ (by heap_get) C) (bl (aM _ (by heap_get) ⟨[],0,0,0,C,ek _,λbY=>C⟩) dR),C,by simp⟩⟩)
 have G:=S.free B;have h:=S.free a;refine aj (u.objs.size+1) u.objs.size _ c.ρ f _ [] _ ⟨(u.push emptyDict).push (instObj L.a_ u.objs.size),i,x,E,os⟩ [u.objs.size+1,u.objs.size] aE.call bq.ready az (bl (cR h.fz h.h0 h.tab) (bl (cR G.fz G.h0 G.tab) dR)) .nil ?_
 .rintro m P bW aH d bM⟨rfl,rfl⟩aK y aO aU X aB aZ v aJ;obtain rfl:=aJ.inv;refine⟨C,?_⟩;have F:=λ{b o}e t=>bl (P:=λb=>u.get? b=J o->False) (aT a) (bl (aT B) dR) b t e;have w:∀{b o},u.get? b=J o->((u.push emptyDict).push (instObj L.a_ u.objs.size)).get? b=J o:=λe=>eF _ (eF _ e);have ah:∀{b},((u.push emptyDict).push (instObj L.a_ u.objs.size)).get? b=ae->u.get? b=ae:=λ{b}e=>by
   cases q:u.get? b with
   |none=>rfl
   |some o=>rw [w q]at e;assumption
  have ai:∀{b},b∈ [u.objs.size+1,u.objs.size]->u.get? b=ae:=λ{b}t=>by
   cases q:u.get? b with
   |none=>rfl
   |some o=>exact cg t (F q)
  have bD:=p.grow (λb t o e=>aO b (F e) t o (w e)) aU y λb o e=>by
   rcases aB b o e with q|q|q
   .exact .inl q
   .exact .inr ⟨ah q,X b o e⟩
   .exact .inr ⟨ai q,X b o e⟩
  refine aC m P _ aH (bU.trans (cu _ _ C) aK) y bD aZ λb t=>?_;have bK:u.get? b=ae:=by
   rcases(v b t).1 with q|q
   .exact ai q
   .exact ah q
  have z:=p.free bK;exact⟨z.hb,(v b t).2,z.loc,z.cell,z.fp,z.tab,z.h0⟩
end
section
set_option tactic.hygienic true
section
variable{c:Cx Ob}{i:Y}
theorem Iq{p:af×ay}(h:(cM G)[i]?=J p):∃T,G.bJ[i]?=J T/\p=(b3 T.key, .ref T.i):=by
 unfold cM at h;rw [gD]at h;cases e:G.bJ[i]? with
 |none=>rw [e]at h;exact aT C h
 |some T=>rw [e]at h;exact(aM T C ((bf h).symm))
theorem LY(x:EE c g aj B e u (.bO (.ref G.D)))(q:(G.D==sysModules)=aA)(p:c.B.bI.DictOf (strKind c.prog c.w) G.D (cM G)):EI aA c g aj B e u (G.bJ.map λh=> .str h.key):=by
 constructor;intro au f ai aK aJ S A;refine x.1 au f ai _ _ S λa F v az X l d=>?_;obtain rfl:=d.inv;have r:=l.ready;refine bZ p.dictAt λO k=>?_;have L:=k.at' λo e=>r.base _ o e;refine wpAny_pyIter_dict q L ?_;obtain⟨w,H,R,y⟩:=l;have n:=L.lt_size;have j:=Walks.dictKeys (knd:=strKind c.prog c.w) c.R.handled a.heap.objs.size G.D (fW n) (cM G) O;rw [show(cM G).length=(G.bJ.map λh=>T.str h.key).length from by simp [cM]]at j⊢;refine A _ F _ _ _ _ _ H R (az.trans (cu _ a.toks C)) X w (y.step ((show(G.bJ.map λh=>T.str h.key).length=(cM G).length from by simp [cM]).symm▸(b5.gR r {cls:= .type "dict_keyiterator",data:= .fields #[.ref G.D, .int 0 0, .int (cM G).length 0, .int O 0]} a.toks))) j (λi v P=>?_) ⟨(i12 _ (eY _ C) C C),L.at' λo e=>eF _ e⟩ (λb t=>?_) (λb t=>?_) (λb t=>?_) (λi x st b t=>by rw [cI.mp t];refine bR st λs ao=>?_;obtain⟨o,Q,_⟩:=s;exact cS Q) ?_
 .refine dK P λaL aH ah z=>aG (Iq ah) λh aC e=>bR (qn e) λs aB=>?_;subst s aB;refine(aM (.str h.key) (by rw [gD,aC];rfl) ?_);obtain⟨E,rfl⟩:∃E,v= .str (b3 h.key) E:=by
   cases v<;>first|exact dg C z;done|skip
   rename_i aD aE;exact⟨aE,by rw [show aD=b3 h.key from by simpa [qp,Value.isStrOf]using z]⟩
  exact .str _ _
 .rw [cI.mp t];exact⟨y.free (ir a),aQ _ (eY _ C)⟩
 .rcases cC.mp t with rfl|t
  .exact .inl (.head _)
  .rw [cI.mp t];right;right;exact dK k λo aO Q ao=>cS Q
 .show b<(a.heap.push _).objs.size;rw [jX];rcases cC.mp t with rfl|t
  .exact cY _
  .rw [cI.mp t];exact ql n
 .intro m;exact dg C m
theorem YE(s:EE c H g az o E (.bO (.ref G.D)))(aB:(G.D==sysModules)=aA)(aC:c.B.bI.DictOf (strKind c.prog c.w) G.D (cM G))
  (aH:attributeBase o "values" c.env (eval o c.env)=eval o c.env)(bg:(X.endLine==aE.line)=aa):EI aA c H g az (.Call (.Attribute o "values" X) [] [] aE) E (G.bJ.map λb=> .bO (.ref b.i)):=by
 constructor;intro A aZ bq bQ bM R ao;refine qq aH (vo _) bg Zx F.slot_dict_values F.type_dict_values (s.1 A aZ bq _ _ R λbY b_ aJ aL aO p aV=>?_);obtain rfl:=aV.inv;have r:=p.ready;refine bZ aC.dictAt λO k=>?_;have L:=k.at' λo e=>r.base _ o e;refine(cR L.dictOf.typeIs L.dictOf.mapOf.noDict (nS (C) (jm (λe s=>cg s gM) kM p λj f b7 ai aj v au=>?_)));obtain rfl:=au.g6 C;have r:=v.ready;have L:=k.at' λo e=>r.base _ o e;refine call_meetsIn PySem.F.slot_dict_values L.dictOf.typeIs PySem.F.entry_dict_values (PySem.F.args_dict_values_1 _) (meets_dict_values (strKind c.prog c.w) G.D aB) ⟨⟨_,L.dictOf⟩,?_⟩;have h:=v.step (b5.gR r {cls:= .type "dict_values",data:= .fields #[.ref G.D]} j.toks);have a:(j.heap.push {cls:= .type "dict_values",data:= .fields #[.ref G.D]}).DictAt (strKind c.prog c.w) G.D (cM G) O:=L.push _;have m:(j.heap.push {cls:= .type "dict_values",data:= .fields #[.ref G.D]}).IsValuesView j.heap.objs.size G.D:=(i12 _ (eY _ C) C C)
 revert h a m
 generalize j.heap.push {cls:= .type "dict_values",data:= .fields #[.ref G.D]}=q;generalize j.heap.objs.size=bK;intro h a m;obtain⟨x,d⟩:∃x,x={j with heap:=q}:=⟨_,C⟩;have aK:bU j x:=(cu _ j.toks d);rw [<-d];have y:q=x.heap:=by rw [d]
 rw [y]at h a m;clear d y;have h:SR c.B c.ρ A f c.env H g E x.heap:=h;refine wpAny_pyIter_values m a ?_;have P:=b5.gR (h.ready (s:=x)) {cls:= .type "dict_valueiterator",data:= .fields #[.ref G.D, .int 0 0, .int (cM G).length 0, .int O 0]} x.toks;obtain⟨B,ah,aU,z⟩:=h;have u:G.D<x.heap.objs.size:=a.lt_size;have w:=Walks.dictValues (prog:=c.prog) (w:=c.w) (knd:=strKind c.prog c.w) c.R.handled x.heap.objs.size G.D (fW u) (cM G) O;have aD:(cM G).length=(G.bJ.map λb=>T.bO (.ref b.i)).length:=by simp [cM]
 rw [aD]at w P⊢;refine ao _ f _ _ _ _ _ ah aU (((aL.trans ai).trans aK).trans (cu _ x.toks C)) (aO.trans aj) B (z.step P) w (λi aJ m=>?_) ⟨(i12 _ (eY _ C) C C),a.at' λo e=>eF _ e⟩ (λl t=>?_) (λl t=>?_) (λl t=>?_) (λi s st l t=>by rw [cI.mp t];refine bR st λn aW=>?_;obtain⟨o,Q,_⟩:=n;exact cS Q) ?_
 .refine bZ m λbW bA=>aG (Iq bA) λb bz e=>?_;refine bR (qn e) λn bD=>?_;subst n;subst bD;exact(aM (.bO (.ref b.i)) (by rw [gD,bz];rfl) (.bO _))
 .rw [cI.mp t];exact⟨z.free (ir x),by exact aQ _ (eY _ C)⟩
 .rcases cC.mp t with rfl|t
  .exact .inl (by exact .head _)
  .rw [cI.mp t];right;right;exact dK k λo cv Q aW=>cS Q
 .show l<(x.heap.push _).objs.size;rw [jX];rcases cC.mp t with rfl|t
  .exact cY _
  .rw [cI.mp t];exact ql u
 .intro S;exact dg C S
end
end
section
variable{c:Cx Ob}{oC:b9}{l:U Y}{h':b8}
theorem zH(S:aN c.B c.ρ A f c.env n k g H R h)(j:n[i]?=J x)(B:g[i]?=J (.obj o)):∃v,dZ c.env H h x (J v)/\c.B.ob.at_ o v h (R i):=by
 refine cps λw T=>?_;obtain⟨s,r,v,rfl,m⟩:=S.vars i x _ j B;exact T ((aM v r m))
theorem zI(S:aN c.B c.ρ A f c.env n k s H R h)(j:n[i]?=J x)(p:dZ c.env H h x (J v))(r:a∈R i)(hs:gk a h h')(l:c.B.ob.at_ o' v h' (R i)):
  aN c.B c.ρ A f c.env n k (s.set i (.obj o')) H (bT R i (R i)) h':=by
 have z:=(cw.mp j).1;have F:=S.fp i z;have g:∀{b},b∉R i->b≠a:=λ{b}u q=>u (by rw [q];exact r);exact S.oU j (λb u w o e=>(hs.2 b (g u)).trans e) (c.B.e8 S.inv λX m o e=>(hs.2 X (g ((S.tab X m).2.2.2.2 i z))).trans e) (Le.refl _) (λb o e=>(hs.2 b λq=>(aT ((aQ _ q).trans ((F a r).2.1)) e)).trans (S.bC b o e)) (λb o e=> .inl e) p ⟨v,C,l⟩ (λb t=>⟨.inl t,(F b t).2.1⟩)
theorem CT(l:bH c.B c.prog c.w L)(S:aN c.B c.ρ A f c.env n k g H R h)(j:n[i]?=J x)(B:g[i]?=J (.obj (.set s))):
  ∃a u,dZ c.env H h x (J (.ref a))/\R i= [a]/\u<=s.length/\h.SetOf (qp c.prog c.w) a (λk=>s.any (λx=>decide (b3 x=k))) u:=by
 refine aG (zH S j B) λv r m=>?_;rw [l.ob]at m;obtain⟨a,u,rfl,z,P,e⟩:=(m);exact(lG a u r z P e)
theorem Y4(b:bH c.B c.prog c.w aC)(F:Fm c.env n k r)(i m:Y)(j:n[i]?=J x)(l:i<k)(G:r[m]?=J (("set":af), .globalImplicit))(y:swapsWith (.Call (.Name "set" u) [] [] L) (J (.Name x e)) p.line c.env=pure aA):
  ES c n k g (.Assign [.Name x e] (.Call (.Name "set" u) [] [] L) p) (g.set i (.obj (.set []))) .next:=by
 constructor;intro aj ah au aD ao a S O;refine bR (c.bi 15 "set" (.type "set") C) λf R=>kF (kG (mV c.G S.1 S.ready.base (F.kn m G nofun) f R (F.kg m G) (E2 (C) (jm (λs q=>cg q gM) kM S λh w aE o X t d=>?_)))) y;obtain rfl:=d.g6 C;refine call_set_0 λv=>?_;have H:(h.heap.push {cls:= .type "set",dict:=ae,data:= .set #[] 0 (.fresh 0 0 v)}).SetOf (qp c.prog c.w) h.heap.objs.size (λai=>aA) 0:=
  (SA _ (#[]) 0 _ (eY _ C) (cR C C C) C (λs A=>by simp at A) (λk=>by simp) (c3 _) (C) C)
 have P:=b5.gR t.ready {cls:= .type "set",dict:=ae,data:= .set #[] 0 (.fresh 0 0 v)} h.toks;obtain⟨E,az,aB,t⟩:=t;exact gc (av:= .obj (.set [])) E a (t.step P) j l (F.loc j l) ⟨_,C,(b.ob.symm▸((⟨_,0,C,C,ek _,by simpa using H⟩)))⟩ (.pP (t.free (ir h))) λB T Q z=>O B w .next ((o.trans P.same).trans Q) X ⟨E,T,_,z⟩ trivial
set_option tactic.hygienic true in
theorem L0(m:bH c.B c.prog c.w ah)(F:Fm c.env n k ai)(i:Y)(R:EE c n k g oC u (.str l))(j:n[i]?=J x)(B:u[i]?=J (.obj (.set s))):EC c n k g (.Compare oC [.In] [.Name x aj] L) u (decide (l∈s)):=by
 constructor;intro A f b Q G S O;refine xM (R.1 A f b _ _ S λh w q o X t d=>?_) C;obtain⟨P,rfl⟩:=d.inv;obtain⟨E,H,v,t⟩:=t;refine t_ (CT m t j B) λq T p r r y=>eP (eH E t.ns p (wpAny_inSet_of (knd:=qp c.prog c.w) (k:=b3 l) (rA ..) C y ?_)) (F.eU j);have z:b5 c.B w h w {h with toks:=h.toks+1}:=b5.tok t.ready _;have e:(s.any λx=>decide (b3 x=b3 l))=decide (l∈s):=by
  rw [tq];simp only [tE,decide_eq_true_eq];exact⟨λ⟨x,j,e⟩=>q2 e▸j,λa=>(aM l a C)⟩
 exact e.symm▸(vE (O _ w (o.trans z.same) X ⟨E,H,v,t.step z⟩))
theorem WD(h:h'.SetOf (qp d X) a (λi=>(s.any λx=>decide (b3 x=i))||decide (i=b3 l)) u):h'.SetOf (qp d X) a (λi=>(s++ [l]).any λx=>decide (b3 x=i)) u:=by
 have e:(λi=>(s.any λx=>decide (b3 x=i))||decide (i=b3 l))=λi=>(s++ [l]).any λx=>decide (b3 x=i):=funext λi=>by
  rw [List.any_append,Az,List.any_nil,Bool.or_false];exact aQ _ (decide_eq_decide.mpr eq_comm)
 exact e▸h
theorem Y3(h:bH c.B c.prog c.w bY)(X:Fm c.env b f bM)(i:Y)(j:b[i]?=J x)(ao:g[i]?=J (.obj (.set s)))(p:EE c b f g e u (.str l))(ai:u[i]?=J (.obj (.set s)))(P:dj e=aa)(T:(ah.endLine==o.line)=aa)(az:s.length<=1000):
  ES c b f g (.Expr (.Call (.Attribute (.Name x aU) "add" ah) [e] [] o) aV) (u.set i (.obj (.set (s++ [l])))) .next:=by
 constructor;intro bz bA bD aL bK aO S O;have k:∀B∈ [e],∀x Q,B≠ .Starred x Q:=λB R=>by rw [cI.mp R];exact gq P
 have q:=jS (pos:=o) (env:=c.env) [e] k;refine rB (cps λw aj=>?_) (by unfold interactive;exact S.1.kind.symm▸C) C;obtain⟨E,H,au,y⟩:=S;refine t_ (CT h y j ao) λa n r w w d=>aj (qq C (wD q (bx C)) T PySem.F.plainAttrs_set PySem.F.slot_set_add PySem.F.type_set_add (eP (eH E y.ns r (cR d.typeIs d.noDict (nS q (jm k (pH p.1 kM (gq P)) ⟨E,H,au,y.se j r⟩ λaW z bQ aB aC F aE=>?_)))) (X.eU j)));obtain⟨_,aH,aZ,F⟩:=F;refine t_ (CT h F j ai) λbg bq G m t aD=>?_;obtain rfl:=jZ (bf ((F.locked j).det G));have F:=F.unlock;refine aG aE.iy λv A aJ=>?_;subst A;refine bZ aJ.inv λbW A=>?_;subst A;refine call_set_add (k:=b3 l) (rA ..) C aD (by unfold scanBound;exact cF 0 (.a (.a (.v 1) (.n 1)) (.n 1)) (.n 4096) (.v 0) (.n 1000) (.v 1) (.v 0) C [_,_] az t) λh' aK L=>O _ z .next (aB.trans (cu h' _ C)) aC ⟨E,aH,_,zI F j G (m▸ .head _) aK (h.ob.symm▸(⟨a,_,C,m,?_,WD L⟩))⟩ trivial
 rw [ic]
 split
 .exact ET t
 .exact xG t
noncomputable def jO(r:U (U Y×aq))(l:U Y):aS aq:=(r.find? λx=>decide (x.1=l)).map (·.2)
noncomputable def oz(r:U (U Y×aq))(l:U Y)(i:aq):U (U Y×aq):=if r.any (λx=>decide (x.1=l))then r.map (λx=>if x.1=l then(x.1,i)else x)else r++ [(l,i)]
noncomputable def lE(r:U (U Y×aq))(l:U Y):U (U Y×aq):=r.filter λx=>decide (x.1≠l)
theorem Wn{a b:U Y}:b3 a=b3 b<->a=b:=⟨q2,(aQ _)⟩
theorem fj.get{m:U (af×ay)}{r:U (U Y×aq)}(h:fj m r):(∃t i,valueAt m (b3 l)=J (.int i t)/\jO r l=J i)\/(valueAt m (b3 l)=ae/\jO r l=ae):=
 fj.rec (.inr ⟨C,C⟩) (λ{R i t m r}w X=>by
  by_cases q:R=l
  .exact .inl (eV t i (aQ (qm AQ) (MV (decide_eq_true (aQ b3 q)))) (aQ (qm AQ) (MV (decide_eq_true q))))
  .have a:valueAt ((b3 R, .int i t)::m) (b3 l)=valueAt m (b3 l):=aQ (qm AQ) (MU (λe=>q (q2 (of_decide_eq_true e))));have Q:jO ((R,i)::r) l=jO r l:=aQ (qm AQ) (MU λe=>q (of_decide_eq_true e))
   rw [a,Q];exact X) h
theorem fj.any{m:U (af×ay)}{r:U (U Y×aq)}(h:fj m r):m.any (λx=>decide (x.1=b3 l))=r.any (λx=>decide (x.1=l)):=
 fj.rec C (λ{R _ _ _ _}w X=>by rw [Az,Az,X];exact aQ (·||_) (decide_eq_decide.mpr Wn)) h
theorem fj.append(h':fj i t){m:U (af×ay)}{r:U (U Y×aq)}(h:fj m r):fj (m++i) (r++t):=
 fj.rec h' (λw X=> .cons X) h
theorem fj.VG{i:aq}{E:fh}{m:U (af×ay)}{r:U (U Y×aq)}(h:fj m r):fj (m.map λx=>if x.1=b3 l then(x.1, .int i E)else x) (r.map λx=>if x.1=l then(x.1,i)else x):=
 fj.rec .nil (λ{R _ _ _ _}w X=>by
  rw [iA,iA]
  by_cases q:R=l
  .rw [bB q,bB (aQ b3 q)];exact .cons X
  .rw [bF q,bF λe=>q (q2 e)];exact .cons X) h
theorem fj.put{i:aq}{m:U (af×ay)}(h:fj m r):fj (stored m (b3 l) (.int i E)) (oz r l i):=by
 unfold stored oz;rw [h.any]
 split
 .exact h.VG
 .exact fj.append (.cons .nil) h
theorem fj.del{m:U (af×ay)}{r:U (U Y×aq)}(h:fj m r):fj (without m (b3 l)) (lE r l):=
 fj.rec .nil (λ{R i E m r}w X=>by
  by_cases q:R=l
  .have t:without ((b3 R, .int i E)::m) (b3 l)=without m (b3 l):=Eu (by simp [q]);have Q:lE ((R,i)::r) l=lE r l:=Eu (by simp [q]);rw [t,Q];exact X
  .have t:without ((b3 R, .int i E)::m) (b3 l)=(b3 R, .int i E)::without m (b3 l):=Ew (decide_eq_true λe=>q (q2 e));have Q:lE ((R,i)::r) l=(R,i)::lE r l:=Ew (decide_eq_true q)
   rw [t,Q];exact .cons X) h
theorem fj.len{m:U (af×ay)}{r:U (U Y×aq)}(h:fj m r):m.length=r.length:=fj.rec C (λw X=>aQ Nat.succ X) h
theorem wL(l:bH c.B c.prog c.w L)(S:aN c.B c.ρ A f c.env n k g H R h)(j:n[i]?=J x)(B:g[i]?=J (.obj (.jN e))):
  ∃a T,dZ c.env H h x (J (.ref a))/\R i= [a]/\(a==sysModules)=aA/\h.DictOf (qp c.prog c.w) a T/\fj T e:=by
 refine aG (zH S j B) λv r m=>?_;rw [l.ob]at m;obtain⟨a,T,rfl,z,P,s,q⟩:=(m);exact(HG a T r z P s q)
theorem Ys(h:bH c.B c.prog c.w L)(F:Fm c.env n k r)(i:Y)(j:n[i]?=J x)(l:i<k)(a:swapsWith (.Dict [] [] o) (J (.Name x e)) p.line c.env=pure aA):
  ES c n k g (.Assign [.Name x e] (.Dict [] [] o) p) (g.set i (.obj (.jN []))) .next:=by
 constructor;intro A f s Q G b S O;refine kF (wpAny_Dict_empty ?_) a;have P:=b5.gR S.ready emptyDict s.toks;obtain⟨E,H,R,t⟩:=S;exact gc (s:={s with heap:=s.heap.push emptyDict}) (av:= .obj (.jN [])) E b (t.step P) j l (F.loc j l) ⟨_,C,(h.ob.symm▸((⟨_, [],C,C,KQ h t,(BY emptyDict (#[]) 0 (eY _ C) (cR C C C) C (λw u=>by simp at u) (.nil) xC), .nil⟩:xT c.prog c.w [] _ _ _)))⟩ (.pP (t.free (ir s))) λm q v z=>O m f .next (P.same.trans v) (Le.refl _) ⟨E,q,_,z⟩ trivial
set_option tactic.hygienic true in
theorem LZ(a:bH c.B c.prog c.w P)(F:Fm c.env n k ah)(i:Y)(R:EE c n k g oC u (.str l))(j:n[i]?=J p)(G:u[i]?=J (.obj (.jN m))):EC c n k g (.Compare oC [.In] [.Name p aj] ai) u (jO m l).isSome:=by
 constructor;intro A f s ao au S O;refine xM (R.1 A f s _ _ S λh w b o X t x=>?_) C;obtain⟨v,rfl⟩:=x.inv;obtain⟨E,H,d,t⟩:=t;refine qI (wL a t j G) λb T r az q y B=>eP (eH E t.ns r (wpAny_in_of (knd:=qp c.prog c.w) (k:=b3 l) (rA ..) q y.mapOf ?_)) (F.eU j);have z:b5 c.B w h w {h with toks:=h.toks+1}:=b5.tok t.ready _;have L:(valueAt T (b3 l)).isSome=(jO m l).isSome:=by
  rcases B.get with⟨v,i,e,Q⟩|⟨e,Q⟩<;>rw [e,Q]<;>rfl
 exact L.symm▸(vE (O _ w (o.trans z.same) X ⟨E,H,d,t.step z⟩))
theorem Yt(h:bH c.B c.prog c.w L)(F:Fm c.env n k ai)(i:Y)(j:n[i]?=J x)(B:g[i]?=J (.obj (.jN m)))(a:EP c n k g cG (.str l))(v:jO m l=J w)(P:uO cG=aa):EE c n k g (.Subscript (.Name x X) cG e) g (.int w):=by
 constructor;rintro A f s aj aB⟨E,H,R,S⟩O;refine cps λ_ T=>qI (wL h S j B) λo az r y z p q=>T (vA (eP (eH E S.ns r (a.1 A f s _ _ ⟨E,H,R,S⟩ λG ah b=>?_)) (F.eU j)));obtain⟨d,rfl⟩:=b.inv;refine tM p.typeIs PySem.F.slot_dict_getitem.lookup ?_ (u5 λo ao au e u=>by subst u;contradiction);rcases q.get with⟨d,i,t,Q⟩|⟨t,Q⟩
 .rw [v]at Q;obtain rfl:=bf Q;exact NC (rA ..) p.mapOf t (O _ f _ (cu s.heap _ C) (Le.refl _) ⟨E,H,R,S⟩ (.int _ _))
 .exact aT Q v
set_option tactic.hygienic true in
theorem Yu(h:bH c.B c.prog c.w aE)(F:Fm c.env n k aD)(i:Y)(j:n[i]?=J x)(o:EE c n k y e u (.int z))(v:u[i]?=J (.obj (.jN m)))(G:EP c n k u oC (.str l))(R:m.length<=1000)
  (ah:swapsWith e (J (.Subscript (.Name x ai) oC s)) p.line c.env=pure aA):ES c n k y (.Assign [.Subscript (.Name x ai) oC s] e p) (u.set i (.obj (.jN (oz m l z)))) .next:=by
 constructor;intro A f q az aB aC S O;refine wpAny_Assign_Subscript (o.1 A f q _ _ S λd w aU H X t B=>?_) ah;obtain⟨E,L,Q,t⟩:=t;refine qI (wL h t j v) λa aK r b T aj g=>eP (eH E t.ns r (G.1 A w d _ _ ⟨E,L,Q,t⟩ λaH aJ ao=>?_)) (F.eU j);obtain⟨aL,rfl⟩:=ao.inv;obtain⟨aO,rfl⟩:=B.inv;exact wpAny_setItem_pairs (rA ..) aj (λh' au P=>(O _ w .next (H.trans (cu h' _ C)) X ⟨E,L,_,zI t j r (by rw [b];exact .head _) P (h.ob.symm▸((⟨a,_,C,b,T,au,g.put⟩:xT c.prog c.w (oz m l z) (.ref a) h' (Q i))))⟩ trivial)) (by rw [g.len,jG];exact bh R (bx C))
end
section
set_option tactic.hygienic true
theorem Dl:Slot "wrapper_descriptor" "__get__" "wrapper_descriptor.__get__":=
 .of (owner:= "wrapper_descriptor") (n:= "__get__") (by rw [j2,j0];kernel_rfl) (C) (C) (C)
  (by first|exact .inl (C)|exact .inr (C)) (by rw [j1];exact C)
theorem X5:typeLookup (.type "wrapper_descriptor") "__set__"=pure ae:=by rw [j2,j0];kernel_rfl
theorem X4:typeLookup (.type "wrapper_descriptor") "__delete__"=pure ae:=by rw [j2,j0];kernel_rfl
theorem QH:entryFor table "wrapper_descriptor.__get__"=J Builtin.«wrapper_descriptor.__get__»:=AS (C)
theorem Oz(a b c:ay):argsOk "wrapper_descriptor.__get__" ⟨[a,b,c], []⟩:=by unfold argsOk;kernel_rfl
theorem Xa:isSubtype (.type "list_iterator") (.type (".".intercalate ("list_iterator.__next__".cutAt '.').dropLast))=pure aa:=by
 rw [show(".".intercalate ("list_iterator.__next__".cutAt '.').dropLast)= "list_iterator"from C,j1];exact C
theorem LD:typeOf (.builtin "list_iterator.__next__")=pure (.type "wrapper_descriptor"):=by
 first|exact h (C)|(unfold typeOf;decide+kernel)|kernel_rfl
theorem z4:Slot "list_iterator" "__getattribute__" "object.__getattribute__":=
 .of (owner:= "object") (n:= "__getattribute__") (by rw [j2,j0];kernel_rfl) (C) (C) (C)
  (by first|exact .inl (C)|exact .inr (C)) (by rw [j1];exact C)
section
variable{g:j4 GenState}{d:Drawn}{t:Y}{os:OsState}
theorem Um(j:h.get? a=J o)(y:o.cls= .type "list_iterator")(k:p (.ok (.ret (.ref h.objs.size))) ⟨h.push (jw a),g,d,t,os⟩):
  codeAny (model i X) F (.call (.builtin "wrapper_descriptor.__get__") ⟨[.builtin "list_iterator.__next__", .ref a, .type "list_iterator"], []⟩) p ⟨h,g,d,t,os⟩:=by
 have e:(⟨h,g,d,t,os⟩:aR).TypeIs (.ref a) "list_iterator":=(aM _ j y);have f:=Xa;refine ru Dl.plain QH (Dl.check _ _ _ _ _ _ _ _ (LD) (Oz _ _ _) ?_)
 repeat(any_goals(first|assumption|wp_step))
theorem Ul(j:h.get? a=J {cls:= .type "list_iterator",dict:=ae,data:= .fields y,slots:=#[]})(k:Q (.done (.ret (.ref h.objs.size))) ⟨h.push (jw a),g,d,t,os⟩):
  wpAny (model i X) F (Builtin.«object.__getattribute__» ⟨[.ref a, .str "__next__" R], []⟩) Q G ⟨h,g,d,t,os⟩:=by
 have e:(⟨h,g,d,t,os⟩:aR).TypeIs (.ref a) "list_iterator":=(aM _ j C);have b:(⟨h,g,d,t,os⟩:aR).TypeIs (.builtin "list_iterator.__next__") "wrapper_descriptor":=LD;have q:typeLookup (.type "list_iterator") "__next__"=pure (J (.builtin "list_iterator.__next__")):=slot_listiter_next.lookup;have s:=Dl.lookup;have r:=X5;have x:=X4
 repeat(any_goals(first|assumption|wp_step))
 refine Um j C ?_
 repeat(any_goals(first|assumption|wp_step))
theorem Uj(j:h.get? a=J {cls:= .type "list_iterator",dict:=ae,data:= .fields y,slots:=#[]})(k:Q (.ref h.objs.size) ⟨h.push (jw a),g,d,t,os⟩):
  wpAny (model i X) F (getAttrBy (.ref a) (.str "__next__" R) aa aa) Q G ⟨h,g,d,t,os⟩:=by
 have e:(⟨h,g,d,t,os⟩:aR).TypeIs (.ref a) "list_iterator":=(aM _ j C);have c:=z4.lookup;have v:=z4.bind (.ref a)
 repeat(any_goals(first|assumption|wp_step))
 refine ru z4.plain aaG (z4.check _ _ _ _ _ _ _ _ e (aaF _ _) (Ul j ?_))
 repeat(any_goals(first|assumption|wp_step))
theorem Ui(j:h.get? a=J {cls:= .type "list_iterator",dict:=ae,data:= .fields y,slots:=#[]})(k:Q (.ref h.objs.size) ⟨h.push (jw a),g,d,t+1,os⟩):
  wpAny (model i X) F (getAttr (.ref a) "__next__" aa) Q G ⟨h,g,d,t,os⟩:=by
 repeat(any_goals(first|assumption|with_reducible apply Uj j|wp_step))
theorem O3(B:s.heap.IsList l n)(O:Q (.ref s.heap.objs.size) {s with heap:=s.heap.push {cls:= .type "list_iterator",data:= .fields #[.ref l, .int 0 0]}}):
  wpAny (model i X) F (call (.builtin "iter") [.ref l]) Q G s:=by
 refine call_function_entry (C) (C) (entryFor_of_fast (C)) (by unfold argsOk;kernel_rfl) ?_;unfold Builtin.«iter»;exact aF (iL (a:= [vB l]) (by first|rfl|kernel_rfl!) (aF (NF B (bP (aM _ C O)))))
end
end
section
inductive NZ(c:Cx Ob)(m:af->aS ay)(h:b8)(x:af)(fp:U ak)(il:U (ak×Y)):Prop
 |mk(a:ak)(ws:U (ak×ak))(n:Y)(ha:dZ c.env m h x (J (.ref a)))(f:fp=g5 a ws)(nd:(g5 a ws).Nodup)(hl:ws.length=il.length)(lv:∀b∈g5 a ws,(h.get? b).isSome=aa)(g:h.get? a=J (lo (ws.map λw=> .ref w.1) n))(r:A6 h ws il)
theorem CQ(l:bH c.B c.prog c.w s)(S:aN c.B c.ρ A f c.env n k g H R h)(j:n[i]?=J x)(B:g[i]?=J (.obj (.dc L))):NZ c H h x (R i) L:=by
 refine aG (zH S j B) λv e m=>?_;rw [l.ob]at m;obtain⟨a,T,u,rfl,z,b,B,g,P,r⟩:=(m);exact⟨a,T,u,e,z,z▸b,B,z▸g,P,r⟩
theorem YG(Z:bH c.B c.prog c.w cl)(F:Fm c.env n k ns)(i:Y)(j:n[i]?=J x)(l:i<k)(P:swapsWith (.List [] b) (J (.Name x e)) p.line c.env=pure aA):
  ES c n k g (.Assign [.Name x e] (.List [] b) p) (g.set i (.obj (.dc []))) .next:=by
 constructor;intro A f s Q G yT S O;refine kF ((o4 cj C).1 A f s _ _ S λai w a B h T R o X E t u v d=>?_) P;have q:=by have:=d.length;simpa using this
 subst q;refine gc (av:= .obj (.dc [])) E yT t j l (F.loc j l) ⟨_,C,?_⟩ (.pP u) λm y r z=>O m w .next (o.trans r) X ⟨E,y,_,z⟩ trivial
 rw [Z.ob];exact(⟨a, [],h,C,C,l9.mpr ⟨gM,xC⟩,C,λah H=>by rw [cI.mp H,v];rfl,v,λi aj x L=>nofun⟩)
theorem nC(a:ak)(T:U (ak×ak))(X:ak×ak):g5 a (T++ [X])=g5 a T++ [X.1,X.2]:=by simp [g5]
theorem S1{a e:ak}{n₃:Y}(k:(g5 a ws).Nodup)(G:ws.length=l.length)(x:∀b∈g5 a ws,(h.get? b).isSome=aa)
  (m:A6 h ws l)(B:h.get? e=ae)(c:h.get? j=ae)(A:j≠e)(hs:∀b,b≠a->∀o,h.get? b=J o->L.get? b=J o)
  (s:L.get? j=J (jw e))(n:L.get? e=J {cls:= .type "list_iterator",data:= .fields #[.ref S, .int 0 0]})(v:L.get? a=J (lo ((ws++ [(j,e)]).map λX=>vB X.1) n₃)):nt 0 (l++ [(S,0)]) (.ref a) L (g5 a (ws++ [(j,e)])):=by
 have u:∀{b d},h.get? d=ae->b∈g5 a ws->b≠d:=λy t q=>dg (aQ ro y) (q▸x _ t);have f:∀{P:Y}{X:ak×ak},ws[P]?=J X->X.1≠a/\X.2≠a:=λ{P X}p=>
  have H:∀{b},b∈ [X.1,X.2]->b≠a:=λt q=>(l9.mp k).1 (q▸tG.mpr (aM X (cA p) t))
  ⟨H (cN 0 C),H (cN 1 C)⟩
 refine⟨a,_,n₃,C,C,nC a ws (j,e)▸gm.mpr (cR k (.cons (bl A dR) (.cons dR .nil)) (λb t d g=>bl (P:=λd=>∀b∈g5 a ws,b≠d) (λw=>u c) (bl (λw=>u B) dR) d g b t)),by rw [ic,ic,G];rfl,λb t=>?_,v,λP X r p z=>?_⟩
 .refine(fb.mp (nC a ws (j,e)▸t)).elim (λt=>?_) (bl (P:=λb=>(L.get? b).isSome=aa) (cS s) (bl (cS n) dR) b);obtain⟨o,Q⟩:=gn.mp (x b t);exact(tu (b=a)).elim (λq=>q▸cS v) λq=>cS (hs b q o Q)
 .by_cases i:P<ws.length
  .have O:=(l7 i).symm.trans p;obtain⟨T,o,Q,E⟩:=m P X r O ((l7 (G▸i)).symm.trans z);exact⟨hs _ (f O).1 _ T,o,hs _ (f O).2 _ Q,E⟩
  .have p:=(l8 (nR i)).symm.trans p;have z:=(l8 (G▸nR i)).symm.trans z;rw [<-G]at z;generalize P-ws.length=d at p z;cases d with
   |succ d=>exact aT C p
   |zero=>exact bf p▸bf z▸⟨s,_,n,C,C⟩
theorem YH(k:bH c.B c.prog c.w iK)(F:Fm c.env n G dS)(i H:Y)(j:n[i]?=J A)(d6:aO[i]?=J (.obj (.dc O)))(aK:dS[H]?=J (("iter":af), .globalImplicit))(dB:EE c n G aO e P (.bO (.ref f)))(dX:rN c n G P f nP)(fx:P[i]?=J (.obj (.dc O)))(aE:dj e=aa)
  (bD:(dJ.endLine==m.line)=aa)(eK:O.length<=1000):
  ES c n G aO (.Expr (.Call (.Attribute (.Name A gv) "append" dJ) [.Attribute (.Call (.Name "iter" w) [e] [] p) "__next__" g] [] m) k7) (P.set i (.obj (.dc (O++ [(f,0)])))) .next:=by
 constructor;intro cv kA l6 gV iX jj aL bM;have az:∀d∈ [e],∀A p,d≠ .Starred A p:=λd z=>by rw [cI.mp z];exact gq aE
 have aZ:=jS (pos:=m) (env:=c.env) [MA (.Call (.Name "iter" w) [e] [] p) "__next__" g] (λd z=>by rw [cI.mp z];exact gq C);refine rB (cps λbg T=>?_) (by unfold interactive;rw [aL.1.kind];assumption) C;obtain⟨E,cE,cV,y⟩:=aL;obtain⟨x,au,aU,aV,_,_,_,_,v,_⟩:=CQ k y j d6;refine T (qq C (vo _) bD E1 PySem.F.slot_list_append PySem.F.type_list_append (eP (eH E y.ns aV (cR (aM _ v C) (λgJ d8=>E3 d8▸(aM _ v C)) ?_)) (F.eU j)));have eE:backTo m (starEach [MA (.Call (.Name "iter" w) [e] [] p) "__next__" g] c.env)= [(aA,eval (MA (.Call (.Name "iter" w) [e] [] p) "__next__" g) c.env)]:=C;rw [eE]at aZ⊢;refine nS aZ (tN (pn (bR (c.bi 16 "iter" (.builtin "iter") C) λdO eX=>?_)));refine aF (kG (mV c.G E y.base (F.kn H aK nofun) dO eX (F.kg H aK) (nS (jS (pos:=p) (env:=c.env) [e] az) (jm az (pH dB.1 kM (gq aE)) ⟨E,cE,cV,y.se j aV⟩ λfa X nM bK bQ t bW=>(aG bW.iy λjW bY b7=>?_)))));subst bY;obtain rfl:=b7.inv;obtain⟨_,b_,Q,t⟩:=t;obtain⟨gK,au,aU,ao,L,cz,aB,cB,v,aC⟩:=CQ k t j fx;obtain rfl:=jZ (bf ((t.locked j).det ao));have t:=t.unlock;refine cps λbg T=>aG (dX _ _ _ _ _ t) λiz aD cK=>?_;obtain⟨k6,cO,rfl,k8⟩:=cK;obtain⟨u,c9,c_,dm,os⟩:=fa;refine T ?_;dsimp only at aD v t aC;refine O3 (i12 _ aD C ⟨cO,C⟩) (aF (nk (aF (gf ?_))));have aH:(u.push {cls:= .type "list_iterator",data:= .fields #[.ref f, .int 0 0]}).get? u.objs.size=J {cls:= .type "list_iterator",data:= .fields #[.ref f, .int 0 0]}:=eY u C;refine Ui aH (aF (wpAny_letTemporaryGo (bP (rz ?_))));have aJ:(u.push {cls:= .type "list_iterator",data:= .fields #[.ref f, .int 0 0]}).objs.size=u.objs.size+1:=jX ..;have B:=ir ⟨u,c9,c_,dm,os⟩;have h:u.get? (u.objs.size+1)=ae:=jR λo q=>cg (eM q) (gW.mpr (xD _));have s:∀b o,u.get? b=J o->((u.push {cls:= .type "list_iterator",data:= .fields #[.ref f, .int 0 0]}).push (jw u.objs.size)).get? b=J o:=λb o e=>eF _ (eF _ e);have S:=eF (jw u.objs.size) aH;have l:((u.push {cls:= .type "list_iterator",data:= .fields #[.ref f, .int 0 0]}).push (jw u.objs.size)).get? (u.objs.size+1)=J (jw u.objs.size):=aJ▸eY _ C;rw [aJ];generalize(u.push {cls:= .type "list_iterator",data:= .fields #[.ref f, .int 0 0]}).push (jw u.objs.size)=gC at s l S;have ah:u.objs.size+1≠u.objs.size:=Nat.succ_ne_self _;generalize u.objs.size=aW at s l S B h ah;generalize aW+1=eg at l h ah;refine E9 (hsz:=by rw [l_,cH,jG,aB];exact bh eK (bx C)) ⟨aU,s _ _ v⟩ λeu R ai=>bZ R λeL R=>?_;have bq:=kh j;have aj:x∈Q i:=L.symm▸ .head _;have bz:=t.fp i bq;have r:=λb ff o e=>(ai.2 b ff).trans (s b o e)
 exact bM _ X .next (bK.trans (cu eu _ C)) bQ ⟨E,b_,_,t.u6 j (λb fy bg o e=>r b (λq=>fy (q▸aj)) o e) (c.B.e8 t.inv λbA fU o e=>r bA (λq=>(t.tab bA fU).2.2.2.2 i bq (q▸aj)) o e) (Le.refl _) (λb o e=>r b (fT (bz x aj).2.1 e) o (t.bC b o e)) (λb o e=> .inl e) ao
  ⟨.ref x,C,k.ob.symm▸(S1 cz aB cB aC B h ah r ((ai.2 _ (fT h v).symm).trans l) ((ai.2 _ (fT B v).symm).trans S) (n₃:=eL) (by rw [R];simp [lo]))⟩ λb a=>(fb.mp (nC x au (eg,aW)▸a)).elim (λa=>⟨.inl (L.symm▸a),(bz b (L.symm▸a)).2.1⟩) (bl (P:=λb=>(b∈Q i\/eT c.B cv X c.env n Q b)/\X b=ae) ⟨.inr (t.free h),(t.free h).fz⟩ (bl ⟨.inr (t.free B),(t.free B).fz⟩ dR) b)⟩ trivial
end
section
theorem O0(h:s.heap.get? b=J (jw l))
  (e:wpAny (model i X) F (call (.ref b) []) Q G s):wpAny (model i X) F (callWith a (.ref b) [] [] []) Q G s:=by
 refine aF (gf (j3 (Q:=λx c=>x=⟨[], []⟩/\c=s) (xK ⟨C,C⟩) (λx c O=>aF (nk ?_)) λw w x=>x));obtain⟨rfl,rfl⟩:=O;exact aF (aF (E_ h (bP (aF (j3 e (λr k H=>aF (gf (wpAny_point (bP H)))) λw w x=>x)))))
theorem F4(Q:s.heap.get? l=J (jw a))(j:s.TypeIs (.ref a) "list_iterator")
  (h:wpAny (model i X) (F.under (.builtin "list_iterator.__next__" ⟨[.ref a], []⟩)) (Builtin.«list_iterator.__next__» ⟨[.ref a], []⟩) (λw m=>∃r,w= .done (.ret r)/\e r m) G s):wpAny (model i X) F (call (.ref l) []) e G s:=by
 refine jH (codeAny_of_tree (aF (E_ Q ?_)));have f:(k_ "method-wrapper"==k_ "method"||k_ "method-wrapper"==k_ "builtin_function_or_method"||k_ "method-wrapper"==k_ "method-wrapper")=aa:=C;have t:(k_ "method-wrapper"!=k_ "method")=aa:=C;show wpAny _ _ (if(k_ "method-wrapper"!=k_ "method")=aa then(do checkBoundCall "list_iterator.__next__" ⟨[.ref a], []⟩;return<-again (.builtin "list_iterator.__next__" ⟨[.ref a], []⟩))else _) _ _ s;refine aF ?_;have k:∀{o:Unit->aR->Prop}{d:ay->aR->Prop},o () s->wpAny (model i X) F.in1 (checkBoundCall "list_iterator.__next__" ⟨[.ref a], []⟩) o d s:=by
  intro o d v
  repeat(any_goals(first|assumption|wp_step))
 exact k (aF (bP (bP (⟨Em _ (by decide+kernel),E4 entry_listiter_next (j3 h (λw m⟨r,b,q⟩=>b▸q) λn n x=>x)⟩))))
end
section
variable{prog:ck}{w:b4}{A:cZ}{s:aR}
theorem Un(Q:s.heap.get? b=J (jw a))(S:s.heap.IsListIter a l i)(B:s.heap.IsList l n)(j:n[i]?=J x)
  (O:∀L,L.IsListIter a l (i+1)->gk a s.heap L->k x {s with heap:=L}):wpAny (model prog w) A (call (.ref b) []) k G s:=by
 refine jq (id S) λo h y q=>jq B λF p t v=>?_;obtain⟨f,e⟩:=v;refine F4 Q S.typeIs ?_;show wpAny _ _ (field (.ref a) 0>>=_) _ _ s;refine aF (AX h q (x:= .ref l) C (aF (AX h q (x:= .int i 0) C (aF (AY p e ?_)))));simp only [xu,j];refine aF (wpAny_setField h q (cY _) (bP (aM x C (O _ (i12 _ (nQ _ h (aao (Ni q _))) ((Obj.cls_mapFields ..).trans y) ?_) (nf ..)))));rw [Ni q];exact C
noncomputable def A4(h:b8)(e:ak)(t:ay):Prop:=∃m y x,h.get? e=J m/\m.cls=t/\m.data= .fields y/\y[1]?=J .none/\y[0]?=J x
theorem Uk(u:A.handled=ae)(Q:s.heap.get? b=J (jw a))(S:s.heap.IsListIter a l i)(B:s.heap.IsList l n)(j:n[i]?=ae)
  (k:∀L e,tB a s.heap L->(L.get? a).isSome=aa->s.heap.get? e=ae->A4 L e (.type "StopIteration")->G (.ref e) {s with heap:=L}):wpAny (model prog w) A (call (.ref b) []) t G s:=by
 refine jq (id S) λo h y q=>jq B λF p f v=>?_;obtain⟨g,x⟩:=v;refine F4 Q S.typeIs ?_;show wpAny _ _ (field (.ref a) 0>>=_) _ _ s;refine aF (AX h q (x:= .ref l) C (aF (AX h q (x:= .int i 0) C (aF (AY p x ?_)))));simp only [xu,j];refine aF (xO (aF (wpAny_setField h q (e5 _ _) (aF (aF (rD (aF (m:=firstArgMember _ _) (iL (a:=Value.none) (by first|rfl|(simp only [firstArgMember];rfl)) (rD (aF (wpAny_handled ?_)) (by size_fits)))) (by size_fits)))))))
 first|rw [show(A.under (.builtin "list_iterator.__next__" ⟨[.ref a], []⟩)).handled=ae from u]|rw [u]|skip
 refine aF (bP (wpAny_throw ?_));have m:∀o,Heap.get? (s.heap.update a o) a=ae\/(Heap.get? (s.heap.update a o) a).isSome=aa:=λo=>by
  cases(s.heap.update a o).get? a<;>simp
 refine k _ _ (((nf ..).extBut.push _).push _) ?_ ?_ (r6 _ _ _ (eY _ C) C C C C)
 .exact cS (eF _ (eF _ (nQ _ h (aao (Ni q _)))))
 .exact Heap.get?_none_of_le (by rw [jX];exact ET (pe (nf ..).1.symm))
end
section
theorem Uw(X:F.frames=J (env::o))(B:s.heap.FunFrames a (env::o))(n:env.frame=J A)(u:A4 s.heap e t)(i:a.StaysIn s.heap)(b:a.get? e=ae)
  (h:∀L x,Heap.LeftW a (env::o) e t x s.heap L->l () {s with heap:=L}):wpAny g F (noteFrame (.ref e) env) (λw m=>wpAny g F (setFlight (.ref e) ae) l G m) G s:=by
 refine ua u λj y x Q P q R d=>?_;subst P;unfold noteFrame;simp only [n];exact aF (AX Q q R (wpAny_newEntryW X B n Q i b q (Mt.mp R).1 d λL k=>h L x k))
end
structure iM{O:Type}(c:Cx O)(fl:U ak):Prop where
 fr:∃outer,c.A.frames=J (c.env::outer)/\∀e∈outer,e.scope.kind≠ .module/\∃L∈fl,e.frame=J L
 own:c.env.frame=J c.env.locals
 kd:c.env.scope.kind≠ .module
 tab:∀L∈fl,L∈c.B.tabs
 dat:∀h,c.B.inv h->∀L∈fl,∃o,h.get? L=J o/\∀vs,o.data≠ .fields vs
 sl:∀h h',c.B.inv h->(∀P∈c.B.tabs,∀o,h.get? P=J o->h'.get? P=J o\/(P∈fl/\∃sl,h'.get? P=J {o with slots:=sl}))->c.B.inv h'
section
variable{fl:U ak}{h:b8}
theorem BI(t:∀A∈fl,a.get? A=ae)(q:∀A∈fl,∃o,h.get? A=J o/\∀y,o.data≠ .fields y):∀{l:U cW},(∀e∈l,e.scope.kind≠ .module/\∃A∈fl,e.frame=J A)->h.FunFrames a l:= @λf=>f.rec
 (@λw=>trivial)
 (@λT r X B=>by
  refine bR (B T ee) λk i=>?_;obtain⟨A,E,n⟩:=i
  exact aG (q A E) λo Q v=>(cR k (lG A o n (t A E) Q v) (X λe u=>B e (dY _ u))))
end
theorem WA(u:Y):seqIndex? (-1) (u+1)=J u:=by unfold seqIndex?;simp;omega
section
variable{c:Cx Ob}{p1 p2 p3:Pos}{il:U (ak×Y)}
theorem PU:∀y,aY B h y (y.map .bO):=λf=>f.rec
 (.nil)
 (λv r X=> .cons (.bO v) (X))
theorem Ia{h:b8}{a:ak}{T:U (ak×ak)}{x:Y}(G:T.length=(il++ [(su,pos)]).length+x)(j:x=0):∃m X,T=m++ [X]/\m.length=il.length:=by
 subst j;have:T≠ []:=λq=>by rw [q]at G;simp at G
 refine(eV T.dropLast (T.getLast this) ((List.dropLast_concat_getLast this).symm) ?_);rw [List.length_dropLast,G];simp
theorem H_(d:bH c.B c.prog c.w aD)(F:Fm c.env n z aJ)(j:n[i]?=J x)(aj:y[i]?=J (.obj (.dc (il++ [(f,k)]))))(E:gp c.env)(S:aN c.B c.ρ A m c.env n z y H g s.heap)
  (B:∀R a h X ai,dZ c.env H s.heap x (J (.ref a))->g i=g5 a (h++ [X])->(g5 a (h++ [X])).Nodup->h.length=il.length->(∀t∈g5 a (h++ [X]),(s.heap.get? t).isSome=aa)->s.heap.get? a=J (lo ((h++ [X]).map λX=> .ref X.1) ai)->
   (∀(i:Y)(X:ak×ak)(x:ak×Y),h[i]?=J X->il[i]?=J x->s.heap.get? X.1=J (jw X.2)/\s.heap.IsListIter X.2 x.1 x.2)->s.heap.get? X.1=J (jw X.2)->s.heap.IsListIter X.2 f k->
   wpAny (model c.prog c.w) c.A (call (.ref X.1) []) Q G {s with toks:=R}):
  wpAny (model c.prog c.w) c.A (eval (.Call (.Subscript (.Name x aE) (.UnaryOp .USub (.Constant (.int 1) o p1) p2) p3) [] [] aC) c.env) Q G s:=by
 refine cps λaU o=>?_;obtain⟨a,aV,l,r,L,O,P,ah,v,q⟩:=CQ d S j aj;refine dK (Ia (h:=s.heap) (a:=a) P C) λh X w u=>?_;subst w;refine o ?_;have e:=q il.length X (f,k) (by rw [<-u];simp) (by simp);refine aF (vA (eP (eH E S.ns r ((DX (rf 1)).1 A m s _ _ ⟨E,H,g,S⟩ λR ao b=>?_)) (F.eU j)));obtain⟨aH,rfl⟩:=b.inv;have az:({s with toks:=R}:aR).heap.IsList a ((h++ [X]).map λX=>vB X.1).toArray:=(i12 _ v C ⟨l,C⟩);refine tM az.typeIs PySem.F.slot_list_getitem.lookup (Hq (ρ:=c.ρ) (fz:=m) (τ:= .bO (.ref X.1)) v (PU _) ?_ λao b=>?_) (u5 λa t aK aL aO=>by contradiction)
 .show(if iP (-1)then(seqIndex? (-1) _).bind _ else ae)=_;have au:seqIndex? (-1) (((h++ [X]).map λX=>vB X.1).map T.bO).length=J h.length:=by
   rw [cH,cH,ic];exact WA _
  rw [bB (by exact C),au];simp
 .obtain rfl:=b.inv;exact O0 e.1 (B R a h X l r L O u ah v (λi aB x p j=>q i aB x ((l7 (cw.mp p).1).trans p) ((l7 (cw.mp j).1).trans j)) e.1 e.2)
theorem Za(r:bH c.B c.prog c.w d6)(ai:Fm c.env a v fa)(i m:Y)(A:a[i]?=J B)(bK:s[i]?=J (.obj (.dc (il++ [(f,e)]))))(O:a[m]?=J G)(ah:m<v)(bM:rN c a v s f aH)(cK:aH[e]?=J l)
  (cO:swapsWith (.Call (.Subscript (.Name B dB) (.UnaryOp .USub (.Constant (.int 1) kk p1) p2) p3) [] [] aB) (J (.Name G aE)) aJ.line c.env=pure aA):
  ES c a v s (.Try [.Assign [.Name G aE] (.Call (.Subscript (.Name B dB) (.UnaryOp .USub (.Constant (.int 1) kk p1) p2) p3) [] [] aB) aJ, .Break dS] (eu::F) [] [] dX) ((s.set i (.obj (.dc (il++ [(f,e+1)])))).set m (.t (.str l))) .brk:=by
 constructor;rintro d8 au w eK eL bW⟨E,eE,cE,S⟩bY;refine Nz (gN (kF (H_ r ai A bK E S λR x T X aC aD n k u aK aL aO ao aU=>(cps λaV kk=>(aG (bM _ _ _ _ _ S) λeX aW aZ=>?_))) cO));obtain⟨eg,bg,rfl,bq⟩:=aZ;refine aG ((bq.ou (ρ:=c.ρ) (fz:=au)).get (i:=e) (t:= .str l) (by simp [cK])) λbz bA bD=>kk (Un ao aU (i12 _ aW C ⟨bg,C⟩) (by simpa using bA) λL y H=>?_);have g:=λ{b}t q=>by
  rw [nC,gm]at k;exact k.2.2 b t X.2 (.tail _ (.head _)) q
 have bQ:X.1≠X.2:=λq=>by
  rw [nC,gm]at k;have:=k.2.1;rw [q]at this;simp at this
 have h:∀{b},b≠X.2->∀o,w.heap.get? b=J o->L.get? b=J o:=λ{b}b7 o b_=>(H.2 b b7).trans b_;have cv:nt 0 (il++ [(f,e+1)]) (.ref x) L (cE i):=by
  refine⟨x,T++ [X],aC,C,n,n▸k,by simp [u],λb t=>?_,h (g ee) _ aL,λP cz cB p z=>?_⟩
  .by_cases q:b=X.2
   .refine aG y λo Q aV=>?_;rw [q,Q];rfl
   .exact bZ (gn.mp (aK b (n▸t))) λo Q=>cS (h q o Q)
  .by_cases j:P<T.length
   .rw [l7 j]at p;rw [l7 (u▸j)]at z;refine bR (aO P cz cB p z) λcV c9=>?_;obtain⟨o,Q,c_⟩:=c9;have aj:=Ck x p;exact⟨h (g aj.1) _ cV,o,h (g aj.2) _ Q,c_⟩
   .rw [l8 (nR j)]at p;rw [l8 (u▸nR j),<-u]at z;obtain⟨d,F⟩:∃d,P-T.length=d:=⟨_,C⟩;rw [F]at p z;cases d with
    |succ d=>simp at p
    |zero=>obtain rfl:=bf p;exact bf z▸(⟨h bQ _ ao,y⟩)
 exact gc (s:={w with heap:=L,toks:=R}) (av:= .t (.str l)) E bW (zI S A aD (by rw [n,nC];simp) H (r.ob.symm▸cv)) O ah (ai.loc O ah) ⟨C,bz,C,bD⟩ .nil λdm dJ dO az=>gN (wpAny_Break (bY dm au .brk (bU.trans (cu L R C) dO) (Le.refl _) ⟨E,dJ,_,az⟩ trivial))
end
theorem W5:isSubtype (.type "StopIteration") (.type "BaseException")=pure aa:=by rw [j1];exact C
theorem W7:isSubtype (.type ((aae "StopIteration").elim "type" λx=>x.metatype)) (.type "tuple")=pure aA:=by
 rw [show((aae "StopIteration").elim "type" λx=>x.metatype)= "type"from C,j1];exact C
theorem W6:isSubtype (.type "StopIteration") (.type "StopIteration")=pure aa:=by rw [j1];exact C
section
theorem F5(Q:s.heap.get? a=J (lo (y++ [v]) u))(q:y.length<=1000)(O:∀L f,gk a s.heap L->L.get? a=J (lo y f)->h v {s with heap:=L}):
  wpAny (model i X) F (call (.builtin "list.pop") [.ref a]) h G s:=by
 refine xJ Nl (aM _ Q C) PySem.F.entry_list_pop (PySem.F.args_list_pop_1 _) (PySem.MeetsSeq.list_pop_last a (y++ [v]).toArray u v (by simp) (by rw [l_,jG];simp;exact bh q (bx C))) ⟨Q,?_⟩;obtain⟨f,e⟩:∃f,kE (λn=>n.eraseIdxIfInBounds ((y++ [v]).toArray.size-1)) (lo (y++ [v]) u)=lo y f:=by
  unfold kE lo;dsimp only;have e:(y++ [v]).toArray.eraseIdxIfInBounds ((y++ [v]).toArray.size-1)=y.toArray:=by
   apply Array.ext';simp [List.eraseIdx_append_of_length_le]
  rw [e];exact⟨_,C⟩
 exact O _ f (nf ..) (by rw [nQ _ Q (C),e])
end
section
theorem aY.LF:∀{j:U T}{y:U ay},aY B f y (j++ [E])->∃d v,y=d++ [v]/\aY B f d j/\Den B f v E
 | [],_,h=>h.iy.elim λv x=>(gG ([]) v x.1 (.nil) x.2)
 |H::j,_,h=>h.iO (P:=λy=>∃d v,y=d++ [v]/\aY B f d (H::j)/\Den B f v E) λa i e w=>(aY.LF w).elim λd x=>x.elim λv x=>(gG (a::d) v (aQ (a::·) x.1) (.cons e x.2.1) x.2.2)
end
section
variable{c:Cx Ob}{st:U (U Y)}
theorem S0(l:bH c.B c.prog c.w cE)(aO:Fm c.env x A b_)(j:x[i]?=J aj)(au:g[i]?=J (.obj (.uB il)))(aJ:il.length<=900)(E:gp c.env)(S:aN c.B c.ρ aL az c.env x A g aD R s.heap)(bA:(bK.endLine==F.line)=aa)
  (aK:∀L aU,aN c.B c.ρ aL az c.env x A (g.set i (.obj (.dc il))) aD aU L->ai .next {s with heap:=L}):wpAny (model c.prog c.w) bW (exec (.Expr (.Call (.Attribute (.Name aj bY) "pop" bK) [] [] F) b7) c.env) ai cv s:=by
 refine aG (zH S j au) λcB r m=>?_;rw [l.ob]at m;obtain⟨a,bQ,u,rfl,n,k,ah,d,v,ao⟩:=(m);refine dK (Ia (h:=s.heap) (a:=a) (il:=il) (su:=0) (pos:=0) (by rw [ah];simp) C) λT X aB f=>?_;subst aB;rw [n]at k d;refine rB (qq C (vo _) bA E1 Nl aaK (eP (eH E S.ns r (cR (aM _ v C) (λbM aE=>by obtain rfl:=jZ aE;exact(aM _ v C)) (nS (C) (xK ?_)))) (aO.eU j))) (by unfold interactive;exact E.kind.symm▸C) C;rw [ej]at v;refine F5 v (by rw [cH,f];exact bh aJ (bx C)) λL aH P y=>?_;have z:=(cw.mp j).1;have H:=S.fp i z;have O:a∈R i:=by rw [n];exact ee
 have sub:∀b∈g5 a T,b∈R i:=λb t=>by rw [n,nC];exact gx _ t
 have w:=by rw [nC,gm]at k;exact k.1
 have B:∀{h:Y}{X:ak×ak},T[h]?=J X->X.1≠a/\X.2≠a:=λ{h X}p=>by
  have:=(l9.mp w).1;exact⟨λq=>this (tG.mpr (aM X (cA p) (by simp [q]))),λq=>this (tG.mpr (aM X (cA p) (by simp [q])))⟩
 have aV:nt 0 il (.ref a) L (g5 a T):=by
  refine⟨a,T,aH,C,C,w,f,λb t=>?_,y,λh aC aZ p bg=>?_⟩
  .by_cases q:b=a
   .rw [q,y];rfl
   .exact(aQ _ (P.2 b q)).trans (d b (n▸sub b t))
  .refine bR (ao h aC aZ ((l7 (cw.mp p).1).trans p) bg) λbq aW=>?_;obtain⟨o,bz,bD⟩:=aW;exact⟨(P.2 _ (B p).1).trans bq,o,(P.2 _ (B p).2).trans bz,bD⟩
 refine aK L _ (S.oU j (λb u cz o e=>(P.2 b λq=>u (q▸O)).trans e) (c.B.e8 S.inv λQ G o e=>(P.2 Q λq=>(S.tab Q G).2.2.2.2 i z (q▸O)).trans e) (Le.refl _) (λb o e=>(P.2 b λq=>?_).trans (S.bC b o e)) (λb o e=> .inl e) r ⟨.ref a,C,?_⟩ λb t=>⟨.inl (sub b t),(H b (sub b t)).2.1⟩)
 .exact aT ((aQ _ q).trans ((H a O).2.1)) e
 .exact l.ob.symm▸aV
theorem PT(l:bH c.B c.prog c.w d6)(F:Fm c.env n k eE)(T:n[B]?=J x)(aD:g[B]?=J (.own ((st++ [E]).map .str)))(j:n[e]?=J G)(p:g[e]?=J (.obj (.jN m)))(ah:B≠e)(ai:jO m E=J c_)(aj:st.length<=900)(ao:m.length<=900)
  (i:gp c.env)(S:aN c.B c.ρ aH aJ c.env n k g aK cK s.heap)(O:(aU.endLine==aV.line)=aa)
  (aZ:∀L bK bD,aN c.B c.ρ aH aJ c.env n k ((g.set B (.own (st.map .str))).set e (.obj (.jN (lE m E)))) aK bD L->R .next {s with heap:=L,toks:=bK}):
  wpAny (model c.prog c.w) bQ (exec (.Delete [.Subscript (.Name G eL) (.Call (.Attribute (.Name x cE) "pop" aU) [] [] aV) dm] dB) c.env) R dX s:=by
 refine wpAny_Delete (wpAny_deleteEach_cons (wpAny_delete_Subscript (qI (wL l S j p) λad d8 a bW b_ cv cz=>(eP (eH i S.ns a ?_) (F.eU j)))));obtain⟨cB,r,cO,cV,c9,rfl,v,b,X⟩:=S.vars B x _ T aD;rw [ej]at b;refine iD b.LF λdJ dO au z az=>?_;subst au;refine bZ (jo az) λeK aB=>?_;subst aB;refine qq C (vo _) O E1 Nl aaK (eP (eH i S.ns r (cR (aM _ v C) (λeX aC=>by obtain rfl:=jZ aC;exact(aM _ v C)) (nS (C) (xK (F5 v (by rw [z.length,cH];exact bh aj (bx C)) λbY b7 P aE=>?_))))) (F.eU T));have t:=S.zQ T r X P aE z;refine qI (wL l t j (by rw [k9 ah];exact p)) λh o q d aO u f=>?_;have aW:h=ad:=by
  have:=q.det (a.keep λw bg aL dS bz=>(P.2 w λbA=>?_).trans bz)
  .injection this with this;injection this
  .subst bA;exact(S.fp B (cw.mp T).1 w (by rw [X];exact .head _)).2.2.2 e G j bg aL
 subst aW;have bq:(valueAt o (b3 E)).isSome=aa:=by
  rcases f.get with⟨eg,eu,y,Q⟩|⟨y,Q⟩
  .exact cS y
  .exact aT Q ai
 exact wpAny_delItem_slot u.typeIs (C) aaH (call_meetsIn aaH u.typeIs PySem.F.entry_dict_delitem (PySem.F.args_dict_delitem_2 _ _) (meets_dict_delitem_pairs (qp c.prog c.w) h (k:=b3 E) (rA ..)) (HF o u (by rw [f.len,jG];exact bh ao (bx C)) bq (λH bM A=>(wpAny_deleteEach_nil (aZ H _ _ (zI t j q (a:=h) (by rw [d];exact .head _) A (l.ob.symm▸((⟨h,_,C,d,aO,bM,f.del⟩:xT c.prog c.w (lE m E) (.ref h) H _)))))))))
end
section
variable{s:aR}
structure NP(c:Cx Ob)(h h':b8)(ex:ak):Prop where
 kp:∀b,b≠ex->b∉c.B.tabs->b≠c.env.locals->∀o,h.get? b=J o->h'.get? b=J o
 live:∀b,b∉c.B.tabs->b≠c.env.locals->(h.get? b).isSome=aa->(h'.get? b).isSome=aa
 ns:∀m,h.Ns c.env.locals m->h'.Ns c.env.locals m
 inv:c.B.inv h'
theorem RL{O:b8}{e:ak}{ai:Flow->aR->Prop}(p:iM c j)(aj:Fm c.env bq k bW)(m:Y)(ao:bW[m]?=J (("StopIteration":af), .globalImplicit))(aL:gp c.env)(S:aN c.B c.ρ d6 d8 c.env bq k eL dJ ff h)
  (x:a∉c.B.tabs/\a≠c.env.locals/\c.B.bI.get? a=ae)(H:tB a h O)(aK:(O.get? a).isSome=aa)(u:h.get? e=ae)(aU:A4 O e (.type "StopIteration"))
  (aW:∀d,NP c h d a->wpAny (model c.prog c.w) (c.A.mark (J (.ref e))) (execs (bM::cz) c.env) ai (notedBy (model c.prog c.w) (c.A.mark (J (.ref e))) c.env (cameBackBy (model c.prog c.w) c.A c.env G)) {s with heap:=d}):
  wpAny (model c.prog c.w) c.A (noteFrame (.ref e) c.env) (λw cV=>wpAny (model c.prog c.w) c.A (setFlight (.ref e) ae) (λw c9=>wpAny (model c.prog c.w) c.A (handleBy (.ref e) c.env (.ExceptHandler (J (.Name "StopIteration" fx)) ae (bM::cz) fy::ah)) ai G c9) G cV) G {s with heap:=O}:=by
 refine aG p.fr λeK bQ bY=>?_;have eE:c.env.locals∉c.B.tabs:=λq=>(S.tab _ q).2.2.1 C;have f:∀{b},(h.get? b).isSome=aa->b≠e:=λ{b}t q=>by rw [q,u]at t;exact dg C t
 have i:∀{b}{o},b≠a->h.get? b=J o->O.get? b=J o:=λP e=>H _ _ P e;have z:=c.B.e8 S.inv λX l o e=>i (λq=>x.1 (q▸l)) e;have aO:∀A∈c.env.locals::j,∃o,O.get? A=J o/\∀au,o.data≠ .fields au:=λA E=>by
  rcases cC.mp E with rfl|E
  .exact gZ (S.ns.extBut H x.2.1.symm) λo fa dB Q bz w=>(aM o Q (λau q=>by rw [bz]at q;contradiction))
  .exact p.dat _ z A E
 have az:∀{b},b∈e::c.env.locals::j->(rest O (e::c.env.locals::j)).get? b=ae:=(ry _);have bA:=
  BI (λA E=>az (dY _ E)) aO λbD u=>by
   rcases cC.mp u with rfl|u
   .exact⟨p.kd,_,ee,p.own⟩
   .refine bR (bY bD u) λk bK=>?_;obtain⟨A,E,n⟩:=bK;exact⟨k,A,dY _ E,n⟩
 refine Uw bQ bA p.own aU (sJ _) (az ee) λB gv E=>vW E λaC aJ aD aB=>Qa (aD) λb7 dO T dS dX aZ aV w=>wpAny_handleBy_builtin W5 W7 W6 (bR (c.bi 17 "StopIteration" (.type "StopIteration") C) λbg cv=>?_);have F:∀{b o},b∉c.B.tabs->b≠c.env.locals->b≠e->O.get? b=J o->(rest O (e::c.env.locals::j)).get? b=J o:=λ{b o}cB cE cK Q=>mZ Q λq=>by
  rcases cC.mp q with q|q
  .exact cK q
  .rcases cC.mp q with q|q
   .exact cE q
   .exact cB (p.tab _ q)
 have b_:bN c.B.bI B:=λb o q=>by
  have t:=S.fB b o q;have Q:=S.base b o q;exact aC b o (F (S.iH t) (λr=>aT ((aQ _ r).trans S.nL.1) t) (f (cS Q)) (i (λr=>aT ((aQ _ r).trans x.2.2) q) Q))
 refine mV (s:={s with heap:=B}) c.G aL b_ (aj.kn m ao nofun) bg cv (aj.kg m ao) (cR C (aM b7 aZ aV.1) ?_);rw [bB C];refine wpAny_setFlight_noneW aC aJ aD.at λd g eg eu aE=>aW d ⟨λb P y L o Q=>?_,λb y L t=>?_,λeX cO=>?_,?_⟩
 .exact g b o (F y L (f (cS Q)) (i P Q))
 .have c_:∃o,O.get? b=J o:=by
   by_cases q:b=a
   .exact q▸(gn.mp aK)
   .exact bZ (gn.mp t) λo Q=>⟨o,i q Q⟩
  exact bZ c_ λo Q=>cS (g b o (F y L (f t) Q))
 .exact(Heap.UpToSlots.trans aB λb o Q v=>⟨o.slots,aE b o Q v⟩:O.UpToSlots d).ns (cO.extBut H x.2.1.symm)
 .refine p.sl h d S.inv λX l o Q=>?_;have R:=i (λq=>x.1 (q▸l)) Q
  by_cases n:X∈j
  .right
   refine aG (p.dat _ z X n) λfU aH v=>?_;rw [R]at aH;obtain rfl:=bf aH;exact bZ (aB X o R v) λdm ah=>⟨n,dm,aE X _ ah v⟩
  .left
   refine g X o (mZ R λq=>?_);rcases cC.mp q with q|q
   .exact f (cS Q) q
   .rcases cC.mp q with q|q
    .exact((S.tab X l).2.2.1) q
    .exact n q
end
section
variable{st:U (U Y)}
theorem Y_(l:bH c.B c.prog c.w tn)(bz:iM c p9)(F:Fm c.env n p b7)(i B e G:Y)(j:n[i]?=J y)(bY:g[i]?=J (.obj (.dc (L++ [(dm,dB)]))))(dO:n[B]?=J dS)(dX:g[B]?=J (.own ((st++ [ah]).map .str)))(eL:n[e]?=J ff)(aB:g[e]?=J (.obj (.jN m)))
  (u:i≠B/\i≠e/\B≠e)(bg:b7[G]?=J (("StopIteration":af), .globalImplicit))(bA:rN c n p g dm bD)(bK:bD[dB]?=ae)(bW:jO m ah=J p_)(cz:st.length<=900)(c_:m.length<=900)(dJ:L.length<=900)(aV:(eK.endLine==fa.line)=aa)(fy:(d6.endLine==gJ.line)=aa)
  (iX:swapsWith (.Call (.Subscript (.Name y k8) (.UnaryOp .USub (.Constant (.int 1) k aD) aE) aH) [] [] aJ) (J (.Name aK aL)) aO.line c.env=pure aA):
  ES c n p g (.Try [.Assign [.Name aK aL] (.Call (.Subscript (.Name y k8) (.UnaryOp .USub (.Constant (.int 1) k aD) aE) aH) [] [] aJ) aO, .Break Ar]
   (.ExceptHandler (J (.Name "StopIteration" nP)) ae [.Delete [.Subscript (.Name ff nM) (.Call (.Attribute (.Name dS s6) "pop" eK) [] [] fa) vm] o7, .Expr (.Call (.Attribute (.Name y qa) "pop" d6) [] [] gJ) qc] qd::qe) [] [] qf)
   ((((g.set i (.obj (.uB L))).set B (.own (st.map .str))).set e (.obj (.jN (lE m ah)))).set i (.obj (.dc L))) .next:=by
 constructor;rintro aZ f x p6 p7 p8⟨E,H,R,S⟩bM;refine Nz (gN (kF (H_ l F j bY E S λbQ a T X b_ cv h r ao cB cE cK cO cV=>(cps λ_ k=>(aG (bA _ _ _ _ _ S) λs_ aC c9=>?_))) iX));obtain⟨xo,aU,rfl,aW⟩:=c9;refine k ?_;have z:=(cw.mp j).1;have s:=S.fp i z;have v:X.2∈R i:=by rw [h,nC];simp
 have A:∀{b},b∈R i->b∉c.B.tabs:=λt q=>(S.tab _ q).2.2.2.2 i z t;refine Uk c.R.handled cO cV (i12 _ aC C ⟨aU,C⟩) (by simpa [(by have:=(aW.ou (ρ:=c.ρ) (fz:=f)).length;simpa using this)]using bK) λqb P d8 eg eu eE=>RL bz F G bg E S (cR (A v) ((s _ v).2.2.1) ?_) d8 eg eu eE λd K=>?_
 .cases q:c.B.bI.get? X.2 with
  |none=>rfl
  |some o=>have:=S.fB _ o q;exact aT ((s _ v).1) this
 have eX:∀{b},b∈g5 a T->b≠X.2:=λ{b}t q=>by
  rw [nC,gm]at r;exact r.2.2 b t X.2 (.tail _ (.head _)) q
 have sub:∀{b},b∈g5 a T->b∈R i:=λt=>by rw [h,nC];exact gx _ t
 have w:∀{b o},b∈g5 a T->x.heap.get? b=J o->d.get? b=J o:=λt Q=>K.kp _ (eX t) (A (sub t)) (s _ (sub t)).2.2.1 _ Q;have fx:nt 1 L (.ref a) d (R i):=by
  refine⟨a,T++ [X],b_,C,h,h▸r,by simp [ao],λb t=>?_,w ee cE,λaj fU gv O ai=>?_⟩
  .exact K.live b (A t) (s b t).2.2.1 (cB b (h▸t))
  .have gK:aj<T.length:=ao▸(cw.mp ai).1;rw [l7 gK]at O;refine bR (cK aj fU gv O ai) λgV iz=>?_;obtain⟨o,Q,iK⟩:=iz;have au:=Ck a O;exact⟨w au.1 gV,o,w au.2 Q,iK⟩
 have gC:aN c.B c.ρ aZ f c.env n p (g.set i (.obj (.uB L))) H (bT R i (R i)) d:=by
  refine S.w9 j (λb jW kA k6 o Q=>K.kp b (λq=>jW (q▸v)) kA k6 o Q) (K.ns H S.ns) K.inv (Le.refl _) (λb o Q=>K.kp b (λq=>?_) (S.lS Q) (λq=>?_) o (S.bC b o Q)) (λb o P=> .inl P) cv ⟨.ref a,C,?_⟩ λb t=>⟨.inl t,(s b t).2.1⟩
  .exact aT ((aQ _ q).trans ((s _ v).2.1)) Q
  .exact aT ((aQ _ q).trans S.nL.2) Q
  .exact l.ob.symm▸fx
 refine gN (PT (s:={x with heap:=d,toks:=bQ}) l F dO (by exact(k9 u.1).trans dX) eL (by exact(k9 u.2.1).trans aB) u.2.2 bW cz c_ E gC aV λjj az vn k7=>(gN (S0 (il:=L) (s:={x with heap:=jj,toks:=az}) l F j ?_ dJ E k7 fy λl6 As bq=>?_)))
 .rw [k9 u.2.1.symm,k9 u.1.symm,qi (by rw [S.len];exact z)]
 .exact rC (bM _ f .next (cu l6 az C) (Le.refl _) ⟨E,H,_,bq⟩ trivial)
end
noncomputable abbrev Gr:=U Y->U (U Y)
noncomputable abbrev Rs:=U (U Y×Y)
noncomputable abbrev Kv:=U (U Y×aq)
noncomputable def mY(P:Gr):Rs->Kv->aS (aS (U Y)×Rs×Kv)
 | [],m=>J (ae, [],m)
 |(E,p)::r,m=>match(P E)[p]? with
  |J l=>J (J l,(E,p+1)::r,m)
  |ae=>if(jO m E).isSome then mY P r (lE m E)else ae
noncomputable def m3(P:Gr):Y->U Y->Rs->Kv->U (U Y)->aS (U (U Y)⊕(U (U Y)×Kv))
 |0,_,_,_,_=>ae
 |u+1,T,r,m,seen=>
  if T∈seen then match jO m T with
   |J w=>J (.inl (cut (J w) ae ((r.map (·.1)).reverse)++ [T]))
   |ae=>match mY P r m with
    |J (J l,t,i)=>m3 P u l t i seen
    |J (ae,_,i)=>J (.inr (seen,i))
    |ae=>ae
  else if r.length<=800/\m.length<=800/\seen.length<=800 then match mY P ((T,0)::r) (oz m T r.length)with
    |J (J l,t,i)=>m3 P u l t i (seen++ [T])
    |J (ae,_,i)=>J (.inr (seen++ [T],i))
    |ae=>ae
   else ae
noncomputable def qN(P:Gr)(o:Y):U (U Y)->U (U Y)->Kv->aS (aS (U (U Y)))
 | [],_,_=>J ae
 |u::r,seen,m=>if u∈seen then qN P o r seen m else match m3 P o u [] m seen with
  |J (.inl c)=>J (J c)
  |J (.inr (h,i))=>qN P o r h i
  |ae=>ae
section
variable{g:Gr}{t nd:U Y}{p:Y}{r:Rs}{kv:Kv}{seen:U (U Y)}
theorem Kd:mY g ((t,p)::r) kv=(match(g t)[p]? with|J l=>J (J l,(t,p+1)::r,kv)|ae=>if(jO kv t).isSome then mY g r (lE kv t)else ae):=C
theorem Ku:m3 g (u+1) nd r kv seen=(if nd∈seen then match jO kv nd with
   |J w=>J (.inl (cut (J w) ae ((r.map (·.1)).reverse)++ [nd]))
   |ae=>match mY g r kv with
    |J (J l,t,i)=>m3 g u l t i seen
    |J (ae,_,i)=>J (.inr (seen,i))
    |ae=>ae
  else if r.length<=800/\kv.length<=800/\seen.length<=800 then match mY g ((nd,0)::r) (oz kv nd r.length)with
    |J (J l,t,i)=>m3 g u l t i (seen++ [nd])
    |J (ae,_,i)=>J (.inr (seen++ [nd],i))
    |ae=>ae
   else ae):=C
theorem RU:qN g u (nd::ns) seen kv=(if nd∈seen then qN g u ns seen kv else match m3 g u nd [] kv seen with
  |J (.inl c)=>J (J c)
  |J (.inr (h,i))=>qN g u ns h i
  |ae=>ae):=C
end
noncomputable def zp:U (af×dU):= [("self", .local),("n2i", .local),("stack", .local),("itstack", .local),("seen", .local),("node2stacki", .local),("node", .local),("set", .globalImplicit),("iter", .globalImplicit),("len", .globalImplicit),("StopIteration", .globalImplicit)]
noncomputable def eW:U af:= ["self", "n2i", "stack", "itstack", "seen", "node2stacki", "node"]
noncomputable abbrev yy:aS cf:=om 5 (cQ (e7 16 8))
noncomputable abbrev qL:aS cf:=om 1 (fY yy)
noncomputable abbrev yz:aS cf:=om 1 (jD qL)
noncomputable def X6(s:aS cf):U cf:=(kq s).2.2.2.1
noncomputable def Dq(G:SG)(l:U Y):ak:=match G.bJ.find? (λT=>decide (T.key=l))with|J T=>T.su|ae=>0
noncomputable def qQ(G:SG)(r:Rs):U (ak×Y):=(r.map λx=>(Dq G x.1,x.2)).reverse
noncomputable def jv(G:SG)(r:Rs)(m:Kv)(seen:U (U Y))(O:U Y):U (AV Ob):=
 [.obj (.bS 2 G), .t (.bO (.ref G.D)), .own (((r.map (·.1)).reverse).map .str), .obj (.dc (qQ G r)), .obj (.set seen), .obj (.jN m), .t (.str O)]
theorem Lc{T:Nd}{m:Y}(g:G.kn)(h:G.bJ[m]?=J T):Dq G T.key=T.su:=by
 refine dK (oS h) λF i e w=>?_;unfold SG.kn at g;rw [e,ej,iA]at g;refine fF (gm.mp g) λw c l=>?_;unfold Dq;rw [e,MS];have:F.find? (λa=>decide (a.key=T.key))=ae:=by
  rw [Ey];intro u v;simp only [decide_eq_true_eq];exact(l u.key (gE v) T.key (.head _))
 rw [this];simp
structure Fast(B:bV Ob)(prog:ck)(w:b4)(cl:Cl)(G:SG):Prop where
 sm:(G.D==sysModules)=aA
 kn:G.kn
 st:qy (oQ prog w cl 2 G) B.bI
section
variable{c:Cx Ob}
theorem Fast.map(K:Fast c.B c.prog c.w L G):c.B.bI.DictOf (qp c.prog c.w) G.D (cM G):=aG (K.st (G.D,jc c.prog c.w G) (by simp [oQ,f9])) λo Q p=>p _ _ Q
theorem Fast.list(K:Fast c.B c.prog c.w L G)(v:nd∈G.bJ):rN c n k g nd.su nd.succ:=KI λh u=>aG (K.st (nd.su,fe nd.succ) (by simp only [oQ,f9,fb,cC,eZ];exact .inr (.inr (aM nd v C)))) λo Q p=>(aM o (u _ _ Q) p)
theorem Fast.info(K:Fast c.B c.prog c.w L G)(v:nd∈G.bJ):qw c n k g (tX L nd):=KI λx u=>by
 have h:∀w∈ju L.N nd,w∈oQ c.prog c.w L 2 G:=λw s=>gx _ (tG.mpr (aM nd v s));exact aG (K.st (nd.i,oO L.N nd) (h _ (.head _))) λe a t=>aG (K.st (nd.id,λi=>True) (h _ (.tail _ (.head _)))) λj F i=>⟨(aM e (u _ _ a) t),j,u _ _ F⟩
theorem Ze{st:cf}{rest:U cf}(R:ES c n k g st u .brk)(q:u=B):EX c n k g (st::rest) B .brk:=q▸xn R
theorem Ke(l:bH c.B c.prog c.w k)(n:iM c d)(F:Fm c.env eW eW.length zp)(K:Fast c.B c.prog c.w k G){seen:U (U Y)}:∀(r:Rs)(m:Kv)(O:U Y){o:aS (U Y)}{t:Rs}{i:Kv},mY (je G.al) r m=J (o,t,i)->(∀x∈r,∃T∈G.bJ,T.key=x.1)->r.length<=801->m.length<=801->
  EW c eW eW.length (kr yz) (jD yz) (X6 yz) r.length (jv G r m seen O) (jv G t i seen (o.getD O)) (match o with|J _=> .next|ae=> .brk):=λf=>f.rec
 (λm O o t i h w w w=>by
  cases h
  exact lZ (Af F 2 C C (zY (mh _) C)) (xn LS))
 (λ(s,p)r X m O o t i h L R E=>by
  refine aG (L (s,p) ee) λT v a=>?_;dsimp only at a;subst a;refine bZ (o8 v) λz e=>?_;have q:=z8 K.kn e;have b:=Lc K.kn e;simp only [gw]at R;have cond:EC c eW eW.length (jv G ((T.key,p)::r) m seen O) (kr yz) (jv G ((T.key,p)::r) m seen O) aa:=Af F 2 C C (zY (by simp;exact bL 0 (.v 0) (.n 999999) (.a (.v 0) (.n 1)) (.n 801) C [_] R) (by simp));have h:=Kd.symm.trans h;rw [q]at h;have y:qQ G ((T.key,p)::r)=qQ G r++ [(T.su,p)]:=by simp [qQ,b]
  have P:(((T.key,p)::r:Rs).map (·.1)).reverse=(r.map (·.1)).reverse++ [T.key]:=by simp
  cases H:T.succ[p]? with
  |some B=>
   rw [H]at h;cases h;refine DZ cond (Ze (Za l F 3 6 C (by rw [<-y];rfl) C (cY _) (K.list v) H C) ?_);simp [jv,qQ,b]
  |none=>
   rw [H]at h;dsimp only at h
   split at h
   .rename_i g;refine bZ (gn.mp g) λA u=>lX cond (dN (Y_ (st:=(r.map (·.1)).reverse) l n F 3 2 5 10 C (by rw [<-y];rfl) C (P▸C) C C (by decide) C (K.list v) H u (by simp;exact bL 0 (.v 0) (.n 900) (.a (.v 0) (.n 1)) (.n 801) C [_] R) (bh E (bx C)) (by simp [qQ];exact bL 0 (.v 0) (.n 900) (.a (.v 0) (.n 1)) (.n 801) C [_] R) C C C) ?_)
     (X (lE m T.key) O h (λx j=>L x (dY _ j)) (i3 ‹_›) (bh (xy _ _) E))
    exact C
   .exact aT C h)
end
section
theorem YI(F:Fm c.env n k r)(i m:Y)(G:r[m]?=J (("len":af), .globalImplicit))(j:n[i]?=J x)(B:g[i]?=J (.own l))(h:dh l.length=aa):EE c n k g (.Call (.Name "len" p) [.Name x X] [] o) g (.int l.length):=by
 constructor;rintro u e s Q v⟨E,H,z,S⟩O;refine bR (c.bi 0 "len" (.builtin "len") C) λf R=>qI (S.lend j B) λah q a b L dl y=>kG (mV c.G E S.base (F.kn m G nofun) f R (F.kg m G) (nS (C) (tN (pn (eP (eH E S.ns a (rz (Ka dl h s _ _ b λt T w P d=>bZ (qH d) λai A=>?_))) (F.eU j))))));subst A;exact O t e _ P.same (Le.refl _) ⟨E,H,z,y _ _ P⟩ (.int _ _)
theorem Zd(h:EC c n k g e u aa)(E:EX c n k u m B (.ret r)):EW c n k e m i a g B (.ret r):= .ret h.1 E.1
theorem Yw(R:EA c n k g H E u)(h:EX c n k u m B (.ret r)):j6 c n k H m (E::j) g B (.ret r):= .ret R.1 h.1
theorem Yv(R:EA c n k g H E u)(h:EX c n k u m B .cont)(S:j6 c n k H m e B v j):j6 c n k H m (E::e) g v j:= .go R.1 h.1 (.inr C) S
end
noncomputable def CO(u:Y)(l:U cf):cf:=(dD u l).getD (.Pass default)
theorem Gi(h:B->L)(lo z:aS aq)(l:U B):cut lo z (l.map h)=(cut lo z l).map h:=by
 unfold cut;simp [M4]
section
noncomputable def nB(G:SG)(l:U Y):Prop:=∃T∈G.bJ,T.key=l
noncomputable def tT(G:SG):Prop:=∀T∈G.bJ,∀s∈T.succ,nB G s
theorem uT(a:G.kn)(y:tT G):∀(r:Rs)(m:Kv){o:aS (U Y)}{t:Rs}{i:Kv},mY (je G.al) r m=J (o,t,i)->(∀x∈r,nB G x.1)->(∀l,o=J l->nB G l)/\(o=ae->t= [])/\(∀x∈t,nB G x.1)/\t.length<=r.length/\i.length<=m.length:=λf=>f.rec
 (λm o t i h L=>by cases h;exact(j_ nofun (λw=>C) nofun (ek _) (ek _)))
 (λ(E,p)r X m o t i h L=>by
  refine aG (L (E,p) ee) λT v e=>?_;dsimp only at e;subst e;refine bZ (o8 v) λn b=>?_;have h:=Kd.symm.trans h;rw [z8 a b]at h;cases H:T.succ[p]? with
  |some l=>
   rw [H]at h;cases h;refine(j_ (λR e=>bf e▸(y T v _ (cA H))) nofun (λx j=>?_) (ek _) (ek _));rcases cC.mp j with rfl|j
   .exact(aM T v C)
   .exact L x (dY _ j)
  |none=>
   rw [H]at h;dsimp only at h
   split at h
   .exact rW (X (lE m T.key) h λx j=>L x (dY _ j)) λk s d e z=>(j_ k s d (ET e) (bh z (xy _ _)))
   .exact nomatch h)
theorem Gz(m:Kv)(l:U Y)(w:aq):(oz m l w).length<=m.length+1:=by unfold oz;split<;>simp
noncomputable def endsF(G:SG):U (U Y)⊕(U (U Y)×Kv)->U (AV Ob)->eS->Prop
 | .inl z,g,j=>j= .ret (.list (z.map .str))/\g[0]?=J (.obj (.bS 2 G))
 | .inr (s,m),g,j=>j= .next/\∃T,g=jv G [] m s T
set_option tactic.hygienic true in
theorem Kw(l:bH c.B c.prog c.w az)(p:iM c aH)(F:Fm c.env eW eW.length zp)(K:Fast c.B c.prog c.w az G)(y:tT G):∀(n:Y)(O:U Y)(r:Rs)(m:Kv)(seen:U (U Y)){b:U (U Y)⊕(U (U Y)×Kv)},m3 (je G.al) n O r m seen=J b->nB G O->(∀j∈r,nB G j.1)->r.length<=801->m.length<=801->
  ∃S i,EW c eW eW.length (kr qL) (jD qL) [] n (jv G r m seen O) S i/\endsF G b S i:=λah=>ah.rec
 (λw w w w w h w w w w=>nomatch h)
 (λn ai O r m seen b h aB L R E=>by
  have cond:EC c eW eW.length (jv G r m seen O) (kr qL) (jv G r m seen O) aa:=oX (zb aa) C λw=>C;have s:EC c eW eW.length (jv G r m seen O) (yX (dD 0 (jD qL))) (jv G r m seen O) (decide (O∈seen)):=L0 l F 4 (zv F 6 C C) C C;have Q:∀(q:Rs)(e:Kv)(z:U (U Y)),ES c eW eW.length (jv G r m seen O) (CO 0 (jD qL)) (jv G q e z O) .next->(∀j∈q,nB G j.1)->q.length<=801->e.length<=801->
    (match mY (je G.al) q e with|J (J t,v,x)=>m3 (je G.al) n t v x z|J (ae,_,x)=>J (.inr (z,x))|ae=>ae)=J b->
    ∃S i,EW c eW eW.length (kr qL) (jD qL) [] (n+1) (jv G r m seen O) S i/\endsF G b S i:=by
   intro q e z g A u d h
   split at h
   .rename_i t v x H;exact rW (uT K.kn y q e H A) λa w aC aL aJ=>dK (ai t v x z h (a t C) aC (bh ‹_› ‹_›) (bh ‹_› ‹_›)) λS i aj ao=>(eV S i (lX cond (zx g (zx (l5 (Ke l p F K q e O H A u d)) eO)) aj) ao)
   .rename_i x H;cases h;refine fF (uT K.kn y q e H A) λw au w=>?_;cases au C;exact(gG _ _ (DZ cond (zx g (xn (l5 (Ke l p F K q e O H A u d))))) C ⟨O,C⟩)
   .exact nomatch h
  have h:=Ku.symm.trans h
  by_cases P:O∈seen
  .rw [bB P]at h;rw [decide_eq_true P]at s;cases k:jO m O with
   |some aE=>
    rw [k]at h;cases h;refine(eV _ _ (Zd cond (gU (dF s (gU (dF (jE (LZ l F 5 (zv F 6 C C) C C) (cS k)) (gU (h8 (dI (jV (lW F 2 C C) (ji (Yt l F 5 C C (Ao F 6 C C) k C)) kZ (sN (by simp;exact bh R (bx C)) C)) (jT (zr (zv F 6 C C) cj C) C) (zU ?_))))))))) ?_)
    .rw [Gi];simp [cut];exact bL 0 (.v 0) (.a (.n 999999) (.v 1)) (.v 0) (.n 801) C [_,_] R
    .refine⟨?_,C⟩;rw [Gi,ej];rfl
   |none=>
    rw [k]at h;exact Q r m seen (dF s (zx (dF (b:=aA) (jE (LZ l F 5 (zv F 6 C C) C C) (aQ _ k)) eO) eO)) L R E h
  .rw [bF P]at h;rw [decide_eq_false P]at s
   split at h
   .rename_i B;refine aG aB λT o aD=>?_;subst aD
    refine bZ (o8 o) λaK X=>Q ((T.key,0)::r) (oz m T.key r.length) (seen++ [T.key]) (dF s (zx (Y3 l F 4 C C (zv F 6 C C) C C C (bh B.2.2 (bx C)))
     (zx (YH l F 3 8 C C C (sZ l (K.info o) (DQ (C9 l (i:=0) C C K.map) (zv F 1 C C) (zv F 6 C C) X C) .su C) (K.list o) C C C (by simp [qQ];exact bh R (bx C)))
      (zx (Yu (z:=r.length) l F 5 C (sW (YI F 2 9 C C C (dM (by simp;exact bh R (bx C)))) (by simp)) C (Ao F 6 C C) (bh E (bx C)) C)
       (dN (xd F 2 C C (zv F 6 C C) C C C (dM (by simp;exact bh R (bx C)))) ?_))))) (λj f=>?_) (by simp;exact B.1) (by have:=Gz m T.key r.length;exact cF 0 (.v 1) (.n 801) (.v 0) (.n 800) (.v 1) (.a (.v 0) (.n 1)) C [_,_] B.2.1 this) h
    .simp [jv,qQ,(Lc K.kn X)]
    .rcases cC.mp f with rfl|f
     .exact(aM T o C)
     .exact L j f
   .exact nomatch h)
end
section
variable{B:bV O}
structure Turn(B:bV O)(tl:U ak):Prop where
 tab:∀L∈tl,L∈B.tabs
 dat:∀h,B.inv h->∀L∈tl,∃o,h.get? L=J o/\∀vs,o.data≠ .fields vs
 sl:∀h h',B.inv h->(∀P∈B.tabs,∀o,h.get? P=J o->h'.get? P=J o\/(P∈tl/\∃sl,h'.get? P=J {o with slots:=sl}))->B.inv h'
noncomputable def Slots(j:U ak)(h L:b8):Prop:=∀A∈j,∃o z,h.get? A=J o/\L.get? A=J {o with slots:=z}
noncomputable def bV.fr(B:bV O)(j:U ak)(h:b8):bV O:=
 {B with
  tabs:=B.tabs++j
  inv:=λL=>B.inv L/\Slots j h L
  live:=λ{a}k X l=>by
   rcases fb.mp l with l|l
   .exact B.live k.1 X l
   .exact dK (k.2 X l) λo z w e=>cS e
  e8:=λ{a x}k q=>⟨B.e8 k.1 λX l=>q X (gx _ l),λA E=>dK (k.2 A E) λo z e i=>eV o z e (q A (i0 _ E) _ i)⟩}
theorem Slots.refl(B:∀A∈j,∃o,h.get? A=J o/\∀y,o.data≠ .fields y):Slots j h h:=λA E=>aG (B A E) λo Q w=>(eV o o.slots Q Q)
theorem Turn.fr(T:Turn B L)(s:∀A∈j,A∉B.tabs)(x:∀A∈j,∃o,n.get? A=J o/\∀t,o.data≠ .fields t):Turn (B.fr j n) (j++L)where
 tab:=λA E=>by
  rcases fb.mp E with E|E
  .exact i0 _ E
  .exact gx _ (T.tab A E)
 dat:=λO k A E=>by
  rcases fb.mp E with E|E
  .refine dK (k.2 A E) λo sl e h=>aG (x A E) λf y v=>?_;rw [e]at y;obtain rfl:=bf y;exact(aM _ h v)
  .exact T.dat O k.1 A E
 sl:=λO b k q=>⟨T.sl O b k.1 λX l o Q=>by
   rcases q X (gx _ l) o Q with e|⟨H,e⟩
   .exact .inl e
   .rcases fb.mp H with H|H
    .exact cg l (s X H)
    .exact .inr ⟨H,e⟩,
  λA E=>by
   refine dK (k.2 A E) λo sl e h=>?_;rcases q A (i0 _ E) _ h with a|⟨_,i,a⟩
   .exact(eV o sl e a)
   .exact(eV o i e a)⟩
theorem Turn.up(T:Turn B L)(g:bN B.bI P):Turn (B.up P g) L:=⟨T.tab,T.dat,T.sl⟩
theorem iM.turn(p:iM c L):Turn c.B L:=⟨p.tab,p.dat,p.sl⟩
structure A5(B:bV O)(fz:Fz)(h:b8)(fp:U ak)(A:cZ)(fl tl:U ak):Prop where
 fr:∃outer,A.frames=J outer/\∀e∈outer,e.scope.kind≠ .module/\∃L∈fl++tl,e.frame=J L
 ok:∀L∈fl,fz L=ae/\B.bI.get? L=ae/\L∉B.tabs/\L∉fp
 dat:∀L∈fl,∃o,h.get? L=J o/\∀vs,o.data≠ .fields vs
 turn:Turn B tl
inductive N7(g h:b8)(e:ak)(cls a0:ay):Prop
 |mk(Tb:ak)(oT:bE)(ts:j4 ay)(c5:g.get? Tb=ae)(c6:Tb≠e)(c7:h.get? Tb=J oT)(c8:oT.data= .fields ts)(mv:∀g':b8,g'.get? Tb=ae->h.TracedW g' e cls a0)
theorem Lw{P h:b8}{e:ak}{t x:ay}(E:h.TracedW P e t x):N7 P h e t x:=by
 refine cps λw T=>?_;obtain⟨m,y,S,B,j,n,H,a,i,u,r,L,F,b⟩:=E;exact T (⟨S,B,j,u,r,L,F,λf q=>⟨m,y,S,B,j,n,H,a,i,q,r,L,F,b⟩⟩)
noncomputable def NJ(B:Mk)(f:Fz)(a L:b8)(t:ay)(h:U ak):aS T->Result->Prop
 |J E,r=>∃v,r= .ok (.ret v)/\Den B f v E
 |ae,r=>∃e x P,r= .error (.ref e)/\P.get? e=ae/\L.TracedW P e t x/\(∀b,(a.get? b).isSome=aa->(P.get? b).isSome=aa)/\∀b∈h,(P.get? b).isSome=aa
noncomputable def nV(B:bV O)(k:ck)(X:b4)(u:Y)(z:ay)(o:O)(g:U T)(t:ay)(q:O->aS T->Prop):Prop:=
 ∀(F:cZ)(a:Mk)(f:Fz)(H:ay)(y:U ay)(p:Result->aR->Prop)(s:aR)(h j L:U ak),A5 B f s.heap h F j L->dw F u->Ready B f s->B.ob.at_ o H s.heap h->(∀b∈h,f b=ae/\B.bI.get? b=ae/\b∉B.tabs)->aY a f y g->
  (∀m P e i r l,q i r->bU s m->Le f P->(∀b,b∉h->b∉B.tabs->b∉j->∀x,s.heap.get? b=J x->m.heap.get? b=J x)->Slots j s.heap m.heap->B.inv m.heap->Le P m.heap.get?->(∀b x,P b=J x->f b=J x\/s.heap.get? b=ae\/b∈h)->
   B.ob.at_ i H m.heap e->(∀b∈e,(b∈h\/s.heap.get? b=ae)/\P b=ae)->NJ a P s.heap m.heap t e r l->p l m)->codeAny (model k X) F (.call z ⟨H::y, []⟩) p s
noncomputable def xY(s:U ak)(F:cZ):Prop:=∃o,F.frames=J o/\∀e∈o,e.scope.kind≠ .module/\∃A∈s,e.frame=J A
theorem Ready.fr(r:Ready B f s)(K:A5 B f s.heap fp F j L):Ready (B.fr j s.heap) f s where
 bC:=r.bC
 base:=r.base
 inv:=⟨r.inv,Slots.refl K.dat⟩
 iH:=λX l=>by
  rcases fb.mp l with l|l
  .exact r.iH X l
  .exact(K.ok X l).2.1
 lS:=λX l=>by
  rcases fb.mp l with l|l
  .exact r.lS X l
  .exact(K.ok X l).1
theorem OW(h:∀j L h,Turn (B.fr j h) (j++L)->A2 (xY (j++L)) (B.fr j h) u X c z o aj λi r=>e i (J r)):nV B u X c z o aj aE e:=by
 intro a x f H y p s O j L K l P n F m g;refine h j L s.heap (K.turn.fr (λA E=>(K.ok A E).2.2.1) K.dat) a x f H y p s O K.fr l (P.fr K) n (λb t=>(cR ((F b t).1) ((F b t).2.1) (λq=>?_))) m λw S T Q i r G R ah d k ao au ai aB az=>?_
 .rcases fb.mp q with q|q
  .exact(F b t).2.2 q
  .exact(K.ok b q).2.2.2 t
 .exact g w S Q i (J r) _ G R ah (λb aC aD v=>d b aC λq=>(fb.mp q).elim aD v) k.2 k.1 ao au ai aB (aM T C az)
theorem e6.fr(G:e6 B l r):e6 (B.fr j h) l r:=⟨G.g,G.b,G.nolimit⟩
theorem jJ.fr(k:jJ B a S f m n):jJ (B.fr j h) a S f m n:=⟨k.ho,k.hd,k.yQ,k.yP,k.yR,k.wj,k.hg,k.hb⟩
end
theorem bH.fr(l:bH w i X c):bH (w.fr j h) i X c:=⟨l.ob,l.gS,l.ok⟩
section
noncomputable def IH(G:SG)(m:Kv)(seen:U (U Y))(v:AV Ob):U (AV Ob):= [.obj (.bS 2 G), .t (.bO (.ref G.D)), .own [], .obj (.dc []), .obj (.set seen), .obj (.jN m),v]
noncomputable def QA(G:SG):aS (U (U Y))->eS->Prop
 |J z,j=>j= .ret (.list (z.map .str))
 |ae,j=>j= .next
set_option tactic.hygienic true in
theorem Tc(o:G.kn)(y:tT G):∀(n:Y)(O:U Y)(r:Rs)(m:Kv)(seen:U (U Y)){b:U (U Y)}{i:Kv},m3 (je G.al) n O r m seen=J (.inr (b,i))->nB G O->(∀x∈r,nB G x.1)->m.length<=801->i.length<=801:=λg=>g.rec
 (λw w w w w w h w w w=>aT C h)
 (λn X O r m seen b i h v L E=>by
  have h:=Ku.symm.trans h
  split at h
  .split at h
   .exact nc Sum.ctorIdx (bf h) C
   .split at h
    .rename_i l t e H;exact rW (uT o y r m H L) λa w d f z=>X l t e seen h (a l C) d (bh ‹_› ‹_›)
    .rename_i e H;refine rW (uT o y r m H L) λw w w w z=>bR (qn (Sum.inr.inj (bf h))) λs A=>?_;subst s A;exact bh ‹_› ‹_›
    .exact aT C h
  .split at h
   .rename_i B;have k:∀x∈(O,0)::r,nB G x.1:=λx j=>by
     rcases cC.mp j with rfl|j
     .exact v
     .exact L x j
    have q:=Gz m O r.length
    split at h
    .rename_i l t e H;exact rW (uT o y _ _ H k) λa w d f z=>X l t e _ h (a l C) d (ki 0 (.v 2) (.n 801) (.v 0) (.n 800) (.v 1) (.a (.v 0) (.n 1)) (.v 2) (.v 1) C [_,_,_] B.2.1 q z)
    .rename_i e H;refine rW (uT o y _ _ H k) λw w w w z=>bR (qn (Sum.inr.inj (bf h))) λs A=>?_;subst s A;exact ki 0 (.v 2) (.n 801) (.v 0) (.n 800) (.v 1) (.a (.v 0) (.n 1)) (.v 2) (.v 1) C [_,_,_] B.2.1 q z
    .exact aT C h
   .exact aT C h)
set_option tactic.hygienic true in
theorem RW(l:bH c.B c.prog c.w z)(i:iM c Q)(F:Fm c.env eW eW.length zp)(K:Fast c.B c.prog c.w z G)(y:tT G)(o:Y):∀(r:U (U Y))(seen:U (U Y))(m:Kv)(v:AV Ob){e:aS (U (U Y))},qN (je G.al) o r seen m=J e->(∀x∈r,nB G x)->m.length<=801->
  ∃S a,j6 c eW eW.length (qM yy) (fY yy) (r.map .str) (IH G m seen v) S a/\QA G e a/\S[0]?=J (.obj (.bS 2 G)):=λf=>f.rec
 (λseen m v e h w w=>bf h▸((gG _ _ jh C C)))
 (λx r X seen m v e h L g=>by
  have b:EC c eW eW.length (jv G [] m seen x) (yX (dD 0 (fY yy))) (jv G [] m seen x) (decide (x∈seen)):=L0 l F 4 (zv F 6 C C) C C;have h:=RU.symm.trans h
  split at h
  .rename_i P;rw [decide_eq_true P]at b;exact iD (X seen m (.t (.str x)) h (λO A=>L O (dY _ A)) g) λS a n u d=>(gG S a (Yv (eJ F 6 C (cY _)) (Mp (dF b (Mp Yp))) n) u d)
  .rename_i P;rw [decide_eq_false P]at b;have j:=L x ee
   split at h
   .rename_i R H;obtain rfl:=bf h;refine cps λw T=>dK (Kw l i F K y o x [] m seen H j (λw q=>nomatch q) (by simp) g) λS a p u=>bR (u) λs d=>?_;subst s;exact T ((gG S _ (Yw (eJ F 6 C (cY _)) (zx (dF b eO) (gU (l5 p)))) C d))
   .rename_i t B H;refine cps λw T=>dK (Kw l i F K y o x [] m seen H j (λw q=>nomatch q) (by simp) g) λS a p u=>bR u λs E=>?_;subst s;obtain⟨k,rfl⟩:=E;exact iD (X t B (.t (.str k)) h (λO A=>L O (dY _ A)) (Tc K.kn y _ _ _ _ _ H j (λw q=>nomatch q) g)) λS a n u d=>T ((gG S a (fO (eJ F 6 C (cY _)) (zx (dF b eO) (zx (l5 p) eO)) n) u d))
   .exact aT C h)
end
noncomputable def yn:aS (U (U Y))->T
 |J z=> .list (z.map .str)
 |ae=> .none
noncomputable def qK(A:U AN)(o:Y):aS (aS (U (U Y))):=qN (je A) o (A.map (·.1)) [] []
section
variable{y:Ly Ob}{f:ak}
noncomputable def Ly.fr(y:Ly t)(j:U ak)(h:b8):Ly t:=⟨y.B.fr j h,y.prog,y.w,y.mg,y.mb,y.G.fr,y.bi⟩
theorem dQ.rest{v:ay}(d:dQ i X L 0 G v h O):∃T,dQ i X L q G v h T/\∀b∈T,b∈O:=by
 have ob:=d.ob;rw [sC i X L q G]at ob;exact(aM _ ⟨d.v,d.sm,d.nd,ob.sub (l:= [])⟩ (λb t=>by rw [d.ob.ad,sC i X L q G,ej];exact gx _ t))
theorem dQ.apart{v F:ay}{O T:U ak}(d:dQ i X L 0 G v h O)(o:dQ i X L q G F e T):∀b∈(oQ i X L q G).map (·.1),b∈O/\b∉T:=λb t=>by
 have nd:=d.ob.nd;rw [d.ob.ad,sC i X L q G,ej,gm]at nd;refine⟨by rw [d.ob.ad,sC i X L q G,ej];exact i0 _ t,λH=>?_⟩;rw [o.ob.ad]at H;exact nd.2.2 b H b t C
theorem Fast.up(K:Fast w i X L G)(g:bN w.bI P):Fast (w.up P g) i X L G:=⟨K.sm,K.kn,K.st.keep λb h o e=>g b o e⟩
theorem G9(h:xY s F)(i:c.A=F.deeper c.env)(T:Turn c.B s)(own:c.env.frame=J c.env.locals)(kd:c.env.scope.kind= .function):iM c s where
 fr:=aG h λo e h=>(aM o ((aQ _ i).trans (Ei e)) h)
 own:=own
 kd:=by rw [kd];decide
 tab:=T.tab
 dat:=T.dat
 sl:=T.sl
theorem XK(l:bH y.B y.prog y.w aj)(T:Turn y.B v)(k:gO y.B f 16 8 bq h eW)(ah:tT G)(o:Y){e:aS (U (U Y))}(H:qK G.al o=J e)(K:Fast y.B y.prog y.w aj G):
  A2 (xY v) y.B y.prog y.w (n+1) (.ref f) (.bS 2 G) [] λaz aH=>az= .bS 2 G/\aH=yn e:=by
 refine F3 y.G k.d (dP C) (.plain λs B=>?_) (λi=>(aM _ i (λai t=>t))) (λX R E=>?_) (λ{aO i aV aW aJ}g w w w w A b r p S=>?_) λX w w O w w=>(gG _ _ X O (λai t=> .inl t))
 .exact bind1 (λaL=>(pD k.ar k.df _).trans C) s B
 .refine bR X λP w=>?_;subst P;rw [l.ob]at R E;have R:=R;have E:=E;rw [R.v,E.v]
 .have F:Fm (callEnvC h A f) eW eW.length zp:=jQ (C) (by show h.scope.names=_;exact aQ _ k.sc)
  let c:=(y.up aJ g).c (b.deeper (callEnvC h A f)) r (callEnvC h A f) n S.deeper
  have z:=l.up g;have q:=K.up g;have ao:G.al.map (·.1)=G.bJ.map (·.key):=by simp [SG.al]
  unfold qK at H;rw [ao]at H
  obtain⟨au,aZ,a,u,d⟩:=RW z (G9 (c:=c) p C (T.up g) C (by show h.scope.kind=_;exact aQ _ k.sc)) F q ah o (G.bJ.map (·.key)) [] [] .un H (λaU L=>by
   refine aG (eZ.mp L) λaC aD aE=>?_
   subst aE;exact(aM aC aD C)) (by simp)
  rw [d_]at a;refine XP.ev (c:=c) (XP.mono (Φ:=λaB j=>aB[0]?=J (.obj (.bS 2 G))/\tZ j (yn e)) ?_ λau j X=>(lG _ _ X.1 X.2 C C));have m:∀{Q x},EX c eW eW.length (IH G [] [] .un) [CO 5 (cQ (e7 16 8)),CO 6 (cQ (e7 16 8))] Q x->EX c eW eW.length (kR (.bS 2 G) eW []) (cQ (e7 16 8)) Q x:=λaK=>
   zx (fu F 1 C (dP C) (jF z (jB z (i:=0) C C) (iW z F 0 C C) .sq C) C)
    (zx (q_ F 2 C (dP C) (o4 cj C) C) (zx (YG z F 3 C (dP C) C) (zx (Y4 z F 4 7 C (dP C) C C) (zx (Ys z F 5 C (e5 _ _) C) aK))))
  cases e with
  |some bg=>
   subst(u);exact EX.xp (m (gU (iV (LY (zv F 1 C C) q.sm q.map) a C C))) ⟨d, .inl C⟩
  |none=>
   have u:=u;subst u;exact EX.xp (m (zx (iV (LY (zv F 1 C C) q.sm q.map) a C C) (gU (h8 zn)))) ⟨d, .inl C⟩
end
section
variable{c:Cx Ob}
theorem Vd{d:U DictEntry}(p:gT G (dictOf d u)):gT {G with cJ:=J a,rl:=l} (dictOf (putL "_ready_nodes" z (.str "_ready_nodes" s) (.ref a) d) f):=by
 obtain⟨i,X,g,n,e,B,R,E,S,A,r⟩:=p;obtain rfl:=yp e;exact⟨_,f,g,n,C,by rw [CZ d ⟨_,E⟩];exact B,by rw [lF Uq];exact R,yO d,by rw [lF (jk I5)];exact S,by rw [lF (jk I6)];exact A,λx a b c h=>by rw [lF b];exact r x a b c h⟩
theorem Y0(l:bH c.B c.prog c.w aj)(ao:Fm c.env n k cK)(i:Y)(j:n[i]?=J O)(bA:EF c n k P e v (aB.map .str))(aC:v[i]?=J (.obj (.bS 2 G)))(aE:G.cJ=ae)
  (aJ:swapsWith e (J (.Attribute (.Name O aK) "_ready_nodes" aO)) aV.line c.env=pure aA):
  SP c n k P (.Assign [.Attribute (.Name O aK) "_ready_nodes" aO] e aV) λaW aU=>∃a,aW=v.set i (.obj (.bS 2 {G with cJ:=J a,rl:=aB}))/\aU= .next:=by
 constructor;intro aD aH aL b_ cz cB bK bM;refine vC (bA.1 aD aH aL _ _ bK λcV H a A S L R ah ai E y Fr au az=>(bR (g9 l y j aC) λp d=>(eP (eH E y.ns p ?_) (ao.eU j)))) aJ;have Q:("_ready_nodes":af)∈(["_node2info", "_ready_nodes", "_npassedout", "_nfinished"]:U af):=by simp
 refine aG (d.ob.dH (G.self,λo=>o=instObj aj.a_ G.d) (lQ (by simp [fq]))) λcv h f=>aG (d.ob.dH (G.d,gT G) (lQ (cA (i:=1) C))) λcE F B=>?_;dsimp only at f h F B;subst f;refine iD (B.has Q) λbQ u aZ bg bq=>?_;subst aZ;have ad:R i= [G.self,G.d]:=by rw [d.ob.ad];simp [lN,lO,lP,fq,aE]
 have z:=(cw.mp j).1;have x:G.d∈R i:=by rw [ad];exact .tail _ (.head _)
 have t:G.self∈R i:=ad.symm▸ .head _;have s:=y.fp i z;have m:=Fr.fp i z;refine z0 (l.gS y.base) (⟨h,C,C,F⟩) C l.ok.sa l.ok.po (by unfold takerIn;rw [l.ok.at_ _ Q,xH]) l.ok.hd bq (bh bg (bx C)) λbD bW bY b7 r bz=>?_;have g:∀{b},b∉R i->b≠G.d:=λ{b}u q=>u (by rw [q];exact x);have T:=d.ob.nd;rw [ad]at T m;exact bM _ H .next _ .next (aM a C C) (ah.trans (cu bD _ C)) ai ⟨E,L,_,y.u6 j (λb u cO o e=>(r.2 b (g u)).trans e) (c.B.e8 y.inv λX w o e=>(r.2 X (g ((y.tab X w).2.2.2.2 i z))).trans e) (Le.refl _) (λb o e=>(r.2 b λq=>(aT ((aQ _ q).trans ((s G.d x).2.1)) e)).trans (y.bC b o e)) (λb o e=> .inl e) p ⟨.ref G.self,C,l.ob.symm▸(⟨C,d.sm,d.nd,⟨bl (aM _ ((r.2 G.self (oH T 0 1 C C C)).trans h) C) (bl (aM _ bz (Vd B)) (bl (aM _ ((r.2 a λq=>m (q▸cN 1 C)).trans au) ⟨A,S,C,gX.of az⟩) dR)),C,bJ T m⟩⟩)⟩ (bl ⟨.inl t,(s _ t).2.1⟩ (bl ⟨.inl x,(s _ x).2.1⟩ (bl ⟨.inr Fr,Fr.fz⟩ dR)))⟩ trivial
theorem KS(c:Slots j h L)(E:A∈j)(u:h.Ns A H):L.Ns A H:=by
 refine gZ u λo d O Q q r=>dK (c _ E) λk z e B=>?_;cases bf (Q.symm.trans e);exact(yU _ d O B q r)
theorem aN.G7(p:iM c L)(S:aN c.B c.ρ s f c.env x k g H R h)(z:i<x.length):A5 c.B f h (R i) c.A [c.env.locals] L where
 fr:=aG p.fr λb a h=>(aM _ a (λB u=>(cC.mp u).elim (λq=>q.symm▸⟨p.kd,_, .head _,p.own⟩) λu=>match h B u with|⟨k,A,E,n⟩=>⟨k,A,dY _ E,n⟩))
 ok:=λA E=>(cI.mp E).symm▸(jt S.nL.2 (S.b0 S.nL.1) (λq=>(S.tab _ q).2.2.1 C) (λq=>(S.fp i z _ q).2.2.1 C))
 dat:=λA E=>(cI.mp E).symm▸gZ S.ns λo w w Q e w=>(aM o Q (λw q=>nc aaE (e.symm.trans q) C))
 turn:=p.turn
theorem T4(l:bH c.B c.prog c.w aV)(aL:iM c aj)(au:Fm c.env n k c9)(h:Y)(j:n[h]?=J az)(aB:g[h]?=J (.obj (.bS x G))){q:Ob->aS T->Prop}(ah:(z,t)∈aV.fs)(aE:z∉(["_node2info", "_ready_nodes", "_npassedout", "_nfinished"]:U af))
  (Q:∀{e},bN c.B.bI e->e.get? t=J aW)(bg:aW.data= .func dJ){o:Ob}(aH:∀{H e O},c.B.ob.at_ (.bS x G) H e O->c.B.ob.at_ o H e O)(aZ:nV c.B c.prog c.w c.n (.ref t) o [] c_ q)(bz:(bA.endLine==bY.line)=aa)
  (bq:SR c.B c.ρ A f c.env n k g s.heap)
  (ai:∀m P v i r,q i (J r)->bU s m->Le f P->SR c.B c.ρ A P c.env n k (g.set h (.obj i)) m.heap->Den c.ρ P v r->aC v m)
  (aD:∀m P i a(u:ay),q i ae->bU s m->Le f P->SR c.B c.ρ A P c.env n k (g.set h (.obj i)) m.heap->aJ (.ref a) m):
  wpAny (model c.prog c.w) c.A (eval (.Call (.Attribute (.Name az dB) z bA) [] [] bY) c.env) aC aJ s:=by
 obtain⟨E,aO,aU,y⟩:=bq;refine bR (g9 l y j aB) λp d=>zm l au j E y p d ah aE C (bx C) bz (xK ⟨⟨Q y.base,bg⟩,jH (aZ c.A c.ρ f (.ref G.self) [] _ s (aU h) [c.env.locals] aj (y.G7 aL (kh j)) c.R y.ready (aH (l.ob.symm▸d)) (y.um (kh j)) .nil λm P dm i r cV X w R bD bK bM aK bQ bW S L=>?_)⟩);have B:SR c.B c.ρ A P c.env n k (g.set h (.obj i)) m.heap:=
  ⟨E,aO,_,y.w9 j (λb b_ cv cz b7 Q=>bD b b_ cv (λx=>cz (cI.mp x)) b7 Q) (KS bK (.head _) y.ns) bM R aK bQ p ⟨.ref G.self,C,bW⟩ λb F=>⟨(S b F).1.imp id y.free,(S b F).2⟩⟩
 cases r with
 |some cE=>
  refine aG L λv cB cK=>?_;subst cB;exact ai m P v i cE X w R B cK
 |none=>
  refine i8 L λa u cO ao cO=>?_;subst ao;exact aD m P i a u X w R B
end
section
variable{B:bV O}{prog:ck}{w:b4}{A:cZ}{ρ:Mk}{env:cW}{xs:U af}{k:Y}{lv:U (AV O)}{cls:ay}{st:cf}
noncomputable def tW(B:bV O)(prog:ck)(w:b4)(A:cZ)(ρ:Mk)(env:cW)(xs:U af)(k:Y)(lv:U (AV O))(st:U cf)(cls:ay)(T:U (AV O)->eS->Prop)(i:U (AV O)->Prop):Prop:=
 ∀(h:HB)(f:Fz)(s:aR)(Q:Flow->aR->Prop)(G:ay->aR->Prop),h.lk= []->SR B ρ h f env xs k lv s.heap->
  (∀m P z S j,T S j->bU s m->Le f P->SR B ρ h P env xs k S m.heap->FD ρ P z j->Q z m)->
  (∀m P S L e y,i S->bU s m->Le f P->SR B ρ h P env xs k S m.heap->Heap.MadeExcOf m.heap L e cls y->G (.ref e) {m with heap:=L})->wpAny (model prog w) A (execs st env) Q G s
theorem DJ(R:xW B prog w A ρ env xs k lv st Ψ)(h2:∀u j,Ψ u j->j= .next/\tW B prog w A ρ env xs k u b cls Φ v):tW B prog w A ρ env xs k lv (st::b) cls Φ v:=by
 intro e f s Q G a S O m;refine gN (R e f s _ _ a S λc i z u j p o X t d=>(bR (h2 u j p) λn h2=>?_));subst n;obtain rfl:=d.nx;exact h2 e i c Q G a t (λx q z h j p r l F d=>O x q z h j p (o.trans r) (X.trans l) F d) λx q h L g y p r l F H=>m x q h L g y p (o.trans r) (X.trans l) F H
theorem LM{b:bu}(s:fQ B prog w A ρ env xs k lv e aP b)(R:b=aa->tW B prog w A ρ env xs k aP m cls Φ v)(E:b=aA->Φ aP .next)(T:∀lv z,Φ lv z->True):tW B prog w A ρ env xs k lv [.If e m [] p] cls Φ v:=by
 intro hB f n Q G j S O g;cases b with
 |false=>
  refine gN (AW (s hB f n _ _ S λc h o X t=>rC (rC (O c h .next _ .next (E C) o X t trivial))))
 |true=>
  refine gN (AW (s hB f n _ _ S λc h o X t=>(R C hB h c _ _ j t (λx q z a u p r l F d=>?_) λx q a L e y p r l F H=>g x q a L e y p (o.trans r) (X.trans l) F H)));have i:=O x q z a u p (o.trans r) (X.trans l) F d;cases z<;>first|exact rC i|exact i
theorem OY(D7:e6 B abb aa'){bK nu:O->aS T->Prop}(gJ:jJ B ao l6 ah d6 xs)(eg:eu.length+1<=xs.length)(qf:∀j a,Binds (B.fr j a) prog w ah xs vn eu)
  (p6:∀{H a e},B.ob.at_ o H a e->∃n,B.ob.at_ o₁ H a n/\∀b∈n,b∈e)(nP:∀{H a e cB aD d v r},nu v r->B.ob.at_ o₁ H a e->B.ob.at_ v cB aD d->cB=H/\∀b∈e,b∈d)
  (qc:∀{H a e n b_ j L aB}(aJ:bN (B.fr j aB).bI b_),Turn (B.fr j aB) (j++L)->B.ob.at_ o H a e->B.ob.at_ o₁ H a n->(∀b x,a.get? b=J x->b∉(B.fr j aB).tabs->b∉n->b_.get? b=J x)->(∀b∈e,b∉(B.fr j aB).tabs)->∀i A ρ,xY (j++L) A->dw A (qd+1)->
   tW ((B.fr j aB).up b_ aJ) prog w (A.deeper (callEnvC ah i ao)) ρ (callEnvC ah i ao) xs xs.length (kR o₁ xs eu) d6 cls (λS j=>∃v r,S[0]?=J (.obj v)/\tZ j r/\nu v (J r)) λS=>∃v,S[0]?=J (.obj v)/\nu v ae)
  (qe:∀{H a e n aD cv v r},nu v r->B.ob.at_ o H a e->B.ob.at_ o₁ H a n->B.ob.at_ v H aD cv->(∀b∈e,b∉n->∀x,a.get? b=J x->aD.get? b=J x)->(∀b∈cv,b∈n\/a.get? b=ae)->∃y d,bK y r/\B.ob.at_ y H aD d/\∀b∈d,b∈cv\/(b∈e/\b∉n)):
  nV B prog w (qd+1) (.ref ao) o vn cls bK:=by
 intro A ρ fx H cO Zi s e j L K gK aK aL bg D6 dX;refine aG (p6 aL) λn aC sub=>?_;have d8:=K.turn.fr (λi ai=>(K.ok i ai).2.2.1) K.dat;have G:jJ (B.fr j s.heap) ao l6 ah d6 xs:=gJ.fr
 have aU:∀b∈e,fx b=ae/\B.bI.get? b=ae/\b∉(B.fr j s.heap).tabs:=λb t=>(cR ((bg b t).1) ((bg b t).2.1) (λq=>by
  rcases fb.mp q with q|q
  .exact(bg b t).2.2 q
  .exact(K.ok b q).2.2.2 t))
 refine F0 D7.fr G.ho G.hd G.yQ G.yP G.yR G.wj G.hg G.hb eg (qf j s.heap) gK (aK.fr K) aC (λb t=>aU b (sub b t)) D6 λaJ i vm eK eL eX Eg o7 ai=>?_;have dS:∀{m:aR}{Q:Fz}{S:U (AV O)}{v:O}{r:aS T},S[0]?=J (.obj v)->nu v r->SR ((B.fr j s.heap).up _ aJ) ρ ⟨(rest s.heap ((B.fr j s.heap).tabs++n)).get?, [],eK, []⟩ Q (callEnvC ah i ao) xs xs.length S m.heap->
   Fj (B.fr j s.heap) fx Q s.heap m.heap e n i H (λy=>bK y r)/\(B.fr j s.heap).inv m.heap/\Le Q m.heap.get?/\∀b,(s.heap.get? b).isSome=aa->(m.heap.get? b).isSome=aa:=by
  intro m Q S v r au X z;refine cps λR bM=>?_;obtain⟨_,D0,aba,z⟩:=z;have iz:=qk (c3 _) eg;obtain⟨abd,_,cB,rfl,aV⟩:=z.vars 0 _ _ (cP iz) au;refine bR (nP X aC aV) λD9 jW=>bM ?_;subst D9;exact(jt (J9 (B:=B.fr j s.heap) aL aC sub (λb t=>⟨(aU b t).1,(aU b t).2.2⟩) Eg ai z iz aV (qe X aL aC aV)) z.inv z.bC (λb t=>(bZ (gn.mp t) λx h=>((tu (b∈n)).elim (λbW=>B.ob.live aV b (jW b bW)) λbW=>(tu (b∈(B.fr j s.heap).tabs)).elim ((B.fr j s.heap).live z.inv b) λaW=>cS (z.kept b x (wW h aW bW))))))
 refine qc aJ d8 aL aC (λb x l f c=>wW l f c) (λb t=>(aU b t).2.2) i A ρ K.fr gK _ eK vm _ _ C o7 (λm Q Zk S aa9 X q b7 z aj=>?_) λm Q S cV l Zj X q b7 z g=>?_
 .refine iD X λv r au nM X=>vW (dS au X z) λdm eE bz R=>?_;obtain⟨y,d,bA,bD,bq,aO,bQ,_⟩:=dm;have fa:=λff aj=>dX m Q d y (J r) _ bA (eL.trans q) (eX.trans b7) (λb f c E x l=>bD b (λq=>f (sub b q)) (λq=>(fb.mp q).elim c E) x l) eE.2 eE.1 bz bq aO bQ (aM ff C aj);rcases nM with rfl|⟨rfl,rfl⟩
  .obtain⟨ff,rfl,aj⟩:=aj.rt;exact fa _ aj
  .obtain rfl:=aj.nx;exact fa _ .none
 .refine aG X λv au X=>cps λR bM=>vW (dS au X z) λdm kA bz k6=>?_;obtain⟨y,d,bA,bD,bq,aO,bQ,k7,k8,dO,D0,fy⟩:=dm;have fU:∀b,b∉e->b∉B.tabs->b∉j->∀x,s.heap.get? b=J x->m.heap.get? b=J x:=λb f c E x l=>bD b (λq=>f (sub b q)) (λq=>(fb.mp q).elim c E) x l;refine bR kA λbY gv=>aG K.fr λp7 p8 p9=>jq g.there λp_ qb Ms aa8=>bM ?_;have aa_:i≠l:=λq=>i8 fy λo R R P R=>aT ((aQ _ q).trans g.new) P;have gC:∀u∈i::(j++L),∃o,cV.get? u=J o/\∀cO,o.data≠ .fields cO:=λu p=>by
   rcases cC.mp p with rfl|p
   .exact gZ fy λo Zg aa7 P s6 R=>(aM o (g.keeps _ _ P) (λcO q=>by rw [s6]at q;contradiction))
   .exact d8.dat _ ((B.fr j s.heap).e8 ⟨bY,gv⟩ λX R o l=>g.keeps _ _ l) u p
  have s_:cV.FunFrames (rest cV (l::i::(j++L))) (callEnvC ah i ao::p7):=BI (λu p=>ry _ (dY _ p)) gC λenv cz=>by
   rcases cC.mp cz with rfl|cz
   .exact⟨by show ah.scope.kind≠_;rw [gJ.wj.kind];decide,_,ee,C⟩
   .refine bR (p9 env cz) λk tn=>?_;obtain⟨u,p,F⟩:=tn;exact⟨k,u,dY _ p,F⟩
  refine wpAny_leaving_firstW (Ei p8) s_ C qb (sJ _) (ry _ ee) C C C λcE xo=>vW xo λAr abe As cK=>?_;have az:∀b,b≠i->b∉j->b∉L->∀x,m.heap.get? b=J x->cE.get? b=J x:=λb f c E x h=>by
   refine Ar b x (mZ (g.keeps _ _ h) ?_);simp only [cC,fb,not_or];exact(jt (λq=>(by rw [q,g.new]at h;exact aT C h)) f c E)
  have aZ:=K.turn.tab;refine dX {m with heap:=cE} Q d y ae _ bA ((eL.trans q).trans (cu _ m.toks C)) (eX.trans b7) (λb f c E x h=>az b (λq=>aT ((aQ _ q).trans ai) h) E (λq=>c (aZ b q)) x (fU b f c E x h)) (λu p=>?_) ?_ (λb x h=>az b (λq=>?_) (λq=>?_) (λq=>?_) x (bz b x h)) bq (B.frame aO (λb x h=>?_) λb t x h=>?_) bQ (r6 l (.ref p_) m.heap C g.new ?_ k6 (λb t=>B.ob.live aO b t))
  .refine dK (gv u p) λo D3 gV qa=>aG (K.dat u p) λD5 aE c_=>?_;rw [aE]at gV;obtain rfl:=bf gV;exact bZ (cK u _ (g.keeps _ _ qa) c_) λc9 aH=>(eV _ c9 aE aH)
  .refine K.turn.sl m.heap cE bY λX iX o P=>?_
   by_cases F:X∈L
   .refine aG (K.turn.dat _ bY X F) λD5 aE c_=>?_;rw [P]at aE;obtain rfl:=bf aE;exact bZ (cK X _ (g.keeps _ _ P) c_) λc9 aH=> .inr ⟨F,c9,aH⟩
   .exact .inl (az X (λq=>(bZ (gn.mp (B.live aK.inv X iX)) λZh D8=>(aT ((aQ _ q).trans ai) D8))) (λq=>(K.ok X q).2.2.1 iX) F o P)
  .exact aT ((aQ _ q).trans k8) h
  .exact aT (dO b (i0 _ q)) h
  .exact aT (dO b (gx _ (aZ b q))) h
  .have aW:b∉B.tabs:=λq=>aT (aK.iH b q) h;have iK:=aK.base b x h;have F:b∉j:=λq=>aT ((K.ok b q).2.1) h;exact az b (λq=>aT ((aQ _ q).trans ai) iK) F (λq=>aW (aZ b q)) x (fU b (λq=>(aT ((bg b q).2.1) h)) aW F x iK)
  .have:=k7 b t;exact az b this.1 (λq=>this.2 (i0 _ q)) (λq=>this.2 (gx _ (aZ b q))) x h
  .obtain⟨dB,aa5,aa6,D_,D4,Eb,Ec,Ed⟩:=Lw As;refine Ed _ (jR λo Ea=>?_)
   by_cases jj:dB∈i::(j++L)
   .refine aG (gC dB jj) λEf Eh dJ=>bZ (cK dB Ef Eh dJ) λD3 aH=>?_;cases bf (Eb.symm.trans aH);exact dJ _ Ec
   .exact aT D_ (mZ (g.keeps _ _ Ea) λq=>(cC.mp q).elim D4 jj)
end
section
theorem YA(h:EE c n k g e u (.str l)):EE c n k g (.JoinedStr [e] p) u (.str l):=⟨λA f s Q G S O=>PySem.wpAny_JoinedStr_one (h.1 A f s Q G S O)⟩
theorem Yd(F:Fm c.env xs k au)(m:Y)(G:au[m]?=J (x, .globalImplicit))(O:OwnCls x a Q b c.mg c.B.bI)(z:ExcBaseFacts aZ b bq Q)(h:ER c xs k g cpos d u E)(P:d.all dj=aa)(B:E.length<=1000):
  tW c.B c.prog c.w c.A c.ρ c.env xs k g [.Raise (J (.Call (.Name x np) d [] cpos)) ae pos] (.ref a) Φ λe=>e=u:=by
 intro bz aK aW bA aL aU S bg s;refine cps λ_ T=>?_;obtain⟨aO,n,o,q,f,v,r,sub,y,w,A,j,X,p,R,ah,aV,ai,aj,ao,l⟩:=O.obj
 refine T (gN (wpAny_Raise_call_subT (nm:=o) (q:=q) (N:=n) (bs:=f) (hdct:=v) (sn:=r) (sub:=sub) (ab:=y) (col:=w) (dd:=A) (k0:=j) (k1:=X) (k2:=p) (k3:=R) (k5:=ah)
  z (l.hasType z.hasBase) c.R.handled (jS d (kS P)) ao (pN c.G S.1 S.ready.base (F.kn m G nofun) O.bound (F.kg m G) ⟨C,(jm (kS P) h.1 S λL aB aC aD az t aH=>?_)⟩)))
 have i:=t.ready.base;exact(wo C (aH.length.symm▸jG.symm▸(bh B (bx C))) (i _ _ ai) (aj.keeps i) (l.keeps i) (λaE aJ H=>s L aB _ aE aJ aC C aD az t H))
end
section
theorem YO(p:bH c.B c.prog c.w u)(S:iM c bY)(F:Fm c.env n j b_)(i m:Y)(T:n[i]?=J s)(B:g[i]?=J (.obj (.bS q G)))(H:(z,b)∈u.fs)(Q:z∉(["_node2info", "_ready_nodes", "_npassedout", "_nfinished"]:U af))
  (aC:∀{h},bN c.B.bI h->h.get? b=J ao)(aJ:ao.data= .func aZ)(y:nV c.B c.prog c.w c.n (.ref b) (.bS q G) [] bg v)(l:∀e r,v e r->e= .bS q d/\r=J L)(w:(x.endLine==k.line)=aa)
  (A:n[m]?=J O)(t:m<j)(R:swapsWith (.Call (.Attribute (.Name s ah) z x) [] [] k) (J (.Name O ai)) aj.line c.env=pure aA):
  ES c n j g (.Assign [.Name O ai] (.Call (.Attribute (.Name s ah) z x) [] [] k) aj) ((g.set i (.obj (.bS q d))).set m (.t L)) .next:=by
 constructor;intro bq bD bK bM b7 f au az;refine kF (T4 p S F i T B H Q aC aJ (λh=>h) y w au (λaB P aD e r X aE aH a aK=>?_) λaB P e bz bA X=>?_) R
 .refine bR (l _ _ X) λaL aO=>?_;subst aL;cases aO;obtain⟨E,bQ,bW,a⟩:=a;exact gc (av:= .t L) E f a A t (F.loc A t) ⟨C,aD,C,aK⟩ .nil λaV aU aW o=>az aV P .next (aE.trans aW) aH ⟨E,aU,_,o⟩ trivial
 .exact nomatch(l _ _ X).2
theorem Wo(d:dQ i X L 0 G H e O)(R:dQ i X L 2 G H e n)(E:dQ i X L 2 {G with cJ:=J a,rl:=l} H k B)(r:G.cJ=ae)
  (v:∀b∈O,b∉n->∀x,e.get? b=J x->k.get? b=J x)(Q:∀b∈B,b∈n\/e.get? b=ae):
  ∃T,dQ i X L 0 {G with cJ:=J a,rl:=l} H k T/\∀b∈T,b∈B\/(b∈O/\b∉n):=by
 have m:=sC i X L 2 G;have u:oQ i X L 2 {G with cJ:=J a,rl:=l}=oQ i X L 2 G:=by
  show fK L.N _++f9 i X _=_;unfold fK f9 jc cM oQ;rfl
 have h:=sC i X L 2 {G with cJ:=J a,rl:=l};rw [u]at h;have f:=d.apart R;have j:=d.ob.nd;rw [d.ob.ad,m,ej]at j;refine(aM _ (⟨E.v,E.sm,E.nd,⟨λw s=>?_,C,?_⟩⟩) (λb t=>?_))
 .rw [h]at s;rcases fb.mp s with s|s
  .exact E.ob.dH w s
  .refine aG (d.ob.dH w (by rw [m];exact i0 _ s)) λo y p=>?_;have:=f w.1 (gE s);exact(aM o (v w.1 this.1 this.2 o y) p)
 .rw [h,ej,gm];refine(cR (by have:=E.ob.nd;rw [E.ob.ad]at this;exact this) ((gm.mp j).2.1) (λb t A P q=>?_));subst q;have:=f b P;rw [<-E.ob.ad]at t;rcases Q b t with q|q
  .exact this.2 q
  .have g:=d.ob.live b this.1;rw [q]at g;exact dg C g
 .rw [h,ej]at t;rcases fb.mp t with t|t
  .left;rw [E.ob.ad];exact t
  .exact .inr (f b t)
end
noncomputable def UA:U (af×dU):= [("self", .local),("cycle", .local),("ValueError", .globalImplicit),("CycleError", .globalImplicit)]
noncomputable def nK:U af:= ["self", "cycle"]
noncomputable def iT(A:U AN):U (U Y):=(A.filter λa=>decide (a.2.1=0)).map (·.1)
noncomputable def SK(A:U AN)(l:U Y):bu:=A.any λa=>decide (a.1=l)
noncomputable def t9(A:U AN):bu:=A.all λa=>a.2.2.all λs=>SK A s
theorem Pr(h:t9 G.al=aa):tT G:=λT v s P=>CD (kC.mp (kC.mp h (T.key,T.np,T.succ) (eZ.mpr (aM T v C))) s P)
noncomputable def zO:aS (U (U Y))->aS T
 |J _=>ae
 |ae=>J .none
noncomputable def sF:aS (U (U Y))->bu
 |J z=>!z.isEmpty&&decide (z.length<=1000)
 |ae=>aa
section
variable{y:Ly Ob}{f fH:ak}{al:U AN}
theorem gO.fr{w:bV Ob}(k:gO w a i m S fd n):gO (w.fr j h) a i m S fd n:=⟨k.d.fr,k.ar,k.sc,k.df,k.kd⟩
theorem gO.up{w:bV Ob}(k:gO w a i m S fd n)(g:bN w.bI P):gO (w.up P g) a i m S fd n:=⟨k.d.up g,k.ar,k.sc,k.df,k.kd⟩
theorem Fast.fr{w:bV Ob}(K:Fast w i X L G):Fast (w.fr j h) i X L G:=⟨K.sm,K.kn,K.st⟩
theorem OX{w:bV Ob}{i:ck}{X:b4}{L:Cl}{f:ay}(l:bH w i X L)
  (a:∀G:SG,G.abs= .bX Q al P h u->G.kn->nV w i X x f (.bS 0 G) g t q):nV w i X x f (.bX Q al P h u) g t q:=by
 intro F B e H y p s O j b K k n r o z v;rw [l.ob]at r;obtain⟨G,m,d⟩:∃G:SG,G.abs= .bX Q al P h u/\dQ i X L 0 G H s.heap O:=r;exact a G m (Cn d.nd) F B e H y p s O j b K k n (l.ob.symm▸d) o z v
set_option maxHeartbeats 1000000
theorem XU(l:bH y.B y.prog y.w L)(D:gO y.B f 16 3 k7 t nK)(Q:gO y.B fH 16 8 nM nP eW)(dJ:(("_find_cycle":af),fH)∈L.fs)(dO:OwnCls "CycleError" i cV eu y.mg y.B.bI)(eX:ExcBaseFacts k8 eu l6 cV)
  (fy:t9 al=aa)(bY:Y)(gJ:qK al bY=J x)(S:sF x=aa)(gv:al.length<=800):
  nV y.B y.prog y.w (aO+2) (.ref f) (.bX aU al ae aW bg) [] (.ref i) λb r=>b= .bX aU al (J (iT al)) aW bg/\r=zO x:=by
 refine OX l λG cv bq=>?_;obtain⟨cB,cK,g,c_,dX⟩:G.self=aU/\G.al=al/\G.cJ=ae/\G.po=aW/\G.fi=bg:=by
  injection cv with a bK eL u f
  exact(j_ a bK (by simpa using eL) u f)
 subst cK;refine OY y.G (o₁:= .bS 2 G) (nu:=λv r=>(∃a,v= .bS 2 {G with cJ:=J a,rl:=iT G.al})/\r=zO x) D.d (dP C) (λj k=> .plain λo eg=>?_)
  (λ{H k O}d=>?_) (λ{H k O o7 s e v r}X h1 E=>?_) (λ{H k O b_ aZ j dB cz}hk cO d h1 c9 dm A R ah eK aE=>?_) (λ{H k O b_ s k6 v r}X d E h1 gV aH=>?_)
 .exact bind1 (λa=>(pD D.ar D.df _).trans C) o eg
 .rw [l.ob]at d;have d:=d;obtain⟨e,k,n⟩:=d.rest;exact(aM e (l.ob.symm▸k) n)
 .obtain⟨⟨a,rfl⟩,_⟩:=X;rw [l.ob]at h1 E;have h1:=h1;have E:=E;refine⟨by rw [h1.v,E.v],λbK B=>?_⟩;rw [h1.ob.ad]at B;rw [E.ob.ad];simp only [lN,lO,lP,fq,g,iA,EH,cC,gM,or_false]at B⊢;exact B.elim .inl λcE=> .inr (.inl cE)
 .have F:Fm (callEnvC t A f) nK nK.length UA:=jQ (C) (by show t.scope.names=_;exact aQ _ D.sc)
  let bz:=(y.fr j cz).up aZ hk
  let c:=bz.c (R.deeper (callEnvC t A f)) ah (callEnvC t A f) (aO+1) aE.deeper
  have bA:=l.fr.up hk;have z:bH c.B c.prog c.w L:=bA;rw [l.ob]at d h1;have d:=d;have bD:qy (oQ y.prog y.w L 2 G) aZ:=λaV bM=>by
   have bQ:=d.apart (h1) aV.1 (gE bM);obtain⟨dS,aH,p⟩:=d.ob.dH aV (by rw [sC y.prog y.w L 2 G];exact i0 _ bM);exact(aM dS (c9 _ _ aH (dm _ bQ.1) bQ.2) p)
  have q:Fast c.B c.prog c.w L G:=(⟨d.sm,bq,bD⟩);have d6:iM c (j++dB):=G9 (c:=c) eK C (cO.up hk) C (by show t.scope.kind=_;exact aQ _ D.sc);have d8:∀a,nV c.B c.prog c.w c.n (.ref fH) (.bS 2 {G with cJ:=J a,rl:=iT G.al}) [] .none λb r=>b= .bS 2 {G with cJ:=J a,rl:=iT G.al}/\r=J (yn x):=λa=>
   OW λm kA s eE=>by
    have:=XK (y:=bz.fr m s) (n:=aO) (bA.fr) eE ((Q.fr.up hk).fr) (G:={G with cJ:=J a,rl:=iT G.al}) (Pr fy) bY gJ (⟨d.sm,bq,bD⟩);intro R ah ai H o aE n O aj ao au az fa ff fx;exact this R ah ai H o aE n O aj ao au az fa ff λP aC fU e b r X=>fx P aC fU e b r ⟨X.1,aQ J X.2⟩
  refine DJ (Ψ:=λaD f=>aD=kR (.bS 2 G) nK []/\f= .next) (ES.ev (c:=c) (dF (b:=aA) (zC (jF z (jB z (i:=0) (q:=2) C C) (iW z F 0 C C) (.Kl g) C) zn C C) ⟨ik⟩)|>.p ⟨C,C⟩) λbW m X=>?_;obtain⟨rfl,rfl⟩:=X;refine⟨C,?_⟩;have gC:(iT G.al).map T.str=(G.bJ.filter λh=>decide (h.np=0)).map λh=>T.str h.key:=by
   simp only [iT,SG.al,Ex,d_];rfl
  have gK:EF c nK nK.length (kR (.bS 2 G) nK []) (yb (dD 1 (cQ (e7 16 3)))) (kR (.bS 2 G) nK []) ((iT G.al).map .str):=by
   rw [gC];exact Ag (us:=G.bJ) (g:=λh=> .bO (.ref h.i)) "i" [] [] (λh=> .str h.key) (λh=>decide (h.np=0)) F (C) (C) (C)
    (YE (jF z (jB z (i:=0) (q:=2) C C) (iW z F 0 C C) .sq C) q.sm q.map C C) C
    (λi aB h aJ=>zC (sZ (c:=c.fc _ i) z (Fast.info (c:=c.fc _ i) q aJ) (zv aB 0 C C) .np C) (zi 0) C C)
    (λi aB h aJ w=>sZ (c:=c.fc _ i) z (Fast.info (c:=c.fc _ i) q aJ) (zv aB 0 C C) .node C) C (by exact bh (by simpa [SG.al]using gv) (bx C))
  refine DJ (SP.ev (c:=c) (Y0 z F 0 C gK C g C)) λbW m X=>?_;obtain⟨a,rfl,rfl⟩:=X;refine⟨C,(DJ (Ψ:=λaD f=>aD= [.obj (.bS 2 {G with cJ:=J a,rl:=iT G.al}), .t (yn x)]/\f= .next) (ES.ev (c:=c) (YO z d6 F 0 1 C C dJ (by exact nofun) (Q.fr.up hk).d.ho (Q.fr.up hk).d.hd (d8 a) (λb r X=>X) C C (by exact cY _) C)|>.p ⟨C,C⟩) λbW m X=>?_)⟩;obtain⟨rfl,rfl⟩:=X;refine⟨C,?_⟩;cases x with
  |none=>
   refine LM (b:=aA) (aP:= [.obj (.bS 2 {G with cJ:=J a,rl:=iT G.al}), .t .none]) (EC.ev (c:=c) (oX (zv F 1 C C) C λw=>C)) nofun (λw=>(lG _ _ C (.inr ⟨C,C⟩) ⟨a,C⟩ C)) λw w w=>trivial
  |some b7=>
   simp only [sF,qg,decide_eq_true_eq]at S;refine LM (b:=aa) (aP:= [.obj (.bS 2 {G with cJ:=J a,rl:=iT G.al}), .t (.list (b7.map .str))]) (EC.ev (c:=c) (oX (zv F 1 C C) (zY (by simp;exact bh S.2 (bx C)) (by simpa using S.1)) λw=>C)) (λw=>?_) nofun λw w w=>trivial;have:=Yd (c:=c) (k:=nK.length) (xs:=nK) (x:= "CycleError") (np:=⟨152,18,152,28⟩) (cpos:=⟨152,18,152,60⟩) (pos:=⟨152,12,152,60⟩) (Φ:=λaK j=>∃v r,aK[0]?=J (AV.obj v)/\tZ j r/\(∃a,v= .bS 2 {G with cJ:=J a,rl:=iT G.al})/\J r=ae) F 3 C (dO.keeps hk) eX
    (zr (YA (p:=⟨152,29,152,52⟩) (zs (kk:=0) (p:=⟨152,31,152,51⟩) _ (di ['n','o','d','e','s',' ','a','r','e',' ','i','n',' ','a',' ','c','y','c','l','e']))) (zr (zv (p:=⟨152,54,152,59⟩) (lv:= [.obj (.bS 2 {G with cJ:=J a,rl:=iT G.al}), .t (.list (b7.map .str))]) F 1 C C) cj C) C) C (by exact aX _ _)
   exactλiK ai n iX iz aj ao au az=>this iK ai n iX iz aj ao au λP aC aK s u o X=>az P aC aK s u o (by rw [X];exact(i12 _ C ⟨a,C⟩ C))
 .obtain⟨⟨a,rfl⟩,rfl⟩:=X;rw [l.ob]at d h1 E;obtain⟨e,jj,jW⟩:=Wo (d) (E) (h1) g gV aH;refine(gG _ e ⟨C,C⟩ ?_ jW);rw [l.ob,<-cB,<-c_,<-dX];exact((aM _ C jj):∃aL:SG,aL.abs= .bX G.self G.al (J (iT G.al)) G.po G.fi/\dQ y.prog y.w L 0 aL H s e)
end
section
variable{prog:ck}{w:b4}{A:cZ}{a:Y}
theorem IF(L:s.heap.MapOf (intKind prog w) d z)(m:z a=J (.str x H))(h:∀E,Q (.text x) {s with toks:=E}):
  wpAny (model prog w) A (Zs (.ref d) a) Q G s:=by
 exact aF (wpAny_attempt (aF (wpAny_mkInt (NC (intKind_is ..) L m (aF (iL (a:=ae) (C) (aF (iL (a:=J x) (C) (bP (h _))))))))))
theorem TB(u:A.handled=ae)(q:(d==sysModules)=aA)(e:s.heap.MapOf (intKind prog w) d z)(m:z a=ae)(h:∀L E,bN s.heap L->Q .keep {s with heap:=L,toks:=E}):
  wpAny (model prog w) A (Zs (.ref d) a) Q G s:=by
 exact aF (wpAny_attempt (aF (wpAny_mkInt (wpAny_getItem_missing_of (intKind_is ..) q u e m λL x t=>(iD t.there λS k R i b=>aF (wpAny_isInstance (T:= "KeyError") (b:=aa) (aM _ R i) (C) ((bB C).symm▸(aF (xO (bP (h _ _ t.keeps)))))))))))
theorem RV(b:L)(P:Y->L->Sem (ForInStep L)):(forIn #[a] b P)=P a b>>=λr=>match r with| .done b=>pure b| .yield b=>pure b:=C
theorem Xy(x:a<128)(h:s.heap.MapOf (intKind prog w) i z)(u:A.handled=ae)(q:(i==sysModules)=aA)(b:(z a=ae/\r= [a])\/(∃H,z a=J (.str (b3 r) H)/\r.length=2))
  (e:∀L n T,bN s.heap L->Q (.done (.ret (.str (b3 r) n))) {s with heap:=L,toks:=T}):wpAny (model prog w) A (Builtin.«str.translate» ⟨[.str ⟨#[a]⟩ j, .ref i], []⟩) Q G s:=by
 unfold Builtin.«str.translate»;refine aF (iL (C) ?_);dsimp only;refine wpAny_ite_false C ?_;rw [RV];generalize v:(#[a].all λl=>decide (l<128))=P;have v:P=aa:=v.symm.trans (by simp [x]);subst v;refine aF (aF (wpAny_ite_false C (wpAny_ite_true C ?_)));rcases b with⟨d,rfl⟩|⟨H,d,E⟩
 .refine aF (TB u q h d λL X k=>(aF (bP (bP (bP ?_)))));rw [show({cps:=AD (λo p=>o++p.cps) #[] [({cps:=#[a]}:af)].reverse}:af)=b3 [a]from C];exact aF (tP (bP (e L _ _ k)))
 .refine aF (IF h d λX=>?_);dsimp only;rw [(bF (by rw [str_len,E];exact Ek))];refine aF (bP (aF (xO (aF (IF (s:={s with toks:=X}) h d λX=>(bP (bP ?_)))))));dsimp only;rw [str_len,E,show({cps:=AD (λo p=>o++p.cps) #[] [b3 r].reverse}:af)=b3 r from by simp];exact aF (tP (bP (e s.heap _ _ (bN.refl _))))
end
section
set_option exponentiation.threshold 3000
section
noncomputable def IX:U (af×dU):= [("one", .local),("other", .local),("texts", .local),("pair", .local),("shares", .local),("lead", .local),("weight", .local),("k", .local),("range", .globalImplicit),("_law_ends", .globalImplicit),("sum", .globalImplicit)]
noncomputable def Ad:U af:= ["one", "other", "texts", "pair", "shares", "lead", "weight", "k"]
noncomputable def gI(i a b o:Y):Y:=if o=i then a else b
noncomputable def ldK(a b X k:Y):Y:=(a+b)^(k+1)*(a*b)^3/X
theorem De(r:a<=255)(t:b<=255):gI c0 a b o<=255:=by unfold gI;split<;>assumption
theorem u0(r:0<a)(t:0<b):0<gI c0 a b o:=by unfold gI;split<;>assumption
theorem Ct(F:Fm c.env Ad 8 IX){i h a b o w ld k:Y}{e:bu}(u:CN c "_law_ends" [.str (hU z), .str l] (.bool e))(g:k<=2)(Q:s[k]?=J o)(y:o=i\/o=h)
  (A:x[k]?=J (.str (hU z)))(r:0<a)(v:0<b)(L:a<=255)(P:b<=255)(p:0<w)(O:w<=65025):
  EX c Ad 8 [.t (.str l), .t (.str s), .t (.list x), .t (.str [i,h]), .t (.list [.int a, .int b]), .t (.int ld), .t (.int w), .t (.int k)] (fY (dD 1 (cQ (bj 26))))
   [.t (.str l), .t (.str s), .t (.list x), .t (.str [i,h]), .t (.list [.int a, .int b]), .t (.int (ld+(if e then ldK a b (w*gI i a b o) k else 0):Y)), .t (.int (w*gI i a b o:Y)), .t (.int k)] .next:=by
 have j:=De (c0:=i) (o:=o) L P;have ah:=AK O j;have q:=AK L P;have f:=Nf q 3;have t:(a+b)^(k+1)<=510^3:=bh (Nf (by exact cF 0 (.a (.v 0) (.v 1)) (.n 510) (.v 0) (.n 255) (.v 1) (.n 255) C [_,_] L P) (k+1)) (AO (by decide) (xG ‹_›));have S:∀{n H:Y},n<=H->H<2^100->n<2^2000:=λR E=>kD R (rm E (by decide));have m:EE c Ad 8 [.t (.str l), .t (.str s), .t (.list x), .t (.str [i,h]), .t (.list [.int a, .int b]), .t (.int ld), .t (.int w), .t (.int k)] (Fy (dD 0 (fY (dD 1 (cQ (bj 26))))))
   [.t (.str l), .t (.str s), .t (.list x), .t (.str [i,h]), .t (.list [.int a, .int b]), .t (.int ld), .t (.int w), .t (.int k)] (.int (gI i a b o)):=by
  unfold gI
  by_cases d:o=i
  .rw [bB d];exact cX (zv F 4 C C) (L3 (i:=0) (zv F 3 C C) (cX (zv F 1 C C) (zv F 7 C C) (kU (by omega) Q) C) C C C (by rw [d];rfl) nofun) C C
  .rw [bF d]
   exact cX (zv F 4 C C) (L3 (i:=1) (zv F 3 C C) (cX (zv F 1 C C) (zv F 7 C C) (kU (by omega) Q) C) C C C (by rw [(y.resolve_left d)];rfl) (λX G=>by
    rw [show X=0 by exact fV (bL 0 (.v 0) (.n 0) (.a (.v 0) (.n 1)) (.n 1) C [_] G) (f_ (.n 0) (.v 0) C [_])];intro B;exact d (bf B).symm)) C C
 refine zx (oY F 6 C (aX _ _) C m (Wv (S O (aX _ _)) (S j (aX _ _)))) (zx (dF (b:=e) (oX (kY F 9 C (zr (cX (zv F 2 C C) (zv F 7 C C) (gb (by omega) A) C) (zr (zv F 0 C C) cj C) C) u C) C λT=>C) ?_) eO);cases e with
 |false=>exact eO
 |true=>
  refine zx (oY F 5 C (aX _ _) C (dI (dI (dI (Ml (is:= [(a:aq),b]) F 10 C (zv F 4 C C) C C) (dI (zv F 7 C C) (zi 1) (uY C)) ?_)
   (dI (dI (cX (zv F 4 C C) (zi 0) C C) (cX (zv F 4 C C) (zi 1) C C) (KG (S L (aX _ _)) (S P (aX _ _)))) (zi 3) (KH (S q (aX _ _)) (aX _ _))) (KG (S t (aX _ _)) (S f (aX _ _)))) (zv F 6 C C) (KA (S (AK t f) (aX _ _)) (AM p (u0 (c0:=i) (o:=o) r v)))) (q4 C)) eO
  rw [show [(a:aq),b].sum=((a+b:Y):aq)by exact C];exact KH (S (show a+b<=510 by exact cF 0 (.a (.v 0) (.v 1)) (.n 510) (.v 0) (.n 255) (.v 1) (.n 255) C [_,_] L P) (aX _ _)) (bL 0 (.a (.v 0) (.n 1)) (.n 1000) (.v 0) (.n 2) C [_] g)
end
section
variable{y:Ly O}
noncomputable def zg(i a b:Y)(l:U Y)(x c j:Y):Y:=
 0+(if mL l [x]then ldK a b (1*gI i a b x) 0 else 0)+(if mL l [x,c]then ldK a b (1*gI i a b x*gI i a b c) 1 else 0)+(if mL l [x,c,j]then ldK a b (1*gI i a b x*gI i a b c*gI i a b j) 2 else 0)
theorem XR(f:y.D "_law_lead" 26)(o:y.D "_law_ends" 25){i h a b:Y}(d:x=i\/x=h)(R:c=i\/c=h)(E:j=i\/j=h)(r:0<a)(t:0<b)(L:a<=255)(P:b<=255)(v:l.length<=1000):
  y.F (n+2) "_law_lead" [.str l, .str [x,c,j], .list [.str (hU [x]), .str (hU [x,c]), .str (hU [x,c,j])], .str [i,h], .list [.int a, .int b]] (.int (zg i a b l x c j)):=by
 refine y.fn 26 Ad IX f C (C) (C) (dP C) (λm code g=>OM λw w w w w=>C) λq B T p F=>?_;have e:=De (c0:=i) (o:=x) L P;have Q:1*gI i a b x*gI i a b c<=255*255:=AK (bL 0 (.m 1 (.v 0)) (.n 255) (.v 0) (.n 255) C [_] e) (De L P);have X:=bL 0 (.a (.n 0) (.n 1)) (.m 1 (.v 0)) (.a (.n 0) (.n 1)) (.v 0) C [_] (u0 (c0:=i) (o:=x) r t);have G:∀s:U Y,s.length<=1000->CN (y.c q B T (n+1) p) "_law_ends" [.str (hU s), .str l] (.bool (mL l s)):=λs k=>XI o s l k v
 exact⟨_,zx (LP F 5 6 C (dP C) C (e5 _ _) (zr (zi 0) (zr (zi 1) cj C) C) C) (zx (iV (jU F 8 C (zr (zi 3) cj C) C C C)
  (fO (eJ F 7 C (cY _)) (Ct (w:=1) (k:=0) F (G [x] (c3 _)) (mh _) C d C r t L P (cY _) (c3 _))
   (fO (eJ F 7 C (cY _)) (Ct (k:=1) F (G [x,c] (aX _ _)) (c3 _) C R C r t L P X (bL 0 (.m 1 (.v 0)) (.n 65025) (.v 0) (.n 255) C [_] e))
    (fO (eJ F 7 C (cY _)) (Ct (k:=2) F (G [x,c,j] (aX _ _)) (ek _) C E C r t L P (AM X (u0 r t)) (by assumption)) jh))) C C) (gU (h8 (zv F 5 C C))))⟩
end
end
theorem aY.rep(d:aY B f y j):∀u,aY B f (fg u y).flatten (fg u j).flatten
 |0=> .nil
 |u+1=>by simp only [M6,Ez];exact d.append (d.rep u)
theorem RI(d:0<=u)(h:u<=1000000):¬(!Zq u)=aa:=by simp [Zq];omega
theorem RJ(h:w<=1000000):¬w>(2^63-1)/8:=by omega
theorem RK(h:w<=1000000):¬Au w=aa:=by simp only [Au,sizeLine];simp;exact bh h (bx C)
section
theorem Yz(R:EE c i k L oC u (.list s))(h2:EE c i k u cG B (.int x))(d:0<=x)(hx:x<=1000000)(P:s.length*x.toNat<=1000000):EF c i k L (.BinOp oC .Mult cG aj) B (fg x.toNat s).flatten:=by
 refine⟨λA p G ao au S O=>(E6 (R.1 A p G _ _ S λj w a o X t q=>h2.1 A w j _ _ t λh ai ah f l e g=>(gZ (mH (q.mono l)) λa y b v E z=>?_)))⟩;subst v;refine bZ (qH g) λH T=>?_;subst T;have Q:=e.ready.bC _ _ E;have r:y.toArray.size*x.toNat<=1000000:=by simpa [z.length]using P
 have n:h.TypeIs (.ref a) "list":=(aM _ Q C);refine wpAny_binaryOp_repeat_ref (C) n (λm=>typeIs_int m x H) noFill_list_mul F.fills_int_mul Zy repeat_list F.slot_int_index.lookup (xJ Zy (typeIs_int h x H) F.entry_int_rmul (F.args_int_rmul_2 _ _) (lm_int_rmul_list_any x H a y.toArray b ae #[]) ((jt Q C n (xJ F.slot_list_mul n F.entry_list_mul (F.args_list_mul_2 _ _) (lm_list_mul_any a y.toArray b ae #[] x H (RI d hx) (RJ r) (RK r)) (⟨Q,?_⟩)))));rw [listMul_foldl_if];exact SR.newList (o.trans f) (X.trans l) e (z.rep _) O
theorem Yy{n:Y}(R:EE c h k g H u (.list l))(E:EE c h k u cG B (.int n))(v:n<=1000000)(P:l.length*n<=1000000):EF c h k g (.BinOp H .Mult cG p) B (fg n l).flatten:=
 Yz R E (iY.mpr (f_ (.n 0) (.v 0) C [_])) (iY.mpr (v)) P
end
noncomputable abbrev tI(l:U aq):T:= .list (l.map .int)
noncomputable abbrev kX(l:U (U aq)):U T:=l.map tI
theorem uu{l:U aq}{i:Y}(h:l[i]?=J x):(l.map T.int)[i]?=J (.int x):=by simp [h]
theorem Hr{B:Type}{l:U B}(d:B)(h:i<l.length):l[i]?=J (l.getD i d):=by rw [h_,cP h];rfl
noncomputable def pG(c:Y)(i b:U aq):U aq:=o_ (λx O=>x*i.getD c 0-b.getD c 0*O) b i
noncomputable def oB(o:U (U aq))(c:Y):U (U aq):=(o.take c).map (pG c (o.getD c []))
section
noncomputable def pM:U (af×dU):= [("first", .local),("second", .local),("signs", .local),("shares", .local),("heads", .local),("head", .local),("rows", .local),("row", .local),("k", .local),("at", .local),("c", .cell),("low", .cell),("len", .globalImplicit),("sum", .globalImplicit),("range", .globalImplicit)]
noncomputable def iJ:U af:= ["first", "second", "signs", "shares", "heads", "head", "rows", "row", "k", "at", "c", "low"]
theorem Qy(X:Fm c.env ["row", "c", "low"] 1 [(".0", .local),("row", .cell),("zip", .globalImplicit),("c", .free),("low", .free)]){b i:U aq}{L n:Y}(H:b.length=n)(B:i.length=n)(y:L<n)(v:n<=100)
  (s:∀x∈b,x.natAbs<2^g)(m:∀x∈i,x.natAbs<2^g)(k:g<=2000):
  EE c ["row", "c", "low"] 1 [.t (tI b), .t (.int L), .t (tI i)] (Iv (yb (dD 1 (fY (dD 4 (cQ (bj 27))))))) [.t (tI b), .t (.int L), .t (tI i)] (tI (pG L i b)):=by
 have h:i[L]?=J (i.getD L 0):=by rw [h_,cP (by exact cF 0 (.a (.v 2) (.n 1)) (.v 0) (.v 1) (.v 0) (.a (.v 2) (.n 1)) (.v 1) C [_,_,_] ((dG B)) y)];rfl
 have l:b[L]?=J (b.getD L 0):=by rw [h_,cP (by exact cF 0 (.a (.v 2) (.n 1)) (.v 0) (.v 1) (.v 0) (.a (.v 2) (.n 1)) (.v 1) C [_,_,_] ((dG H)) y)];rfl
 have S:∀{x:aq},x.natAbs<2^g->eA x=aa:=λe=>decide_eq_true (qk e (bh (AO (by decide) k) (by decide)));have a:tI (pG L i b)= .list (o_ (λx O=>T.int (x*i.getD L 0-b.getD L 0*O)) b i):=aQ T.list M5;rw [a];refine zf (Yr "x" "y" ["c", "low", "row"] [1,2,0] _ X (C) (C) (C) (j:=2) C (zr (zv X 0 C C) (zr (zv X 2 C C) cj C) C) C C (λq R t j=>?_) (cF 0 (.v 0) (.n 1000000) (.v 0) (.v 1) (.v 1) (.n 100) C [_,_] ((c4 H)) v));obtain⟨x,O⟩:=t;obtain⟨o,A⟩:=Z9 j;exact dI (dI (zv R 0 C C) (cX (zv R 3 C C) (zv R 2 C C) (gb (by omega) (uu h)) C) (oR (S (s _ o)) (S (m _ (cA h)))))
  (dI (cX (zv R 4 C C) (zv R 2 C C) (gb (by omega) (uu l)) C) (zv R 1 C C) (oR (S (s _ (cA l))) (S (m _ A)))) C
theorem Qw(F:Fm c.env iJ 12 pM){L:Y}(f:o.length=L+1)(s:∀r∈o,r.length=n/\∀x∈r,x.natAbs<2^g)(y:L<n)(v:n<=100)(T:g<=2000):
  EX c iJ 12 [e,j,b,i,a,R, .own (kX o),E,G,m, .t (.int L),O] (fY (dD 4 (cQ (bj 27))))
   [e,j,b,i,a,R, .own (kX (oB o L)),E,G,m, .t (.int L), .t (tI (o.getD L []))] .next:=by
 have t:o[L]?=J (o.getD L []):=by rw [h_,cP ((dG f))];rfl
 have B:=s _ (cA t);refine zx (fu F 11 C (cY _) (sY F 6 C C (Ao F 10 C C) (gb (by omega) (by rw [gD,t];rfl)) C) C) ?_;have l:kX (oB o L)=(o.take L).map λr=>tI (pG L (o.getD L []) r):=by unfold oB;exact d_
 rw [l];refine dN (DO "row" ["c", "low"] [10,11] (λr=>tI (pG L (o.getD L []) r)) F (C) (C) (C) (lU (jV (lW F 6 C C) kZ (ji (zv F 10 C C)) (sN (by rw [cH];exact ki 0 (.v 0) (.n 1000000) (.v 0) (.a (.v 1) (.n 1)) (.a (.v 1) (.n 1)) (.v 2) (.v 2) (.n 100) C [_,_,_] ((c4 f)) y v) (by rw [oq];exact AF.symm)))) C (λk X r H=>?_) C (by rw [xA];exact ki 0 (.v 2) (.n 1000000) (.a (.v 0) (.n 1)) (.v 1) (.v 1) (.n 100) (.v 2) (.v 0) C [_,_,_] y v qX) C (i:=6) (aX _ _) (i':=6) C C (C)) C;have h:=s r (ri H);exact Qy X h.1 B.1 y v h.2 B.2 T
theorem Pu(x:U Y)(l:U T):gY .In (.str x) (.list l)=i9 (.str x) l:=C
theorem Pw(x:U Y)(l:U T):gY .NotIn (.str x) (.list l)=(i9 (.str x) l).map (!·):=C
theorem Bo(x:U Y)(P:U (U Y)):gY .In (.str x) (.list (P.map T.str))=J (decide (x∈P)):=by rw [Pu,uy]
theorem Px(x:U Y)(P:U (U Y)):gY .NotIn (.str x) (.list (P.map T.str))=J (!decide (x∈P)):=by rw [Pw,uy];rfl
noncomputable def K6(l:U cf)(u:Y):cf:=(dD u l).getD (.Pass default)
noncomputable def lA(P:U (U Y))(h:U Y):U (U Y):=P++(if h∈P then []else [h])
noncomputable def eG(z s:U Y):U (U Y):= [z.take 1,z.take 2,s.take 1,s.take 2].foldl lA [[]]
noncomputable abbrev tS(l:U (U Y)):U T:=l.map .str
theorem Sk(F:Fm c.env iJ 12 pM)(B:P.length<=100):
  EX c iJ 12 [x,j,b,i, .own (tS P), .t (.str h),k,E,G,m,v,O] (fY (dD 1 (cQ (bj 27)))) [x,j,b,i, .own (tS (lA P h)), .t (.str h),k,E,G,m,v,O] .next:=by
 have e:tS (lA P h)=tS P++(tS (if h∈P then []else [h])):=ej;have t:EE c iJ 12 [x,j,b,i, .own (tS P), .t (.str h),k,E,G,m,v,O] (Fy (dD 0 (fY (dD 1 (cQ (bj 27)))))) [x,j,b,i, .own (tS P), .t (.str h),k,E,G,m,v,O] (.list (tS (if h∈P then []else [h]))):=by
  refine YB (LR F 4 (zv F 5 C C) C C (Bo h P)) (λq=>?_) λq=>?_
  .rw [bB (of_decide_eq_true q)];exact jT cj C
  .exact(bF (of_decide_eq_false q)).symm▸(jT (zr (zv F 5 C C) cj C) C)
 rw [e];exact dN (sX F 4 C (aX _ _) C t C (dM (by rw [cH];exact bh B (bx C))) (dM (by rw [cH];split<;>simp))) C
theorem Sl(F:Fm c.env iJ 12 pM):∀(l:U (U Y))(P:U (U Y))(R:AV t),P.length+l.length<=100->
  ∃n,j6 c iJ 12 (qM (dD 1 (cQ (bj 27)))) (fY (dD 1 (cQ (bj 27)))) (tS l) [x,j,b,i, .own (tS P),R,k,E,G,m,gg,fk] [x,j,b,i, .own (tS (l.foldl lA P)),n,k,E,G,m,gg,fk] .next:=λf=>f.rec
 (λP R w=>⟨R,jh⟩)
 (λh l X P R B=>by
  rw [gw]at B;obtain⟨n,r⟩:=X (lA P h) (.t (.str h)) (by unfold lA;rw [ic];split<;>simp<;>(first|exact bL 0 (.a (.v 0) (.v 1)) (.n 100) (.a (.v 0) (.a (.v 1) (.n 1))) (.n 100) C [_,_] B|exact bL 0 (.a (.a (.v 0) (.n 1)) (.v 1)) (.n 100) (.a (.v 0) (.a (.v 1) (.n 1))) (.n 100) C [_,_] B|omega))
  exact⟨n,fO (eJ F 5 C (aX _ _)) (Sk F (bL 0 (.v 0) (.n 100) (.a (.v 0) (.a (.v 1) (.n 1))) (.n 100) C [_,_] B)) r⟩)
noncomputable def g8(P:U (U Y))(z s:U Y):Y->U Y->U Y
 |0,a=>a
 |u+1,a=>if a∈P\/a=z\/a=s then a else g8 P z s u (a.drop 1)
noncomputable abbrev B3:U cf:=fY (dD 3 (cQ (bj 27)))
noncomputable abbrev K3:U cf:=fY (dD 2 B3)
theorem Ux{B:Type} [DecidableEq B] [BEq B] [LawfulBEq B](p:Prop) [Decidable p](a z s:B):(!decide p&&(!(a==z)&&(!(a==s)&&aa)))=!decide (p\/a=z\/a=s):=by
 rw [Zn,Zn,Bool.not_or,Bool.not_or,Bool.and_true,Zm,Zm]
theorem OD(F:Fm c.env iJ 12 pM)(d: []∈P):∀(n:Y)(a:U Y),a.length<=n->n<=1000->
  EW c iJ 12 (kr (dD 1 K3)) (jD (dD 1 K3)) [] n [.t (.str z), .t (.str s),b,i, .t (.list (tS P)),R,k,E,G, .t (.str a),v,O] [.t (.str z), .t (.str s),b,i, .t (.list (tS P)),R,k,E,G, .t (.str (g8 P z s n a)),v,O] .next:=by
 have h:∀a:U Y,EC c iJ 12 [.t (.str z), .t (.str s),b,i, .t (.list (tS P)),R,k,E,G, .t (.str a),v,O] (kr (dD 1 K3)) [.t (.str z), .t (.str s),b,i, .t (.list (tS P)),R,k,E,G, .t (.str a),v,O] (!decide (a∈P\/a=z\/a=s)):=λa=>
  jE (jg (zC (zv F 9 C C) (zv F 4 C C) (Px a P) C) λw=>jg (zC (zv F 9 C C) (zv F 0 C C) (zX C) C) λw=>jg (zC (zv F 9 C C) (zv F 1 C C) (zX C) C) λw=>sV)
   (Ux _ _ _ _)
 intro n
 induction n with
 |zero=>
  intro a B _;have:=AB (fV (B) (f_ (.n 0) (.v 0) C [_]));subst this;exact lZ (jE (h []) (by simp [d])) eO
 |succ n X=>
  intro a B x
  by_cases e:a∈P\/a=z\/a=s
  .rw [show g8 P z s (n+1) a=a by exact bB ‹_›];exact lZ (jE (h a) (by simp [e])) eO
  .rw [show g8 P z s (n+1) a=g8 P z s n (a.drop 1)by exact bF ‹_›];exact lX (jE (h a) (by simp [e])) (dN (fu F 9 C (aX _ _) (jV (zv F 9 C C) (ji (zi 1)) kZ (pV (cF 0 (.v 0) (.n 1000000) (.v 0) (.a (.v 1) (.n 1)) (.a (.v 1) (.n 1)) (.n 1000) C [_,_] B x) (Gh a 1))) C) C) (X (a.drop 1) (by rw [xx];omega) (i3 ‹_›))
theorem VV(d: []∈P):∀(n:Y)(a:U Y),a.length<=n->g8 P f s n a∈P\/g8 P f s n a=f\/g8 P f s n a=s:=λi=>i.rec
 (λa h=>by
  have:=AB (fV (h) (f_ (.n 0) (.v 0) C [_]))
  exact this▸(.inl d))
 (λn X a h=>by
  by_cases q:a∈P\/a=f\/a=s
  .have e:g8 P f s (n+1) a=a:=bB q;exact e.symm▸q
  .have e:g8 P f s (n+1) a=g8 P f s n (a.drop 1):=bF q
   exact e.symm▸X _ (xx▸Nat.sub_le_of_le_add h))
noncomputable def pW(r:U aq)(m:Y)(d:aq):U aq:=r.set m (r.getD m 0+d)
noncomputable def oV(P:U (U Y))(z:U Y)(r:U aq)(a:U Y)(X:aq):U aq:=
 if a∈P then pW r (P.idxOf a) (-X)else if a=z then pW r (r.length-1) X else r
theorem wY(r:U aq)(m:Y)(d:aq):(pW r m d).length=r.length:=List.length_set
theorem Dy(P z r a X):(oV P z r a X).length=r.length:=by
 unfold oV;split
 .exact wY _ _ _
 .split
  .exact wY _ _ _
  .rfl
theorem KM:∀{u:Y},0<u->seqIndex? (-1) u=J (u-1)
 |H+1,_=>by
  show(if(decide (0<=(-1)+((H+1:Y):aq))&&decide ((-1)+((H+1:Y))<((H+1:Y):aq)))=aa then J ((-1)+((H+1:Y):aq)).toNat else ae)=_;rw [((Av _ _).trans (ZE (H) 1))];exact bB (ew.mpr ⟨decide_eq_true (vq H),decide_eq_true (kB.mpr (cY H))⟩)
theorem zW(h:l[l.length-1]?=J t):lI (.list l) (.int (-1))=J t:=by
 show(if iP (-1)then(seqIndex? (-1) l.length).bind (l[·]?)else ae)=_;rw [bB (by exact C),KM (by exact bL 0 (.a (.n 0) (.n 1)) (.v 0) (.a (.v 1) (.n 1)) (.v 0) C [_,_] ((cw.mp h).1))];assumption
theorem FQ{op:Operator}{e:b9}(h:uO e=aa)(s Q y:ay):augStore e s Q y=(do holding [y,s,Q] (setItem s Q y);release [y,s,Q] [];pure .next):=by
 cases e<;>first|rfl|exact dg C h
theorem DM(F:Fm c.env n k l)(i:Y){r:U aq}(j:n[i]?=J x)(b:g[i]?=J (.own (r.map .int)))(R:EE c n k g H u (.int o))(v:u[i]?=J (.own (r.map .int)))
  (E:EE c n k u e B s)(f:B[i]?=J (.own (r.map .int)))(A:∀x,lC P (.int x) s=J (.int (x+d)))(G:m<r.length)(q:r.length<=1000)(z:o=m\/(o=-1/\m=r.length-1))(h:uO H=aa):
  ES c n k g (.AugAssign (.Subscript (.Name x t) H w) P e p) (B.set i (.own ((pW r m d).map .int))) .next:=by
 have y:(r.map T.int)[m]?=J (.int (r.getD m 0)):=uu (by rw [h_,cP G];rfl);have e:(pW r m d).map T.int=(r.map T.int).set m (.int (r.getD m 0+d)):=Z1;rw [e];rcases z with rfl|⟨rfl,a⟩
 .exact DN F i j b R v (gb (by omega) y) E f (A _) (B7 (by omega)) (by rw [cH];exact C_ G) (FQ (op:=P) h)
 .exact DN F i j b R v (zW (by rw [cH,<-a];exact y)) E f (A _) C (by rw [cH,a];exact KM (bL 0 (.a (.n 0) (.n 1)) (.v 1) (.a (.v 0) (.n 1)) (.v 1) C [_,_] G)) (FQ (op:=P) h)
theorem LB(F:Fm c.env iJ 12 pM)(d: []∈P){kk:Y}(u:h.length<=3)(g: [i,n][kk]?=J cc)(p: [a,b][kk]?=J w)(H:r.length=P.length+1)(B:P.length<=100):
  EX c iJ 12 [.t (.str z), .t (.str s), .t (.str [i,n]), .t (tI [a,b]), .t (.list (tS P)), .t (.str h),k, .own (r.map .int), .t (.int kk),m,v,O] K3
   [.t (.str z), .t (.str s), .t (.str [i,n]), .t (tI [a,b]), .t (.list (tS P)), .t (.str h),k, .own ((oV P z r (g8 P z s 4 (h++ [cc])) w).map .int), .t (.int kk), .t (.str (g8 P z s 4 (h++ [cc]))),v,O] .next:=by
 have S:kk<2:=(cw.mp g).1;have L:=VV (f:=z) (s:=s) d 4 (h++ [cc]) (by simp;exact u);refine zx (fu F 9 C (aX _ _) (dI (zv F 5 C C) (cX (zv F 2 C C) (zv F 8 C C) (kU (by omega) g) C) (Ky (by simp;exact bh u (bx C)))) C) (zx (l5 (OD F d 4 (h++ [cc]) (by simp;exact u) (aX _ _))) ?_);generalize g8 P z s 4 (h++ [cc])=e at L;have x:=uu p;refine zx (dF (zC (zv F 9 C C) (zv F 4 C C) (Bo e P) C) ?_) eO;unfold oV
 by_cases R:e∈P
 .rw [decide_eq_true R,bB R];exact dN (DM F 7 C C (L2 (zv F 4 C C) (zv F 9 C C) C C C C (uy e P) (HL e P R) (by rw [cH];exact bh B (bx C))) C (cX (zv F 3 C C) (zv F 8 C C) (gb (by omega) x) C) C (λl=>C) (by exact cF 0 (.a (.v 2) (.n 1)) (.v 0) (.a (.v 1) (.n 1)) (.v 0) (.a (.v 2) (.n 1)) (.v 1) C [_,_,_] ((dG H)) (M1.mpr R)) (cF 0 (.v 0) (.n 1000) (.v 0) (.a (.v 1) (.n 1)) (.v 1) (.n 100) C [_,_] ((c4 H)) B) (.inl C) C) C
 .rw [decide_eq_false R,bF R];refine dN (dF (b:=decide (e=z)) (zC (zv F 9 C C) (zv F 0 C C) (zV (by rw [tq];simp)) C) ?_) C
  by_cases E:e=z
  .rw [decide_eq_true E,bB E];exact dN (DM F 7 C C (An (zi 1)) C (cX (zv F 3 C C) (zv F 8 C C) (gb (by omega) x) C) C (λl=>C) (by exact(lM (bL 0 (.n 1) (.v 0) (.a (.v 1) (.n 1)) (.v 0) C [_,_] ((dG H))))) (cF 0 (.v 0) (.n 1000) (.v 0) (.a (.v 1) (.n 1)) (.v 1) (.n 100) C [_,_] ((c4 H)) B) (.inr ⟨C,C⟩) C) C
  .exact(decide_eq_false E).symm▸(bF E).symm▸eO
noncomputable def jz(P:U (U Y))(z s:U Y)(i n:Y)(a b:aq)(h:U Y):U aq:=
 oV P z (oV P z (pW (fg (P.length+1) 0) (P.idxOf h) (a+b)) (g8 P z s 4 (h++ [i])) a) (g8 P z s 4 (h++ [n])) b
theorem Kr(P z s i n a b h):(jz P z s i n a b h).length=P.length+1:=by
 unfold jz;rw [Dy,Dy,wY,o9]
theorem VW{B:Type}(x:B):∀u,(fg u [x]).flatten=fg u x:=λf=>f.rec
 (C)
 (λu X=>by rw [M6,Ez,X];rfl)
theorem V2(F:Fm c.env iJ 12 pM)(d: []∈P)(u:h.length<=3)(L:h∈P)(B:P.length<=100)(H:o.length<=100):
  EX c iJ 12 [.t (.str z), .t (.str s), .t (.str [i,n]), .t (tI [a,b]), .t (.list (tS P)), .t (.str h), .own (kX o),E,G,m,v,O] B3
   [.t (.str z), .t (.str s), .t (.str [i,n]), .t (tI [a,b]), .t (.list (tS P)), .t (.str h), .own (kX (o++ [jz P z s i n a b h])), .t (tI (jz P z s i n a b h)), .t (.int 1), .t (.str (g8 P z s 4 (h++ [n]))),v,O] .next:=by
 have l:=M1.mpr L;have x:(fg (P.length+1) [T.int 0]).flatten=(fg (P.length+1) (0:aq)).map T.int:=by rw [VW,Z0]
 have e:ES c iJ 12 [.t (.str z), .t (.str s), .t (.str [i,n]), .t (tI [a,b]), .t (.list (tS P)), .t (.str h), .own (kX o),E,G,m,v,O] (K6 B3 0)
   ([.t (.str z), .t (.str s), .t (.str [i,n]), .t (tI [a,b]), .t (.list (tS P)), .t (.str h), .own (kX o), .own ((fg (P.length+1) (0:aq)).map T.int),G,m,v,O]) .next:=by
  rw [<-x];exact q_ F 7 C (aX _ _) (Yy (jT (zr (zi 0) cj C) C) (dI (DW F 12 C (zv F 4 C C) (dM (by rw [cH];exact bh B (bx C))) C) (zi 1) (uY (by rw [cH];exact C))) (by exact bL 0 (.a (.v 0) (.n 1)) (.n 1000000) (.v 0) (.n 100) C [_] B) (by simp;exact bh B (bx C))) C
 refine zx e (zx (DM F 7 C C (L2 (zv F 4 C C) (zv F 5 C C) C C C C (uy h P) (HL h P L) (by rw [cH];exact bh B (bx C))) C (Ml (is:= [a,b]) F 13 C (zv F 3 C C) C C) C (λk=>by rw [show [a,b].sum=a+b by simp];rfl) (by rw [o9];exact ql ‹_›) (by rw [o9];exact bL 0 (.a (.v 0) (.n 1)) (.n 1000) (.v 0) (.n 100) C [_] B) (.inl C) C) (zx (iV (jU F 14 C (zr (zi 2) cj C) C C C)
  (fO (eJ F 8 C (aX _ _)) (LB (kk:=0) (cc:=i) (w:=a) F d u C C (by rw [wY,o9]) B)
   (fO (eJ F 8 C (aX _ _)) (LB (kk:=1) (cc:=n) (w:=b) F d u C C (by rw [Dy,wY,o9]) B) jh)) C C) ?_))
 rw [show kX (o++ [jz P z s i n a b h])=kX o++ [tI (jz P z s i n a b h)]from ej];exact dN (xd F 6 C C (lW F 7 C C) C C C (dM (by rw [cH];exact bh H (bx C)))) C
theorem V3(F:Fm c.env iJ 12 pM)(d: []∈P)(B:P.length<=50):∀(l:U (U Y))(o:U (U aq))(R E G m:AV u),(∀h∈l,h∈P/\h.length<=3)->o.length+l.length<=100->
  ∃n i e k,j6 c iJ 12 (qM (dD 3 (cQ (bj 27)))) B3 (tS l) [.t (.str z), .t (.str s), .t (.str [c0,c1]), .t (tI [a,b]), .t (.list (tS P)),R, .own (kX o),E,G,m,gg,fk]
   [.t (.str z), .t (.str s), .t (.str [c0,c1]), .t (tI [a,b]), .t (.list (tS P)),n, .own (kX (o++l.map (jz P z s c0 c1 a b))),i,e,k,gg,fk] .next:=λf=>f.rec
 (λo R E G m w w=>(BZ R E G m (by rw [EH,rg];exact jh)))
 (λh l X o R E G m L v=>by
  rw [gw]at v;refine vX (X (o++ [jz P z s c0 c1 a b h]) (.t (.str h)) (.t (tI (jz P z s c0 c1 a b h))) (.t (.int 1)) (.t (.str (g8 P z s 4 (h++ [c1])))) (λj t=>L j (dY _ t)) (by simp;exact bL 0 (.a (.a (.v 0) (.n 1)) (.v 1)) (.n 100) (.a (.v 0) (.a (.v 1) (.n 1))) (.n 100) C [_,_] v)) λx g q S r=>(BZ x g q S ?_);rw [vt]at r
  exact fO (eJ F 5 C (aX _ _)) (V2 F d (L h ee).2 (L h ee).1 (bh B (bx C)) (bL 0 (.v 0) (.n 100) (.a (.v 0) (.a (.v 1) (.n 1))) (.n 100) C [_,_] v)) r)
noncomputable def t4(u g:Y)(o:U (U aq)):Prop:=∀r∈o,r.length=u/\∀x∈r,x.natAbs<2^g
theorem GJ{L:Y}(y:L<o.length)(a:t4 u g o):t4 u (2*g+1) (oB o L)/\(oB o L).length=L:=by
 have t:o.getD L []∈o:=by rw [h_,cP y];exact M0 y
 have B:=a _ t;have i:∀l:U aq,(∀x∈l,x.natAbs<2^g)->(l.getD L 0).natAbs<2^g:=λl B=>by
  rw [h_];cases e:l[L]? with
  |none=>exact Nat.two_pow_pos g
  |some x=>exact B x (cA e)
 refine⟨λr f=>(aG (eZ.mp f) λq k h=>?_),by unfold oB;rw [cH,xA];exact xE (i3 y)⟩;subst h;have k:=a q (ri k);refine⟨by unfold pG;rw [AE,k.1,B.1,AI],λx j=>?_⟩;unfold pG at j;rw [show o_ (λx O=>x*(o.getD L []).getD L 0-q.getD L 0*O) q (o.getD L [])=(q.zip (o.getD L [])).map λE=>E.1*(o.getD L []).getD L 0-q.getD L 0*E.2 by rw [List.zip,M5]]at j;refine aG (eZ.mp j) λs n h=>?_;obtain⟨H,v⟩:=s;subst h;refine bR (Z9 n) λm d=>?_;have X:(H*(o.getD L []).getD L 0).natAbs<2^g*2^g:=by rw [Et];exact aal (k.2 H m) (i _ B.2)
 have b:(q.getD L 0*v).natAbs<2^g*2^g:=by rw [Et];exact aal (i _ k.2) (B.2 v d)
 have:=Int.natAbs_sub_le (H*(o.getD L []).getD L 0) (q.getD L 0*v);have e:2^(2*g+1)=2^g*2^g+2^g*2^g:=by rw [Ng,Nat.two_mul,Nat.pow_add];exact fV (f_ (.r (.v 0) 2) (.a (.v 0) (.v 0)) C [_]) (f_ (.a (.v 0) (.v 0)) (.r (.v 0) 2) C [_])
 rw [e];show(H*(o.getD L []).getD L 0-q.getD L 0*v).natAbs<_;exact kD this (Nat.add_lt_add X b)
noncomputable def qJ:Y->U (U aq)->U (U aq)
 |0,o=>o
 |H+1,o=>qJ H (oB o (H+1))
noncomputable def yr:Y->U Y
 |0=> []
 |H+1=>(H+1)::yr H
theorem Qx(F:Fm c.env iJ 12 pM){n:Y}(h:n<=100):∀(m g:Y)(o:U (U aq))(v O:AV t),o.length=m+1->m<n->t4 n g o->(g+1)*2^m<=2000->
  ∃a e,j6 c iJ 12 (qM (dD 4 (cQ (bj 27)))) (fY (dD 4 (cQ (bj 27)))) ((yr m).map λ(i:Y)=> .int i) [a0,a1,a2,a3,a4,a5, .own (kX o),a7,a8,a9,v,O]
   [a0,a1,a2,a3,a4,a5, .own (kX (qJ m o)),a7,a8,a9,a,e] .next:=λf=>f.rec
 (λg o v O w w w w=>(cu v O jh))
 (λm X g o v O B L Q T=>by
  have R:=GJ ((dG B)) Q
  exact jP (X (2*g+1) (oB o (m+1)) (.t (.int (m+1:Y))) (.t (tI (o.getD (m+1) []))) R.2 (M9 ‹_›) R.1 (by rw [Ng]at T;rw [show 2*g+1+1=(g+1)*2 by exact fV (f_ (.a (.a (.m 2 (.v 0)) (.n 1)) (.n 1)) (.r (.a (.v 0) (.n 1)) 2) C [_]) (f_ (.r (.a (.v 0) (.n 1)) 2) (.a (.a (.m 2 (.v 0)) (.n 1)) (.n 1)) C [_]),AJ,Nc 2];exact T)) λb x r=>(cu b x (fO (eJ F 10 C (aX _ _)) (Qw F B Q L h (cF 0 (.v 0) (.n 2000) (.v 1) (.n 2000) (.r (.a (.v 0) (.n 1)) 1) (.v 1) C [_,_] T (AL _ (Nat.one_le_two_pow)))) r)))
theorem GI:∀(H:Y){u g:Y}{o:U (U aq)},o.length=H+1->t4 u g o->∃x,t4 u x (qJ H o)/\(qJ H o).length=1
 |0,u,g,o,B,h=>(aM g h B)
 |H+1,u,g,o,B,h=>by
  have R:=GJ ((dG B)) h;exact GI H R.2 R.1
theorem VZ(H:Y):sM ((H),0,-1)=(yr H).map λ(i:Y)=>T.int i:=by
 have P:(m_ (H:aq) 0 (-1)).toNat=H:=by unfold m_;simp;omega
 show(rj (m_ (H) 0 (-1)).toNat).map _=_;rw [P];have:∀(H:Y),(rj H).map (λ(i:Y)=>T.int ((H)+(i)*-1))=(yr H).map λ(i:Y)=>T.int i:=λH=>by
  induction H with
  |zero=>rfl
  |succ H X=>
   rw [Z_,iA,d_];show _::_=T.int ((H+1:Y))::_;rw [<-X];refine aQ _ (iZ λi w=>aQ T.int ?_);show((H)+1)+((i:aq)+1)*-1=_;rw [Er,Av ((i)*-1),<-Int.add_assoc];exact aQ (·+_) (ZE (H) 1)
 exact this H
theorem C'(h:∀x∈r,x.natAbs<=w):∀x∈pW r m d,x.natAbs<=w+d.natAbs:=by
 intro x j;rcases Z5 j with q|q
 .exact bh (h x q) (e5 _ _)
 .have:(r.getD m 0).natAbs<=w:=by
   rw [h_];cases e:r[m]? with
   |none=>exact mh _
   |some x=>exact h x (cA e)
  exact q▸bh (MJ _ _) (M7 this _)
theorem LA(h:∀x∈r,x.natAbs<=w):∀x∈oV P z r a X,x.natAbs<=w+X.natAbs:=by
 unfold oV;split
 .exactλx j=>ZL X▸C' h x j
 .split
  .exact C' h
  .exactλx j=>bh (h x j) (e5 _ _)
theorem V1{a b:aq}(r:a.natAbs<=255)(t:b.natAbs<=255):∀x∈jz P z s i n a b h,x.natAbs<2^10:=by
 intro x j;refine kD (LA (LA (C' (λx j=>(List.eq_of_mem_replicate j).symm▸ek _))) x j) (kD (nh (nh (vy (bh (MJ a b) (nh r t)) 0) r) t) (bx C))
theorem Hz(z s:U Y)(n:z.length=3)(P:s.length=3): []∈eG z s/\(∀h∈eG z s,h.length<=3)/\(eG z s).length<=5/\0<(eG z s).length:=by
 have step:∀(l:U (U Y))(P:U (U Y)),([]∈P/\(∀h∈P,h.length<=3))->(∀h∈l,h.length<=3)-> []∈l.foldl lA P/\(∀h∈l.foldl lA P,h.length<=3)/\(l.foldl lA P).length<=P.length+l.length:=by
  intro l
  induction l with
  |nil=>intro P h _;exact(cR h.1 h.2 (ek _))
  |cons a l X=>
   intro P h B
   have:=X (lA P a) ⟨by unfold lA;exact gx _ h.1,λx j=>by
    unfold lA at j;rcases fb.mp j with q|q
    .exact h.2 x q
    .split at q
     .exact nomatch q
     .exact(cI.mp q).symm▸(B a ee)⟩ (λx j=>B x (dY _ j))
   refine(cR this.1 this.2.1 (bh this.2.2 ?_));unfold lA;rw [ic,gw];split<;>simp<;>exact f_ (.a (.a (.v 0) (.n 1)) (.v 1)) (.a (.v 0) (.a (.v 1) (.n 1))) C [_,_]
 have:=step [z.take 1,z.take 2,s.take 1,s.take 2] [[]] ⟨by simp,by simp⟩ (by simp;exact⟨bh qX (bx C),⟨bh qX (bx C),⟨bh qX (bx C),bh qX (bx C)⟩⟩⟩);exact(jt this.1 this.2.1 this.2.2 (ZX this.1))
noncomputable def qE(z s:U Y)(i n:Y)(a b:aq):U aq:=(qJ ((eG z s).length-1) ((eG z s).map (jz (eG z s) z s i n a b))).getD 0 []
noncomputable def gP(z s:U Y)(i n:Y)(a b:aq):aq×aq:=((qE z s i n a b).getD ((qE z s i n a b).length-1) 0,(qE z s i n a b).getD 0 0)
end
section
variable{y:Ly O}
theorem XE(ah:y.D "_law_chance" 27)(e:z.length=3)(P:s.length=3)(r:a.natAbs<=255)(t:b.natAbs<=255):
  y.F (n+1) "_law_chance" [.str z, .str s, .str [i,h],tI [a,b]] (.tup [.int (gP z s i h a b).1, .int (gP z s i h a b).2]):=by
 refine y.fn 27 iJ pM ah C (C) (C) (dP C) (λao code ai=>OL λw w w w=>C) λx B T l F=>cps λw H=>?_;obtain⟨d,G,p,q⟩:=Hz z s e P;obtain⟨R,g⟩:=Sl (c:=y.c x B T n l) F (gg:= .un) (fk:= .un) [z.take 1,z.take 2,s.take 1,s.take 2] [[]] .un (dP C);refine H ?_;obtain⟨v,m,c,S,o⟩:=V3 (c:=y.c x B T n l) F d (c0:=i) (c1:=h) (a:=a) (b:=b) (gg:= .un) (fk:= .un) (bh p (bx C)) (eG z s) [] R .un .un .un (λk L=>⟨L,G k L⟩) (by simp;exact bh p (bx C));have L:((eG z s).map (jz (eG z s) z s i h a b)).length=(eG z s).length-1+1:=by rw [cH];exact fV (nE) ((lM (bL 0 (.n 1) (.v 0) (.a (.n 0) (.n 1)) (.v 0) C [_] q)))
 have Q:t4 ((eG z s).length+1) 10 ((eG z s).map (jz (eG z s) z s i h a b)):=λaB E=>by
  obtain⟨k,_,rfl⟩:=eZ.mp E;exact⟨Kr ..,V1 r t⟩
 obtain⟨au,az,O⟩:=Qx (c:=y.c x B T n l) F (n:=(eG z s).length+1) (bL 0 (.a (.v 0) (.n 1)) (.n 100) (.v 0) (.n 5) C [_] p) (a0:= .t (.str z)) (a1:= .t (.str s)) (a2:= .t (.str [i,h])) (a3:= .t (tI [a,b])) (a4:= .t (.list (tS (eG z s)))) (a5:=v) (a7:=m) (a8:=c) (a9:=S) ((eG z s).length-1) 10 _ .un .un L (e5 _ _) Q
  (bh (AL _ (AO (by decide) (show(eG z s).length-1<=4 by exact tH ‹_›))) (by exact aX _ _))
 obtain⟨aj,X,A⟩:=GI ((eG z s).length-1) L Q;have j:(qJ ((eG z s).length-1) ((eG z s).map (jz (eG z s) z s i h a b)))[0]?=J (qE z s i h a b):=by
  unfold qE;rw [h_,cP (by exact bL 0 (.a (.n 0) (.n 1)) (.v 0) (.n 1) (.v 0) C [_] ((dG A)))];rfl
 have f:=(X _ (cA j)).1;have u:(kX (qJ ((eG z s).length-1) ((eG z s).map (jz (eG z s) z s i h a b))))[0]?=J (tI (qE z s i h a b)):=by rw [gD,j];rfl
 rw [<-VZ]at O
 refine⟨_,zx (q_ F 4 C (by exact dP C) (o4 (zr (zs [] (di [])) cj C) C) C) (zx (iV (lU (jT (zr (jV (zv F 0 C C) kZ (ji (zi 1)) (pV (by exact bh ((c4 e)) (bx C)) (oq z 1))) (zr (jV (zv F 0 C C) kZ (ji (zi 2)) (pV (by exact bh ((c4 e)) (bx C)) (oq z 2))) (zr (jV (zv F 1 C C) kZ (ji (zi 1)) (pV (by exact bh ((c4 P)) (bx C)) (oq s 1))) (zr (jV (zv F 1 C C) kZ (ji (zi 2)) (pV (by exact bh ((c4 P)) (bx C)) (oq s 2))) cj C) C) C) C) C)) g C C)
  (zx (q_ F 6 C (by exact dP C) (o4 cj C) C) (zx (iV (lU (lW F 4 C C)) o C C) (zx (iV (jU F 14 C (zr (dI (DW F 12 C (zv F 4 C C) (dM (by rw [cH];exact bh p (bx C))) C) (zi 1) (Wy (d:=((eG z s).length-1:Y)) (by rw [cH];exact(ZO q).symm))) (zr (zi 0) (zr (An (zi 1)) cj C) C) C) C ?_ C) O C C)
   (gU (h8 (xm (zr (cX (sY F 6 C C (rf 0) (gb (i:=0) (by exact c3 _) u) C) (An (zi 1)) (zW (by rw [cH];exact uu (Hr 0 (by exact(lM (bL 0 (.n 1) (.v 1) (.a (.v 0) (.n 1)) (.v 1) C [_,_] ((dG f)))))))) C) (zr (cX (sY F 6 C C (rf 0) (gb (i:=0) (by exact c3 _) u) C) (zi 0) (gb (i:=0) (by exact c3 _) (uu (Hr 0 (by exact bL 0 (.a (.n 0) (.n 1)) (.v 1) (.a (.v 0) (.n 1)) (.v 1) C [_,_] ((dG f)))))) C) cj C) C) C)))))))⟩
 unfold uW;simp;exact cF 0 (.a (.v 1) (.n 1)) (.n 1099511627776) (.v 0) (.n 5) (.v 1) (.v 0) C [_,_] p I4
end
section
noncomputable def wF:U (af×dU):= [("inp", .local),("STAR", .local),("res", .local),("add", .local),("i", .local),("n", .local),("fixed", .local),("len", .globalImplicit)]
noncomputable def ku:U af:= ["inp", "STAR", "res", "add", "i", "n", "fixed"]
noncomputable abbrev tY(u:Y):aS cf:=dD u (cQ (bj 10))
noncomputable def iw(P:U (U Y)):U T:= .atom::tS P
theorem t6{B:Type}(d l:U B):(d++l)[d.length]?=l[0]?:=by rw [l8 (ek _),Nat.sub_self]
theorem y_(F:Fm c.env ku 7 wF){i:Y}(B:s.length<=100000)(z:i<=s.length)(u:(match s[i]? with|J (.str _)=>aa|J .atom=>aA|ae=>aA|_=>!e)=e):
  EC c ku 7 [.t (.list s), .t .atom,b,x, .t (.int i), .t (.int s.length),k] (.BoolOp .And [.Compare (.Name "i" f) [.Lt] [.Name "n" g] l, .Compare (.Subscript (.Name "inp" n) (.Name "i" t) o) [.IsNot] [.Name "STAR" q] v] m) [.t (.list s), .t .atom,b,x, .t (.int i), .t (.int s.length),k] e:=by
 by_cases h:i<s.length
 .rw [cP h]at u;cases j:s[i]with
  |str a=>
   rw [j]at u;refine jE (b:=aa&&(aa&&aa)) (jg (zC (zv F 4 C C) (zv F 5 C C) (m4 (decide_eq_true (kB.mpr (h)))) C) λw=>jg (zC (cX (zv F 0 C C) (zv F 4 C C) (gb (by omega) (by rw [cP h,j])) C) (zv F 1 C C) C C) λw=>sV) u
  |atom=>
   rw [j]at u;refine jE (b:=aa&&(aA&&aa)) (jg (zC (zv F 4 C C) (zv F 5 C C) (m4 (decide_eq_true (kB.mpr (h)))) C) λw=>jg (zC (cX (zv F 0 C C) (zv F 4 C C) (gb (by omega) (by rw [cP h,j])) C) (zv F 1 C C) C C) λw=>sV) u
  |_=>rw [j]at u;cases e<;>exact nomatch u
 .rw [List.getElem?_eq_none ((nR h))]at u;exact jE (jg (b₂:=aA) (zC (zv F 4 C C) (zv F 5 C C) (m4 (decide_eq_false (λA=>jx (cF 0 (.n 1) (.n 0) (.v 1) (.v 0) (.a (.v 0) (.n 1)) (.v 1) C [_,_] ((nR h)) ((kB.mp A)))))) C) nofun) u
theorem S3(F:Fm c.env ku 7 wF)(B:s.length<=100000)(H:y= []\/∃r,y= .atom::r):∀(p:U (U Y))(d:U T)(o:U T),s=d++(tS p++y)->o.length+p.length<=100000->
  EW c ku 7 (kr (tY 3)) (jD (tY 3)) [] p.length [.t (.list s), .t .atom, .fm o, .iF, .t (.int d.length), .t (.int s.length),a6] [.t (.list s), .t .atom, .fm (o++tS p), .iF, .t (.int (d.length+p.length:Y)), .t (.int s.length),a6] .next:=λf=>f.rec
 (λd o h w=>by
  have e:o++tS []=o:=rg _;rw [e]
  exact lZ (y_ F B (by rw [h];simp) (by rw [(by rw [h];exact t6 _ _:s[d.length]?=y[0]?)];rcases H with rfl|⟨r,rfl⟩<;>rfl)) eO)
 (λa p X d o h v=>by
  rw [gw]at v;have z:s[d.length]?=J (.str a):=by rw [h];exact t6 _ _
  have t:EX c ku 7 [.t (.list s), .t .atom, .fm o, .iF, .t (.int d.length), .t (.int s.length),a6] (jD (tY 3)) [.t (.list s), .t .atom, .fm (o++ [.str a]), .iF, .t (.int (d++ [T.str a]).length), .t (.int s.length),a6] .next:=zx (pZ F 2 3 C C C (cX (zv F 0 C C) (zv F 4 C C) (gb (by have:=(cw.mp z).1;omega) z) C) C C C (dM (bL 0 (.v 0) (.n 1000000) (.a (.v 0) (.a (.v 1) (.n 1))) (.n 100000) C [_,_] v))) (dN (oY F 4 C (aX _ _) C (zi 1) (q4 (by simp))) C)
  exact lX (y_ F B (by have:=(cw.mp z).1;exact i3 ‹_›) (z.symm▸C)) t ((by simp;exact fV (f_ (.a (.a (.v 0) (.n 1)) (.v 1)) (.a (.v 0) (.a (.v 1) (.n 1))) C [_,_]) (f_ (.a (.v 0) (.a (.v 1) (.n 1))) (.a (.a (.v 0) (.n 1)) (.v 1)) C [_,_]):(d++ [T.str a]).length+p.length=d.length+(a::p).length)▸(by simp:(o++ [T.str a])++tS p=o++tS (a::p))▸(X (d++ [.str a]) (o++ [.str a]) (by rw [h];simp) (by simp;exact bL 0 (.a (.a (.v 0) (.n 1)) (.v 1)) (.n 100000) (.a (.v 0) (.a (.v 1) (.n 1))) (.n 100000) C [_,_] v))))
noncomputable abbrev rM:U cf:=jD (tY 4)
theorem S2(F:Fm c.env ku 7 wF)(B:s.length<=100000)(H:y= []\/∃r,y= .atom::r):∀(p:U (U Y))(d:U T)(o:U T),s=d++(tS p++y)->o.length+p.length<=100000->
  EW c ku 7 (kr (dD 5 rM)) (jD (dD 5 rM)) [] p.length [.t (.list s), .t .atom,a2,a3, .t (.int d.length), .t (.int s.length), .own o] [.t (.list s), .t .atom,a2,a3, .t (.int (d.length+p.length:Y)), .t (.int s.length), .own (o++tS p)] .next:=λf=>f.rec
 (λd o h w=>by
  have e:o++tS []=o:=rg _;rw [e]
  exact lZ (y_ F B (by rw [h];simp) (by rw [(by rw [h];exact t6 _ _:s[d.length]?=y[0]?)];rcases H with rfl|⟨r,rfl⟩<;>rfl)) eO)
 (λa p X d o h v=>by
  rw [gw]at v;have z:s[d.length]?=J (.str a):=by rw [h];exact t6 _ _
  have r:=X (d++ [.str a]) (o++ [.str a]) (by rw [h];simp) (by simp;exact bL 0 (.a (.a (.v 0) (.n 1)) (.v 1)) (.n 100000) (.a (.v 0) (.a (.v 1) (.n 1))) (.n 100000) C [_,_] v);rw [(by simp:(o++ [T.str a])++tS p=o++tS (a::p)),(by simp;exact fV (f_ (.a (.a (.v 0) (.n 1)) (.v 1)) (.a (.v 0) (.a (.v 1) (.n 1))) C [_,_]) (f_ (.a (.v 0) (.a (.v 1) (.n 1))) (.a (.a (.v 0) (.n 1)) (.v 1)) C [_,_]):(d++ [T.str a]).length+p.length=d.length+(a::p).length)]at r
  exact lX (y_ F B (by have:=(cw.mp z).1;exact i3 ‹_›) (z.symm▸C)) (zx (xd F 6 C C (cX (zv F 0 C C) (zv F 4 C C) (gb (by have:=(cw.mp z).1;omega) z) C) C C C (dM (bL 0 (.v 0) (.n 1000000) (.a (.v 0) (.a (.v 1) (.n 1))) (.n 100000) C [_,_] v))) (dN (oY F 4 C (aX _ _) C (zi 1) (q4 (by simp))) C)) r)
noncomputable def outF:U (U (U Y))->U (U Y)
 | []=> []
 | [P]=>if P= []then [[46,42]]else [[46,42],P.flatten]
 |P::r=>([40,63,62,46,42,63]++P.flatten++ [41])::outF r
theorem J6:outF [P]=if P= []then [[46,42]]else [[46,42],P.flatten]:=C
theorem U6:outF (P::b::r)=([40,63,62,46,42,63]++P.flatten++ [41])::outF (b::r):=C
noncomputable def A8:U (U (U Y))->Prop
 | []=>True
 | [_]=>True
 |P::r=>P≠ []/\A8 r
noncomputable abbrev qW(s o:U T)(i:aq)(k:AV t):U (AV t):= [.t (.list s), .t .atom, .fm o, .iF, .t (.int i), .t (.int s.length),k]
theorem S4(F:Fm c.env ku 7 wF){s:U T}(B:s.length<=1000):∀(h:U (U (U Y)))(d o:U T)(k:AV t),s=d++(h.map iw).flatten->A8 h->(∀P∈h,P.flatten.length<=100000)->o.length+2*h.length<=100000->
  ∃m,EW c ku 7 (kr (tY 4)) rM [] (h.length) (qW s o d.length k) (qW s (o++tS (outF h)) s.length m) .next:=λX=>X.rec
 (λd o k x w w w=>by
  have e:o++tS (outF [])=o:=rg _;rw [e,(by rw [x];simp:d.length=s.length)]
  exact⟨k,lZ (zC (zv F 4 C C) (zv F 5 C C) (m4 (decide_eq_false (λA=>jx (bL 0 (.n 1) (.n 0) (.a (.v 0) (.n 1)) (.v 0) C [_] ((kB.mp A)))))) C) eO⟩)
 (λP r aj d o k x Q n v=>by
  rw [gw]at v;have R:s=d++(T.atom::(tS P++(r.map iw).flatten)):=by rw [x];rfl
  have G:s.length=d.length+1+P.length+(r.map iw).flatten.length:=by rw [R];simp [tS];exact fV (f_ (.a (.v 0) (.a (.a (.v 1) (.v 2)) (.n 1))) (.a (.a (.a (.v 0) (.n 1)) (.v 1)) (.v 2)) C [_,_,_]) (f_ (.a (.a (.a (.v 0) (.n 1)) (.v 1)) (.v 2)) (.a (.v 0) (.a (.a (.v 1) (.v 2)) (.n 1))) C [_,_,_])
  have ah:s[d.length]?=J .atom:=by rw [R];exact t6 _ _
  have E:s=(d++ [T.atom])++(tS P++(r.map iw).flatten):=by rw [R];simp
  have L:EC c ku 7 (qW s o d.length k) (kr (tY 4)) (qW s o d.length k) aa:=
   zC (zv F 4 C C) (zv F 5 C C) (m4 (decide_eq_true (kB.mpr (bL 0 (.a (.v 1) (.n 1)) (.v 0) (.a (.a (.a (.v 1) (.n 1)) (.v 2)) (.v 3)) (.v 0) C [_,_,_,_] ((dG G)))))) C
  have g:∀{S:U (AV t)}{j:eS},EX c ku 7 (qW s o (d++ [T.atom]).length k) (rM.drop 2) S j->
    EX c ku 7 (qW s o d.length k) rM S j:=λO=>
   zx (xe (zC (cX (zv F 0 C C) (zv F 4 C C) (gb (by omega) ah) C) (zv F 1 C C) C C)) (Mq (oY F 4 C (aX _ _) C (zi 1) (q4 (by simp))) C O)
  have l:(d++ [T.atom]).length=d.length+1:=by simp
  cases P with
  |nil=>
   have ai:r= []:=by
    cases r with
    |nil=>rfl
    |cons _ _=>exact cg C Q.1
   subst ai;have u:s.length=(d++ [T.atom]).length:=by simp at G⊢;exact fV ((c4 G)) ((dG G))
   refine⟨k,DZ L (g ?_)⟩;rw [u];have e:o++tS (outF [[]])=o++ [.str [46,42]]:=C;exact xn (dF (b:=aa) (zC (zv F 4 C C) (zv F 5 C C) (aQ J (by rw [u];exact beq_self_eq_true _)) C) (zx (pZ F 2 3 C C C (zs [46,42] (di ['.','*'])) C C C (dM (bL 0 (.v 0) (.n 1000000) (.a (.v 0) (.m 2 (.a (.n 0) (.n 1)))) (.n 100000) C [_] v))) (xn LS)))
  |cons a P=>
   have z:(((d++ [T.atom]).length:aq)==(s.length:aq))=aA:=by
    have:(a::P).length=P.length+1:=C;rw [beq_eq_false_iff_ne];exactλA=>jx (ki 0 (.n 1) (.n 0) (.v 0) (.a (.v 1) (.n 1)) (.a (.a (.a (.v 1) (.n 1)) (.a (.v 3) (.n 1))) (.v 4)) (.v 2) (.v 2) (.v 0) C [_,_,_,_,_] ((c4 l)) ((dG G)) ((dG (Ax A))))
   have H:(r.map iw).flatten= []\/∃q,(r.map iw).flatten= .atom::q:=by
    cases r with
    |nil=>exact .inl C
    |cons b r=>exact .inr ⟨_,C⟩
   have i:=n (a::P) ee;have y:=S2 F (a2:= .fm o) (a3:= .iF) (by exact bh B (bx C)) H (a::P) (d++ [T.atom]) [] E (by have:(a::P).length=P.length+1:=C;simp;exact cF 0 (.v 2) (.n 99999) (.v 0) (.n 1000) (.a (.a (.a (.v 1) (.n 1)) (.a (.v 2) (.n 1))) (.v 3)) (.v 0) C [_,_,_,_] B ((dG G)));rw [AG]at y;have p:∀{S:U (AV t)}{j:eS},EX c ku 7 (qW s o ((d++ [T.atom]).length+(a::P).length:Y) (.t (.str (a::P).flatten))) (rM.drop 7) S j->
     EX c ku 7 (qW s o (d++ [T.atom]).length k) (rM.drop 2) S j:=λao=>
    zx (dF (b:=aA) (zC (zv F 4 C C) (zv F 5 C C) (aQ J z) C) eO) (zx (xe (zC (cX (zv F 0 C C) (zv F 4 C C) (gb (by omega) (by rw [E];exact t6 _ _:s[(d++ [T.atom]).length]?=J (.str a))) C) (zv F 1 C C) C C))
     (zx (q_ F 6 C (by exact cY _) (o4 cj C) C) (zx (l5 y) (zx (fu F 6 C (by exact cY _) (Al (zs [] (di [])) (lW F 6 C C) C C C (by exact bh i (bx C))) C) ao))))
   have aC:(a::P).length=P.length+1:=C;cases r with
   |nil=>
    have u:((d++ [T.atom]).length+(a::P).length:Y)=s.length:=by simp at G⊢;exact fV ((dG G)) ((c4 G))
    rw [u]at p;refine⟨.t (.str (a::P).flatten),lX L (g (p ?_)) (lZ (zC (zv F 4 C C) (zv F 5 C C) (m4 (decide_eq_false (by exactλA=>jx (bL 0 (.n 1) (.n 0) (.a (.v 0) (.n 1)) (.v 0) C [_] ((kB.mp A)))))) C) eO)⟩;have e:o++tS (outF [a::P])=(o++ [.str [46,42]])++ [.str (a::P).flatten]:=by simp [J6,tS]
    rw [e];exact dN (dF (b:=aa) (zC (zv F 4 C C) (zv F 5 C C) (aQ J (beq_self_eq_true _)) C) (zx (pZ F 2 3 C C C (zs [46,42] (di ['.','*'])) C C C (dM (by exact bL 0 (.v 0) (.n 1000000) (.a (.v 0) (.m 2 (.a (.n 0) (.n 1)))) (.n 100000) C [_] v))) (zx (pZ F 2 3 C C C (zv F 6 C C) C C C (dM (by simp;exact bL 0 (.v 0) (.n 999999) (.a (.v 0) (.m 2 (.a (.n 0) (.n 1)))) (.n 100000) C [_] v))) eO))) C
   |cons b r=>
    have az:((((d++ [T.atom]).length+(a::P).length:Y):aq)==(s.length:aq))=aA:=by
     rw [beq_eq_false_iff_ne];have:0<((jY iw (b::r)).flatten).length:=by simp [iw]
     exactλA=>jx (pO 0 (.n 1) (.n 0) (.v 0) (.a (.v 1) (.n 1)) (.a (.a (.a (.v 1) (.n 1)) (.a (.v 2) (.n 1))) (.v 4)) (.v 3) (.a (.n 0) (.n 1)) (.v 4) (.v 3) (.a (.v 0) (.a (.v 2) (.n 1))) C [_,_,_,_,_] ((c4 l)) ((dG G)) this ((dG (Ax A))))
    have au:(d++iw (a::P)).length=(d++ [T.atom]).length+(a::P).length:=by simp [iw];exact fV (f_ (.a (.v 0) (.a (.a (.v 1) (.n 1)) (.n 1))) (.a (.a (.v 0) (.n 1)) (.a (.v 1) (.n 1))) C [_,_]) (f_ (.a (.a (.v 0) (.n 1)) (.a (.v 1) (.n 1))) (.a (.v 0) (.a (.a (.v 1) (.n 1)) (.n 1))) C [_,_])
    refine bZ (aj (d++iw (a::P)) (o++ [.str ([40,63,62,46,42,63]++(a::P).flatten++ [41])]) (.t (.str (a::P).flatten)) (by rw [x];exact(vt _ _ _).symm) Q.2 (λaB f=>n aB (dY _ f)) (by simp at v⊢;exact bL 0 (.a (.a (.v 0) (.n 1)) (.m 2 (.a (.v 1) (.n 1)))) (.n 100000) (.a (.v 0) (.m 2 (.a (.a (.v 1) (.n 1)) (.n 1)))) (.n 100000) C [_,_] v)) λm q=>?_;rw [au]at q;refine⟨m,?_⟩;have e:o++tS (outF ((a::P)::b::r))=(o++ [.str ([40,63,62,46,42,63]++(a::P).flatten++ [41])])++tS (outF (b::r)):=by simp [U6,tS]
    rw [e]
    exact lX L (g (p (dN (dF (b:=aA) (zC (zv F 4 C C) (zv F 5 C C) (aQ J az) C) (zx (pZ F 2 3 C C C (Ai (zj (zs [40,63,62,46,42,63] (di ['(','?','>','.','*','?'])) (by exact aX _ _) (zj (Ah (zv F 6 C C) (by exact bh i (bx C))) (by simp;simp at i;exact bh i (bx C)) (zj (zs [41] (di [')'])) (by simp;simp at i;exact bL 0 (.a (.v 0) (.a (.v 1) (.n 1))) (.n 999994) (.a (.v 0) (.v 1)) (.n 100000) C [_,_] i) Ak))) (by simp;simp at i;exact bL 0 (.a (.v 0) (.a (.v 1) (.n 1))) (.n 999994) (.a (.v 0) (.v 1)) (.n 100000) C [_,_] i)) C C C (dM (by exact bL 0 (.v 0) (.n 1000000) (.a (.v 0) (.m 2 (.a (.a (.v 1) (.n 1)) (.n 1)))) (.n 100000) C [_,_] v))) eO)) C))) q)
end
section
variable{y:Ly O}
noncomputable def uC(u:U (U Y))(a:U (U (U Y))):U Y:=wh++(u++outF a).flatten++sR
theorem XQ(k:y.D "_join_translated_parts" 10)(u:U (U Y))(h:U (U (U Y)))(Q:A8 h)(i:∀P∈h,P.flatten.length<=100000)(B:(tS u++(h.map iw).flatten).length<=1000)(G:(uC u h).length<=100000):
  y.F (n+1) "_join_translated_parts" [.list (tS u++(h.map iw).flatten), .atom] (.str (uC u h)):=by
 refine y.fn 10 ku wF k C (C) (C) (dP C) (λd code j=>vP λw w=>C) λx e T p F=>?_;generalize z:tS u++(h.map iw).flatten=s at B;have H:u.length+2*h.length<=100000:=by
  have:h.length<=(h.map iw).flatten.length:=by
   clear z Q i G
   induction h with
   |nil=>simp
   |cons a r X=>simp [iw]at X⊢;exact bL 0 (.v 0) (.a (.v 2) (.v 1)) (.v 0) (.v 1) C [_,_,_] X
  rw [<-z]at B;simp at B this;exact pO 0 (.a (.v 0) (.m 2 (.v 2))) (.n 100000) (.a (.v 0) (.v 1)) (.n 1000) (.a (.v 0) (.v 1)) (.n 1000) (.v 2) (.v 1) (.v 2) (.v 1) C [_,_,_] B B this this
 have c:(h.map iw).flatten= []\/∃q,(h.map iw).flatten= .atom::q:=by
  cases h with
  |nil=>exact .inl C
  |cons l r=>exact .inr ⟨_,C⟩
 have L:(u++outF h).flatten.length<=100000:=by unfold uC at G;simp at G⊢;exact bL 0 (.a (.v 1) (.v 2)) (.n 100000) (.a (.v 0) (.a (.v 1) (.a (.v 2) (.v 3)))) (.n 100000) C [_,_,_,_] G
 refine⟨[.t (.list s), .t .atom, .t (.str (u++outF h).flatten), .un, .t (.int s.length), .t (.int s.length), .un],L6 F 2 C (dP C) (λa=>?_) C C⟩;have g:=S3 (c:=(y.c x e T n p).re a) F (a6:= .un) (bh B (bx C)) c u [] [] (by(symm;assumption)) (by simp;exact bL 0 (.v 0) (.n 100000) (.a (.v 0) (.m 2 (.v 1))) (.n 100000) C [_,_] H);refine bZ (S4 (c:=(y.c x e T n p).re a) F (B) h (tS u) (tS u) .un z.symm Q i (by rw [cH];exact H)) λb o=>?_;rw [AG,tF,tK,<-cH]at g;refine vg (vj (aP:= [.t (.list s), .t .atom, .t (.str (u++outF h).flatten), .un, .t (.int s.length), .t (.int s.length),b]) 6 (zx (L8 F 2 3 C C C (dP C)) (zx (z2 F 4 5 4 5 C (dP C) C (e5 _ _) C C (zr (zi 0) (zr (DW F 7 C (zv F 0 C C) (dM (bh B (bx C))) C) cj C) C) C (C) C C C C) (zx (l5 g) (zx (l5 o) (zx (xe (zC (zv F 4 C C) (zv F 5 C C) (aQ J (beq_self_eq_true _)) C)) ?_)))))) C;rw [(ej.symm:tS u++tS (outF h)=tS (u++outF h))];exact Mm 2 C (LU 3 (zx (fu F 2 C (dP C) (Al (zs [] (di [])) (lW F 2 C C) C C C (bh L (bx C))) C) (gU (h8 (Ai (out:=uC u h) (zj (zs [40,63,115,58] (di ['(','?','s',':'])) (aX _ _) (zj (Ah (zv F 2 C C) (bh L (bx C))) (by simp only [ic,gw,tF,AG];exact bL 0 (.a (.a (.a (.a (.a (.n 0) (.n 1)) (.n 1)) (.n 1)) (.n 1)) (.v 0)) (.n 1000000) (.v 0) (.n 100000) C [_] L) (zj (zs [41,92,90] (di [')','\\','Z'])) (by simp only [ic,gw,tF,AG];exact bL 0 (.a (.a (.a (.a (.a (.a (.n 0) (.n 1)) (.n 1)) (.n 1)) (.n 1)) (.v 0)) (.a (.a (.a (.n 0) (.n 1)) (.n 1)) (.n 1))) (.n 1000000) (.v 0) (.n 100000) C [_] L) Ak))) (by exact bh G (bx C)))))))
end
section
variable{c:Cx O}
theorem YK{o H T:b9}{x i:U Y}(Q:EE c n k g o u (.str h))(O:EE c n k u H B (.str x))(b:EE c n k B T v (.str i))(t:attributeBase o "replace" c.env (eval o c.env)=eval o c.env)
  (P:dj H=aa)(a:dj T=aa)(w:(m.endLine==s.line)=aa)(l:(My ⟨h.toArray⟩ ⟨x.toArray⟩ 0 h.length (h.length+1)).isEmpty=aa):EE c n k g (.Call (.Attribute o "replace" m) [H,T] [] s) v (.str h):=
 xj PySem.F.slot_str_replace PySem.F.type_str_replace Q (zr O (zr b cj a) P) t (by simp [P,a]) (aX _ _) w λp f y d z=>by
  refine iD z.DA λX r j q e=>?_;subst j;exact Vu d q e l
noncomputable def n9:U (af×dU):= [("pat", .local),("STAR", .local),("QUESTION_MARK", .local),("res", .local),("add", .local),("i", .local),("n", .local),("c", .local),("j", .local),("stuff", .local),("chunks", .local),("k", .local),("chunk", .local),("len", .globalImplicit),("range", .globalImplicit),("_twin_re_1", .globalImplicit),("escape", .globalImplicit)]
noncomputable def x9:U af:= ["pat", "STAR", "QUESTION_MARK", "res", "add", "i", "n", "c", "j", "stuff", "chunks", "k", "chunk"]
noncomputable abbrev B9:U cf:=jD (dD 3 (cQ (bj 9)))
noncomputable abbrev L9(x:U Y)(o:U T)(i:Y)(E G m v h s:AV O):U (AV O):= [.t (.str x), .t .atom, .t (.str [46]), .fm o, .iF, .t (.int i), .t (.int x.length),E,G,m,v,h,s]
theorem Dw(F:Fm c.env x9 13 n9)(H:x.length<=1000)(h:x[i]?=J a)(k:EX c x9 13 (L9 x o (i+1) (.t (.str [a])) G m v fk s) (B9.drop 2) g j):EX c x9 13 (L9 x o i E G m v fk s) B9 g j:=by
 have B:=(cw.mp h).1;exact zx (fu F 7 C (aX _ _) (cX (zv F 0 C C) (zv F 5 C C) (kU (by omega) h) C) C) (Mq (fu F 5 C (aX _ _) (dI (zv F 5 C C) (zi 1) (uY (C))) C) C k)
theorem q5(h:decide (a=b)=d):gY .Eq (.str [a]) (.str [b])=J d:=by
 refine zV ?_;rw [<-h,tq];simp
theorem Xx(F:Fm c.env x9 13 n9)(H:pat.length<=1000)(h:pat[i]?=J 42)(e:acc= []\/∃q s,acc=q++ [.str s])(B:acc.length<=100000):
  EX c x9 13 (L9 pat acc i a7 a8 a9 gg fk ie) B9 (L9 pat (acc++ [.atom]) (i+1) (.t (.str [42])) a8 a9 gg fk ie) .next:=by
 have y:EC c x9 13 (L9 pat acc (i+1) (.t (.str [42])) a8 a9 gg fk ie) (yX (dD 0 (HM (dD 2 B9)))) (L9 pat acc (i+1) (.t (.str [42])) a8 a9 gg fk ie) aa:=by
  rcases e with rfl|⟨q,s,rfl⟩
  .exact LQ 3 C C (jE (b:=aa||aA) (vf (DL (b:=aA) (Af F 3 C C C)) nofun) C) C
  .exact LQ 3 C C (jE (b:=aA||(aa||aA)) (vf (DL (Af (b:=aa) F 3 C C (zY (bh B (bx C)) (by simp)))) λw=>vf (zC (sY F 3 C C (DX (rf 1)) (zW (t:= .str s) (by simp)) C) (zv F 1 C C) C C) nofun) C) C
 exact Dw F H h (dN (dF (b:=aa) (zC (zv F 7 C C) (zs [42] (di ['*'])) C C) (dN (dF y (dN (pZ F 3 4 C C C (zv F 1 C C) C C C (dM (bh B (bx C)))) C)) C)) C)
theorem Xv(F:Fm c.env x9 13 n9)(H:x.length<=1000)(h:x[i]?=J a)(r:a∉ [42,63,91])(u:CN c "escape" [.str [a]] (.str (jr a)))(B:o.length<=100000):
  EX c x9 13 (L9 x o i E G m v fk s) B9 (L9 x (o++ [.str (jr a)]) (i+1) (.t (.str [a])) G m v fk s) .next:=by
 simp only [cC,gM,or_false,not_or]at r
 exact Dw F H h (dN (dF (zC (zv F 7 C C) (zs [42] (di ['*'])) (q5 (decide_eq_false r.1)) C) (dN (dF (zC (zv F 7 C C) (zs [63] (di ['?'])) (q5 (decide_eq_false r.2.1)) C)
  (dN (dF (zC (zv F 7 C C) (zs [91] (di ['['])) (q5 (decide_eq_false r.2.2)) C) (dN (pZ F 3 4 C C C (kY F 16 C (zr (zv F 7 C C) cj C) u C) C C C (dM (bh B (bx C)))) C)) C)) C)) C)
noncomputable abbrev R9:U cf:=HM (dD 0 (yW (dD 0 (yW (dD 2 B9)))))
theorem vQ(d:Y)(r:a∈ [42,63,91])(h:([42,63,91].all λx=>!qj x d)=aa):a≠d:=λe=>by
 have:=kC.mp h a r;rw [e,Nat.beq_refl]at this;exact dg C this
theorem occ_none{s:U Y}{d:Y}(h:d∉s)(u:Y)(v:1<=u):(My ⟨s.toArray⟩ ⟨[d].toArray⟩ 0 s.length u).isEmpty=aa:=by
 rcases aaN ⟨s.toArray⟩ ⟨[d].toArray⟩ u v with⟨e,_⟩|⟨i,a,e,r,_⟩
 .exact aQ _ (e)
 .exact cg (cA (yc.mp r)) h
theorem Xu(F:Fm c.env x9 13 n9)(H:x.length<=1000)(d:x[i]?=J 91)(R:x[i+1]?=J a)(E:x[i+2]?=J 93)(r:a∈ [42,63,91])(B:o.length<=100000)
  (S:∀g,g[9]?=J (.t (.str [a]))->EE c x9 13 g (yb (dD 2 (yW (dD 4 R9)))) g (.str [a])):
  EX c x9 13 (L9 x o i L Q P v n q) B9 (L9 x (o++ [.str (dW a)]) (i+3) (.t (.str [91])) (.t (.int (i+2:Y))) (.t (.str (if a=91 then [92,a]else [a]))) v n q) .next:=by
 have h:=(cw.mp E).1;have k:=eq_false (vQ 33 r C);have u:=eq_false (vQ 93 r C);have t:45∉ [a]:=λe=>vQ 45 r C (cI.mp e).symm;have j:∀{g:U (AV O)}{m:Y}{p f y:Pos},g[8]?=J (.t (.int m))->g[6]?=J (.t (.int x.length))->m<x.length->EC c x9 13 g (.Compare (.Name "j" p) [.Lt] [.Name "n" f] y) g aa:=λX T G=>
  zC (zv F 8 C X) (zv F 6 C T) (m4 (decide_eq_true (kB.mpr (G)))) C
 refine Dw F H d (dN (dF (b:=aA) (zC (zv F 7 C C) (zs [42] (di ['*'])) C C) (dN (dF (b:=aA) (zC (zv F 7 C C) (zs [63] (di ['?'])) C C) (dN (dF (b:=aa) (zC (zv F 7 C C) (zs [91] (di ['['])) C C) (zx (fu F 8 C (by exact aX _ _) (zv F 5 C C) C) (zx (dF (b:=aA) (jE (b:=aa&&(aA&&aa)) (jg (j C C (by exact bL 0 (.a (.a (.v 0) (.n 1)) (.n 1)) (.v 1) (.a (.a (.v 0) (.n 2)) (.n 1)) (.v 1) C [_,_] h)) λw=>jg (zC (cX (zv F 0 C C) (zv F 8 C C) (kU (by omega) R) C) (zs [33] (di ['!'])) (q5 (by simp [k])) C) λw=>sV) C) eO) (zx (dF (b:=aA) (jE (b:=aa&&(aA&&aa)) (jg (j C C (by exact bL 0 (.a (.a (.v 0) (.n 1)) (.n 1)) (.v 1) (.a (.a (.v 0) (.n 2)) (.n 1)) (.v 1) C [_,_] h)) λw=>jg (zC (cX (zv F 0 C C) (zv F 8 C C) (kU (by omega) R) C) (zs [93] (di [']'])) (q5 (by simp [u])) C) λw=>sV) C) eO) (zx (l5 (lX (n:=0) (jE (b:=aa&&(aa&&aa)) (jg (j C C (by exact M9 ‹_›)) λw=>jg (zC (cX (zv F 0 C C) (zv F 8 C C) (kU (by omega) R) C) (zs [93] (di [']'])) (zX (by simp [u])) C) λw=>sV) C)
  (dN (fu F 8 C (by exact aX _ _) (dI (zv F 8 C C) (zi 1) (uY (d:=(i+2:Y)) (by exact C))) C) C)
  (lZ (jE (b:=aa&&(aA&&aa)) (jg (j C C (by exact h)) λw=>jg (zC (cX (zv F 0 C C) (zv F 8 C C) (kU (by omega) E) C) (zs [93] (di [']'])) (zX C) C) λw=>sV) C) eO))) ?_))))) C)) C)) C)
 have z:cut (J ((i+1:Y):aq)) (J ((i+2:Y):aq)) x= [a]:=by
  rw [Gj,MP,show i+2-(i+1)=1 by exact fV (bL 0 (.v 1) (.n 1) (.a (.v 1) (.a (.v 0) (.n 1))) (.a (.v 0) (.n 2)) C [_,_] ((lM (f_ (.a (.v 0) (.n 1)) (.a (.v 0) (.n 2)) C [_])))) (bL 0 (.n 1) (.v 1) (.a (.v 0) (.n 2)) (.a (.v 1) (.a (.v 0) (.n 1))) C [_,_] nE)];have:=(cw.mp R);rw [AA this.1,this.2];rfl
 refine dN (dF (b:=aA) (zC (zv F 8 C C) (zv F 6 C C) (aQ J (decide_eq_false (by exactλA=>jx (cF 0 (.n 1) (.n 0) (.a (.a (.v 0) (.n 2)) (.n 1)) (.v 1) (.v 1) (.a (.v 0) (.n 2)) C [_,_] h ((iY.mp A)))))) C) (zx (fu F 9 C (by exact aX _ _) (jV (zv F 0 C C) (ji (zv F 5 C C)) (ji (zv F 8 C C)) (pV (by exact bh H (bx C)) z)) C) (zx (dF (b:=aa) (zC (zs [45] (di ['-'])) (zv F 9 C C) (aQ J (by simp [t])) C) (dN (fu F 9 C (by exact aX _ _) (YK (zv F 9 C C) (zs [92] (di ['\\'])) (zs [92,92] (di ['\\','\\'])) C C C C (occ_none (λe=>vQ 92 r C (cI.mp e).symm) _ (by exact e5 _ _))) C) C)) (zx (fu F 9 C (by exact aX _ _) (S _ C) C) (zx (fu F 5 C (by exact aX _ _) (dI (zv F 8 C C) (zi 1) (uY (d:=(i+3:Y)) (by exact C))) C) (dN (dF (b:=aA) (DL (b:=aa) (oX (zv F 9 C C) C λw=>C)) (dN (dF (b:=aA) (zC (zv F 9 C C) (zs [33] (di ['!'])) (q5 (by simp [k])) C) ?_) C)) C)))))) C;have l:gY .In (.str [a]) (.tup [.str [94], .str [91]])=J (decide (a=91)):=by
  show i9 (.str [a]) ([[94], [91]].map .str)=_;rw [uy];simp [(eq_false (vQ 94 r C))]
 by_cases b:a=91
 .rw [decide_eq_true b]at l;have s:dW a= [91]++ [92,a]++ [93]:=by subst b;rfl
  rw [bB b,s]
  exact zx (dF (b:=aA) (zC (cX (zv F 9 C C) (zi 0) C C) (zs [33] (di ['!'])) (q5 (by simp [k])) C)
   (dN (dF (b:=aa) (zC (cX (zv F 9 C C) (zi 0) C C) (xm (zr (zs [94] (di ['^'])) (zr (zs [91] (di ['['])) cj C) C) C) l C)
    (dN (fu F 9 C (by exact aX _ _) (dI (zs [92] (di ['\\'])) (zv F 9 C C) C) C) C)) C)) (dN (pZ F 3 4 C C C (Ai (zj (zs [91] (di ['['])) (by exact c3 _) (zj (Ah (zv F 9 C C) (by exact aX _ _)) (by exact aX _ _) (zj (zs [93] (di [']'])) (by exact aX _ _) Ak))) (by exact aX _ _)) C C C (dM (by exact bh B (bx C)))) C)
 .rw [decide_eq_false b]at l;have s:dW a= [91]++ [a]++ [93]:=by unfold dW;rw [bB r,bF b];rfl
  rw [bF b,s]
  refine zx (dF (b:=aA) (zC (cX (zv F 9 C C) (zi 0) C C) (zs [33] (di ['!'])) (q5 (by simp [k])) C)
   (dN (dF (b:=aA) (zC (cX (zv F 9 C C) (zi 0) C C) (xm (zr (zs [94] (di ['^'])) (zr (zs [91] (di ['['])) cj C) C) C) l C) eO) C)) ?_
  exact dN (pZ F 3 4 C C C (Ai (zj (zs [91] (di ['['])) (by exact c3 _) (zj (Ah (zv F 9 C C) (by exact c3 _)) (by exact aX _ _) (zj (zs [93] (di [']'])) (by exact aX _ _) Ak))) (by exact aX _ _)) C C C (dM (by exact bh B (bx C)))) C
noncomputable abbrev Fp:b9:=yb (dD 2 (yW (dD 4 R9)))
theorem Xw(F:Fm c.env x9 13 n9)(H:x.length<=1000)(n:∀a∈ [42,63,91],∀g,g[9]?=J (.t (.str [a]))->EE c x9 13 g Fp g (.str [a]))(t:∀a,a<128->CN c "escape" [.str [a]] (.str (jr a))):∀(s u:U Y)(o:U T)(E G m:AV O),x=u++(s.map iu).flatten->o.length+s.length<=100000->(∀a∈s,a<128)->
  ∃h e S,EW c x9 13 (kr (dD 3 (cQ (bj 9)))) B9 [] s.length (L9 x o u.length E G m gg fk ie) (L9 x (o++tS (s.map dW)) x.length h e S gg fk ie) .next:=λf=>f.rec
 (λu o E G m i w w=>by
  have b:u.length=x.length:=by rw [i];simp
  have Q:o++tS (([]:U Y).map dW)=o:=rg _;rw [b,Q]
  exact(r5 E G m (lZ (zC (zv F 5 C C) (zv F 6 C C) (m4 (decide_eq_false (λA=>jx (bL 0 (.n 1) (.n 0) (.a (.v 0) (.n 1)) (.v 0) C [_] ((kB.mp A)))))) C) eO)))
 (λa s X u o E G m i v k=>by
  rw [gw]at v;have L:x=u++(iu a++(s.map iu).flatten):=by rw [i];simp
  have b:o++tS ((a::s).map dW)=(o++ [.str (dW a)])++tS (s.map dW):=by simp
  have j:u.length<x.length:=by
   rw [L];have:0<(iu a).length:=by unfold iu;split<;>exact c3 _
   simp;exact bL 0 (.a (.n 0) (.n 1)) (.a (.v 0) (.v 1)) (.a (.n 0) (.n 1)) (.v 0) C [_,_] this
  have y:∃h e S,EX c x9 13 (L9 x o u.length E G m gg fk ie) B9 (L9 x (o++ [.str (dW a)]) (u++iu a).length h e S gg fk ie) .next:=by
   rw [ic]
   by_cases r:a∈ [42,63,91]
   .have l:iu a= [91,a,93]:=by unfold iu;rw [bB r]
    rw [l]at L⊢;exact(r5 _ _ _ (Xu F H (i6 0 L (c3 _)) (i6 1 L (e5 _ _)) (i6 2 L (cY _)) r (bL 0 (.v 0) (.n 100000) (.a (.v 0) (.a (.v 1) (.n 1))) (.n 100000) C [_,_] v) (n a r)))
   .have l:iu a= [a]:=by unfold iu;rw [bF r]
    have d:dW a=jr a:=by unfold dW;rw [bF r]
    rw [l]at L⊢;rw [d];exact(r5 _ _ _ (Xv F H (i6 0 L (c3 _)) r (t a (k a ee)) (bL 0 (.v 0) (.n 100000) (.a (.v 0) (.a (.v 1) (.n 1))) (.n 100000) C [_,_] v)))
  exact Bu y λh e S y=>Bu (X (u++iu a) (o++ [.str (dW a)]) h e S (by rw [L];exact(vt _ _ _).symm) (by simp;exact bL 0 (.a (.a (.v 0) (.n 1)) (.v 1)) (.n 100000) (.a (.v 0) (.a (.v 1) (.n 1))) (.n 100000) C [_,_] v) λa r=>k a (dY _ r)) λp z B q=>b.symm▸((r5 p z B (lX (zC (zv F 5 C C) (zv F 6 C C) (m4 (decide_eq_true (kB.mpr (j)))) C) y q))))
end
section
noncomputable def Ly.DC(O:Ly t)(z:af)(i:Y)(f:ay):Prop:=∃a o d j,O.mg z=J (.ref a)/\(∀{h},bN O.B.bI h->h.get? a=J o)/\o.data= .func (docDef z (gQ (bj i)) (cQ (bj i)) (d5 (bj i)) d f j)/\(∀{h},bN O.B.bI h->h.CodeRec f z)
theorem Ly.RQ(O:Ly t)(i:Y)(n:U af)(r:U (af×dU))(D:O.DC z i f)(v:(d5 (bj i)).names=r)(Q:wX (d5 (bj i)) n=aa)(k:nA r n n.length=aa)
  (G:E.length<=n.length)(a:∀d code j(y:U ay),y.length=E.length->bindArgs (docDef z (gQ (bj i)) (cQ (bj i)) (d5 (bj i)) d code j) ⟨y, []⟩=pure (eI n y))
  (l:∀F B T(p:dw F u),Fm T n n.length r->T.code=f->∃x,EX (O.c F B T u p) n n.length (qV n E) (cQ (bj i)) x (.ret b)):O.F (u+1) z E b:=Bv D λs o d j R h S A=>(mQ s o _ R h S (F1 O.G h S A C C (kW Q) C C G (a d f j) λq F B p=>(l F B _ p (jQ k v) C).imp λw e=>e.1))
noncomputable def A_(O:Ly t)(u:Y)(f:ay):Prop:=∀F B T(p:dw F u),Fm T x9 13 n9->T.code=f->∀a∈ [42,63,91],∀g:U (AV t),g[9]?=J (.t (.str [a]))->EE (O.c F B T u p) x9 13 g Fp g (.str [a])
theorem XX(k:O.DC "_translate" 9 f)(e:A_ O n f)(i:∀a,a<128->O.F n "escape" [.str [a]] (.str (jr a)))(s:U Y)(P:s.length<=100)(x:∀a∈s,a<128):
  O.F (n+1) "_translate" [.str (jd s), .atom, .str [46]] (.list (.atom::tS (s.map dW))):=by
 refine O.RQ 9 x9 n9 k C (C) (C) (dP C) (λd code j=>OK λw w w=>C) λh B T p F l=>?_;have H:(jd s).length<=1000:=by unfold jd;rw [gw];exact pO 0 (.a (.v 1) (.n 1)) (.n 1000) (.v 0) (.n 100) (.v 0) (.n 100) (.v 0) (.n 100) (.v 1) (.m 3 (.v 0)) C [_,_] P P P (yD iu 3 s λa w=>J_ a)
 refine⟨[.t (.str (jd s)), .t .atom, .t (.str [46]), .t (.list (.atom::tS (s.map dW))), .un, .t (.int (jd s).length), .t (.int (jd s).length), .un, .un, .un, .un, .un, .un],L6 F 3 C (dP C) (λm=>?_) C ?_⟩
 .exact Bu (Xw (c:=(O.c h B T n p).re m) (gg:= .un) (fk:= .un) (ie:= .un) F H (e h ⟨B.star,m⟩ T p F l) i s [42] [.atom] (.t (.str [42])) .un .un C (by simp;exact bL 0 (.a (.n 1) (.v 0)) (.n 100000) (.v 0) (.n 100) C [_] P) x) λb c S r=>vg (vj 7 (vg (vj 8
   (vg (vj 9 (aP:= [.t (.str (jd s)), .t .atom, .t (.str [46]), .t (.list (.atom::tS (s.map dW))), .un, .t (.int (jd s).length), .t (.int (jd s).length),b,c,S, .un, .un, .un]) (zx (L8 F 3 4 C C C (dP C)) (zx (z2 F 5 6 5 6 C (dP C) C (dP C) C C (zr (zi 0) (zr (Am F 13 C (zv F 0 C C) (dM (bh H (bx C))) C) cj C) C) C (C) C C C C) (zx (l5 (lX (zC (zv F 5 C C) (zv F 6 C C) (m4 (decide_eq_true (by unfold jd;simp))) C) (Xx (c:=(O.c h B T n p).re m) (pat:=jd s) (acc:= []) (i:=0) (a7:= .un) (a8:= .un) (a9:= .un) (gg:= .un) (fk:= .un) (ie:= .un) F H C (.inl C) (by simp)) r)) (zx (xe (zC (zv F 5 C C) (zv F 6 C C) (aQ J (beq_self_eq_true _)) C)) (Mm 3 C (LU 4 (gU (h8 (lW F 3 C C)))))))))) C)) C)) C
 .exact vo _
noncomputable def n4:U (af×dU):= [("pat", .local),("STAR", .local),("parts", .local),("object", .globalImplicit),("_translate", .globalImplicit),("_join_translated_parts", .globalImplicit)]
noncomputable def x4:U af:= ["pat", "STAR", "parts"]
theorem XY{f:ay}(b:O.D "translate" 4)(m:O.DC "_translate" 9 f)(l:O.D "_join_translated_parts" 10)(i:A_ O n f)(x:∀a,a<128->O.F n "escape" [.str [a]] (.str (jr a)))(s:U Y)(P:s.length<=100)(k:∀a∈s,a<128):
  O.F (n+2) "translate" [.str (jd s)] (.str (hU s)):=by
 refine O.fn 4 x4 n4 b C (C) (C) (dP C) (λd code j=>bind1 λw=>C) λo B T p F=>?_;have t:=yD dW 4 s λa w=>GK a;have e:uC [] [s.map dW]=hU s:=by
  unfold uC hU;rw [J6]
  by_cases h:s.map dW= []
  .rw [bB h,h];exact vt _ _ _
  .rw [bF h];simp
 have G:=XQ (n:=n) l [] [s.map dW] trivial (λq v=>by rw [cI.mp v];omega) (by simp [iw];exact bh P (bx C)) (by rw [e];have:=Lm s;omega);rw [e]at G;have Q:tS []++([s.map dW].map iw).flatten= .atom::tS (s.map dW):=by simp [iw]
 rw [Q]at G
 exact⟨[.t (.str (jd s)), .un, .un],Y8 F 1 3 C (e5 _ _) C (λH=>(vg (vj 1 (vg (vj 2 (zx (fu F 2 C (cY _) (kY F 4 C (zr (zv F 0 C C) (zr (zv F 1 C C) (zr (zs [46] (di ['.'])) cj C) C) C) (XX m i x s P k) C) C)
  (gU (h8 (kY F 5 C (zr (zv F 2 C C) (zr (zv F 1 C C) cj C) C) G C))))) C)) C)) C C C⟩
end
section
theorem Ym(F:Fm c.env n k r)(m i:Y)(G:r[m]?=J (x, .globalImplicit))(t:t7[i]?=J (x,v)):EE c n k g (.Name x p) g (.bO v):=
 ⟨λA f s Q h S O=>mV c.G S.1 S.ready.base (F.kn m G nofun) (c.bi i _ _ t).1 (c.bi i _ _ t).2 (F.kg m G) (O s f v (bU.refl s) (Le.refl _) S (.bO _))⟩
end
section
structure A9(y:Ly O):Prop where
 ex:∃d f,y.mg "_special_chars_map"=J (.ref d)/\(d==sysModules)=aA/\(∀{h},bN y.B.bI h->h.MapOf (intKind y.prog y.w) d f)/\∀a:Y,a<256->(a∉pX/\f a=ae)\/(a∈pX/\∃u,f a=J (.str (b3 [92,a]) u))
theorem VA{w:bV t}{X:b4}{a d:Y}{z:aq->aS ay}(p:dw F u)(e:a<128)(q:(d==sysModules)=aA)(L:∀{h},bN w.bI h->h.MapOf (intKind i X) d z)
  (n:(a∉pX/\z a=ae)\/(a∈pX/\∃H,z a=J (.str (b3 [92,a]) H)))(j:Den B f k (.str [a])):PO w (model i X) F B (call (.builtin "str.translate") [k, .ref d]) f (.str (jr a)):=by
 refine bZ (jo j) λo A=>?_;subst A;intro s Q G r O;have b:(z a=ae/\jr a= [a])\/(∃H,z a=J (.str (b3 (jr a)) H)/\(jr a).length=2):=by
  unfold jr;rcases n with⟨R,E⟩|⟨R,H,E⟩
  .exact(bF R).symm▸(.inl ⟨E,C⟩)
  .exact(bB R).symm▸(.inr (aM H E C))
 exact jH (ru Nm.plain PySem.F.entry_str_translate (Nm.check _ _ _ _ _ _ _ _ (AU _ _ _) (PySem.F.args_str_translate_2 _ _) (Xy e (L r.base) p.handled q b λx l T g=>(O _ _ _ (b5.keeps (t:=T) r g) (.str _ _)))))
noncomputable def n7:U (af×dU):= [("pattern", .local),("isinstance", .globalImplicit),("str", .globalImplicit),("_special_chars_map", .globalImplicit)]
noncomputable def x7:U af:= ["pattern"]
theorem XJ(k:O.D "escape" 7)(S:A9 O)(a:Y)(r:a<128):O.F (u+1) "escape" [.str [a]] (.str (jr a)):=by
 refine O.fn 7 x7 n7 k C (C) (C) (ek _) (λb code j=>bind1 λa=>C) λs B T p F=>t_ S.ex λd i m h L n=>⟨qV x7 [.str [a]],gU (dF (oX (ta:= .bool aa) (oZ F 1 9 C C (zr (zv F 0 C C) (zr (Ym F 2 10 C C) cj C) C) C λf y z=>?_) C λw=>C) (gU (h8 ?_)))⟩
 .refine iD z.DA λv t x R e=>?_;subst x;obtain rfl:=e.inv;exact Vn R
 .refine xj Nm PySem.F.type_str_translate (zv F 0 C C) (zr (Aj F 3 C m λw w=> .bO _) cj C) C C (aX _ _) C λf v y R z=>aG z.iy λH A q=>?_;subst A;obtain rfl:=q.inv;exact VA p r h L (n a (bh r (bx C))) R
end
noncomputable abbrev Xh(u:j4 ay):bE:={cls:= .none,data:= .fields u}
inductive mq(h:b8)(c P:ak):Prop
 |mk(o:bE)(vs:j4 ay)(file:af)(tf:fh)(flags:aq)(tg:fh)(SM:bu)(text:aq)(tt:fh)(e1:h.get? c=J o)(e2:o.cls= .type "code")(e3:o.data= .fields vs)(e4:vs[11]?=J (.ref P))(f3:vs.getD 11 .none= .ref P)(f4:vs.getD 18 .none= .str file tf)
  (f5:vs.getD 7 .none= .int flags tg)(f6:vs.getD 9 .none= .bool SM)(f7:vs.getD 10 .none= .int text tt)(f8:c≠P)
noncomputable def TabAt(h:b8)(X:ak)(u:j4 ay):Prop:=h.get? X=J (Xh u)/\TriplesOk u.toList
section
theorem mq.keeps(x:mq h c X)(k:∀b o,h.get? b=J o->L.get? b=J o):mq L c X:=by
 cases x with|mk o y i n a j m l d t Q e s v q B g r f=>exact .mk o y i n a j m l d (k _ _ t) Q e s v q B g r f
theorem mq.tab(x:mq h c X)(E:TabAt h X u):h.TableAt c X u:=by
 cases x with|mk o y _ _ _ _ _ _ _ t Q e s=>exact⟨(lG o y t Q e s),E.1⟩
theorem mq.code(x:mq h c X)(E:TabAt h X u):h.IsCode c X u:=by
 cases x with|mk o y i n a j m l d t Q e s v q B g r f=>exact⟨o,y,i,n,a,j,m,l,d,_,t,e,v,q,B,g,r,E.1,C,E.2,f⟩
end
noncomputable abbrev v9(name t:af)(params:Fc)(body:FuncBody)(scope:j5)(n:U (af×ak))(doc d i p:ay):bE:=
 {cls:= .type "function",data:= .func {name,qualname:=t,params,body,scope,globals:=mainGlobals,closure:=n,closureTuple:=p,code:=i,builtins:=builtinsNs,defaults:= .none,kwdefaults:= .none,annotations:=ae,pyModule:=d,doc}}
section
variable{s:aR}
theorem Ge(y:env.code= .ref c)(a:mq s.heap c X)(ht:TabAt s.heap X u)
  (O:∀i L R F,tB X s.heap L->s.heap.objs.size<=L.objs.size->TabAt L X F->(codeAmong b u.toList=ae->∃x,i= .ref x/\s.heap.objs.size<=x/\L.CodeRec i q)->Q i {s with heap:=L,toks:=R}):
  wpAny d o (functionCode env b f v q p m g) Q G s:=by
 cases n:codeAmong b u.toList with
 |some i=>exact wpAny_functionCode_hit y (a.code ht) n (O i s.heap s.toks u (λw w w e=>e) (ek _) ht (by rw [n];nofun))
 |none=>
  refine wpAny_functionCodeX y (a.code ht) (a.tab ht) n λx L R j h l w k t w=>O _ L R _ j (i3 (kD h l)) ⟨t.2,?_⟩ λw=>(i12 x C h k);have B:(u++#[rawInt b.line,rawInt b.col,vB x]).toList=u.toList++ [rawInt b.line,rawInt b.col, .ref x]:=by simp
  rw [B];exact TriplesOk_snoc _ _ _ _ ht.2
theorem T6(ah:closureFor u env=pure A)(aJ:env.globals=mainGlobals)(n:s.heap.Ns mainGlobals aH)(g:env.code= .ref aL)(f:mq s.heap aL X)(ht:TabAt s.heap X r)(S:mainGlobals≠X)(aB:s.heap.BuiltinsAt aH X)
  (h:∀i ai aj aC L R F,tB X s.heap L->s.heap.objs.size<=L.objs.size->TabAt L X F->(codeAmong d r.toList=ae->∃x,i= .ref x/\s.heap.objs.size<=x/\L.CodeRec i t)->
   ao (.ref L.objs.size) {s with heap:=L.push (v9 au t az m u A aj aC i ai),toks:=R}):
  wpAny aU aW (makeFunction au t az m u env [] [] [] d bg) ao aV s:=by
 rw [makeFunction_eq];simp only [List.zip_nil_right,List.filterMap_nil,List.isEmpty_nil,if_true,pure_bind];refine P8 aB λbq bA G l aZ Q P w E O=>?_;unfold makeTail;rw [ah,aJ];refine aF (bP ?_);cases A with
 |nil=>
  refine aF (bP (aF (Ge g f ht λi L R F j q c v=>?_)));have y:=n.extBut j S;refine aF (wpAny_builtinsFor y G l (j _ _ Q P) w E O (aF (ND y ?_)));cases m with
  |expr e=>exact aF (bP (rD (h i _ .none _ L R F j q c v) (by size_fits)))
  |stmts b=>
   dsimp only;cases aD:docOf b with
   |none=>exact aF (bP (rD (h i _ .none _ L R F j q c v) (by size_fits)))
   |some aE=>exact aF (xN (rD (h i _ _ _ L _ F j q c v) (by size_fits)))
 |cons p bz=>
  refine aF (wpAny_newTextTuple ?_);have a:∀B b o,s.heap.get? b=J o->(s.heap.push B).get? b=J o:=λB b o e=>eF _ e;refine aF (Ge g (f.keeps (a _)) ⟨a _ _ _ ht.1,ht.2⟩ λi L R F j q c v=>?_);have z:tB X s.heap L:=λb o aK e=>j b o aK (a _ b o e);have T:∀B:bE,s.heap.objs.size<=(s.heap.push B).objs.size:=λB=>by rw [jX];exact e5 _ _
  have k:codeAmong d r.toList=ae->∃x,i= .ref x/\s.heap.objs.size<=x/\L.CodeRec i t:=λp=>let⟨x,e,aO,b⟩:=v p;⟨x,e,bh (T _) aO,b⟩
  have y:=n.extBut z S;refine aF (wpAny_builtinsFor y G l (z _ _ Q P) w E O (aF (ND y ?_)));have H:=bh (T _) q;cases m with
  |expr e=>exact aF (bP (rD (h i _ .none _ L R F z H c k) (by size_fits)))
  |stmts b=>
   dsimp only;cases aD:docOf b with
   |none=>exact aF (bP (rD (h i _ .none _ L R F z H c k) (by size_fits)))
   |some aE=>exact aF (xN (rD (h i _ _ _ L _ F z H c k) (by size_fits)))
end
section
structure nv(B:bV O)(mg:af->aS ay)(c P:ak):Prop where
 tab:P∈B.tabs
 hd:∀{h},bN B.bI h->mq h c P
 at_:∀{h},B.inv h->∃ps,TabAt h P ps
 put:∀{h h'},B.inv h->(∀Q∈B.tabs,Q≠P->∀o,h.get? Q=J o->h'.get? Q=J o)->(∃ps,TabAt h' P ps)->B.inv h'
 ne:mainGlobals≠P
 bm:∀{h},bN B.bI h->h.BuiltinsAt mg P
theorem Gd(h:∀x∈f.names,x.2≠ .free):closureFor f env=pure []:=by
 simp only [closureFor]
 rw [forIn_yield_id [] (λx j c=>by
  obtain⟨u,e⟩:=x;have:(e==AH)=aA:=by simpa using h _ j
  simp only [this,Mw,if_false])]
 rfl
theorem IT{f:j5}{n:U (af×ak)}
  (bg:e6 B ah bz)(K:nv B ah aC X)(G:env.code= .ref aC)(r:closureFor f env=pure n)(au:gp env)(S:aN B aB aD F env aO aH aV aW aU s.heap)
  (g:∀i p j d L R a,bU s {s with heap:=L,toks:=R}->aN B aB aD F env aO aH aV aW aU L->L.get? a=J (v9 O t z body f n j d i p)->s.heap.get? a=ae->kH B s.heap L->
   ((∀u,TabAt s.heap X u->codeAmong aZ u.toList=ae)->∃x,i= .ref x/\s.heap.get? x=ae/\x≠a/\L.CodeRec i t)->Q (.ref a) {s with heap:=L,toks:=R}):
  wpAny (model bQ bW) bq (makeFunction O t z body f env [] [] [] aZ bA) Q bD s:=by
 refine bZ (K.at_ S.inv) λu A=>T6 r au.globals (bg.g S.base) G (K.hd S.base) A K.ne (K.bm S.base) λi p j d L R ai aj ao c az=>?_;have bM:=eM A.1;have m:∀b,b≠X->∀o,s.heap.get? b=J o->(L.push (v9 O t z body f n j d i p)).get? b=J o:=λb w o e=>eF _ (aj b o w e);have E:kH B s.heap (L.push (v9 O t z body f n j d i p)):=λb aE o e=>m b (λq=>aE (q▸K.tab)) o e;have fresh:s.heap.get? L.objs.size=ae:=by
  cases q:s.heap.get? L.objs.size with
  |none=>rfl
  |some o=>exact cg (eM q) (gW.mpr ao)
 refine g i p j d _ R _ (cu _ _ C) (S.grow E (K.put S.inv (λQ bK aJ o e=>m Q aJ o e) (aM ai (eF _ c.1) c.2)) (Le.refl _) λb o e=> .inl e) (eY _ C) fresh E λaK=>jq (az (aK u A)) λx e aL H=>(HF x e ?_ ?_ ?_)
 .cases q:s.heap.get? x with
  |none=>rfl
  |some o=>exact cg (eM q) (gW.mpr aL)
 .refine uc H λl k h y T v P=>?_;rw [e]at T;obtain rfl:=jZ T;exact fW (eM v)
 .exact uc H λl k h y T v P=>(B0 l k h y T (eF _ v) P)
theorem Iu{e:Fz}{T:cW}{k:Y}{g:U (AV ah)}{l r:af->aS ay}{c X:ak}{z:Fc}{f:j5}{n:U (af×ak)}{s:aR}{o:ay->aR->Prop}{Q:ay->aR->Prop}{H:af->aS ay}{h:Y->U ak}
  (G:e6 w l r)(K:nv w l c X)(y:T.code= .ref c)(v:closureFor f T=pure n)(q:defaultsOf z T=([], []))(E:gp T)(S:aN w B A e T x k g H h s.heap)
  (t:∀i p j d L R a,bU s {s with heap:=L,toks:=R}->aN w B A e T x k g H h L->L.get? a=J (v9 "<lambda>" (T.qual++ "<lambda>") z (.expr b) f n j d i p)->s.heap.get? a=ae->kH w s.heap L->Q (.ref a) {s with heap:=L,toks:=R}):
  wpAny (model aj ao) au (eval (.Lambda z b f az) T) Q o s:=by
 rw [arm_eval_Lambda,q];exact aF (bP (aF (gf (bP (IT G K y v E S λi p j d L R a u O m F P ai=>t i p j d L R a u O m F P)))))
end
section
open Builtin.Re
noncomputable def Bs:Y->Sre.M->aS Sre.M
 |0,_=>ae
 |u+1,H=>let b:=H.runFor reTurnSteps;if b.outcome.isSome then J b else Bs u b
noncomputable def G4:aS Sre.Outcome->bu
 |J .failed=>aa
 |_=>aA
noncomputable def wK(code:j4 Y)(l:j4 Y)(e:Y):bu:=(Bs 1000 (Sre.forSearch code l e 0 l.size aA)).any λH=>G4 H.outcome
theorem RC{o:aS Sre.Outcome}(h:G4 o=aa):o=J .failed:=by
 cases o with
 |none=>exact dg C h
 |some x=>cases x with
  |failed=>rfl
  |_=>exact dg C h
theorem WL:Slot "function" "__call__" "function.__call__":=
 .of (owner:= "function") (n:= "__call__") (by rw [j2,j0];kernel_rfl) (C) (C) (C)
  (by first|exact .inl (C)|exact .inr (C)) (by rw [j1];exact C)
theorem Dk:Slot "re.Pattern" "sub" "re.Pattern.sub":=
 .of (owner:= "re.Pattern") (n:= "sub") (by rw [j2,j0];kernel_rfl) (C) (C) (C)
  (by first|exact .inl (C)|exact .inr (C)) (by rw [j1];kernel_rfl)
theorem XA:typeOf (.builtin "re.Pattern.sub")=pure (.type "method_descriptor"):=by show builtinType _=_;rw [builtinType_eq_fast];kernel_rfl
theorem QG:entryFor table "re.Pattern.sub"=J Builtin.«re.Pattern.sub»:=AS (C)
theorem QF:entryFor table "re.Pattern.sub.loop"=J Builtin.«re.Pattern.sub.loop»:=AS (C)
theorem Ox(a b d:ay):argsOk "re.Pattern.sub" ⟨[a,b,d], []⟩:=by unfold argsOk;kernel_rfl
section
variable{prog:ck}{w:b4}{A:cZ}{E:ay->aR->Prop}
theorem GA:∀(u t:Y)(H:Sre.M),u<=t->Bs u H=J b->Q b s->wpAny (model prog w) A (reDrive t H) Q E s
 |0,_,_,_,h,_=>aT C h
 |u+1,0,_,v,_,_=>by omega
 |u+1,t+1,H,v,h,k=>by
  have h: @ite _ _ _ _ _=J _:=h;show wpAny _ _ (@ite _ _ _ _ _) _ _ _
  split
  .rename_i q;rw [bB q]at h;exact bf h▸(bP k)
  .rename_i q;rw [bF q]at h;exact aF (xO (GA u t _ (tH ‹_›) h k))
theorem V4{z:Y->bu}{P:Y->String}:∀l:U Y,Q ⟨⟩ s->wpAny (model prog w) A (forIn l Nk λi h=>if z i=aa then do rule (P i);pure (tw Nk)else pure (tw Nk)) Q E s:=λf=>f.rec
 (λk=>by simp only [List.forIn_nil];exact bP k)
 (λi l X k=>by
  simp only [ZV];refine aF ?_
  split
  .exact aF (xO (bP (X k)))
  .exact bP (X k))
set_option tactic.hygienic true in
theorem V9{code:j4 Y}(h:wK code l e=aa)(k:a ae s):wpAny (model prog w) A (reRunToEnd (Sre.forSearch code l e 0 l.size aA)) a E s:=by
 obtain⟨H,L,Q⟩:=(aap _ _).mp h;exact aF (GA 1000 _ _ (aX _ _) L (aF (V4 _ ((RC Q).symm▸(bP k)))))
inductive rK(h:b8)(p:ak)(code:U Y)(groups:Y):Prop
 |mk(o:bE)(a b:ay)(d:fh)(e:ay)(ct:ak)(oc:bE)(n:Y)(h1:h.get? p=J o)(h2:o.cls= .type "re.Pattern")(h3:o.dict=ae)(h4:o.data= .fields #[a,b, .int groups d,e, .none, .ref ct, .int 0 0])(h5:h.get? ct=J oc)(h6:oc.data= .seq (code.map λ(x:Y)=>rawInt (x:aq)).toArray n)
theorem rK.keeps{p:ak}{code:U Y}{P:Y}(x:rK h p code P)(k:∀b o,h.get? b=J o->L.get? b=J o):rK L p code P:=by
 obtain⟨o,a,b,d,e,i,v,u,R,E,S,A,r,T⟩:=x;exact⟨o,a,b,d,e,i,v,u,k _ _ R,E,S,A,k _ _ r,T⟩
theorem LJ{code:U Y}{l:U Y}(X:rK s.heap p code P)(h:Q ⟨.ref p, .str (b3 l) e,code.toArray,l.toArray,0,P,0,l.length⟩ s):
  wpAny (model prog w) A (reWholeTarget (.ref p) (.str (b3 l) e)) Q E s:=by
 obtain⟨o,k,q,d,j,a,v,u,R,n,S,b,r,T⟩:=X;refine aF (wpAny_fieldsOf R b (aF (iL (a:=(l.toArray,0)) (by rfl) ?_)));dsimp only;refine aF (iL (by rfl) (aF (m:=reRawItems (.ref a)) (aF (AY r T (bP (bP ?_))))));have t:(((J (jY (λ(x:Y)=>rawInt (x)) code).toArray).getD #[]).map reRawOf).map (λx=>x.toNat)=code.toArray:=by
  show((code.map λ(x:Y)=>rawInt x).toArray.map reRawOf).map (λx=>x.toNat)=_;rw [Z2,Z2];exact aQ EL (code.rec C λx f i=>aQ (x::·) i)
 exact t.symm▸h
theorem TG{code:U Y}{l:U Y}{j:fh}{Q:ay->aR->Prop}(X:rK s.heap p code a)(b:wK code.toArray l.toArray a=aa)(d:l≠ [])(q:l.length<=100000)(B:s.heap.get? k=J (lo [] o))
  (h:∀L n T,tB k s.heap L->Q (.str (b3 l) n) {s with heap:=L,toks:=T}):
  wpAny (model prog w) A (Builtin.«re.Pattern.sub.loop» ⟨[.ref p, .str (b3 l) j, .ref z,rawInt 1,rawInt 0,rawInt 0,rawInt 0,rawInt 0, .bool aA, .ref k, .bool aA], []⟩) (λi m=>∃r,i= .done (.ret r)/\Q r m) E s:=by
 unfold Builtin.«re.Pattern.sub.loop»;refine aF (LJ X (aF (V9 (b) ?_)));dsimp only;rw [bB (show Ay 0<l.length from(ED.mpr d))];refine aF ?_;unfold reSlice;rw [show({cps:=l.toArray.extract (Ay 0) l.length}:af)=b3 l from by simp];refine tP (aF (wpAny_updateSeq B C ?_)) (by rw [str_len,jG];exact bh q (bx C));have v:∃f,(s.heap.update k (kE λx=>x.push (.str (b3 l) s.toks))).get? k=J (lo [.str (b3 l) s.toks] f):=by
  obtain⟨f,e⟩:∃f,kE (λx=>x.push (.str (b3 l) s.toks)) (lo [] o)=lo [.str (b3 l) s.toks] f:=⟨_,C⟩;exact⟨f,by rw [nQ _ B (C),e]⟩
 obtain⟨f,v⟩:=v;have H:gk k s.heap (s.heap.update k (kE λx=>x.push (.str (b3 l) s.toks))):=nf ..;generalize(s.heap.update k (kE λx=>x.push (.str (b3 l) s.toks)))=c at v H;rw [bB (show((0)==0)=aa from C),show({cps:=l.toArray.extract 0 0}:af)=b3 []from by simp];refine aF (tP (aF (AY v C (aF (aaA (ys:= [b3 l]) (items:= [Nt (b3 l) s.toks].toArray) (i12 _ v C ⟨f,C⟩) (.cons _ _ .nil) ?_ λt R=>?_)))) (mh _))
 .rw [str_len];simp [str_len];exact bh q (bx C)
 .rw [bF (Ek)];have e:Np (b3 []) [b3 l]=b3 l:=by
   have:=join_nil [l];simpa using this
  exact e.symm▸(bP (aM _ C (h c t R λg u P e=>(H.2 g P).trans e)))
theorem Xc{code:U Y}{P:Y}(X:rK s.heap p code P)(t:s.heap.get? z=J o)(y:o.cls= .type "function")(v:wK code.toArray l.toArray P=aa)(d:l≠ [])(j:l.length<=100000)
  (k:∀L n T,bN s.heap L->Q (.str (b3 l) n) {s with heap:=L,toks:=T}):wpAny (model prog w) A (call (.builtin "re.Pattern.sub") [.ref p, .ref z, .str (b3 l) u]) Q E s:=by
 refine jH (ru Dk.plain QG (Dk.check _ _ _ _ _ _ _ _ (by obtain⟨o,H,b,B,e,S,c,O,R,i,_⟩:=X;exact(aM o R i)) (Ox _ _ _) ?_));unfold Builtin.«re.Pattern.sub»reSubstitute;refine aF (iL (a:= [J (.ref z),J (.str (b3 l) u),ae]) (C) ?_);dsimp only;refine aF (bP (aF (AZ (aM o t y) WL.lookup (aF (bP (aF (bP ?_)))))));dsimp only;refine aF (gf (LJ X (aF (aF (wpAny_isInstance (T:= "str") (b:=aA) (AU _ _ _) (by rw [j1];exact C) (bP (aF (Fb (bP ?_)))))))));have g:bN s.heap (s.heap.push (lo [] 0)):=bN.push _ _;refine⟨Em _ (by decide+kernel),E4 QF (j3 (Q:=λh m=>∃r,h= .done (.ret r)/\Q r m) (TG (s:={s with heap:=s.heap.push (lo [] 0)}) (X.keeps g) v d j (eY _ C) λL n T f=>?_) (λh m x=>by refine aG x λr e q=>?_;subst e;exact q) λa a x=>x)⟩;refine k L n T λb o e=>f b o (λq=>?_) (g b o e);subst q;exact cg (eM e) (nj _)
end
example: [42,63,91].all (λa=>wK #[14,14,4,1,1,9,0,64,0,1342177280,0,0,0,0,0,17,0,13,11,9,0,64,0,1342177280,0,0,0,0,0,17,1,1] #[a] 1)=aa:=by decide+kernel
end
section
open Builtin.Re
theorem Vj:PlainAttrs "re.Pattern":=
 ⟨(aM ("object.__getattribute__") (by rw [j2,j0];kernel_rfl) (C)),by rw [j2,j0];kernel_rfl⟩
section
theorem KV(u:dj e=aa)(h:wpAny (model i X) F (eval e env) (λv c=>wpAny (model i X) F (spliced (backTo b (starEach d env))) (λy x=>Q (v::y) x) G c) G s):
  wpAny (model i X) F (spliced (backTo b (starEach (e::d) env))) Q G s:=(mz (gq u)).symm▸(pn h)
theorem args_cons(u:dj e=aa)(h:wpAny (model i X) F (spliced (backTo b (starEach (e::d) env))) (λy m=>Q ⟨y, []⟩ m) G s):wpAny (model i X) F (evalArgs z aa (backTo b (starEach (e::d) env)) []) Q G s:=by
 rw [mz (gq u)]at h⊢;exact tN h
end
section
structure A7(y:Ly O):Prop where
 ex:∃p,y.mg "_twin_re_1"=J (.ref p)/\∀{h},bN y.B.bI h->rK h p [14,14,4,1,1,9,0,64,0,1342177280,0,0,0,0,0,17,0,13,11,9,0,64,0,1342177280,0,0,0,0,0,17,1,1] 1
theorem Uv:∀a∈ [42,63,91],wK #[14,14,4,1,1,9,0,64,0,1342177280,0,0,0,0,0,17,0,13,11,9,0,64,0,1342177280,0,0,0,0,0,17,1,1] #[a] 1=aa:=kC.mp (C)
theorem Xd(b:A7 O)(K:nv O.B O.mg e aD):A_ O ao (.ref e):=by
 intro u aL aj aH F h a r aZ B;refine aG b.ex λau m l=>?_;constructor;intro aU f bg Q G S i;obtain⟨E,H,x,S⟩:=S;obtain⟨o,_,_,_,_,_,_,_,R,s,k,_⟩:=l S.base;refine qq C (vo _) C Vj Dk XA (pN O.G E S.base (F.kn 15 C nofun) m (F.kg 15 C) (cR (aM o R s) (λc j=>by obtain rfl:=jZ j;exact(aM o R k)) (nS (C) (args_cons C (KV C (Iu O.G K h (Gd ?_) ?_ E S λy z w X L ah ai q t n az aB=>?_))))))
 .decide
 .rfl
 .refine KV C (cps λaC T=>?_);obtain⟨aE,p,aJ,aK,rfl,d⟩:=t.vars 9 "stuff" _ C B;refine T (eP (eH E t.ns p (rz (bZ (jo d) λaO A=>?_))) (F.eU (i:=9) C));subst A;refine Xc (l t.base) n C (Uv a r) (nofun) (c3 _) λaV aW v g=>?_;have P:=b5.keeps (t:=v) (t.ready) g;exact i _ f _ (q.trans P.same) (Le.refl _) ⟨E,H,x,t.step P⟩ (.str _ _)
end
end
section
set_option tactic.hygienic true
theorem BF:typeLookup (.type "function") "read"=pure ae:=by rw [j2,j0];kernel_rfl
theorem RT:typeLookup (.type "function") "__getattr__"=pure ae:=by rw [j2,j0];kernel_rfl
theorem w5:Slot "function" "__getattribute__" "object.__getattribute__":=
 .of (owner:= "object") (n:= "__getattribute__") (by rw [j2,j0];kernel_rfl) (C) (C) (C)
  (by first|exact .inl (C)|exact .inr (C)) (by rw [j1];exact C)
section
variable{os:OsState}
theorem VP(j:h.get? a=J ⟨.type "function",J n, .func f,z⟩)(L:h.Ns n H)(m:H "read"=J v)(k:Q (.done (.ret v)) ⟨h,P,d,E,os⟩):
  wpAny (model i X) F (Builtin.«object.__getattribute__» ⟨[.ref a, .str "read" R], []⟩) Q G ⟨h,P,d,E,os⟩:=by
 have t:(⟨h,P,d,E,os⟩:aR).TypeIs (.ref a) "function":=(aM _ j C);have q:=BF
 repeat(any_goals(first|assumption|(with_reducible refine ND L ?_;rw [m])|wp_step))
 trace_state
theorem VO(j:h.get? a=J ⟨.type "function",J n, .func f,z⟩)(L:h.Ns n H)(m:H "read"=J v)(u:handedIn v=aa)(k:Q v ⟨h,P,d,E,os⟩):
  wpAny (model i X) F (getAttrBy (.ref a) (.str "read" R) aa aA) Q G ⟨h,P,d,E,os⟩:=by
 have t:(⟨h,P,d,E,os⟩:aR).TypeIs (.ref a) "function":=(aM _ j C);have c:=w5.lookup;have e:=w5.bind (.ref a)
 repeat(any_goals(first|assumption|wp_step))
 exact ru w5.plain aaG (w5.check _ _ _ _ _ _ _ _ t (aaF _ _) (VP j L m (handed_on u k)))
theorem VM(j:h.get? a=J ⟨.type "function",J n, .func f,z⟩)(L:h.Ns n H)(m:H "read"=J v)(u:handedIn v=aa)(k:Q v ⟨h,P,d,E+1,os⟩):
  wpAny (model i X) F (getAttr (.ref a) "read") Q G ⟨h,P,d,E,os⟩:=aF (xN (VO j L m u k))
theorem VQ(j:h.get? a=J ⟨.type "function",J n, .func f,z⟩)(L:h.Ns n H)(m:H "read"=J v)(u:handedIn v=aa)(k:Q (v, []) ⟨h,P,d,E+1,os⟩):
  wpAny (model i X) F (getMethod (.ref a) "read" x) Q G ⟨h,P,d,E,os⟩:=by
 have t:(⟨h,P,d,E,os⟩:aR).TypeIs (.ref a) "function":=(aM _ j C);refine aF (AZ t w5.lookup ?_);show wpAny (model i X) F (if(Manifest.canonical "object.__getattribute__"!= "object.__getattribute__")=aa then _ else _) Q G _;exact aF (AZ t RT (aF (AZ t BF (aF (VM j L m u (bP k))))))
end
end
section
open Builtin Builtin.ObjectAttr
set_option tactic.hygienic true
theorem Di:Slot "function" "__setattr__" "object.__setattr__":=
 .of (owner:= "object") (n:= "__setattr__") (by rw [j2,j0];kernel_rfl) (C) (C) (C)
  (by first|exact .inl (C)|exact .inr (C)) (by rw [j1];exact C)
theorem T7:mroOf (.type "function")=pure [.type "function", .type "object"]:=by rw [mroOf_type];exact C
theorem RS:typeHasDict (.type "function")=aa:=C
section
theorem W0(j:s.heap.get? a=J ⟨.type "function",ae, .func f,z⟩)
  (k:∀L R,tB a s.heap L->L.get? a=J ⟨.type "function",J s.heap.objs.size, .func f,z⟩->(L.Ns s.heap.objs.size λx=>if x= "read"then J v else ae)->Q (.done (.ret .none)) {s with heap:=L,toks:=R}):
  wpAny (model d X) F (Builtin.«object.__setattr__» ⟨[.ref a, .str "read" R,v], []⟩) Q G s:=by
 rw [osa_eq,refuse_eq];refine aF (aF (NH (aM _ j C) (aF (iL T7 (bP (aF (NH (aM _ j C) (aF (iL BF (aF (iL (by rfl) (aF (iL (a:=()) (C) (aF (m:=ownDictForStores (.ref a)) ?_))))))))))))));show wpAny _ _ (instanceDict a aa) _ _ _;refine aF (Fa j ?_);dsimp only;rw [RS];refine aF (wpAny_alloc ?_);have h:(s.heap.push emptyDict).get? a=J ⟨.type "function",ae, .func f,z⟩:=eF _ j;have g:=tJ (eM j);refine aF (wpAny_update h ?_);have T:=nQ (λo=>{cls:=o.cls,dict:=J s.heap.objs.size,data:=o.data,slots:=o.slots}) h C;have n:gk a (s.heap.push emptyDict) ((s.heap.push emptyDict).update a λo=>{cls:=o.cls,dict:=J s.heap.objs.size,data:=o.data,slots:=o.slots}):=nf ..;have l:=(n.2 _ g).trans (eY _ C);have t:∀b o,b≠a->s.heap.get? b=J o->((s.heap.push emptyDict).update a λo=>{cls:=o.cls,dict:=J s.heap.objs.size,data:=o.data,slots:=o.slots}).get? b=J o:=λb o P e=>(n.2 b P).trans (eF _ e);generalize((s.heap.push emptyDict).update a λo=>{cls:=o.cls,dict:=J s.heap.objs.size,data:=o.data,slots:=o.slots})=c at T l t;refine iL (C) ?_;dsimp only;refine aF (iL (a:=()) (C) (aF (aF (aF (wpAny_askSetting (bP (aF (xN (aF (Fa l ?_))))))))));dsimp only;have e:=putName_dict "read" (qo X.params "read") (.str "read" s.toks) v [] 0;have i:(c.update s.heap.objs.size (Nj "read" (qo X.params "read") (.str "read" s.toks) v)).get? s.heap.objs.size=J (dictOf [⟨qo X.params "read", .str "read" s.toks,v⟩] (putN "read" [] 0)):=by
  rw [nQ _ l (C)];exact aQ J e
 have m:gk s.heap.objs.size c (c.update s.heap.objs.size (Nj "read" (qo X.params "read") (.str "read" s.toks) v)):=nf ..;refine NI l (aF (wpAny_lookBehind i (pastItsLine_dict (by exact c3 _)) (bP (k _ _ (λb o P e=>(m.2 b λq=>?_).trans (t b o P e)) ((m.2 a g.symm).trans T) (mQ _ _ _ i C (λe u=>?_) (λx=>?_))))))
 .subst q;exact cg (eM e) (nj _)
 .simp only [Z8,cI]at u;subst u;exact(cu _ _ C)
 .unfold nsFind findBy
  by_cases q:x= "read"
  .subst q;exact C
  .have:((Str.ofString "read")==x)=aA:=by rw [beq_eq_false_iff_ne];exact jk q
   simp [Value.isStr,q,this]
theorem WX(j:s.heap.get? a=J ⟨.type "function",ae, .func f,z⟩)
  (k:∀L R,tB a s.heap L->L.get? a=J ⟨.type "function",J s.heap.objs.size, .func f,z⟩->(L.Ns s.heap.objs.size λx=>if x= "read"then J v else ae)->Q () {s with heap:=L,toks:=R}):
  wpAny (model i X) F (setAttr (.ref a) "read" v) Q G s:=by
 have t:s.TypeIs (.ref a) "function":=(aM _ j C);exact aF (xN (aF (aaV t Di (jH (ru Di.plain aaJ.entry (Di.check _ _ _ _ _ _ _ _ t (aaJ.args _ _ _) (W0 j λL R h p q=>(bP (k L R h p q)))))))))
end
end
noncomputable def UC:U (af×dU):= [("size", .local),("at", .free),("octets", .free),("bytes", .globalImplicit)]
noncomputable def xR:U af:= ["size", "octets", "at"]
noncomputable def nT(l:U Y):U T:=l.map λi:Y=> .int (i:aq)
theorem HV:∀{l:U Y}{y:U ay},aY B f y (nT l)->IntsAre y (l.map λi:Y=>(i))
 | [],_,d=>d.g6 (P:=λy=>IntsAre y []) .nil
 |_::_,_,d=>d.iO (P:=λy=>IntsAre y _) λw T a b=>a.gh (P:=λv=>IntsAre (v::T) _) λE=> .cons _ E (HV b)
theorem jI.ou{y:U ay}{l:U Y}(h:jI y l):aY ρ fz y (nT l):=jI.rec .nil (λw i=> .cons (.int _ _) i) h
theorem jI.of:∀{l:U Y}{y:U ay},aY B f y (nT l)->jI y l
 | [],_,d=>d.g6 (P:=λy=>jI y []) .nil
 |_::_,_,d=>d.iO (P:=λy=>jI y _) λw T a b=>a.gh (P:=λv=>jI (v::T) _) λw=> .cons (jI.of b)
noncomputable def i7(l:U Y):j4 UInt8:=byteArr (l.map λi:Y=>(i:aq))
section
theorem YZ(F:Fm c.env h k r)(m:Y)(G:r[m]?=J (("bytes":af), .globalImplicit))(j:EE c h k ai e u (.list (nT l)))(az:∀i∈l,i<256)(q:l.length<=1000)(P:dj e=aa):
  SP c h k ai (.Return (J (.Call (.Name "bytes" p) [e] [] o)) o) λd A=>∃E,d=u/\A= .ret (.bO (.bytes (i7 l) E)):=by
 constructor;intro aL bz aW aZ bq aO S O;have a:∀B∈ [e],∀x p,B≠ .Starred x p:=λB f=>by rw [cI.mp f];exact gq P
 refine bR (c.bi 8 "bytes" (.type "bytes") C) λg R=>Ny (kG (mV c.G S.1 S.ready.base (F.kn m G nofun) g R (F.kg m G) (E2 (jS [e] a) (jm a (pH j.1 kM (gq P)) S λbA w y H X t z=>?_))));obtain⟨v,y,rfl,L,s⟩:=z.iO (P:=λah=>∃v T,ah=v::T/\Den _ _ v _/\aY _ _ T _) λv T x aj=>⟨v,T,C,x,aj⟩;obtain rfl:=s.g6 C;refine gZ (mH L) λbg y n ao au b=>?_;subst ao;refine call_bytes_ints (fL t.ready.bC au) (HV b) (λn Q=>?_) ?_ c.R.handled λaU E k aC=>?_
 .refine aG (eZ.mp Q) λi aD aE=>?_;subst aE;have:=az i aD;exact⟨iY.mpr (f_ (.n 0) (.v 0) C [_]),kB.mpr (this)⟩
 .rw [b.length,jG];simp [nT];exact bh q (bx C)
 .obtain⟨aB,aJ,aH,aK⟩:=t;exact O _ w (.ret (.bytes (i7 l) E)) u (.ret (.bO (.bytes (i7 l) E))) (aM E C C) (H.trans (cu _ _ C)) X ⟨aB,aJ,aH,aK.uv aC (Le.refl _) λbD aV e=> .inl e⟩ (.bO _)
end
section
variable{n:Y}
theorem OF(k n:Y):lC .Add (.int k) (.int n)=J (.int (k+n:Y)):=C
theorem subNat(k n:Y):iC .Sub (.int (k+n:Y)) (.int n)=J (.int k):=by
 have:((k+n):aq)-(n)=(k):=by omega
 show J (T.int _)=_;exact this.symm▸C
theorem VN(F:Fm c.env xR 1 UC)(h:∀i∈u,i<256)(g:k+n<=u.length)(B:u.length<=1000):
  XP c xR 1 [.t (.int n), .t (.list (nT u)), .own [.int k]] (cQ sQ) λS j=>∃t,j= .ret (.bO (.bytes (i7 ((u.drop k).take n)) t))/\S= [.t (.int n), .t (.list (nT u)), .own [.int (k+n:Y)]]:=by
 have f:cut (J ((k):aq)) (J ((k+n:Y))) (nT u)=nT ((u.drop k).take n):=by
  rw [Gj,MP,show k+n-k=n by exact fV (bL 0 (.v 2) (.v 1) (.a (.v 2) (.v 0)) (.a (.v 0) (.v 1)) C [_,_,_] ((lM (f_ (.v 0) (.a (.v 0) (.v 1)) C [_,_])))) (bL 0 (.v 1) (.v 2) (.a (.v 0) (.v 1)) (.a (.v 2) (.v 0)) C [_,_,_] nE)];unfold nT;rw [AF,M4]
 refine⟨Ae (DN F 2 C C (zi 0) C C (zv F 0 C C) C (τ:= .int (k+n:Y)) (OF k n) C C (λw w w=>C)).1 (w_ (YZ F 3 C (l:=(u.drop k).take n) (sW (jV (zv F 1 C C) (ji (dI (sY F 2 C C (rf 0) C C) (zv F 0 C C) (subNat k n))) (ji (sY F 2 C C (rf 0) C C)) (sN (by simp [nT];exact bh B (bx C)) f)) C) (λi z=>h i (Z4 (ri z))) (by simp;exact ki 0 (.v 3) (.n 1000) (.a (.v 0) (.v 1)) (.v 2) (.v 2) (.n 1000) (.v 3) (.v 1) C [_,_,_,_] g B qX) C).1 λe j q=>?_)⟩;obtain⟨t,rfl,rfl⟩:=q;exact .inr ⟨nofun,t,C,C⟩
end
theorem fX.put(S:fX l n O)(i:Y){X x:bE->Prop}{h:bE}(z:l[i]?=J (a,X))(k:∀b∈O,b≠a->∀o,n.get? b=J o->L.get? b=J o)(v:L.get? a=J h)(H:x h):fX (l.set i (a,x)) L O:=by
 have e:∀{m:Y}{w:ak×(bE->Prop)},l[m]?=J w->O[m]?=J w.1:=λs=>S.ad▸(gD.trans (aQ _ s));refine⟨λw s=>?_,S.ad.trans ?_,S.nd⟩
 .refine bZ (o8 s) λm G=>?_
  by_cases q:i=m
  .subst q;exact bf ((qi (cw.mp z).1).symm.trans G)▸(aM h v H)
  .have G:=(k9 q).symm.trans G;exact aG (S.dH w (cA G)) λo Q p=>(aM o (k w.1 (cA (e G)) (λr=>q (oJ S.nd (e z) ((e G).trans (aQ J r)))) o Q) p)
 .refine MQ λm=>?_;rw [gD,gD]
  by_cases q:i=m
  .subst q;rw [z,qi (cw.mp z).1];rfl
  .rw [k9 q]
noncomputable def wU(f:tQ)(A a:ak):cW:=newEnv f.scope A f.globals f.closure (f.qualname++ ".<locals>.") (J a) f.code ae f.builtins
structure x8(st d rd c1 a c2 oc cc:ak)(bs:U Y)(k:Y)(h:b8)(fd:tQ)(sl:j4 (aS ay))(vs:U ay)(nn:Y):Prop where
 rd:h.get? rd=J ⟨.type "function",ae, .func fd,sl⟩
 R:Fo fd c1 c2 cc
 q:fd.qualname= "_law_stream.<locals>._law_read"
 c1:h.IsCell c1 (J (.ref a))
 a:∃t n,h.get? a=J (lo [.int (k:aq) t] n)
 c2:h.IsCell c2 (J (.ref oc))
 oc:h.get? oc=J (lo vs nn)
 vs:jI vs bs
 cd:h.CodeRec fd.code fd.qualname
section
variable{st:ak}
theorem W4(o:fX (u3 st d P n a H v L u k) e O):∃f z y h,x8 st d P n a H v L u k e f z y h:=by
 refine aG (o.dH _ (cN 2 C)) λw S x=>?_;obtain⟨f,z,rfl,p,q⟩:=x;refine aG (o.dH _ (cN 4 C)) λw r x=>?_;obtain⟨E,i,rfl⟩:=x;refine aG (o.dH _ (cN 6 C)) λw c x=>?_;obtain⟨y,h,rfl,Q⟩:=x;refine aG (o.dH _ (cN 7 C)) λb X x=>?_;obtain⟨s,l,j,m⟩:=x;exact⟨f,z,y,h,S,p,q,o.dH _ (cN 3 C),(cu E i r),o.dH _ (cN 5 C),c,Q,L,b,s,l,p.code,X,j,q▸m⟩
end
structure qv(en:cW)(c1 c2:ak):Prop where
 k0:en.kindOf "size"=J .local
 k1:en.kindOf "octets"=J .free
 k2:en.kindOf "at"=J .free
 l1:en.cells.lookup ("octets":af)=J c2
 l2:en.cells.lookup ("at":af)=J c1
section
theorem qv.n1(G:qv p n H):p.kindOf "octets"≠J .local:=λq=>nc mj (bf (G.k1.symm.trans q)) C
theorem qv.n2(G:qv p n H):p.kindOf "at"≠J .local:=λq=>nomatch G.k2.symm.trans q
theorem qv.qD(G:qv p n H){X:Prop}(j:xR[i]?=J x)(v:p.kindOf x≠J .local)(y:p.cells.lookup x=J b)(R:i=1->b=H->X)(E:i=2->b=n->X):X:=
 match i,j with
 |0,j=>cg G.k0 (bf j▸v)
 |1,j=>R C (bf ((bf j▸y).symm.trans G.l1))
 |2,j=>E C (bf ((bf j▸y).symm.trans G.l2))
 |_+3,j=>aT C j
end
section
variable{B:bV Ob}{s:aR}{st:ak}{n:Y}
theorem WT(r:Ready B d s)(aH:fX (u3 st cz b_ k a H m b7 aB aj) s.heap fp)(F:∀b∈fp,d b=ae/\B.bI.get? b=ae/\b∉B.tabs)(f:x8 st cz b_ k a H m b7 aB aj s.heap cO c_ ah ai)(G:qv A k H)(E:s.heap.get? A.locals=ae)
  (bA:aC.Ns A.locals aL)(bK:aL "size"=J (.int n t))(g:bN s.heap aC):
  aN B cK ⟨rZ B.tabs a s.heap, [],kO d m (lo ah ai), []⟩ (kO d m (lo ah ai)) A xR 1 [.t (.int n), .t (.list (nT aB)), .own [.int aj]] aL (λi=>if i=2 then [a]else []) aC:=by
 have ad:=aH.ad.symm;subst ad;have T:=aH.nd;have S:=F k (cN 3 C);have O:=F a (cN 4 C);have Q:=F H (cN 5 C);have az:k≠a:=oH T 3 4 C C C;have aV:H≠a:=oH T 5 4 C C C;have aJ:H≠k:=oH T 5 3 C C C;refine aG f.c1 λaZ c bz=>aG f.c2 λbM P aW=>jP f.a λbD bQ aD=>?_;have aE:∀b o,kO d m (lo ah ai) b=J o->s.heap.get? b=J o:=λb o e=>qO e (λq u=>q▸u▸f.oc) (r.bC b o);have R:∀{i b},b∈(if i=2 then [a]else [])->i=2/\b=a:=λ{i b}h=>by
  split at h
  .exact⟨‹_›,cI.mp h⟩
  .exact nomatch h
 exact{
     len:=C
     base:=λb o e=>g b o (r.base b o e)
     kept:=λb o e=>g b o (HA e)
     bC:=λb o e=>g b o (aE b o e)
     ns:=bA
     nL:=⟨So E,(jR λx e=>aT E (aE _ x e))⟩
     fB:=λb o e=>r3 (r.base b o e) (λq=>aT (r.iH b q) e) (fT O.2.1 e)
     vars:=λi x cE j L=>match i,j with
      |0,j=>bf j▸bf L▸⟨_, .inl ⟨G.k0,C⟩,C,_,bK, .int _ _⟩
      |1,j=>bf j▸bf L▸⟨_, .inr ⟨.inr ⟨G.k1,C⟩,H,G.l1,bM,g _ _ P,aW⟩,C,_,C, .list pI f.vs.ou⟩
      |2,j=>bf j▸bf L▸⟨_, .inr ⟨.inr ⟨G.k2,C⟩,k,G.l2,aZ,g _ _ c,bz⟩,a, [.int aj bD],bQ,C,g _ _ aD, .cons (.int _ _) .nil,C⟩
      |_+3,j=>aT C j
     own:=λi x ao z j v y=>G.qD j v y (λq w=>cg (q▸z) (nj 1)) λq w=>cg (q▸z) (Nat.not_lt_of_le (bx C))
     iN:=λi x ao z j y v=>G.qD j v y (λw q=>⟨_,q▸r3 P Q.2.2 aV⟩) λw q=>⟨_,q▸r3 c S.2.2 az⟩
     cell:=λi x ao j v y=>G.qD j v y (λw q=>q▸⟨fT E P,(oD (oH T 5 6 C C C) Q.1)⟩) λw q=>q▸⟨fT E c,(oD (oH T 3 6 C C C) S.1)⟩
     pF:=λi x z j=>match i,j,z with
      |1,j,_=>bf j▸G.n1
      |2,j,_=>bf j▸G.n2
      |_+3,j,_=>aT C j
     inj:=λi p x c9 ao j aO bg aK bY aU=>G.qD j bg bY (λe q=>G.qD aO aK aU (λau w=>e.trans au.symm) λw u=>cg (q.symm.trans u) aJ) λe q=>G.qD aO aK aU (λw u=>cg (u.symm.trans q) aJ) λau w=>e.trans au.symm
     nodup:=λi p x z bW=>oJ (by decide) z bW
     fp:=λi w b h=>(R h).2.symm▸(jt Sn (oD (oH T 4 6 C C C) O.1) (fT E aD) (λp x j v y=>G.qD j v y (λw q=>aV q.symm) λw q=>az q.symm))
     inv:=B.e8 r.inv λX w o e=>g X o e
     tab:=λX l=>(j_ (Sp l) (oD (λq=>(F m (cN 6 C)).2.2 (q▸l)) (r.lS X l)) (λq=>aT E (aar (q▸B.live r.inv X l))) (λp x j v y=>G.qD j v y (λw q=>Q.2.2 (q▸l)) λw q=>S.2.2 (q▸l)) (λi w q=>O.2.2 ((R q).2▸l)))
     dc:=λb h=>nomatch h
     new:=λb o e=> .inl e
     lock:=λcV cv=>nomatch cv
     apart:=λi p w w cB b h bq=>cB ((R h).1.trans (R bq).1.symm)}
theorem VL(T:x8 st d P c1 a H v e u k s.heap f z y h):qv (wU f L P) c1 H:=by
 have k:∀{x q},(d5 sQ).names.lookup x=q->(wU f L P).kindOf x=q:=((aQ (λc:j5=>c.names.lookup _) T.R.scope).trans);have l:∀{x q},([(("octets"),H),(("at"),c1)]:U (af×ak)).lookup x=q->(wU f L P).cells.lookup x=q:=((aQ (List.lookup _) T.R.mC).trans);exact⟨k (C),k (C),k (C),l C,l C⟩
theorem VT{y:Ly Ob}(B:dw l (aH+1))(r:Ready y.B c s)(S:fX (u3 st d P h a v g L u k) s.heap O)(F:∀b∈O,c b=ae/\y.B.bI.get? b=ae/\b∉y.B.tabs)(T:x8 st d P h a v g L u k s.heap f cO c9 bW)
  (t:∀aJ∈u,aJ<256)(bq:k+n<=u.length)(ah:u.length<=1000)
  (aB:∀m X,bU s m->(∀b,b∉O->b∉y.B.tabs->∀o,s.heap.get? b=J o->m.heap.get? b=J o)->y.B.inv m.heap->Le c m.heap.get?->fX (u3 st d P h a v g L u (k+n)) m.heap O->aL (.ok (.ret (.bytes (i7 ((u.drop k).take n)) X))) m):
  codeAny (model y.prog y.w) l (.call (.ref P) ⟨[.int n E], []⟩) aL s:=by
 have Q:=T.R.scope;refine aaR B.d T.rd C (Q▸C) (Q▸C) T.R.body T.cd ?_;have aj:bindArgs f ⟨[Nq n E], []⟩=pure [(("size":af),Nq n E)]:=(pD T.R.params T.R.PV _).trans C;rw [aj];refine bP (wpAny_newFunctionEnv (λx j=>?_) (λx j=>?_) (λai p H=>⟨(y.G.nolimit r.base).fresh _ H,codeAny_func ?_⟩) (Q▸C))
 .rw [Q]at j
  revert x;decide+kernel
 .rw [Q,cI.mp j];show(d5 sQ).names.lookup ("size":af)=_;decide+kernel
 generalize au:s.heap.objs.size=A at p H;have w:=au▸ir s;have G:=VL (L:=A) T;refine(VN (c:=y.c (l.deeper (wU f A P)) ⟨0,0⟩ (wU f A P) aH B.deeper) (jQ (C) ((aQ Scope.names Q).trans C)) t bq ah).1 _ _ _ _ _ C ⟨⟨(aQ Scope.kind Q).trans C,T.R.R6,T.R.OR⟩,_,_,(WT r S F T G w p C λb o e=>H.extBut b o (fT w e) (eF _ e))⟩ λm b7 cB dB bY aE q cE z d=>?_;obtain⟨X,rfl,rfl⟩:=aE;obtain⟨aK,rfl,R⟩:=d.rt;obtain rfl:=R.inv;clear d R;obtain⟨_,b_,cz,z⟩:=z;refine aB m X (bU.trans (cu ai _ C) q) (λb aO aU o e=>z.kept b o (r3 e aU λq=>aO (q▸S.ad▸cN 4 C))) z.inv (λb o e=>z.kept b o (r3 (r.bC b o e) (λq=>aT (r.lS b q) e) λq=>aT (F a (S.ad▸cN 4 C)).1 (q▸e))) ?_;obtain⟨az,aD,c_,dm,aV,aW,aC,bg,_⟩:=z.vars 2 "at" _ C C;have ad:=S.ad.symm;subst ad;obtain⟨cv,i,bz⟩:=T.c1;have i:=z.kept _ _ (r3 i (F h (cN 3 C)).2.2 (oH S.nd 3 4 C C C));have bA:az=J (.ref a):=by
  rcases aD with⟨q,_⟩|⟨_,cK,aZ,cV,bK,bD⟩
  .exact cg q G.n2
  .cases bf (G.l2.symm.trans aZ);cases bf (i.symm.trans bK);exact(Zu (bz.symm.trans bD)).symm
 have bM:=E3 (bf (bA.symm.trans aW));subst bM;obtain⟨aK,rfl,bQ⟩:=bg.iy;obtain⟨ao,rfl⟩:=qH bQ;exact S.put 4 C (λb t n o e=>z.kept b o (r3 e (F b t).2.2 n)) aC (cu ao aV C)
end
noncomputable abbrev Cx.y(c:Cx t):Ly t:=⟨c.B,c.prog,c.w,c.mg,c.mb,c.G,c.bi⟩
section
variable{K:Y}{st:ak}{n:Y}
theorem VS(l:bH c.B c.prog c.w cE)(ao:1<=c.n)(z:Fm c.env h K b7)(i:Y)(j:h[i]?=J x)(B:g[i]?=J (.obj (.bj st u k)))(ah:EP c h K g e (.int n))(P:dj e=aa)(bW:(L.endLine==q.line)=aa)
  (t:∀i∈u,i<256)(aH:k+n<=u.length)(w:u.length<=1000)(aE:SR c.B c.ρ A f c.env h K g s.heap)
  (O:∀m X,bU s m->SR c.B c.ρ A f c.env h K (g.set i (.obj (.bj st u (k+n)))) m.heap->Q (.bytes (i7 ((u.drop k).take n)) X) m):
  wpAny (model c.prog c.w) c.A (eval (.Call (.Attribute (.Name x a) "read" L) [e] [] q) c.env) Q G s:=by
 refine cps λbA T=>?_;obtain⟨E,H,R,y⟩:=aE;obtain⟨cz,p,cK,rfl,r⟩:=y.vars i x _ j B;refine T ?_;rw [l.ob]at r;obtain⟨ai,aj,o,au,az,aB,aC,aD,S⟩:=(r);subst ai;refine vX (W4 S) λb aJ c_ dm v=>?_;rw [arm_eval_Call,show attributeBase (.Name x a) "read" c.env (eval (.Name x a) c.env)=eval (.Name x a) c.env from C];refine aF (eP (eH E y.ns p (aF (nk ?_))) (z.eU j));unfold methodCall;rw [wD (jS (pos:=q) (env:=c.env) [e] (λcv aL=>by rw [cI.mp aL];exact gq P)) (bx C)];refine aF (gf (cps λbA T=>(aG (S.dH _ ee) λcB aO aU=>?_)));obtain⟨cO,cV,rfl⟩:=aU;refine aG (S.dH _ (dY _ ee)) λc9 aV aW=>T ?_;show wpAny _ _ (getMethod _ _ _) _ _ _;refine VQ aO (aW _ _ aV) (bB C) C (aF (iL (IV bW) (AR (fd:=b) (o:=⟨.type "function",ae, .func b,aJ⟩) ?_)));rw [(mz (gq P))];refine tN (pn (ah.1 A f {s with toks:=s.toks+1} _ _ ⟨E,H,R,y⟩ λaZ b_ bg=>(bZ (qH bg) λaK bz=>?_)));subst bz;refine rz (⟨⟨v.rd,C⟩,?_⟩);have F:=y.um (kh j);show wpAny (model c.prog c.w) c.A (call (.ref o) [.int n aK]) Q G {s with toks:=aZ};exact jH (VT (y:=c.y) (c.R.less ao) (aN.ready y) S F v t aH w λm X bD bq bM bK bQ=>(O m X (bU.trans (cu _ _ C) bD) ⟨E,H,_,y.oU j bq bM (Le.refl _) bK (λd bY e=> .inl e) p ⟨_,C,(l.ob.symm▸((⟨C,aj,o,au,az,aB,aC,aD,bQ⟩:vL st u (k+n) (.ref st) m.heap (R i))))⟩ λd t=>⟨.inl t,(F d t).1⟩⟩))
theorem Mg(p:bH c.B c.prog c.w az)(d:1<=c.n)(F:Fm c.env h K aC)(i m:Y)(r:h[i]?=J l)(B:g[i]?=J (.obj (.bj st u k)))(L:EP c h K g e (.int n))(aj:dj e=aa)(o:(x.endLine==b.line)=aa)
  (q:∀i∈u,i<256)(f:k+n<=u.length)(v:u.length<=1000)(s:h[m]?=J w)(a:m<K)(P:swapsWith (.Call (.Attribute (.Name l y) "read" x) [e] [] b) (J (.Name w H)) A.line c.env=pure aA):
  SP c h K g (.Assign [.Name w H] (.Call (.Attribute (.Name l y) "read" x) [e] [] b) A) λS T=>∃t,S=(g.set i (.obj (.bj st u (k+n)))).set m (.t (.bO (.bytes (i7 ((u.drop k).take n)) t)))/\T= .next:=by
 constructor;intro aB O aD aJ aL Q G R;refine kF (VS p d F i r B L aj o q f v G λaK X ai z=>?_) P;obtain⟨E,aE,aH,z⟩:=z;exact gc (av:= .t (.bO (.bytes (i7 ((u.drop k).take n)) X))) E Q z s a (F.loc s a) ⟨C,_,C, .bO _⟩ .nil λah ao au j=>R ah O .next _ .next (aM X C C) (ai.trans au) (Le.refl _) ⟨E,ao,_,j⟩ trivial
end
structure Inv(tabs:U ak)where
 I:b8->Prop
 live:∀{h},I h->∀P∈tabs,(h.get? P).isSome=aa
 of:∀{h h'},I h->(∀P∈tabs,∀o,h.get? P=J o->h'.get? P=J o)->I h'
noncomputable def bV.re(w:bV t)(G:Inv w.tabs):bV t:={w with inv:=G.I,live:=G.live,e8:=G.of}
section
theorem aN.re(S:aN w ρ A f env n k g H R h)(i:G.I h):aN (w.re G) ρ A f env n k g H R h:=
 {S with vars:=λi x F j d=>match S.vars i x F j d with|⟨s,a,c⟩=>⟨s,a,c⟩,inv:=i}
theorem e6.re(G:e6 w l r):e6 (w.re h) l r:=⟨G.g,G.b,G.nolimit⟩
end
section
theorem Ug(e:z.defaults= [])(a:z.kw_defaults= [])(r:annTrees z ae env= [])
  (i:wpAny g F (makeFunction O (qualnameIn env O O) z (.stmts h) f env [] [] [] b b.line) (λv m=>wpAny g F (storeName env O v) (λw k=>Q .next k) G m) G s):
  wpAny g F (exec (.FunctionDef O z h [] ae [] f ae O b) env) Q G s:=by
 rw [exec_def];refine aF (nk (aF (gf ?_)));rw [defaultsOf_eq,e,a,r];exact aF (bP (aF (gf (bP (gf (aF (bP (j3 i (λv m L=>aF (nk (aF (E8 (j3 L (λw w A=>bP A) λw w x=>x))))) λw w x=>x))))))))
end
noncomputable def UB:U (af×dU):= [("octets", .cell),("_law_read", .local),("stream", .local),("at", .cell)]
noncomputable def vd:U af:= ["octets", "_law_read", "stream", "at"]
theorem Xi(a:TabAt h X u)(b:TabAt h X e):u=e:=by
 have:=a.1.symm.trans b.1;injection this with this
 injection this with _ _ this _
 exact(Data.fields.inj this)
section
variable{B:bV Ob}{st:ak}
theorem W3(S:aN B cv A z env vd 4 s aW bz h)(n0:env.kindOf "octets"≠J .local)(l:env.kindOf "at"≠J .local)(l0:env.cells.lookup ("octets":af)=J H)(O:env.cells.lookup ("at":af)=J c1)(aC:s[0]?=J (.t (.bO (.ref w))))(aE:s[3]?=J (.own [.int 0]))
  (F:eT B A z env vd cz st)(d:h.get? st=J ⟨.type "function",bA, .func bW,bY⟩)(r:z P=J bM)(e:z L=J cB)(aU:P≠L)(hD:h.get? k=ae)(aZ:A.b P=ae)(aV:P∉B.tabs)(bq:A.b L=ae)(bg:L∉B.tabs):
  ∃a t u,h.get? a=J (lo [.int 0 t] u)/\h.IsCell c1 (J (.ref a))/\h.IsCell H (J (.ref w))/\(a≠st/\c1≠st/\H≠st)/\ [st,k,P,c1,a,H,L].Nodup/\∀b∈ [st,k,P,c1,a,H,L],A.b b=ae/\b∉B.tabs:=by
 refine cps λbQ T=>?_;obtain⟨bD,ah,a,b7,ai,rfl,E,aj,ao⟩:=S.vars 3 "at" _ C aE;obtain⟨bK,au,_,v,rfl,az⟩:=S.vars 0 "octets" _ C aC;refine aG aj.iy λb_ i aB=>?_;subst i;refine bZ (qH aB) λt i=>?_;subst i;have g:∀{x:af}{v:ay}{c:ak},env.kindOf x≠J .local->env.cells.lookup x=J c->dZ env aW h x (J v)->h.IsCell c (J v):=λu aD a=>a.elim (λq=>cg q.1 u) λ⟨_,_,y,aJ⟩=>bf (aD.symm.trans y)▸aJ;refine aG (g l O ah) λaK n aL=>aG (g n0 l0 au) λaO j aH=>T ?_;have o:a∈bz 3:=ao▸ .head _;have Q:=S.fp 3 (bx C) a o;have X:=S.cell 3 "at" c1 C l O;have R:=S.cell 0 "octets" H C n0 l0;have f:a≠st:=λq=>nc aaE (aQ Nh (bf (E.symm.trans ((aQ h.get? q).trans d)))) C;have G:c1≠st:=λq=>F.cell 3 "at" C l (q▸O);have m:H≠st:=λq=>F.cell 0 "octets" C n0 (q▸l0);refine(BY a t ai E (aM aK n aL) (aM aO j ((az.inv)▸aH)) (cR f G m) ?_ ?_)
 .exact .cons (bl (fT hD d) (bl (fT F.fz r).symm (bl G.symm (bl f.symm (bl m.symm (bl (fT F.fz e).symm dR))))))
   (.cons (bl (fT hD (S.bC _ _ r)).symm (bl (fT hD n).symm (bl (fT hD E).symm (bl (fT hD j).symm (bl (fT hD (S.bC _ _ e)).symm dR)))))
   (.cons (bl (fT X.2 r) (bl (fT Q.2.1 r) (bl (fT R.2 r) (bl aU dR))))
   (.cons (bl (λq=>Q.2.2.2 3 "at" C l (q▸O)) (bl (λq=>cg (S.inj 0 3 _ _ c1 C C n0 l (q▸l0) O) nofun) (bl (fT X.2 e).symm dR)))
   (.cons (bl (λq=>Q.2.2.2 0 "octets" C n0 (q▸l0)) (bl (fT Q.2.1 e).symm dR))
   (.cons (bl (fT R.2 e).symm dR) (.cons dR .nil))))))
 .exact bl ⟨F.hb,F.tab⟩ (bl ⟨jR λx p=>aT hD (S.kept _ _ p),λq=>aT hD (aar (B.live S.inv _ q))⟩ (bl ⟨aZ,aV⟩ (bl ⟨S.own 3 "at" _ (bx C) C l O,λq=>(S.tab _ q).2.2.2.1 3 "at" C l O⟩
   (bl ⟨Q.1,λq=>(S.tab _ q).2.2.2.2 3 (bx C) o⟩ (bl ⟨S.own 0 "octets" _ (bx C) C n0 l0,λq=>(S.tab _ q).2.2.2.1 0 "octets" C n0 l0⟩ (bl ⟨bq,bg⟩ dR))))))
end
section
variable{y:Ly Ob}{env:cW}
theorem W8(gv:dw au d6)(K:nv (y.B.re G) y.mg p8 aC)(aL:env.code= .ref p8)(o7:env.qual= "_law_stream.<locals>.")(F:Fm env vd 4 UB)(p9:SR y.B aW A eg env vd 4 [.t (.bO (.ref aj)), .un, .un, .un] l.heap)(r:A.lk= [])
  (az:A.b aj=J (lo aB bg))(bq:jI aB bA)(dX:∀{x},y.B.inv x->TabAt x aC #[]/\G.I x)
  (d8:∀m st d P n i H L,bU l m->(∀b o,A.b b=J o->m.heap.get? b=J o)->G.I m.heap->qy (u3 st d P n i H aj L bA 0) m.heap-> [st,d,P,n,i,H,L].Nodup->(∀b∈ [st,d,P,n,i,H,L],A.b b=ae/\b∉y.B.tabs)->bD (.ret (.ref st)) m):
  wpAny (model y.prog y.w) au (execs (cQ (bj 21)) env) bD D3 l:=by
 refine gN ((q_ (c:=y.c au aW env d6 gv) F 3 C (by decide) (o4 (zr (zi 0) cj C) C) C).1 A eg l _ _ r p9 λbW cz D_ cO Eb h d=>?_);obtain rfl:=d.nx;refine cps λw T=>?_;obtain⟨E,eu,D4,h⟩:=h;refine bR (dX h.inv) λfa ff=>?_;have h:=h.re ff;have fy:=F.kn 0 C nofun;have bQ:=F.kn 3 C nofun;have aK:env.kindOf "octets"≠J .local:=λq=>nc mj (bf (fy.symm.trans q)) C;have O:env.kindOf "at"≠J .local:=λq=>nc mj (bf (bQ.symm.trans q)) C;have ao:∀{s:af}{aZ:aS ay},env.kindOf s≠J .local->dZ env eu bW.heap s aZ->∃c,env.cells.lookup s=J c:=λu i=>i.elim (λq=>cg q.1 u) λ⟨_,c,bz,_⟩=>⟨c,bz⟩;refine bZ (match h.vars 0 "octets" _ C C with|⟨_,B,_⟩=>ao aK B) λH R=>bZ (match h.vars 3 "at" _ C C with|⟨_,B,_⟩=>ao O B) λn S=>T ?_;have bM:closureFor (d5 sQ) env=pure [(("octets":af),H),(("at"),n)]:=by
  refine(Bm (λp s6 Ea=>?_)).trans ?_
  .have:p.1= "octets"\/p.1= "at":=by revert p;decide+kernel
   exact this.elim (λq=>q.symm▸R.symm▸C) λq=>q.symm▸S.symm▸C
  .show pure [(("octets":af),(env.cells.lookup ("octets":af)).getD 0),(("at":af),(env.cells.lookup ("at":af)).getD 0)]=_;rw [S,R];rfl
 have bY:qualnameIn env "_law_read" "_law_read"= "_law_stream.<locals>._law_read":=by
  unfold qualnameIn;rw [F.kn 1 C nofun,o7];decide+kernel
 refine gN (Ug C C C (bY.symm▸IT (e6.re y.G) K aL bM E h λEc Eg s_ tn D5 D9 P b7 b_ cv Q cB cE=>(P5 (cE λD6 cK=>by rw [Xi cK fa];rfl) λL ah ai v cV=>(Bv cV λEd c9 c_ dm dB dJ dO dS=>?_))));cases E3 (ah.symm.trans dB);have f:=h.free Q;have g:=h.free ai;have j:=h.grow (fR:=kO (kO cz L c9) P _) cB b_.inv ((yG g.fz).trans (yG (oD v.symm f.fz))) λb o e=>qO e (λq X=>q▸X▸ .inr ⟨Q,cv⟩) λe=>qO e (λq X=>q▸X▸ .inr ⟨ai,dJ⟩) .inl;refine gc (av:= .t (.bO (.ref P))) (fp:= []) E r j (i:=1) C (by decide) (.inl (F.kn 1 C nofun)) ⟨C,_,C, .bO _⟩ .nil λZg Zj eE j=>gN (kF (Iu (e6.re y.G) K aL (Gd λs eK=>nomatch eK) C E j λvm vn xo Ar As D0 st bK aD eL eX D7=>?_) C);have k:=j.free eX;refine NG (F.kn 2 C nofun) aD.ns (λaH fx aJ=>?_) (E.kind.symm▸C);have z:=aD.C0 r (i:=2) (x:= "stream") C (F.kn 2 C nofun) fx aJ (av:= .t (.bO (.ref st))) (fp:= []) ⟨C,_,C, .bO _⟩ .nil;have aE:=(aJ.2 st k.loc).trans eL;refine cps λw T=>?_;obtain⟨Ef,gC,_,Eh,rfl,gJ⟩:=z.vars 1 "_law_read" _ C C;obtain⟨Zh,gK,_,Zk,rfl,gV⟩:=z.vars 2 "stream" _ C C;refine T ?_;have iz:=gJ.inv;have iK:=gV.inv;subst iz iK;refine cps λw T=>P9 (W3 z aK O R S C C k aE pI (wc v pI) v.symm (ir {l with heap:=aH}) f.hb f.tab g.hb g.tab) λi t u iX jj jW kA k6 k7=>?_;obtain⟨k8,fU,nM⟩:=kA;refine T (gN (vC (eP (eH E z.ns gC (eP (eH E z.ns gK (WX aE λnP D8 aO p6 p7=>(gN (Ny (eP (aaZ E.kind (F.kn 2 C nofun) (zD z.ns (aO _ · k.loc.symm)) (bB C) ?_) (C)))))) (C))) (C)) C));have a:∀{b o},aH.get? b=J o->b≠st->nP.get? b=J o:=λe u=>aO _ _ u e
 exact cps λw T=>i8 p7 λaU l6 qa qb qc=>aG jj λMs p_ qe=>aG jW λZi qd qf=>T (d8 _ st _ P n i H L (cO.trans (b7.trans (eE.trans (bK.trans (cu _ _ C))))) (λb o e=>a (z.kept b o e) (fT k.hb e)) (G.of z.inv λaC aV o e=>a e λq=>k.tab (q▸aV))
  (bl (aM _ p6 ⟨_,_,C⟩) (bl (aM aU qb (λx b e=>(kP aU l6 qa e qc))) (bl (aM _ (a (z.bC _ _ pI) (fT k.fz pI)) ⟨_,_,C,⟨C,C,C,C,C,C,ah,C,C⟩,C⟩) (bl (aM _ (a p_ fU) qe) (bl (aM _ (a iX k8) ⟨t,u,C⟩) (bl (aM _ (a qd nM) qf)
   (bl (aM _ (a (z.kept _ _ az) (fT k.hb az)) ⟨aB,bg,C,bq⟩) (bl (aM _ (a (z.bC _ _ (wc v pI)) (fT k.fz (wc v pI))) ⟨c_,dm,dO,dS⟩) dR)))))))) k6 k7)
end
section
variable{c:Cx Ob}
theorem W9(dX:bH c.B c.prog c.w jW)(cK:1<=c.n)(c9:c.y.DC "_law_stream" 21 (.ref f))(K:nv (c.B.re G) c.mg f X)(aB:∀{h},c.B.inv h->TabAt h X #[]/\G.I h)
  (F:Fm c.env a k d8)(q i l:Y)(bA:d8[q]?=J (("_law_stream":af), .globalImplicit))(j:a[i]?=J x)(bW:ai[i]?=J (.own (nT r)))(aH:a[l]?=J aV)(aW:l<k)
  (fU:swapsWith (.Call (.Name "_law_stream" bQ) [.Name x aO] [] bq) (J (.Name aV b7)) cz.line c.env=pure aA)(cB:A.lk= [])(cV:SR c.B c.ρ A ah c.env a k ai s.heap){aj:Flow->aR->Prop}
  (eu:∀m st,bU s m->SR (c.B.re G) c.ρ A ah c.env a k ((ai.set i .un).set l (.obj (.bj st r 0))) m.heap->aj .next m):
  wpAny (model c.prog c.w) c.A (exec (.Assign [.Name aV b7] (.Call (.Name "_law_stream" bQ) [.Name x aO] [] bq) cz) c.env) aj eX s:=by
 refine cps λ_ bM=>Bv c9 λaE o aJ aK cv aL Q cE=>?_;obtain⟨E,iX,R,y⟩:=cV;obtain⟨kA,d6,v,fa,ff,rfl,bg,fy,w⟩:=y.vars i x _ j bW;refine bM ?_;have B:=(cw.mp j).1;refine kF (kG (pN c.G E y.base (F.kn q bA nofun) cv (F.kg q bA) (AR (fd:=docDef "_law_stream" (gQ (bj 21)) (cQ (bj 21)) (d5 (bj 21)) aJ (.ref f) aK) (o:=o) ?_))) fU;have z:=mz (pos:=bq) (env:=c.env) (e:= .Name x aO) (es:= []) nofun;rw [z];refine tN (pn (eP (eH E y.ns d6 (rz ⟨⟨aL y.base,Q⟩,?_⟩)) (F.eU j)));show wpAny (model c.prog c.w) c.A (call (.ref aE) [.ref v]) _ eX s;have p:=y.fp i B v (by rw [w];exact Z7 v);have ao:v∉c.B.tabs:=λh=>(y.tab v h).2.2.2.2 i B (by rw [w];exact Z7 v);have au:=c.R.less cK;refine jH (Nu au.d (aL y.base) Q (c.G.nolimit y.base) (cE y.base) C (binds:= [(("octets":af),vB v)]) C C (λaz S=>?_) λb_ aC=>?_)
 .rw [cI.mp S];have aD:(d5 (bj 21)).names.lookup ("octets":af)=J .cell:=C;exact .inr ⟨aD,t8 _ _ [] (.inl aD)⟩
 refine W8 (y:=c.y) au.deeper K C (C) (jQ (C) C) (Dm (ρ:=c.ρ) (xs:=vd) (m9:= [.bO (.ref v)]) (vs:= [.ref v]) (fd:=docDef "_law_stream" (gQ (bj 21)) (cQ (bj 21)) (d5 (bj 21)) aJ (.ref f) aK) (a:=aE) (s:=s) (s₁:=b_) (kW (show wX (d5 (bj 21)) vd=aa by decide+kernel)) C C y.ready (.cons (.bO _) .nil) (dP C) aC) C (show(if v∈c.B.tabs then ae else s.heap.get? v)=J (lo fa ff)by exact(bF ao).trans bg) (jI.of fy) aB λm st d P n g H L c_ dm dB dJ dO dS=>?_;have aU:∀b∈ [st,d,P,n,g,H,L],s.heap.get? b=ae:=λb t=>bR (dS b t) λz eg=>z▸((bF eg).symm);refine dK aC.done λbY eE eK jj=>?_;have cO:=bU.trans (cu bY eE eK) c_;have aZ:=y.forget (i:=i);have u:=λb t=>aZ.free (aU b t);have fx:eT c.B A ah c.env a (bT R i []) v:=by
  refine⟨p.1,p.2.1,p.2.2.1,p.2.2.2,λT bz h=>?_,ao,y.b0 p.1⟩
  by_cases e:T=i
  .have e:bT R i [] T= []:=bB e;rw [e]at h;exact nomatch h
  .have q:bT R i [] T=R T:=bF e;exact y.apart i T B bz (jk e) v (w▸ .head _) (q▸h)
 have O:=bl (u st (cN 0 C)) (bl (u d (cN 1 C)) (bl (u P (cN 2 C)) (bl (u n (cN 3 C)) (bl (u g (cN 4 C)) (bl (u H (cN 5 C)) (bl fx (bl (u L (cN 6 C)) dR)))))));have bD:∀{b},b∈ [st,d,P,n,g,H,L]->b≠v:=λt h=>aT (h▸aU _ t) bg;refine gc (B:=c.B.re G) (av:= .obj (.bj st r 0)) (fp:= [st,d,P,n,g,H,v,L]) E cB ((aZ.re (aB y.inv).2).grow (h':=m.heap) (λb t o e=>dm b o (by show(if b∈c.B.tabs then ae else s.heap.get? b)=J o;exact(bF t).trans e)) dB (Le.refl _) λb o e=> .inl e) aH aW (F.loc aH aW) ⟨.ref st,C,?_⟩ ⟨λb t=>?_,λT bz gv b t=>(O b t).fp T gv,λX eL t=>(O X t).tab eL⟩ λgJ gK gC iz=>eu gJ st (cO.trans gC) ⟨E,gK,_,iz⟩
 .show c.B.ob.at_ _ _ _ _;rw [dX.ob];refine(⟨C,d,P,n,g,H,v,L,dJ,C,?_⟩:vL st r 0 (.ref st) m.heap [st,d,P,n,g,H,v,L]);have e: [st,d,P,n,g,H,L]= [st,d,P,n,g,H]++ [L]:=C;exact fF (gm.mp (e▸dO)) λgV iK bK=>(gm (l₁:= [st,d,P,n,g,H]) (l₂:= [v,L])).mpr (cR gV (.cons (bl (bD (cN 6 C)).symm dR) iK) (λx j az S=>(cC.mp S).elim (λq=>q.symm▸bD (e▸gx _ j)) (bK x j az)))
 .have:=O b t;exact(jt this.hb this.fz this.loc this.cell)
end
section
open PySem.Builtin
theorem Ov(a b:ay):argsOk "bytes.decode" ⟨[a,b], []⟩:=by
 unfold argsOk;rw [signature?_of (n:= ['e','d','o','c','e','d']) (C) FB.owner_bytes];kernel_rfl
noncomputable abbrev sd:af:=⟨[108,97,116,105,110,45,49].toArray⟩
section
theorem V0{id:String}:_codecs.decodeRoad id b sd ae []=(_codecs.runDecoder id _codecs.latin1Decoder ae aa b 0 []>>=λr=>mkStr ⟨r.1⟩):=C
theorem TX(q:∀id,_codecs.runDecoder id _codecs.latin1Decoder ae aa b 0 []=pure (x.cps,u)):
  Meets («_codecs.decode.text» ⟨[.bytes b E, .str sd n, .none, .str a t2], []⟩) (λw p s=>x.length<=sizeLine/\p (.ok (.ret (.str x s.toks))) {s with toks:=s.toks+1}):=by
 refine .of_wp λi X F p s d=>bR d λh e=>?_;show wpAny _ _ (Bytes.bytesLike _ (.bytes b E)>>=λr=>_) _ _ s;refine aF (iL KBd.like_eq (aF (iL KBd.held_eq ?_)));show wpAny _ _ (_codecs.decodeRoad _ b sd ae []>>=λv=>_) _ _ s;rw [V0,q];exact aF (aF (bP (tP (bP (aM _ C e)) h)))
theorem PM:«bytes.decode» ⟨[.bytes (c::o).toArray E, .str sd H], []⟩=(mkStr (aaL "utf-8")>>=λw=>mkStr sd>>=λe=>mkStr (aaL "bytes.decode")>>=λd=>
  call (.builtin "_codecs.decode.text") [.bytes (c::o).toArray E,e, .none,d]>>=λv=>ret v):=by kernel_rfl
theorem TV(q:∀id,_codecs.runDecoder id _codecs.latin1Decoder ae aa (c::o).toArray 0 []=pure (x.cps,u)):
  Meets («bytes.decode» ⟨[.bytes (c::o).toArray E, .str sd H], []⟩) (λw p s=>x.length<=sizeLine/\∀X k,p (.ok (.ret (.str x X))) {s with toks:=k}):=by
 refine .of_wp λi a F p s d=>bR d λe h=>?_;rw [PM];exact aF (tP (aF (tP (aF (tP (aF (call_function_meets KBd.kind_text KBd.plain_text KBd.entry_text (KBd.args_text _ _ _ _) (TX q) ⟨e,bP (aM _ C (h _ _))⟩)) (aX _ _))) (aX _ _))) (aX _ _))
theorem V5(a:UInt8)(id:String):_codecs.runDecoder id _codecs.latin1Decoder ae aa [a].toArray 0 []=pure (#[a.toNat],1):=by kernel_rfl
theorem V6(a b:UInt8)(id:String):_codecs.runDecoder id _codecs.latin1Decoder ae aa [a,b].toArray 0 []=pure (#[a.toNat,b.toNat],2):=by kernel_rfl
theorem V7(a b c:UInt8)(id:String):_codecs.runDecoder id _codecs.latin1Decoder ae aa [a,b,c].toArray 0 []=pure (#[a.toNat,b.toNat,c.toNat],3):=by kernel_rfl
theorem PR(q:∀id,_codecs.runDecoder id _codecs.latin1Decoder ae aa (c::o).toArray 0 []=pure (x.cps,u))(e:x.length<=16777216)(h:∀X k,Q (.str x X) {s with toks:=k}):
  wpAny (model i a) F (call (.builtin "bytes.decode") [.bytes (c::o).toArray E, .str sd H]) Q G s:=
 xJ ZB (Nx _ _ _) FB.entry_bytes_decode (Ov _ _) (TV q) ⟨by assumption,h⟩
theorem u8{i:Y}(h:i<256):((i:aq).toNat.toUInt8).toNat=i:=by
 rw [xu];show(UInt8.ofNat i).toNat=i;rw [UInt8.toNat_ofNat'];exact Nat.mod_eq_of_lt h
end
noncomputable def uL(l:U Y):U UInt8:=l.map λi:Y=>((i:aq).toNat.toUInt8)
theorem yh(l:U Y):i7 l=(uL l).toArray:=by unfold i7 byteArr uL;exact aQ _ d_
theorem V8(l:U Y)(h:∀i∈l,i<256)(R:1<=l.length)(S:l.length<=3)(id:String):_codecs.runDecoder id _codecs.latin1Decoder ae aa (uL l).toArray 0 []=pure (l.toArray,l.length):=by
 have A:∀u,u<3->l.length=u+1->_codecs.runDecoder id _codecs.latin1Decoder ae aa (uL l).toArray 0 []=pure (l.toArray,l.length):=oG
  (λe=>Cu (P:=λl=>(∀i∈l,i<256)->_codecs.runDecoder id _codecs.latin1Decoder ae aa (uL l).toArray 0 []=pure (l.toArray,l.length)) (λa h=>by have:=V5 ((a:aq).toNat.toUInt8) id;rw [u8 (h a (cN 0 C))]at this;exact this) l e h)
  (λe=>Cv (P:=λl=>(∀i∈l,i<256)->_codecs.runDecoder id _codecs.latin1Decoder ae aa (uL l).toArray 0 []=pure (l.toArray,l.length)) (λa b h=>by have:=V6 ((a:aq).toNat.toUInt8) ((b:aq).toNat.toUInt8) id;rw [u8 (h a (cN 0 C)),u8 (h b (cN 1 C))]at this;exact this) l e h)
  (λe=>qU (P:=λl=>(∀i∈l,i<256)->_codecs.runDecoder id _codecs.latin1Decoder ae aa (uL l).toArray 0 []=pure (l.toArray,l.length)) (λa b c h=>by have:=V7 ((a:aq).toNat.toUInt8) ((b:aq).toNat.toUInt8) ((c:aq).toNat.toUInt8) id;rw [u8 (h a (cN 0 C)),u8 (h b (cN 1 C)),u8 (h c (cN 2 C))]at this;exact this) l e h)
 exact A (l.length-1) (kD (Nat.sub_le_sub_right S 1) (bx C)) (xF R).symm
section
variable{c:Cx O}
theorem Yj(Q:EE c n k g o u (.bO (.bytes (i7 l) P)))(B:∀s∈l,s<256)(R:1<=l.length)(S:l.length<=3)(q:attributeBase o "decode" c.env (eval o c.env)=eval o c.env)(w:(X.endLine==b.line)=aa):
  EE c n k g (.Call (.Attribute o "decode" X) [.Constant (.str "latin-1") i p] [] b) u (.str l):=by
 have h:EE c n k u (.Constant (.str "latin-1") i p) u (.str [108,97,116,105,110,45,49]):=zs _ (C);refine⟨BB q (kS C) (dP C) w FB.plainAttrs_bytes ZB FB.type_bytes_decode Q.1 (zr h cj C).1 (λf v j r d=>?_) λf v y d z=>?_⟩
 .obtain rfl:=d.inv;exact⟨Nx _ _ _,λa e=>nc aaO e C⟩
 .obtain rfl:=d.inv;obtain⟨v,y,rfl,m,x⟩:=z.iO (P:=λA=>∃v T,A=v::T/\Den _ _ v _/\aY _ _ T _) λv T t O=>⟨v,T,C,t,O⟩;obtain rfl:=x.g6 C;obtain⟨ah,rfl⟩:=jo m;refine PO.give λj F G r E=>?_;have H:=V8 l B R S;have e:=yh l;rw [e];clear e h
  revert H B R S
  cases l with
  |nil=>intro _ R;exact cg R (by simp)
  |cons a l=>
   intro B R S H;exact PR (x:=⟨(a::l).toArray⟩) H (by show(a::l).toArray.size<=_;simp at S⊢;exact bh S (bx C)) λL k=>E _ _ (.str _ _)
theorem Yk(R:EE c n k g o u (.bO (.bytes (i7 [b]) E)))(t:b<256):EE c n k g (.Subscript o (.Constant (.int 0) kk p) v) u (.int b):=by
 constructor;intro A f s Q G S O;refine vA (R.1 A f s _ _ S λs₁ w m h X a j=>(zi 0).1 A w s₁ _ _ a λy q d r l F i=>?_);obtain rfl:=j.inv;refine bZ (qH i) λH x=>?_;subst x;refine tM (Nx _ _ _) FB.slot_bytes_getitem.lookup ?_ (u5 nofun);rw [yh];refine getItem_bytes (c3 _) (by decide) (by simp [uL]) ?_;have e:=u8 t;exact e.symm▸(O _ q _ ((h.trans r).trans (cu _ _ C)) (X.trans l) F (.int _ _))
theorem Yl(F:Fm c.env n k r)(m:Y)(G:r[m]?=J (("len":af), .globalImplicit))(h:EE c n k g e u (.bO (.bytes (i7 l) E)))(q:l.length<=1000)(P:dj e=aa):EE c n k g (.Call (.Name "len" p) [e] [] b) u (.int l.length):=by
 refine bR (c.bi 0 "len" (.builtin "len") C) λf R=>⟨GR c.G (F.kn m G nofun) f R (F.kg m G) (kS (by simp [P])) (zr h cj P).1 λs y z=>?_⟩;obtain⟨v,y,rfl,d,a⟩:=z.iO (P:=λA=>∃v T,A=v::T/\Den _ _ v _/\aY _ _ T _) λv T x i=>⟨v,T,C,x,i⟩;obtain rfl:=a.g6 C;obtain rfl:=d.inv;refine PO.give λj Q t o O=>?_;have e:(i7 l).size=l.length:=by rw [yh];exact cH _
 exact len_bytes (by rw [e];exact bh q (bx C)) (e.symm▸(O _ _ (.int _ _)))
theorem Yi(h:EE c n k g e u (.bO (.bytes (i7 l) E)))(B:1<=l.length)(a:l.length<=1000)(i:∀x,isTrue e c.env x=(do let v<-x;standAt e.pos;holding [v] (truthy v))):EC c n k g e u aa:=by
 constructor;intro A f s Q G S O;rw [i];refine aF (h.1 A f s _ _ S λb w j o X t d=>aF (nk (gf ?_)));obtain rfl:=d.inv;have e:(i7 l).size=l.length:=by rw [yh];exact cH _
 refine truthy_bytes (by rw [e];exact bh a (bx C)) ?_;have:(((i7 l).size:aq)!=0)=aa:=by rw [e];simp;intro q;rw [q]at B;contradiction
 exact this.symm▸(O _ w (o.trans (cu _ _ C)) X t)
end
end
noncomputable def Ly.FO(O:Ly t)(u:Y)(z:af)(o:t)(g:U T)(r:T)(i:t):Prop:=
 ∃a S f,O.mg z=J (.ref a)/\(∀{h},bN O.B.bI h->h.get? a=J S)/\S.data= .func f/\A0 O.B O.prog O.w u (.ref a) o g r i
section
variable{y:Ly Ob}{k:Y}{st:ak}{bs:U Y}
theorem yd(l:bH y.B y.prog y.w h){k i:Y}(a:y.B.ob.at_ (.bj st bs k) H e O)(b:y.B.ob.at_ (.bj st bs i) c L uh):c=H:=by
 rw [l.ob]at a b;have a:=a;have b:=b;rw [a.v,b.v]
theorem IP(k:y.D z i)(Q:wX (d5 (bj i)) xs=aa):∃a o d code j,y.mg z=J (.ref a)/\jJ y.B a o (docDef z (gQ (bj i)) (cQ (bj i)) (d5 (bj i)) d code j) (cQ (bj i)) xs:=GC k λa o d code j R E S A=>(SD a o d code j R ⟨E,S,A,C,C,kW Q,C,C⟩)
noncomputable def T_:U (af×dU):= [("f", .local),("data", .local),("ValueError", .globalImplicit)]
noncomputable def DH:U af:= ["f", "data"]
theorem LH(l:bH y.B y.prog y.w L)(h:y.D "read_uint1" 18)(P:∀m∈bs,m<256)(B:bs.length<=1000)(t:bs[k]?=J b):y.FO (u+2) "read_uint1" (.bj st bs k) [] (.int b) (.bj st bs (k+1)):=by
 refine GB (IP (xs:=DH) h (C)) λa o d code j R g=>(mQ a o _ R g.ho g.hd (eR.ob (qB y.G g (dP C) (.plain λe B=>?_) (λX R E=>?_) λ{i}f A s n p=>?_)))
 .exact bind1 (λa=>C) e B
 .refine bR X λq w=>?_;subst q;exact yd l R E
 .have F:Fm (callEnvC (docDef "read_uint1" (gQ (bj 18)) (cQ (bj 18)) (d5 (bj 18)) d code j) A a) DH DH.length T_:=jQ (C) C
  let c:=(y.up i f).c s n (callEnvC (docDef "read_uint1" (gQ (bj 18)) (cQ (bj 18)) (d5 (bj 18)) d code j) A a) (u+1) p
  have r:(bs.drop k).take 1= [b]:=by
   have:=(cw.mp t);rw [AA this.1,this.2];rfl
  refine w_ (Mg (c:=c) (l.up f) (c3 _) F 0 1 C C (rf ((1))) C C P ((cw.mp t).1) B C (cY _) C).1 λH T v=>aG v λS z x=>?_;subst z x;rw [r];exact .inl ⟨C,(ez.p (EX.ev (c:=c) (gU (dF (b:=aa) (Yi (l:= [b]) (zv F 1 C C) (ek _) (dP C) (λw=>C)) (gU (h8 (Yk (zv F 1 C C) (P b (cA t)))))))) (lG _ _ C (.inl C) C C))⟩
noncomputable def Ua:U (af×dU):= [("f", .local),("n", .local),("data", .local),("read_uint1", .globalImplicit),("len", .globalImplicit),("ValueError", .globalImplicit)]
noncomputable def DI:U af:= ["f", "n", "data"]
theorem R3(u:Y):gY .GtE (.int u) (.int 0)=J aa:=C
theorem nW.upd(k:nW w l z i)(g:bN w.bI P):nW (w.up P g) l z i:=k.up g
theorem XW(e:bH y.B y.prog y.w ao)(m:y.D "read_uint1" 18)(b:y.D "read_string1" 19)(P:∀i∈bs,i<256)(B:bs.length<=1000)(x:bs[k]?=J l.length)(H:(bs.drop (k+1)).take l.length=l)(r:1<=l.length)(O:l.length<=3):
  y.FO (n+3) "read_string1" (.bj st bs k) [] (.str l) (.bj st bs (k+1+l.length)):=by
 refine GB (IP (xs:=DI) b (C)) λa L d code j R g=>?_;have S:k+1+l.length<=bs.length:=by
  have:=aQ M3 H;rw [xA,xx]at this;exact ki 0 (.a (.a (.v 0) (.n 1)) (.v 2)) (.v 1) (.v 2) (.v 4) (.v 4) (.v 3) (.a (.v 3) (.a (.v 0) (.n 1))) (.v 1) C [_,_,_,_,_] ((dG this)) zy ((lM ((cw.mp x).1)))
 refine(mQ a L _ R g.ho g.hd (eR.ob (qB y.G g (dP C) (.plain λs B=>?_) (λX R E=>?_) λ{h}f A q v p=>?_)))
 .exact bind1 (λa=>C) s B
 .refine bR X λu aC=>?_;subst u;exact yd e R E
 .have F:Fm (callEnvC (docDef "read_string1" (gQ (bj 19)) (cQ (bj 19)) (d5 (bj 19)) d code j) A a) DI DI.length Ua:=jQ (C) C
  let c:=(y.up h f).c q v (callEnvC (docDef "read_string1" (gQ (bj 19)) (cQ (bj 19)) (d5 (bj 19)) d code j) A a) (n+2) p
  have z:=e.up f;refine oA (LH (y:=y.up h f) z (nW.upd m f) P B x) λaD aE au Q T w ah=>Ae (fu F 1 C (by exact e5 _ _) ⟨GV c.G c.R (i:=0) (F.kn 3 C nofun) Q (F.kg 3 C) T w C (F.eU (i:=0) C) C (kS C) kM C ah λR E=>yd (y:=y.up h f) z R E⟩ C).1 (Ae (xe (c:=c) (zC (zv F 1 C C) (zi 0) (R3 _) C)).1 (w_ (Mg (c:=c) z (c3 _) F 0 2 C C (Ao F 1 C C) C C P S B C (cY _) C).1 λaz aB G=>(aG G λt ai aj=>?_)));subst ai aj;rw [H];exact .inl ⟨C,(ez.p (aP:= [.obj (.bj st bs (k+1+l.length)), .t (.int l.length), .t (.bO (.bytes (i7 l) t))]) (fl:= .ret (.str l)) (EX.ev (c:=c) (gU (dF (b:=aa) (zC (Yl F 4 C (zv F 2 C C) (by exact bh O (bx C)) C) (zv F 1 C C) (aQ J (beq_self_eq_true _)) C) (gU (h8 (Yj (zv F 2 C C) (λi o=>P i (Z4 (ri (by rw [H];exact o)))) r O C C)))))) (lG _ _ C (.inl C) C C))⟩
end
section
variable{fz:Fz}
theorem YT{i m:aq}(R:EE c n k g a u (.int i))(E:EE c n k u b B (.int m))(G:m≠0):EE c n k g (.BinOp a .Mod b p) B (.int (i.fmod m)):=by
 constructor;intro A fz s Q f S O;refine E6 (R.1 A fz s _ _ S λh w H o X t j=>E.1 A w h _ _ t λd q v r l F e=>?_);obtain⟨y,rfl⟩:=qH j;obtain⟨x,rfl⟩:=qH e;exact aaB G (O _ q _ ((o.trans r).trans (cu _ _ C)) (X.trans l) F (.int _ _))
theorem Lz(t:EE c n e g a u τ)(o:EF c n e u b B j)(f:dj a=aa)(x:dj b=aa)(S:SR c.B c.ρ A fz c.env n e g s.heap)
  (O:∀m P E v k y h H R,bU s m->Le fz P->gp c.env->aN c.B c.ρ A P c.env n e B H R m.heap->eT c.B A P c.env n R k->m.heap.get? k=J (lo y h)->aY c.ρ P y j->Den c.ρ P v τ->m.heap.IsTuple E #[v, .ref k]->Q (.ref E) m):
  wpAny (model c.prog c.w) c.A (eval (.Tuple [a,b] ai au) c.env) Q aj s:=by
 refine wpAny_Tuple ?_;rw [mz (gq f)];refine pn (t.1 A fz s _ _ S λd w v r X p z=>?_);rw [mz (gq x)];exact pn (o.1 A w d _ _ p λao q k y h H R T l L vM G F ah=>rz ⟨by rw [jG];simp,(O _ q _ v k y h H R ((r.trans T).trans (cu _ _ C)) (X.trans l) L (vM.uv (bN.push _ _) (Le.refl _) λb az i=> .inl i) G (eF _ F) ah (z.mono l) (i12 _ (eY _ C) C ⟨0,C⟩))⟩)
theorem eT.upd(F:eT w A fz env n R d)(i:Y):eT w A fz env n (bT R i []) d:=
 ⟨F.hb,F.fz,F.loc,F.cell,λm G h=>by
  unfold bT at h
  split at h
  .cases h
  .exact F.fp m G h,F.tab,F.h0⟩
theorem Yg(F:Fm c.env n k aU)(i m P cv:Y)(az:n[i]?=J x)(b_:i<k)(A:n[m]?=J O)(G:m<k)(bg:aU[P]?=J (x, .local))(aZ:EE c n k r a z L)(ah:EF c n k z b aD j)(aV:dj a=aa)(aW:dj b=aa)
  (aK:swapsWithSole [.Tuple [.Name x s, .Name O w] q R] (.Tuple [a,b] l p) H.line c.env=pure aA)(S:swappedStores [.Tuple [.Name x s, .Name O w] q R] (.Tuple [a,b] l p) c.env=pure ae):
  ES c n k r (.Assign [.Tuple [.Name x s, .Name O w] q R] (.Tuple [a,b] l p) H) ((aD.set i (.t L)).set m (.own j)) .next:=by
 refine⟨λcB fz bK bM cz o ai aj=>(aau (Lz aZ ah aV aW ai λao au t bQ h aB aC bW b7 y X E Q FD aE aH aJ T=>(E7 c.R.handled T C C λaL aO=>?_)) aK S)⟩;have f:bN ao.heap aL:=λb v e=>aO b v (fW (eM e)) e;have g:=Q.uv f (Le.refl _) λb v e=> .inl e;have B:=F.kn P bg nofun;exact aF (gf (qs (NG B g.ns (λbY bq d=>(aF (gf (qs (gc (av:= .own j) (fp:= [h]) E o (g.C0 o az B bq d (av:= .t L) (fp:= []) ⟨C,_,C,aJ⟩ .nil) A G (F.loc A G) ⟨h,aB,aC,C,(d.2 h FD.loc).trans (f _ _ aE),aH,C⟩ (.pP (FD.upd i)) λbA bz bD u=>bP (aj bA au .next (y.trans (bU.trans (cu _ _ C) bD)) X ⟨E,bz,_,u⟩ trivial)))))) (by rw [E.kind];rfl))))
theorem Ye(F:Fm c.env n k r)(i m P T:Y)(j:n[i]?=J x)(z:i<k)(A:n[m]?=J O)(G:m<k)(aZ:r[P]?=J (x, .local))(X:r[T]?=J (O, .local))(au:EE c n k aH a bg L)(Q:EF c n k bg b aE s)(f:dj a=aa)(H:dj b=aa)
  (B:g.line=w.line)(d:(O==x)=aA)(u: [a,b].all (foldedForSure 8)=aA)(y: [a,b].all (constantsAlone 8)=aA):
  ES c n k aH (.Assign [.Tuple [.Name x g, .Name O w] bK cK] (.Tuple [a,b] cO bW) bY) ((aE.set m (.own s)).set i (.t L)) .next:=by
 refine⟨λb7 fz cz cB cE h S R=>?_⟩;have ah:c.env.blockKind= .function:=by
  have:=S.1.kind
  first|exact this|(unfold Mz;simp [this])
 refine aav (Lz au Q f H S λai aj t ao l az aB bM bQ aC aD E p FD aJ aK aL aO=>?_) C (Ld ah (F.kn P aZ nofun) (F.kn T X nofun) B d u y f H);refine aa0 (items:=#[ao, .ref l]) c.R.handled aO λaU aV=>?_;have q:bN ai.heap aU:=λb o e=>aV b o (fW (eM e)) e;exact aF (gf (E8 (gc (av:= .own s) E h (p.uv q (Le.refl _) λb o e=> .inl e) A G (F.loc A G) ⟨l,az,aB,C,q _ _ aJ,aK,C⟩ (.pP FD) λb_ cv bq aW=>(aF (gf (E8 (gc (av:= .t L) E h aW j z (F.loc j z) ⟨C,_,C,aL⟩ .nil λbA bz bD v=>bP (R bA aj .next (aC.trans ((bU.trans (cu _ _ C) bq).trans bD)) aD ⟨E,bz,_,v⟩ trivial))))))))
end
section
theorem Yx(e:EE c n k g H u (.list l))(h2:EE c n k u cG B (.list R))(hs:l.length+R.length<=1000000):EF c n k g (.BinOp H .Add cG L) B (l++R):=by
 refine⟨λA f s Q G S O=>(E6 (e.1 A f s _ _ S λa w i o X t j=>h2.1 A w a _ _ t λai E b r h F x=>(gZ (mH (j.mono h)) λi y q v p z=>?_)))⟩;subst v;refine gZ (mH x) λb T ah v m d=>?_;subst v;refine P.add_list (F.ready.bC _ _ p) (F.ready.bC _ _ m) ?_ (by simp only [l_,z.length,d.length];rw [jG];exact bh hs (bx C));rw [IE];exact SR.newList (o.trans r) (X.trans h) F (z.append d) O
end
noncomputable def eN:U (af×dU):=("script", .local)::("x", .local)::("numbers", .local)::("signs", .local)::("shares", .local)::("words", .cell)::("octets", .local)::("word", .local)::("stream", .cell)::("pair", .cell)::("weights", .cell)::("told", .cell)::("texts", .cell)::("j", .local)::("leads", .cell)::("sorter", .local)::("i", .cell)::("ring", .local)::("rounds", .local)::("likelier", .cell)::("top", .local)::("whole", .local)::("mine", .local)::("others", .local)::("level", .cell)::("turn", .local)::("due", .local)::("_law_word", .globalImplicit)::("_law_counted", .globalImplicit)::("_law_stream", .globalImplicit)::("read_string1", .globalImplicit)::("TopologicalSorter", .globalImplicit)::("range", .globalImplicit)::("CycleError", .globalImplicit)::("sorted", .globalImplicit)::("_law_chance", .globalImplicit):: []
noncomputable def cD:U af:= ["script", "x", "numbers", "signs", "shares", "words", "octets", "word", "stream", "pair", "weights", "told", "texts", "j", "leads", "sorter", "i", "ring", "rounds", "likelier", "top", "whole", "mine", "others", "level", "turn", "due"]
noncomputable def sA(s:U aq):U aq:=(s.take 5++ [264,10,4,6,1]).take 5
noncomputable def zF(s:U aq):U Y:=(sA s).map λx=>(x.fmod 1000000).toNat
theorem Jd(s:U aq):(sA s).length=5:=xA.trans (xE (ic▸aX 5 _))
theorem RN(x:aq):(((x.fmod 1000000).toNat))=x.fmod 1000000:=ZQ (ZH x (by decide))
theorem v8(x:aq):(x.fmod 1000000).toNat<1000000:=(Int.toNat_lt (ZH x (by decide))).mpr (Int.fmod_lt_of_pos x (by decide))
theorem UE(s:U aq):∃m B c l n4,zF s= [m,B,c,l,n4]/\m<1000000/\B<1000000/\c<1000000/\l<1000000/\n4<1000000:=IA (P:=λh=>∃m B c l n4,h.map (λx:aq=>(x.fmod 1000000).toNat)= [m,B,c,l,n4]/\m<1000000/\B<1000000/\c<1000000/\l<1000000/\n4<1000000) (λa b i d e=>(SH _ _ _ _ _ C (v8 a) (v8 b) (v8 i) (v8 d) (v8 e))) (sA s) (Jd s)
noncomputable def uZ:U (U Y):= [[97,98], [42,63], [91,93], [45,33], [92,94], [38,46]]
noncomputable def m5:U (Y×Y):= [(97,98),(42,63),(91,93),(45,33),(92,94),(38,46)]
theorem WG(H:Y):∃a b,uZ[H%6]?=J [a,b]/\(a,b)∈m5:=by
 have h:uZ[H%6]?=J (uZ[H%6]'(EV _ (c3 _))):=cP _
 have x:∀l∈uZ,∃a b,l= [a,b]/\(a,b)∈m5:=bl (eV _ _ C (cN 0 C)) (bl (eV _ _ C (cN 1 C)) (bl (eV _ _ C (cN 2 C)) (bl (eV _ _ C (cN 3 C)) (bl (eV _ _ C (cN 4 C)) (bl (eV _ _ C (cN 5 C)) dR)))));exact dK (x _ (cA h)) λa b e L=>(eV a b (h.trans (aQ J e)) L)
noncomputable def iR(a b:Y)(T:U (U Y)):Y->Y->Y
 |0,x=>x
 |u+1,x=>if e_ a b x∈T then iR a b T u (x+1)else x
theorem J':iR a b ws (u+1) x=if e_ a b x∈ws then iR a b ws u (x+1)else x:=C
theorem Vi(a b T):∀n x,iR a b T n x<=x+n:=λf=>f.rec
 (λx=>ek _)
 (λn X x=>by rw [J'];split;have:=X (x+1);exact bL 0 (.v 0) (.a (.v 1) (.a (.v 2) (.n 1))) (.v 0) (.a (.a (.v 1) (.n 1)) (.v 2)) C [_,_,_] this;exact e5 _ _)
theorem IU(x:Y):x%8=x/2^0%2+2*(x/2^1%2+2*(x/2^2%2)):=by
 rw [Nat.div_one,show 2^2=2*2 from C,<-Nat.div_div_eq_div_mul,<-Nat.mod_mul,<-Nat.mod_mul]
theorem Bh{a b:Y}(h:a≠b)(q:(if H%2=0 then a else b)=(if v%2=0 then a else b)):H%2=v%2:=by
 rcases Na H with p|p<;>rcases Na v with t|t<;>rw [p,t]at q⊢
 .exact cg q h
 .exact cg q.symm h
theorem X7(h:a≠b)(e:e_ a b x=e_ a b O):x%8=O%8:=by
 rw [IU x,IU O,Bh h ((xw e).1),Bh h ((xw (xw e).2).1),Bh h ((xw (xw (xw e).2).2).1)]
theorem DG(k:Y)(h:a≠b)(g:qj (k%8) 0=aA):e_ a b x≠e_ a b (x+k):=λq=>
 aam g ((aQ (·%8) (EN (n:=x) (m:=k))).symm.trans (Nat.sub_mod_eq_zero_of_mod_eq (X7 h q).symm))
theorem Dz{B:Type}{a b:B}{l:U B}(h:l.length<=1)(r:a∈l)(t:b∈l):a=b:=by
 cases l with
 |nil=>exact nomatch r
 |cons H E=>cases E with
  |nil=>exact(cI.mp r).trans (cI.mp t).symm
  |cons v e=>exact nomatch tH h
theorem Xq{B:Type}{a b c:B}(R:a≠b)(h:a≠c)(i:b≠c){l:U B}(e:l.length<=2)(r:a∈l)(t:b∈l)(y:c∈l):False:=by
 cases l with
 |nil=>exact nomatch r
 |cons H E=>
  have A:=tH e;rcases cC.mp r with rfl|L
  .exact i (Dz A ((cC.mp t).resolve_left R.symm) ((cC.mp y).resolve_left h.symm))
  .rcases cC.mp t with rfl|P
   .exact h (Dz A L ((cC.mp y).resolve_left i.symm))
   .exact R (Dz A L P)
theorem zN(h:a≠b)(B:ws.length<=2)(x:Y):e_ a b (iR a b ws 2 x)∉ws:=by
 show e_ a b (if e_ a b x∈ws then if e_ a b (x+1)∈ws then x+1+1 else x+1 else x)∉ws
 split
 .split
  .exact Xq (DG 1 h C) (DG 2 h C) (DG 1 h C) B ‹_› ‹_›
  .assumption
 .assumption
noncomputable abbrev b6(i:Y):cf:=K6 (cQ (bj 28)) i
theorem P6:(10:aq)^(6:aq).toNat=1000000:=C
section
noncomputable abbrev LV(x j b i n R k E G m v O s y p A q Q u H P o r w e z t:AV Ob):U (AV Ob):=x::j::b::i::n::R::k::E::G::m::v::O::s::y::p::A::q::Q::u::H::P::o::r::w::e::z::t:: []
theorem Ue(s:U aq):(sA s).map (λx=>T.int ((x.fmod 1000000).toNat))=nT (zF s):=by unfold nT zF;rw [d_];rfl
theorem s0(F:Fm c.env cD 27 eN)(s:U aq)(P:s.length<=100):
  ES c cD 27 (LV (.t (.list (s.map .int))) a1 a2 a3 a4 a5 a6 a7 a8 a9 gg fk ie n_ pB pC oh my kI oi lq lu ly lz kJ jL kK) (b6 0) (LV (.t (.list (s.map .int))) a1 (.own (nT (zF s))) a3 a4 a5 a6 a7 a8 a9 gg fk ie n_ pB pC oh my kI oi lq lu ly lz kJ jL kK) .next:=by
 have t:cut ae (J ((5:Y):aq)) (s.map T.int)=(s.take 5).map T.int:=by rw [oq,AF]
 have Q:cut ae (J ((5:Y):aq)) ((s.take 5).map T.int++ [.int 264, .int 10, .int 4, .int 6, .int 1])=(sA s).map T.int:=by rw [oq];unfold sA;simp
 rw [<-Ue];refine DO "x" [] [] (λx=>T.int ((x.fmod 1000000).toNat)) (us:=sA s) F (C) (C) (C) (lU (jV (dI (jV (zv F 0 C C) kZ (ji (zi 5)) (sN (by simp;exact bh P (bx C)) t)) (jT (zr (zi 264) (zr (zi 10) (zr (zi 4) (zr (zi 6) (zr (zi 1) cj C) C) C) C) C) C) (zU (by simp;exact bh qX (bx C)))) kZ (ji (zi 5)) (sN (by simp;exact bh qX (bx C)) Q))) C
  (λa X H w=>sW (YT (zv X 0 C C) (dI (zi 10) (zi 6) (C7 (yg (aX _ _)) (by decide) (by decide))) (nofun)) ?_) C (by rw [Jd];exact aX _ _) (i:=2) C (aX _ _) (i':=2) C C (C)
 rw [P6,RN]
theorem s1(F:Fm h.env cD 27 eN){m c l n4 n f:Y}(d:m<1000000)(t:uZ[m/255%6]?=J [n,f]):
  ES h cD 27 (LV x j (.own (nT [m,B,c,l,n4])) X a R k E G i v O s y p A q Q u H P o r w b z g) (b6 1) (LV x j (.t (.list (nT [m,B,c,l,n4]))) (.t (.str [n,f])) a R k E G i v O s y p A q Q u H P o r w b z g) .next:=by
 have L:m/255%6<6:=EV _ (c3 _);have e:(uZ.map T.str)[m/255%6]?=J (.str [n,f]):=by rw [gD,t];rfl
 exact fu F 3 C (aX _ _) (cX (jT (zr (zs [97,98] (di ['a','b'])) (zr (zs [42,63] (di ['*','?'])) (zr (zs [91,93] (di ['[',']'])) (zr (zs [45,33] (di ['-','!'])) (zr (zs [92,94] (di ['\\','^'])) (zr (zs [38,46] (di ['&','.'])) cj C) C) C) C) C) C) C)
  (dI (dI (cX (lW F 2 C C) (zi 0) (gb (c3 _) C) C) (zi ((255:Y))) (KA (qk d (by decide+kernel)) (c3 _))) (zi ((6:Y))) (KD (kD (Nat.div_le_self _ _) (qk d (by decide+kernel))) (c3 _))) (gb (by omega) e) C) C
end
theorem Xf{px w:Pos}(A:env.kindOf O=J .cell):swappedStores [.Tuple [.Name x px, .Name O w] h f] (.Tuple [a,i] s o) env=pure ae:=by
 refine wu (wu (bB (Bool.or_eq_true_iff.mpr (.inl ?_))));have Q:=ZT (l:= []) (a:=vp O w) (f:=λe=>match e with| .Name id b=>if env.kindOf id==J .local&&b.line==px.line then J id else ae|_=>ae) (bF λq=>nc NameKind.ctorIdx (bf (A.symm.trans (beq_iff_eq.mp (ew.mp q).1))) C)
 by_cases q:(env.kindOf x==J NameKind.local&&px.line==px.line)=aa
 .exact aQ (λl:U af=>l.length !=2) ((MR (a:=vp x px) (bB q)).trans (aQ (x::·) Q))
 .exact aQ (λl:U af=>l.length !=2) ((ZT (a:=vp x px) (bF q)).trans Q)
theorem Wt{a b:Y}:iC .Add (.int a) (.int b)=J (.int ((a+b:Y))):=C
section
variable{a0 a2 a4:AV Ob}
theorem s2(F:Fm c.env cD 27 eN){m B l n4:Y}(d:m<1000000)(R:B<1000000):
  ES c cD 27 (LV a0 j (.t (.list (nT [m,B,h,l,n4]))) i a4 g k E G e v O s y p A q Q u H P o r w x z t) (b6 2) (LV a0 j (.t (.list (nT [m,B,h,l,n4]))) i (.t (.list (nT [1+m%255,1+B%255]))) (.own []) k E G e v O s y p A q Q u H P o r w x z t) .next:=
 Yg F 4 5 4 5 C (aX _ _) C (aX _ _) C
  (zf (p5 "x" [] [] (λb=>T.int ((1+b%255:Y))) (us:= [m,B]) F (C) (C) (C) (lU (jV (zv F 2 C C) kZ (ji (zi 2)) (sN (aX _ _) (oq _ 2)))) C
   (λf X n a=>dI (zi ((1))) (dI (zv X 0 C C) (zi ((255:Y))) (KD (qk (show n<1000000 by simp at a;omega) (by decide+kernel)) (c3 _))) Wt) C (aX _ _)))
  (o4 cj C) C C C (Xf (F.kn 5 C nofun))
noncomputable abbrev wT(h:U (U Y)):U T:=h.map .str
noncomputable abbrev LI:b9:=kr (dD 0 (fY (J (b6 3))))
noncomputable abbrev X0:U cf:=jD (dD 0 (fY (J (b6 3))))
theorem X3(F:Fm c.env cD 27 eN)(g:∀x,x<2^60->CN c "_law_word" [.str [b0,f], .int (x:Y)] (.str (e_ b0 f x))):∀n x,x+n<2^60->e_ b0 f (iR b0 f ws n x)∉ws->
  EW c cD 27 LI X0 [] n (LV a0 (.t (.int x)) a2 (.t (.str [b0,f])) a4 (.own (wT ws)) k E G m v O s y p A q Q u H P o r w e z t) (LV a0 (.t (.int (iR b0 f ws n x))) a2 (.t (.str [b0,f])) a4 (.own (wT ws)) k E G m v O s y p A q Q u H P o r w e z t) .next:=by
 have a:∀x:Y,x<2^60->∀b,decide (e_ b0 f x∈ws)=b->EC c cD 27 (LV a0 (.t (.int x)) a2 (.t (.str [b0,f])) a4 (.own (wT ws)) k E G m v O s y p A q Q u H P o r w e z t) LI (LV a0 (.t (.int x)) a2 (.t (.str [b0,f])) a4 (.own (wT ws)) k E G m v O s y p A q Q u H P o r w e z t) b:=λx j b i=>
  LR F 5 (kY F 27 C (zr (zv F 3 C C) (zr (zv F 1 C C) cj C) C) (g x j) C) C C (i▸(Bo _ _))
 intro n
 induction n with
 |zero=>intro x j h;exact lZ (a x (bL 0 (.a (.v 0) (.n 1)) (.v 1) (.a (.a (.v 0) (.n 0)) (.n 1)) (.v 1) C [_,_] j) aA (decide_eq_false h)) eO
 |succ n X=>
  intro x j h;rw [J']at h⊢
  by_cases L:e_ b0 f x∈ws
  .rw [bB L]at h⊢;exact lX (a x (bL 0 (.a (.v 0) (.n 1)) (.v 2) (.a (.a (.v 0) (.a (.v 1) (.n 1))) (.n 1)) (.v 2) C [_,_,_] j) aa (decide_eq_true L)) (dN (oY F 1 C (aX _ _) C (zi 1) (q4 (C))) C) (X (x+1) (bL 0 (.a (.a (.a (.v 0) (.n 1)) (.v 1)) (.n 1)) (.v 2) (.a (.a (.v 0) (.a (.v 1) (.n 1))) (.n 1)) (.v 2) C [_,_,_] j) h)
  .rw [bF L]at h⊢;exact lZ (a x (bL 0 (.a (.v 0) (.n 1)) (.v 2) (.a (.a (.v 0) (.a (.v 1) (.n 1))) (.n 1)) (.v 2) C [_,_,_] j) aA (decide_eq_false L)) eO
theorem DD(F:Fm c.env cD 27 eN)(g:∀x,x<2^60->CN c "_law_word" [.str [n,f], .int (x:Y)] (.str (e_ n f x)))(t:n≠f)(B:ws.length<=2)(x:Y)(j:x<1000000):
  EX c cD 27 (LV a0 (.t (.int x)) a2 (.t (.str [n,f])) a4 (.own (wT ws)) k E G m v O s y p A q Q u H P o r w e z h) (fY (J (b6 3))) (LV a0 (.t (.int (iR n f ws 2 x))) a2 (.t (.str [n,f])) a4 (.own (wT (ws++ [e_ n f (iR n f ws 2 x)]))) k E G m v O s y p A q Q u H P o r w e z h) .next:=by
 have a:=Vi n f ws 2 x;refine zx (l5 (X3 F g 2 x (by omega) (zN t B x))) (dN (xd F 5 C C (kY F 27 C (zr (zv F 3 C C) (zr (zv F 1 C C) cj C) C) (g _ (by omega)) C) C C C (dM (by simp;exact bh B (bx C)))) ?_);simp
noncomputable def LK(n f c l n4:Y):U (U Y):=
 let O:=e_ n f (iR n f [] 2 c)
 let y:=e_ n f (iR n f [O] 2 l)
 [O,y,e_ n f (iR n f [O,y] 2 n4)]
theorem s3(F:Fm c.env cD 27 eN){n0 n1 h l n4:Y}(g:∀x,x<2^60->CN c "_law_word" [.str [n,f], .int (x:Y)] (.str (e_ n f x)))(t:n≠f)(E:h<1000000)(S:l<1000000)(A:n4<1000000):
  ∃x,ES c cD 27 (LV a0 j (.t (.list (nT [n0,n1,h,l,n4]))) (.t (.str [n,f])) a4 (.own []) k i G m v O s y p a q Q u H P o r w b z e) (b6 3) (LV a0 x (.t (.list (nT [n0,n1,h,l,n4]))) (.t (.str [n,f])) a4 (.own (wT (LK n f h l n4))) k i G m v O s y p a q Q u H P o r w b z e) .next:=
 ⟨_,iV (lU (jV (zv F 2 C C) (ji (zi 2)) kZ (sN (aX _ _) (Gh _ 2)))) (fO (eJ F 1 C (aX _ _)) (DD (ws:= []) F g t (by simp) h E) (fO (eJ F 1 C (aX _ _)) (DD F g t (by exact c3 _) l S) (fO (eJ F 1 C (aX _ _)) (DD F g t (ek _) n4 A) jh))) C C⟩
noncomputable def U0(n f p q:Y)(T:U (U Y)):U Y:= [2,n,f,p,q]++(T.map λX=>X.length::X).flatten
theorem s4(F:Fm c.env cD 27 eN)(d:CN c "_law_counted" [.str [n,f]] (.list (.int 2:: [n,f].map λ(a:Y)=> .int a))):
  ES c cD 27 (LV a0 j a2 (.t (.str [n,f])) (.t (.list (nT [p,q]))) R k E G m v O s y e A h Q u H P o r w i z t) (b6 4) (LV a0 j a2 (.t (.str [n,f])) (.t (.list (nT [p,q]))) R (.own (nT [2,n,f,p,q])) E G m v O s y e A h Q u H P o r w i z t) .next:=
 q_ F 6 C (aX _ _) (Yx (kY F 28 C (zr (zv F 3 C C) cj C) d C) (zv F 4 C C) (aX _ _)) C
theorem s5(F:Fm c.env cD 27 eN){w0 w1 w2:U Y}{r:U Y}(d:∀X,X.length<=1000->CN c "_law_counted" [.str X] (.list (.int X.length::X.map λ(a:Y)=> .int a)))(f:w0.length=3)(g:w1.length=3)(o:w2.length=3)(v:r.length<=100):
  ES c cD 27 (LV a0 j a2 i a4 (.own (wT [w0,w1,w2])) (.own (nT r)) E G m h O s y p A q Q u H P b x w l z t) (b6 5) (LV a0 j a2 i a4 (.t (.list (wT [w0,w1,w2]))) (.own (nT (r++([w0,w1,w2].map λX=>X.length::X).flatten))) (.t (.str w2)) G m h O s y p A q Q u H P b x w l z t) .next:=by
 have e:nT (r++([w0,w1,w2].map λX=>X.length::X).flatten)=nT r++(.int w0.length::w0.map λa=> .int a)++(.int w1.length::w1.map λa=> .int a)++(.int w2.length::w2.map λa=> .int a):=by unfold nT;simp
 rw [e]
 exact iV (lU (lW F 5 C C)) (fO (eJ F 7 C (aX _ _)) (dN (sX F 6 C (aX _ _) C (kY F 28 C (zr (zv F 7 C C) cj C) (d w0 (bh ((c4 f)) (bx C))) C) C (dM (by simp [nT];exact bh v (bx C))) (dM (by simp;exact bh ((c4 f)) (bx C)))) C)
  (fO (eJ F 7 C (aX _ _)) (dN (sX F 6 C (aX _ _) C (kY F 28 C (zr (zv F 7 C C) cj C) (d w1 (bh ((c4 g)) (bx C))) C) C (dM (by simp [nT];exact cF 0 (.a (.v 1) (.a (.v 0) (.n 1))) (.n 1000000) (.v 0) (.n 3) (.v 1) (.n 100) C [_,_] ((c4 f)) v)) (dM (by simp;exact bh ((c4 g)) (bx C)))) C)
  (fO (eJ F 7 C (aX _ _)) (dN (sX F 6 C (aX _ _) C (kY F 28 C (zr (zv F 7 C C) cj C) (d w2 (bh ((c4 o)) (bx C))) C) C (dM (by simp [nT];exact ki 0 (.a (.v 2) (.a (.a (.v 0) (.a (.v 1) (.n 1))) (.n 1))) (.n 1000000) (.v 0) (.n 3) (.v 1) (.n 3) (.v 2) (.n 100) C [_,_,_] ((c4 f)) ((c4 g)) v)) (dM (by simp;exact bh ((c4 o)) (bx C)))) C) jh))) C C
end
section
variable{st:ak}
theorem Mf(l:bH c.B c.prog c.w h)(F:Fm c.env n k r)(i m:Y)(G:r[m]?=J (z, .globalImplicit))(j:n[i]?=J x)(B:g[i]?=J (.obj (.bj st u H)))(y:c.y.FO c.n z (.bj st u H) [] L (.bj st u b)):
  EE c n k g (.Call (.Name z p) [.Name x e] [] a) (g.set i (.obj (.bj st u b))) L:=oA y λs t f R E S A=>⟨GV c.G c.R (F.kn m G nofun) R (F.kg m G) E S j (F.eU j) B (kS C) kM B A λo O=>yd (y:=c.y) l o O⟩
end
section
variable{st:ak}
structure x6(c:Cx Ob)(st:ak)(bs:U Y):Prop where
 u:∀{k b:Y},bs[k]?=J b->c.y.FO c.n "read_uint1" (.bj st bs k) [] (.int b) (.bj st bs (k+1))
 s:∀{k:Y}{l:U Y},bs[k]?=J l.length->(bs.drop (k+1)).take l.length=l->1<=l.length->l.length<=3->c.y.FO c.n "read_string1" (.bj st bs k) [] (.str l) (.bj st bs (k+1+l.length))
theorem J7{i:Y}{os:U af}(H:u.length=os.length):lR os [i] g (u++ [o])=g.set i o:=by
 unfold lR;apply MQ;intro m;rw [MX]
 by_cases h:m=i
 .subst h;cases B:g[m]? with
  |none=>simp;exact List.getElem?_eq_none_iff.mp B
  |some a=>
   have:=(cw.mp B).1;simp [this,H]
 .have L:¬i=m:=λq=>h q.symm;simp [h,L]
theorem vR{c:Cx Ob}(l:bH c.B c.prog c.w L){r:U (af×dU)}(F:Fm c.env [x,w] 1 r)(G:r[2]?=J (z, .globalImplicit))(d:c.y.FO c.n z (.bj st u R) [] O (.bj st u Q))
  (h:rG c [x,w] 1 (.Name x p) [] (.Call (.Name z X) [.Name w B] [] k) j [.t t, .obj (.bj st u Q)] e i_):rG c [x,w] 1 (.Name x p) [] (.Call (.Name z X) [.Name w B] [] k) (t::j) [v, .obj (.bj st u R)] (O::e) i_:= .go (eJ F 0 C (cY _)).1 yv (Mf l F 1 2 G C C d).1 h
theorem w7{w:af}(s:env.kindOf w=J .cell):swapsWith (.ListComp y [⟨H,h, [],0⟩] f R) (J (.Name w q)) u env=pure aA:=by
 show(pure (env.blockKind== .function&&env.kindOf w==J .local&&q.line==R.line&&!(f.names.any λ(u,k)=>u==w&&(k== .local||k== .cell))))=pure aA;rw [s];have:(J NameKind.cell==J NameKind.local)=aA:=C;rw [this];simp
theorem s7(l:bH c.B c.prog c.w L)(F:Fm c.env cD 27 eN)(a:x6 c st u)(d:u[0]?=J 2)(R:(u.drop 1).take 2= [n,f]):
  ES c cD 27 (LV x j b i h e k E (.obj (.bj st u 0)) X v O o y p A q Q s H P m r w g z t) (b6 7) (LV x j b i h e k E (.obj (.bj st u 3)) (.t (.str [n,f])) v O o y p A q Q s H P m r w g z t) .next:=
 fu F 9 C (aX _ _) (Mf l F 8 30 C C C (a.s (l:= [n,f]) d R (e5 _ _) (aX _ _))) C
theorem s8(l:bH c.B c.prog c.w cl)(F:Fm c.env cD 27 eN)(a:∀G d,x6 (c.fc G d) st u)(S:u[3]?=J p)(A:u[4]?=J q):
  ES c cD 27 (LV x j b i n R k E (.obj (.bj st u 3)) (.t (.str [h,f])) L O s y t o v Q e H P m r w g z B) (b6 8) (LV x j b i n R k E (.obj (.bj st u 5)) (.t (.str [h,f])) (.t (.list (nT [p,q]))) O s y t o v Q e H P m r w g z B) .next:=
 by
 refine fu F 10 C (aX _ _) (zf (vh ["sign"] ["stream"] [8] F (C) (C) (C) (DT (zv F 9 C C)) C (i_:= [.t (.str [f])]++ [.obj (.bj st u 5)])
  (λd X=>?_) C C C (J7 C))) (w7 (F.kn 10 C nofun))
 exact vR (c:=c.fc _ d) l X C ((a _ d).u S) (vR (c:=c.fc _ d) l X C ((a _ d).u A) .nil)
theorem s9(l:bH c.B c.prog c.w aC)(F:Fm c.env cD 27 eN)(a:∀G d,x6 (c.fc G d) st u)(f:O.length=3)(g:y.length=3)(o:S.length=3)
  (r:u[5]?=J 3)(T:(u.drop 6).take 3=O)(h:u[9]?=J 3)(B:(u.drop 10).take 3=y)(R:u[13]?=J 3)(L:(u.drop 14).take 3=S):
  ES c cD 27 (LV x j b i n (.t (.list (wT [O,y,S]))) k E (.obj (.bj st u 5)) m v aD s t p A q Q z H P e ai aj ao ah w) (b6 9) (LV x j b i n (.t (.list (wT [O,y,S]))) k E (.obj (.bj st u 17)) m v (.t (.list (wT [O,y,S]))) s t p A q Q z H P e ai aj ao ah w) .next:=by
 have az:=λG d=>by
  have:=(a G d).s (by rw [f];exact r) (f.symm▸T) (bL 0 (.n 1) (.v 0) (.n 3) (.v 0) C [_] ((dG f))) ((c4 f));rw [f]at this;exact this
 have au:=λG d=>by
  have:=(a G d).s (by rw [g];exact h) (g.symm▸B) (bL 0 (.n 1) (.v 0) (.n 3) (.v 0) C [_] ((dG g))) ((c4 g));rw [g]at this;exact this
 have aB:=λG d=>by
  have:=(a G d).s (by rw [o];exact R) (o.symm▸L) (bL 0 (.n 1) (.v 0) (.n 3) (.v 0) C [_] ((dG o))) ((c4 o));rw [o]at this;exact this
 refine fu F 11 C (aX _ _) (zf (vh ["word"] ["stream"] [8] F (C) (C) (C) (lU (zv F 5 C C)) C (i_:= [.t (.str S)]++ [.obj (.bj st u 17)])
  (λd X=>?_) C C C (J7 C))) (w7 (F.kn 11 C nofun))
 exact vR (c:=c.fc _ d) l X C (az _ d) (vR (c:=c.fc _ d) l X C (au _ d) (vR (c:=c.fc _ d) l X C (aB _ d) .nil))
noncomputable def oW(X:U Y):T:= .list [.str (hU (X.take 1)), .str (hU (X.take 2)), .str (hU (X.take 3))]
theorem V_(F:Fm c.env cD 27 eN)(az:O.length=3)(ai:y.length=3)(ao:S.length=3)(aj:∀s,s.length<=1000->CN c "_law_pattern" [.str s] (.str (jd s)))
  (ah:∀s,s.length<=3->(∀a∈s,a∈O++(y++S))->CN c "translate" [.str (jd s)] (.str (hU s))):
  ES c cD 27 (LV au j b i n e x E G m v (.t (.list (wT [O,y,S]))) aD t p A q Q u o P f g w l z L) (b6 10) (LV au j b i n e x E G m v (.t (.list (wT [O,y,S]))) (.t (.list ([O,y,S].map oW))) t p A q Q u o P f g w l z L) .next:=by
 refine fu F 12 C (aX _ _) (zf (p5 "word" [] [] oW F (C) (C) (C) (lU (zv F 11 C C)) C (λaB X H d=>?_) C (aX _ _))) (w7 (F.kn 12 C nofun));have B:=bl (P:=λH:U Y=>H.length=3/\∀a∈H,a∈O++(y++S)) ⟨az,λa h=>gx _ h⟩ (bl ⟨ai,λa h=>i0 _ (gx _ h)⟩ (bl ⟨ao,λa h=>i0 _ (i0 _ h)⟩ dR)) H d;exact zf (p5 "k" ["word"] [0] (λk:Y=>T.str (hU (H.take k))) (us:= [1,2,3]) X (C) (C) (C) (jU X 2 C (zr (zi 1) (zr (zi 4) cj C) C) C C C) C (λaC R k aE=>(kY R 2 C (zr (kY R 3 C (zr (jV (zv R 1 C C) kZ (ji (zv R 0 C C)) (pV (bh ((c4 B.1)) (bx C)) (oq H k))) cj C) (aj _ (by simp;exact cF 0 (.v 1) (.n 1000) (.v 0) (.n 3) (.v 1) (.v 0) C [_,_] ((c4 B.1)) zy)) C) cj C) (ah _ (by simp;exact cF 0 (.v 1) (.n 3) (.v 0) (.n 3) (.v 1) (.v 0) C [_,_] ((c4 B.1)) zy) λa r=>B.2 a (ri r)) C)) C (aX _ _))
end
noncomputable def wz(n p q:Y)(l x:U Y):Y:=zg n p q l (x.getD 0 0) (x.getD 1 0) (x.getD 2 0)
noncomputable def za(n p q:Y)(h:U (U Y))(l:U Y):T:= .list (h.map λo=> .int (wz n p q l o))
noncomputable def oF(n p q:Y)(h:U (U Y)):T:= .list (h.map (za n p q h))
section
variable{c:Cx Ob}{a0 a1 a2 a3 a4 a5 a6 a7 a8 n_ pB pC oh my kI oi lq lu ly lz kJ jL kK:AV Ob}{b0 b1 p:Y}
theorem V'(F:Fm c.env cD 27 eN)(E:∀l∈ [O,y,S],∀x∈ [O,y,S],CN c "_law_lead" [.str l, .str x,oW x, .str [b0,b1], .list (nT [p,q])] (.int (wz b0 p q l x))):
  ES c cD 27 (LV a0 a1 a2 a3 a4 a5 a6 a7 a8 (.t (.str [b0,b1])) (.t (.list (nT [p,q]))) (.t (.list (wT [O,y,S]))) (.t (.list ([O,y,S].map oW))) n_ pB pC oh my kI oi lq lu ly lz kJ jL kK) (b6 11)
   (LV a0 a1 a2 a3 a4 a5 a6 a7 a8 (.t (.str [b0,b1])) (.t (.list (nT [p,q]))) (.t (.list (wT [O,y,S]))) (.t (.list ([O,y,S].map oW))) n_ (.t (oF b0 p q [O,y,S])) pC oh my kI oi lq lu ly lz kJ jL kK) .next:=by
 refine fu F 14 C (aX _ _) (zf (p5 "one" ["pair", "texts", "told", "weights"] [9,12,11,10] (za b0 p q [O,y,S]) F (C) (C) (C) (lU (zv F 11 C C)) C (λd X H a=>(sW (zf (p5 "j" ["one", "pair", "texts", "told", "weights"] [0,1,2,3,4] (λk:Y=>T.int (wz b0 p q H ([O,y,S].getD k []))) (us:= [0,1,2]) (g:=λk:Y=>T.int k) X (C) (C) (C) (jU X 2 C (zr (zi 3) cj C) C C C) C (λh R k g=>?_) C (aX _ _))) C)) C (aX _ _))) (w7 (F.kn 14 C nofun));have i:k<3:=by simp at g;omega
 have t:(wT [O,y,S])[k]?=J (.str ([O,y,S].getD k [])):=oG (P:=λk=>(wT [O,y,S])[k]?=J (.str ([O,y,S].getD k []))) C C C k i;have Q:([O,y,S].map oW)[k]?=J (oW ([O,y,S].getD k [])):=oG (P:=λk=>([O,y,S].map oW)[k]?=J (oW ([O,y,S].getD k []))) C C C k i;have e: [O,y,S].getD k []∈ [O,y,S]:=oG (P:=λk=> [O,y,S].getD k []∈ [O,y,S]) (.head _) (.tail _ (.head _)) (.tail _ (.tail _ (.head _))) k i;exact kY R 2 C (zr (zv R 1 C C) (zr (cX (zv R 4 C C) (zv R 0 C C) (gb (by omega) t) C) (zr (cX (zv R 3 C C) (zv R 0 C C) (gb (by omega) Q) C) (zr (zv R 2 C C) (zr (zv R 5 C C) cj C) C) C) C) C) (E H a _ e) C
end
structure tR(cl:Cl)(a:ak):Prop where
 sp:specialIn cl.K (.ref a) "__get__"=J (J (.builtin "function.__get__"))
 ta:takesIn cl.K (.ref a)=J aA
 fn:fnIn cl.K a=aa
noncomputable def xU(c:Cx Ob)(n:U af)(k:Y)(g:U (AV Ob))(b:Pos)(d:U b9)(S:U (AV Ob))(E:U T):Prop:=
 ∀(z:ay)(A:HB)(f:Fz)(s:aR)(Q:Args->aR->Prop)(G:ay->aR->Prop),SR c.B c.ρ A f c.env n k g s.heap->
  (∀m P y,bU s m->Le f P->SR c.B c.ρ A P c.env n k S m.heap->aY c.ρ P y E->Q ⟨y, []⟩ m)->wpAny (model c.prog c.w) c.A (evalArgs z aa (backTo b (starEach d c.env)) []) Q G s
section
variable{c:Cx Ob}
theorem K9(a:EE c n k g e u (.list j))(q:j.length<=1000)(S:SR c.B c.ρ A f c.env n k g s.heap)
  (O:∀m P y,bU s m->Le f P->SR c.B c.ρ A P c.env n k u m.heap->aY c.ρ P y j->i y m):wpAny (model c.prog c.w) c.A (eval e c.env) (λv h=>StarOf (model c.prog c.w) c.A G v i h) G s:=by
 refine a.1 A f s _ _ S λh w v o X t d=>gZ (mH d) λx y T l p z=>?_;subst l;have Q:=t.ready.bC _ _ p;refine aF (AZ ((aM _ Q C)) PySem.F.slot_list_iter.lookup (bP ⟨C,(wpAny_collect_seq x (.inl C) Q C C (λL b=>?_) (by simp only [l_,z.length];rw [jG];exact bh q (bx C)))⟩));obtain⟨E,H,R,r⟩:=t;exact O _ w y (o.trans (cu L _ C)) X ⟨E,H,R,r.uv b (Le.refl _) λF B e=> .inl e⟩ z
theorem Ot(h:EE c n k g e u (.list j))(q:j.length<=1000):xU c n k g b [.Starred e p] u j:=by
 intro x A f s Q G S O;exact ks_lone (K9 h q S λm a y i l z d=>O m a y i l z d)
theorem Oq(R:EE c n k g H u L)(h:EE c n k u e B (.list j))(q:j.length<=1000)(P:dj H=aa):xU c n k g b [H, .Starred e p] B (L::j):=by
 intro r A f s Q G S O;rw [mz (gq P)];refine tN (pn (R.1 A f s _ _ S λE w v o X t d=>(ks_spliced (K9 h q t λm a y i l x z=>rz ?_))));rw [rg];exact O m a (v::y) (o.trans i) (X.trans l) x (.cons (d.mono l) z)
theorem zT(l:bH c.B c.prog c.w L)(S:aN c.B c.ρ A f c.env n k g H R h)(j:n[i]?=J x)(B:g[i]?=J (.obj (.bX Q al o w u))):
  dZ c.env H h x (J (.ref Q))/\c.B.ob.at_ (.bX Q al o w u) (.ref Q) h (R i)/\∃G,G.self=Q/\dQ c.prog c.w L 0 G (.ref Q) h (R i):=by
 refine cps λs T=>?_;obtain⟨q,r,v,rfl,m⟩:=S.vars i x _ j B;refine T ?_;have b:=m;rw [l.ob]at m;obtain⟨G,a,O⟩:∃G:SG,G.abs= .bX Q al o w u/\dQ c.prog c.w L 0 G v h (R i):=m;have t:G.self=Q:=by unfold SG.abs at a;injection a
 have e:=O.v;rw [t]at e;subst e;exact(cR r b ⟨G,t,O⟩)
theorem T5(l:bH c.B c.prog c.w L)(cB:Fm c.env n q gK)(i:Y)(j:n[i]?=J x)(aH:ah[i]?=J (.obj (.bX Q aD aC H A)))(cz:(z,a)∈L.fs)(h:tR L a)(aV:z∉(["_node2info", "_ready_nodes", "_npassedout", "_nfinished"]:U af))(bg:copiedNames.contains z=aA)
  (gv:∀{e},bN c.B.bI e->e.get? a=J bz)(fx:bz.data= .func gV)(e:xU c n q ah b d B bW)(bY:B[i]?=J (.obj (.bX Q aD aC H A)))(cv:eR c.B c.prog c.w c.n (.ref a) (.bX Q aD aC H A) bW aJ)(S:(backTo b (starEach d c.env)).any (·.1)=aa)
  (aZ:SR c.B c.ρ O f c.env n q ah s.heap)
  (bQ:∀m P v k r,aJ k r->bU s m->Le f P->SR c.B c.ρ O P c.env n q (B.set i (.obj k)) m.heap->Den c.ρ P v r->cE v m):
  wpAny (model c.prog c.w) c.A (eval (.Call (.Attribute (.Name x cV) z dB) d [] b) c.env) cE fy s:=by
 refine cps λw T=>?_;obtain⟨E,aO,aU,y⟩:=aZ;refine fF (zT l y j aH) λaW w o=>?_;obtain⟨G,bq,p⟩:=o;refine T (aF (eP (eH E y.ns aW (aF (nk ?_))) (cB.eU j)));have bA:methodCallForm (d.length+([]:U Keyword).length) (backTo b (starEach d c.env)) (backToKw b (keywordEach [] c.env))=aA:=by
  show((backTo b (starEach d c.env)).all (λx=>!x.1)&&_&&_)=aA;have:(backTo b (starEach d c.env)).all (λx=>!x.1)=aA:=by
   simpa using S
  rw [this];rfl
 have bD:methodCallPos aA (.Name x cV) c.env dB b=pure b:=by unfold methodCallPos;simp
 unfold methodCall;rw [bA];refine cps λw T=>aG (p.ob.dH (G.self,λR=>R=instObj L.a_ G.d) (lQ (.head _))) λeX u ai=>aG (p.ob.dH (G.d,gT G) (lQ (cA (i:=1) C))) λfU aj ao=>T ?_;dsimp only at ai u aj ao;subst ai;rw [bq]at u;refine cps λw T=>dK (ao.none aV) λgC gJ o fa=>?_;subst o;refine bR (l.ok.fs _ cz) λb7 b_=>T ?_;have F:=l.gS y.base
 refine aF (gf (aF (get_bind F (⟨u,C,C,aj⟩) (tO (l.ok.pg z)).1 (findObj_fn l.ok.hd b7 h.sp h.ta bg (by assumption)) (tO (l.ok.pg z)).2
  (jH (fn_get F (beq_iff_eq.mp b_) (handed_on C (bP (aF (iL bD ?_)))))))))
 have az:=ir s;have aK:=y.free az;have aB:Le f (kO f s.heap.objs.size (methodObj (.ref a) (.ref Q))):=yG aK.fz;refine ks_call S (keeps_M h.fn) (e _ O _ _ _ _ ⟨E,aO,aU,(y.uv (h':=s.heap.push (methodObj (.ref a) (.ref Q))) (bN.push _ _) aB λau R cK=>qO cK (λcO g=>cO.symm▸g▸ .inr ⟨az,eY _ C⟩) .inl)⟩ λbM c9 bK dm X t dJ=>⟨⟨t.ready.bC _ _ (X _ _ pI),l.gS t.ready.base⟩,(cps λw T=>?_)⟩);obtain⟨_,dO,dS,t⟩:=t;refine fF (zT l t j bY) λdX c_ w=>T (jH (method_call (t.ready.bC _ _ (X _ _ pI)) (cv c.A c.ρ c9 (.ref Q) bK _ bM (dS i) c.R t.ready c_ (λau h=>?_) dJ λm P v ff k r d8 g aE eg eu d6 eK eE eL aL=>?_)))
 .exact t.um ((cw.mp j).1) au h
 .exact bQ m P v k r d8 ((bU.trans (cu _ _ C) dm).trans g) (aB.trans (X.trans aE)) ⟨E,dO,_,t.oU j eg eu aE d6 eK dX ⟨.ref Q,C,eE⟩ eL⟩ aL
end
section
variable{α:Type}
noncomputable def r9(k:α->α->bu)(x:α):U α->U α
 | []=> [x]
 |O::r=>if k x O then x::O::r else O::r9 k x r
noncomputable def ko(k:α->α->bu):U α->U α
 | []=> []
 |x::r=>r9 k x (ko k r)
theorem HS(k:α->α->bu)(x:α):∀l,(r9 k x l).Perm (x::l):=λf=>f.rec
 (.refl _)
 (λO r X=>by
  show List.Perm (@ite _ _ _ _ _) _
  split
  .exact .refl _
  .exact((X).cons O).trans (.swap x O r))
theorem K4(k:α->α->bu):∀l,(ko k l).Perm l:=λf=>f.rec
 (.refl _)
 (λx r X=>(HS k x _).trans ((X).cons x))
theorem SW(e:∀a b,k a b=aA->k b a=aa)(i:∀a b c,k a b=aa->k b c=aa->k a c=aa)(x:α):∀{l:U α},l.Pairwise (λa b=>k a b=aa)->(r9 k x l).Pairwise λa b=>k a b=aa:= @λf=>f.rec
 (@λn=>by simp [r9])
 (@λO r X h=>by
  refine bR (vv.mp h) λR E=>?_;show List.Pairwise _ (@ite _ _ _ _ _)
  split
  .rename_i d
   exact vv.mpr ⟨λw s=>by
    rcases cC.mp s with rfl|s
    .exact d
    .exact i _ _ _ d (R w s),h⟩
  .rename_i d;refine vv.mpr ⟨λw s=>?_,X E⟩;rcases cC.mp ((HS k x r).mem_iff.mp s)with rfl|s
   .exact e _ _ (by simpa using d)
   .exact R w s)
theorem WW(e:∀a b,k a b=aA->k b a=aa)(i:∀a b c,k a b=aa->k b c=aa->k a c=aa):∀l,(ko k l).Pairwise λa b=>k a b=aa:=λf=>f.rec
 (.nil)
 (λx r X=>SW e i x (X))
theorem KU{k:α->α->bu}(n:∀a b,k a b=aa->k b a=aa->a=b)(s:∀a,k a a=aa):∀{l R:U α},l.Perm R->l.Pairwise (λa b=>k a b=aa)->R.Pairwise (λa b=>k a b=aa)->l=R
 | [],R,p,_,_=>(List.Perm.nil_eq p).symm▸C
 |x::r, [],p,_,_=>by have:=p.length_eq;exact bB ‹_›
 |x::r,O::f,p,e,L=>by
  refine bR (vv.mp e) λj E=>bR (vv.mp L) λi o=>?_;have t:=by
   have Q:k x O=aa:=by
    rcases cC.mp (p.mem_iff.mpr (ee))with q|q
    .exact(aQ _ q).trans (s x)
    .exact j O q
   have h:k O x=aa:=by
    rcases cC.mp (p.mem_iff.mp (ee))with q|q
    .exact(aQ _ q).trans (s O)
    .exact i x q
   exact n x O Q h
  subst t;exact aQ _ (KU n s (List.Perm.cons_inv p) E o)
theorem KZ(e:∀a b,le a b=aA->le b a=aa)(i:∀a b c,le a b=aa->le b c=aa->le a c=aa)(n:∀a b,le a b=aa->le b a=aa->a=b)(s:∀a,le a a=aa)(p:R.Perm l)(h:R.Pairwise λa b=>le a b=aa):R=ko le l:=
 KU n s (p.trans (K4 le l).symm) h (WW e i l)
end
noncomputable def ef(a b:U Y):bu:=!decide (b<a)
theorem zd(a b:U Y)(h:ef a b=aA):ef b a=aa:=by
 unfold ef at*;simp at h⊢;exact List.le_of_lt h
theorem ze(a b c:U Y)(h:ef a b=aa)(L:ef b c=aa):ef a c=aa:=by
 unfold ef at*;simp only [El,decide_eq_false_iff_not]at*;exact((List.le_trans (EK.mp h) (EK.mp L)))
theorem Cq(a b:U Y)(h:ef a b=aa)(L:ef b a=aa):a=b:=by
 unfold ef at*;simp only [El,decide_eq_false_iff_not]at*;exact List.le_antisymm (EK.mp h) (EK.mp L)
theorem zc(a:U Y):ef a a=aa:=by
 unfold ef;simp
noncomputable abbrev gu(l:U (U Y)):U (U Y):=ko ef l
noncomputable def uD(a b:aq):bu:=decide (a<=b)
noncomputable abbrev q6(l:U aq):U aq:=ko uD l
theorem TJ:Spec.ltCps a b=decide (a<b):=ltCps_eq a b
theorem KT:∀{l:U (U Y)},sortedS (l.map b3)=aa->l.Pairwise λa b=>ef a b=aa
 | [],_=> .nil
 | [x],_=>by simp
 |x::O::r,h=>by
  refine bR (ew.mp (h)) λR E=>?_;have E:=KT (l:=O::r) E;have R:ef x O=aa:=by unfold ef;rw [<-TJ];exact R
  exact vv.mpr ⟨λw s=>by
   rcases cC.mp s with rfl|s
   .exact R
   .exact ze _ _ _ R ((vv.mp E).1 w s),E⟩
theorem U'{a:U af}(p:a.Perm (l.map b3))(h:sortedS a=aa):a=(gu l).map b3:=by
 have e:a=(a.map λs=>s.cps.toList).map b3:=by
  rw [d_]
  conv=>lhs;rw [<-xB a]
  exact iZ λs w=>C
 have t:(a.map λs=>s.cps.toList).Perm l:=by
  have:=p.map λs:af=>s.cps.toList;rw [d_]at this;have Q:l.map ((λs:af=>s.cps.toList)∘b3)=l:=by
   conv=>rhs;rw [<-xB l]
   exact iZ λs w=>by simp [b3]
  rwa [Q]at this
 rw [e]at h;have:=KZ zd ze Cq zc t (KT h);rw [e,this]
theorem FJ:∀{l:U (U Y)}{y:U ay},StrsAre y (l.map b3)->aY B f y (l.map .str)
 | [],_,h=>by cases h;exact .nil
 |x::r,_,h=>by cases h with|cons _ E h=>exact .cons (.str x E) (FJ h)
theorem Gu:∀{l:U (U Y)}{y:U ay},aY B f y (l.map .str)->StrsAre y (l.map b3)
 | [],_,d=>d.g6 (P:=λy=>StrsAre y []) .nil
 |x::r,_,d=>d.iO (P:=λy=>StrsAre y _) λw T a b=>a.g_ (P:=λv=>StrsAre (v::T) _) λE=> .cons (b3 x) E (Gu b)
section
theorem WQ(z:n.OneLt){T:String}(t:T= "list"\/T= "tuple")(Q:s.heap.get? l=J o)(m:o.cls= .type T)(r:o.data= .seq y.toArray X)(d:KeysOf n (pairsOf y))
  (v:∀k R rest,y=k::R::rest->keyKind' (k::R::rest).toArray=pure oneType')(i:y.length<64)
  (A:∀(H:SortSt)(L:b8)(a:ak)(e:Y),(arrOf H).Perm (pairsOf y)->SortedToK n (arrOf H) (pairsOf y).size->bN s.heap L->L.get? a=J (lo ((arrOf H).map (·.2)).toList e)->s.heap.get? a=ae->b (.ref a) {s with heap:=L}):
  wpAny (model B S) F (call (.builtin "sorted") [.ref l]) b G s:=by
 refine Calls.call_function_entry kind_sorted plain_sorted entry_sorted (args_sorted1 _) ?_;unfold Builtin.«sorted»;refine aF (bP (aF (wpAny_collect_seq l t Q m r (λO g=>(aF (Fb ?_))) (by simp only [l_];rw [jG];exact bL 0 (.v 0) (.n 16777216) (.a (.v 0) (.n 1)) (.n 64) C [_] i))));have h:(O.push (seqObj "list" y.toArray 0)).get? O.objs.size=J (seqObj "list" y.toArray 0):=eY _ C;show wpAny _ _ _ _ _ {s with heap:=O.push (seqObj "list" y.toArray 0)};have u:s.heap.get? O.objs.size=ae:=by
  cases q:s.heap.get? O.objs.size with
  |none=>rfl
  |some o=>exact cg (eM (g _ _ q)) (nj _)
 refine aF (gf (wpAny_call_entry slot_list_sort (aM _ h C) entry_list_sort (list_sort_treeK z h d v i λH j c=>(aM _ C (bZ (sortedHeap_at h) λe w=>(bP (aM _ C (A H _ _ e j c (λp E q=>?_) (w) u)))))) (args_list_sort _)));have x:=g p E q;have f:=eM x;exact(sortedHeap_old (fW f) (by rw [jX];exact ql f)).trans (eF _ x)
end
section
theorem b5.one(r:Ready w f s)(k:bN s.heap L)(Q:L.get? a=J o)(v:s.heap.get? a=ae):b5 w f s (λb=>if b=a then J o else f b) {s with heap:=L}where
 same:=(cu L _ C)
 keep:=k.t
 inv:=w.e8 r.inv λX h o e=>k X o e
 le:=λb x e=>by
  show(if b=a then _ else f b)=_;rw [bF (λq=>by rw [q]at e;have:=r.bC a x e;exact aT v this)];exact e
 bC:=λb x e=>by
  have e:(if b=a then J o else f b)=J x:=e
  split at e
  .rename_i q;obtain rfl:=bf e;exact(aQ _ q).trans Q
  .exact k b x (r.bC b x e)
 new:=λb x e=>by
  have e:=e
  split at e
  .rename_i q;exact q.symm▸(.inr v)
  .exact .inl e
theorem Kc{T:String}(t:T= "list"\/T= "tuple")(m:k= .ref a)(Q:f a=J o)(y:o.cls= .type T)(q:o.data= .seq b.toArray s)(z:aY B f b (l.map .str))(h:l.length<64):
  PO w (model A X) ah B (call (.builtin "sorted") [k]) f (.list ((gu l).map .str)):=by
 subst m;intro n p c r O;have d:=Gu z;have G:=by have:=z.length;simpa using this
 refine WQ strKind_oneLt t (r.bC _ _ Q) y q d.keysOf (λai aj rest e=>keyKind_strs (by rw [<-e];exact d)) (cF 0 (.a (.v 1) (.n 1)) (.n 64) (.a (.v 0) (.n 1)) (.n 64) (.v 1) (.v 0) C [_,_] h ((c4 G))) λj L u e H x g i v=>jq (sorted_out_str d H x) λF R E S=>?_;rw [(U' E S)]at R;have P:=b5.one r g i v;exact O _ _ _ P (.list (bB C) ((FJ R).mono P.le))
theorem Vy(d:Den B f k (.tup (l.map .str)))(T:l.length<64):PO w (model i X) F B (call (.builtin "sorted") [k]) f (.list ((gu l).map .str)):=by
 obtain⟨a,y,u,p,z,rfl⟩:=d.inv;exact Kc (.inr C) C p C C z T
theorem Vx(d:Den B f k (.list (l.map .str)))(T:l.length<64):PO w (model i X) F B (call (.builtin "sorted") [k]) f (.list ((gu l).map .str)):=by
 obtain⟨a,y,u,p,z,rfl⟩:=d.inv;exact Kc (.inl C) C p C C z T
theorem Cg:∀{l:U aq}{y:U ay},aY B f y (l.map .int)->IntsAre y l
 | [],_,d=>d.g6 (P:=λy=>IntsAre y []) .nil
 |_::_,_,d=>d.iO (P:=λy=>IntsAre y _) λw T a b=>a.gh (P:=λv=>IntsAre (v::T) _) λE=> .cons _ E (Cg b)
theorem Ou(h:IntsAre y l):aY B f y (l.map .int):=IntsAre.rec .nil (λu E w w w i=> .cons (.int u E) i) h
set_option tactic.hygienic true in
theorem Vw(d:Den B f k (.list (l.map .int)))(T:l.length<64):PO w (model x X) F B (call (.builtin "sorted") [k]) f (.list ((q6 l).map .int)):=by
 cases d with
 |list p z=>
  intro s Q t r O;rename_i a y i;have G:=by have:=z.length;simpa using this
  refine sorted_ints (fL r.bC p) (Cg z) (cF 0 (.a (.v 1) (.n 1)) (.n 64) (.a (.v 0) (.n 1)) (.n 64) (.v 1) (.v 0) C [_,_] T ((c4 G))) λe n R E S=>?_;rw [(KZ (le:=uD) (λa b h=>by unfold uD at*;simp at*;omega) (λa b c h L=>by unfold uD at*;simp at*;omega) (λa b h L=>by unfold uD at*;simp at*;omega) (λa=>by unfold uD;simp) E (S.imp (decide_eq_true)))]at R;obtain⟨j,u⟩:=sortedAll_at s.heap y e;have v:s.heap.get? (s.heap.objs.size+1)=ae:=by
   cases q:s.heap.get? (s.heap.objs.size+1)with
   |none=>rfl
   |some o=>exact cg (eM q) (gW.mpr (xD _))
  have P:=b5.one r (λb o q=>sortedAll_old q) u v;exact O _ _ _ P (.list (bB C) ((Ou R).mono P.le))
end
section
theorem Y6(F:Fm c.env n k r)(m:Y)(G:r[m]?=J (("sorted":af), .globalImplicit))(h:EE c n k g e u (.tup (l.map .str)))(T:l.length<64)(P:dj e=aa):EE c n k g (.Call (.Name "sorted" p) [e] [] b) u (.list ((gu l).map .str)):=
 oZ F m 6 G C (zr h cj P) (by simp [P]) λf y d=>by refine aG d.iy λv A q=>?_;subst A;exact Vy q T
theorem Y5(F:Fm c.env n k r)(m:Y)(G:r[m]?=J (("sorted":af), .globalImplicit))(h:EE c n k g e u (.list (l.map .str)))(T:l.length<64)(P:dj e=aa):EE c n k g (.Call (.Name "sorted" p) [e] [] b) u (.list ((gu l).map .str)):=
 oZ F m 6 G C (zr h cj P) (by simp [P]) λf y d=>by refine aG d.iy λv A q=>?_;subst A;exact Vx q T
theorem Y7(F:Fm c.env n k r)(m:Y)(G:r[m]?=J (("sorted":af), .globalImplicit))(h:EE c n k g e u (.list (l.map .int)))(T:l.length<64)(P:dj e=aa):EE c n k g (.Call (.Name "sorted" p) [e] [] b) u (.list ((q6 l).map .int)):=
 oZ F m 6 G C (zr h cj P) (by simp [P]) λf y d=>by refine aG d.iy λv A q=>?_;subst A;exact Vw q T
end
section
theorem YS(l:bH c.B c.prog c.w L)(aB:u+2<=c.n)(F:Fm c.env n k x)(i m:Y)(G:x[m]?=J (z, .globalImplicit))(j:c.mg z=J (.ref L.a_))(R:(("__init__":af),ah)∈L.fs)(az:∀Q d,eR c.B c.prog c.w (u+1) (.ref ah) (.gH Q d 0) [] λa r=>a= .bX Q [] ae 0 0/\r= .none)
  (s:n[i]?=J w)(h:i<k)(P:swapsWith (.Call (.Name z p) [] [] o) (J (.Name w q)) f.line c.env=pure aA):
  SP c n k g (.Assign [.Name w q] (.Call (.Name z p) [] [] o) f) λS v=>∃Q,S=g.set i (.obj (.bX Q [] ae 0 0))/\v= .next:=by
 constructor;intro aO aV aL bg bz X B T;obtain⟨E,aW,aZ,y⟩:=B
 exact kF (kG (pN c.G E y.base (F.kn m G nofun) j (F.kg m G) (callWith_K0 (l.gS y.base) l.ok.Il (TR l (c.R.less aB) R az y λbq ai Q O A aj ao H Fr=>gc (av:= .obj (.bX Q [] ae 0 0)) (fp:=O) E X ao s h (F.loc s h) ⟨_,C,H⟩ ⟨λb t=>(jt ((Fr b t).hb) ((Fr b t).fz) ((Fr b t).loc) ((Fr b t).cell)),λaC aU aD b t=>(Fr b t).fp aC aD,λau aH t=>(Fr au t).tab aH⟩
  λaE aJ aK e=>T aE ai .next _ .next (aM Q C C) (A.trans aK) aj ⟨E,aJ,_,e⟩ trivial)))) P
theorem Mj(l:bH c.B c.prog c.w L)(F:Fm c.env n k aE)(i:Y)(y:n[i]?=J x)(ah:g[i]?=J (.obj (.bX Q al o w u))){e:Ob}(H:(z,a)∈L.fs)(j:tR L a)(v:z∉(["_node2info", "_ready_nodes", "_npassedout", "_nfinished"]:U af))(p:copiedNames.contains z=aA)
  (q:∀{h},bN c.B.bI h->h.get? a=J f)(r:f.data= .func aC)(h:xU c n k g b d s E)(A:s[i]?=J (.obj (.bX Q al o w u)))(X:eR c.B c.prog c.w c.n (.ref a) (.bX Q al o w u) E λt B=>t=e/\B= .none)(P:(backTo b (starEach d c.env)).any (·.1)=aa)
  (T:swapsWith (.Call (.Attribute (.Name x O) z m) d [] b) ae R.line c.env=pure aA):
  ES c n k g (.Expr (.Call (.Attribute (.Name x O) z m) d [] b) R) (s.set i (.obj e)) .next:=by
 constructor;intro aH aJ aO aU aV aW S ai;refine rB (T5 l F i y ah H j v p q r h A X P S λaj G aK t aL au ao az aB aD=>?_) (by unfold interactive;exact S.1.kind.symm▸C) T;obtain⟨rfl,_⟩:=au;exact ai aj G .next ao az aB trivial
theorem Mh(l:bH c.B c.prog c.w L)(F:Fm c.env n x bK)(i:Y)(j:n[i]?=J s)(B:g[i]?=J (.obj (.bX au aC aO w u)))(e:(z,a)∈L.fs)(v:z∉(["_node2info", "_ready_nodes", "_npassedout", "_nfinished"]:U af))
  (Q:∀{h},bN c.B.bI h->h.get? a=J S)(k:S.data= .func b_)(b:eR c.B c.prog c.w c.n (.ref a) (.bX au aC aO w u) [] λt q=>t=o/\q=f)(m:(d.endLine==r.line)=aa):
  EE c n x g (.Call (.Attribute (.Name s b7) z d) [] [] r) (g.set i (.obj o)) f:=by
 constructor;intro bA T O bD bM P ah;refine cps λbY ai=>?_;obtain⟨E,aj,ao,y⟩:=P;refine fF (zT l y j B) λp az aB=>?_;obtain⟨G,X,aD⟩:=aB;refine ai ?_;subst X
 exact zm l F j E y p aD e v C (bx C) m (xK ⟨⟨Q y.base,k⟩,jH (b c.A c.ρ T (.ref G.self) [] _ O (ao i) c.R y.ready az (y.um (kh j)) .nil λH aH aJ bQ t bW aK aL R aU aE aW aZ aV bq bg=>by
  refine bR aK λbz A=>?_;subst bz A
  exact ah H aH aJ aL R ⟨E,aj,_,y.oU j aU aE R aW aZ p ⟨.ref G.self,C,aV⟩ bq⟩ bg)⟩)
end
section
set_option tactic.hygienic true
section
theorem WC{B:Type}{l:U B}{x:B}(h:l[i]?=J x):l.set i x=l:=by
 refine bZ (cw.mp h) λz A=>?_;subst A;exact List.set_getElem_self z
theorem Ut{B:Type}{a b d O:B}(R:O≠a)(E:O≠b)(S:O≠d):O∉ [a,b,d]:=λh=>(cC.mp h).elim R λh=>(cC.mp h).elim E λh=>S (cI.mp h)
theorem Vc{x v:String}{i:U ay}{y:b8}(O:OwnCls x a i b n y)(z:ExcBaseFacts v b j i){F:cZ}{Q:bu->aR->Prop}{e:ak}{m:bE}(k:bN y s.heap)(R:s.heap.get? e=J m)(E:m.cls= .ref a)(h:Q aa s):
  wpAny P F (excMatches (.ref e) (.ref a)) Q G s:=by
 refine cps λ_ T=>?_;obtain⟨L,t,o,X,u,f,q,sub,g,r,p,c,w,H,A,B,S,d,ah,ai,l⟩:=O.obj;exact T (wpAny_excMatches_sub_self (k _ _ d) R E (l.hasType z.hasBase) h)
theorem VB(ao:bH c.B c.prog c.w nM)(p:iM c [])(F:Fm c.env xs k eE)(i j q:Y)(hx:xs[i]?=J bg)(d8:lv[i]?=J (.obj (.bX Q al ae w u)))(eL:(z,aE)∈nM.fs)(k6:z∉(["_node2info", "_ready_nodes", "_npassedout", "_nfinished"]:U af))
  (ho:∀{x},bN c.B.bI x->x.get? aE=J nP)(qc:nP.data= .func D8)(qf:nV c.B c.prog c.w c.n (.ref aE) (.bX Q al ae w u) [] (.ref aK) λaL r=>aL= .bX Q al (J P) w u/\r=zO L)(eX:(au.endLine==bz.line)=aa)
  (az:eE[q]?=J (("CycleError":af), .globalImplicit))(bA:OwnCls "CycleError" aK iz jj c.mg c.B.bI)(jW:ExcBaseFacts D5 jj D_ iz)(b_:xs[j]?=J bY)(cz:j<k)(cK:lv[j]?=J (.t (.bool aA)))(ff:i≠j)
  (d6:swapsWith (.Call (.Attribute (.Name bg eu) z au) [] [] bz) ae gK.line c.env=pure aA)(gV:swapsWith (.Constant (.bool aa) kk k7) (J (.Name bY c_)) dm.line c.env=pure aA):
  ES c xs k lv (.Try [.Expr (.Call (.Attribute (.Name bg eu) z au) [] [] bz) gK] [.ExceptHandler (J (.Name "CycleError" Eg)) ae [.Assign [.Name bY c_] (.Constant (.bool aa) kk k7) dm] Eh] [] [] Ar)
   ((lv.set i (.obj (.bX Q al (J P) w u))).set j (.t (.bool L.isSome))) .next:=by
 constructor;intro aB v aC Ec D6 fa fx aD;refine cps λ_ kk=>?_;obtain⟨E,H,aH,y⟩:=fx;refine fF (zT ao y hx d8) λm o7 p9=>?_;obtain⟨G,rfl,qd⟩:=p9;refine kk ?_;have d:=kh hx;have A:=y.fp i d;refine Nz (gN (rB (zm ao F hx E y m qd eL k6 C (bx C) eX (xK ⟨⟨ho y.base,qc⟩,jH (qf c.A c.ρ v (.ref G.self) [] _ aC (aH i) [c.env.locals] [] (y.G7 p d) c.R y.ready o7 (y.um d) .nil λs' s_ cO aL r Eb X aJ R ai dJ aO aU dX aV yS aW=>(bR X λeg aZ=>?_))⟩)) (by unfold interactive;exact E.kind.symm▸C) d6));subst eg;have aj:=KS dJ (.head _) y.ns;cases r with
 |some t=>
  refine aG aW λMs eK As=>?_;subst eK;cases L<;>first|(cases aZ;done)|skip
  refine rC (rC (aD s' s_ .next aJ R ?_ trivial));have e:(lv.set i (.obj (.bX G.self al (J P) w u))).set j (.t (.bool (ae:aS (U (U Y))).isSome))=lv.set i (.obj (.bX G.self al (J P) w u)):=WC ((k9 ff).trans cK);exact e.symm▸⟨E,H,_,y.w9 hx (λb B a n o ho=>ai b B a (λq=>n (cI.mp q)) o ho) aj aO R aU dX m ⟨.ref G.self,C,aV⟩ λb h=>⟨(yS b h).1.imp id y.free,(yS b h).2⟩⟩
 |none=>
  refine ua aW λe fy fU gv gC gJ bD bK=>?_;subst gv;cases L<;>first|(cases aZ;done)|skip
  refine cps λ_ kk=>?_;obtain⟨S,D0,D4,iK,D7,D9,Ea,cV⟩:=Lw gJ;refine aG p.fr λiX dB dS=>kk ?_;have T:∀{b},(fU.get? b).isSome=aa->b≠e/\b≠S:=λh=>⟨λq=>dg (aQ ro gC) (q▸h),λq=>dg (aQ ro iK) (q▸h)⟩;have g:∀{b o},aC.heap.get? b=J o->b≠e/\b≠S:=λho=>T (bD _ (cS ho));have dO:Heap.FlyingW (rest s'.heap [e,S,c.env.locals]) (c.env::iX) e (.ref aK) fy s'.heap:=
   ⟨sJ _,ry _ (.head _),BI (λbM s=>ry _ (cI.mp s▸cN 2 C)) (λbM s=>(cI.mp s).symm▸gZ aj λo bQ bQ ho k8 bQ=>⟨o,ho,λ_ q=>nomatch k8.symm.trans q⟩)
    λl6 ah=>(cC.mp ah).elim (λq=>q.symm▸⟨p.kd,_, .head _,p.own⟩) λah=>match dS l6 ah with|⟨_,bM,s,_⟩=>(nomatch s),
    cV _ (ry _ (cN 1 C))⟩
  have bW:∀{b o},b≠e/\b≠S->b≠c.env.locals->s'.heap.get? b=J o->(rest s'.heap [e,S,c.env.locals]).get? b=J o:=λB a ho=>mZ ho (Ut B.1 B.2 a);have bq:∀{x},(rest s'.heap [e,S,c.env.locals]).StaysIn x->bN c.B.bI x:=λk b o q=>by
   have h:=y.fB b o q;have b7:=fT y.nL.1 h;exact k b o (bW (g (y.base b o q)) b7 (ai b (λr=>aT (A b r).1 h) (y.iH h) (λr=>b7 (cI.mp r)) o (y.base b o q)))
  refine wpAny_looks_onW dB p.own dO λEd p6 p7=>wpAny_landsW p6 λp8 O p_=>aG O.there λD3 kA qb=>?_;have cv:=bq O.1;refine wpAny_handleBy_cons (codeAny_handlers_test (pN (s:={s' with heap:=p8}) c.G E cv (F.kn q az nofun) bA.bound (F.kg q az) (Vc bA jW cv kA qb (codeAny_handlers_suite (lands_againW O λl cB qe=>?_))))) nofun;have f:∀{b o},b≠e/\b≠S->b≠c.env.locals->s'.heap.get? b=J o->l.get? b=J o:=λB a ho=>cB.1 _ _ (bW B a ho);have qa:aN c.B c.ρ aB v c.env xs k (lv.set i (.obj (.bX G.self al (J P) w u))) H (bT aH i cO) l:=
   y.w9 hx (λb B a n o ho=>f (g ho) n (ai b B a (λq=>n (cI.mp q)) o ho)) (((p7.trans p_).trans qe).ns aj)
    (c.B.e8 aO λX cE o ho=>f (T (bD X (c.B.live y.inv X cE))) (y.tab X cE).2.2.1 ho) (Le.refl _) (λb o ho=>f (g (y.bC b o ho)) (fT y.nL.2 ho) (aU b o (R b o ho))) (λb o e=> .inl e) m
    ⟨.ref G.self,C,c.B.frame aV (bq cB.1) λb h o ho=>f (T (bK b h)) ((λ_ r q=>r.elim (λr=>(A _ r).2.2.1 q) λr=>dg (aQ ro (q▸r)) (CK y.ns)) (bK b h) (yS b h).1) ho⟩ λb h=>(yS b h).1.elim (λr=>⟨.inl r,(A b r).2.1⟩) λr=>⟨.inr (y.free r),(y.free r).fz⟩
  refine gN (GO b_ cz (F.loc b_ cz) (v3 (τ:= .bool aa) C) gV aB v {s' with heap:=l} _ _ fa ⟨E,H,_,qa⟩ λtn s6 Ef vn vm xo c9=>?_);cases c9.nx;exact rC (aD tn s6 .next ((aJ.trans ⟨l,_,C⟩).trans vn) vm xo trivial)
end
end
noncomputable def xP(c:Cx Ob)(L:Cl)(z:af)(o:Ob)(E:U T)(q:Ob->T->Prop):Prop:=
 ∃a S f,(z,a)∈L.fs/\tR L a/\(∀{h},bN c.B.bI h->h.get? a=J S)/\S.data= .func f/\eR c.B c.prog c.w c.n (.ref a) o E q
structure rP(c:Cx Ob)(cl:Cl):Prop where
 ad:∀sf al(node:U Y)(zP:U (U Y)),al.length+zP.length<=900->(∀a∈al,a.2.2.length+zP.length<=900)->xP c cl "add" (.bX sf al ae 0 0) (.str node::zP.map .str) λo' r=>o'= .bX sf (jM al node zP) ae 0 0/\r= .none
 gr:∀sf al(rl:U (U Y))po fi,rl.length<=900->(∀p∈rl,∃a∈al,a.1=p)->xP c cl "get_ready" (.bX sf al (J rl) po fi) [] λo' r=>o'= .bX sf (jy al rl) (J []) (po+rl.length) fi/\r= .tup (rl.map .str)
 ia:∀sf al(rl:U (U Y))po fi,rl.length<=900->xP c cl "is_active" (.bX sf al (J rl) po fi) [] λo' r=>o'= .bX sf al (J rl) po fi/\r= .bool (decide (fi<po)||!rl.isEmpty)
 dn:∀sf al rl po fi(ps:U (U Y)),ps.length<=900->pQ (al,rl) ps=aa->xP c cl "done" (.bX sf al (J rl) po fi) (ps.map .str) λo' r=>o'= .bX sf (mJ (al,rl) ps).1 (J (mJ (al,rl) ps).2) po (fi+ps.length)/\r= .none
noncomputable def uX:Y->U AN->U (U Y)->U (U (U Y))->aS (U (U (U Y)))
 |0,_,_,_=>ae
 |u+1,T,o,d=>if o.isEmpty then J d else
   if o.all (λp=>T.any λa=>decide (a.1=p))&&decide (o.length<=50)&&decide (d.length<=50)&&pQ (jy T o, []) (gu o)then uX u (mJ (jy T o, []) (gu o)).1 (mJ (jy T o, []) (gu o)).2 (d++ [gu o])else ae
noncomputable abbrev jA(d:U (U (U Y))):U T:=d.map λr=> .list (r.map .str)
section
noncomputable abbrev Kp:b9:=kr (J (b6 16))
noncomputable abbrev Ko:U cf:=jD (J (b6 16))
theorem Kq(l:bH c.B c.prog c.w L)(F:Fm c.env cD 27 eN)(a:rP c L){al:U AN}(B:o.length<=900):
  EC c cD 27 (LV a0 a1 a2 a3 a4 a5 a6 a7 a8 a9 gg fk ie n_ pB (.obj (.bX sf al (J o) po po)) oh my kI oi lq lu ly lz kJ jL kK) Kp (LV a0 a1 a2 a3 a4 a5 a6 a7 a8 a9 gg fk ie n_ pB (.obj (.bX sf al (J o) po po)) oh my kI oi lq lu ly lz kJ jL kK) (!o.isEmpty):=by
 refine ua (a.ia sf al o po po B) λi h f R E S A r=>?_;have e:(decide (po<po)||!o.isEmpty)=!o.isEmpty:=by simp
 rw [e]at r;exact oX (Mh l F 15 C C R (by decide) S A r C) C λw=>C
theorem VX(l:bH c.B c.prog c.w L)(F:Fm c.env cD 27 eN)(h:rP c L)(B:o.length<=50)(T:d.length<=50)(g:∀aE∈o,∃a∈al,a.1=aE)(q:pQ (jy al o, []) (gu o)=aa):
  EX c cD 27 (LV x j b i n R k E e m v O s y p (.obj (.bX Q al (J o) w w)) f u (.own (jA d)) H P r z A S jL ah) Ko
   (LV x j b i n R k E e m v O s y p (.obj (.bX Q (mJ (jy al o, []) (gu o)).1 (J (mJ (jy al o, []) (gu o)).2) (w+o.length) (w+o.length))) f u (.own (jA (d++ [gu o]))) H P r z A S jL ah) .next:=by
 refine ua (h.gr Q al o w w (bh B (bx C)) g) λa aH aJ ai aK aj ao au=>?_;have G:(gu o).length=o.length:=(K4 ef o).length_eq;refine ua (h.dn Q (jy al o) [] (w+o.length) w (gu o) (cF 0 (.v 1) (.n 900) (.v 0) (.n 50) (.v 1) (.v 0) C [_,_] B ((c4 G))) q) λaL aO aU aB aC az aD X=>?_;rw [G]at X;have t:jA (d++ [gu o])=jA d++ [.list ((gu o).map .str)]:=by simp
 rw [t];exact zx (xd F 18 C C (Y6 F 34 C (Mh l F 15 C C ai (by decide) aj ao au C) (bL 0 (.a (.v 0) (.n 1)) (.n 64) (.v 0) (.n 50) C [_] B) C) C C C (dM (by simp;exact bh T (bx C)))) (dN (Mj l F 15 C C aB aC (by decide) (C) az aD (Ot (sY F 18 C C (DX (rf 1)) (zW (by simp)) C) (by simp;exact cF 0 (.v 1) (.n 1000) (.v 0) (.n 50) (.v 1) (.v 0) C [_,_] B ((c4 G)))) C X C C) C)
theorem VY(l:bH c.B c.prog c.w aC)(F:Fm c.env cD 27 eN)(x:rP c aC):∀(e:Y)(T:U AN)(o:U (U Y))(w:aq)(d L:U (U (U Y))),uX e T o d=J L->
  ∃f S,EW c cD 27 Kp Ko [] e (LV j ai aj R au ao k E G m v O s b n (.obj (.bX Q T (J o) w w)) q t (.own (jA d)) H P g r z A X ah)
   (LV j ai aj R au ao k E G m v O s b n (.obj (.bX Q f (J []) S S)) q t (.own (jA L)) H P g r z A X ah) .next:=λaB=>aB.rec
 (λT o w d L h=>aT C h)
 (λe aJ T o w d L h=>by
  have h:(if o.isEmpty=aa then J d else if(o.all (λp=>T.any λa=>decide (a.1=p))&&decide (o.length<=50)&&decide (d.length<=50)&&pQ (jy T o, []) (gu o))=aa then uX e (mJ (jy T o, []) (gu o)).1 (mJ (jy T o, []) (gu o)).2 (d++ [gu o])else ae)=J L:=h
  by_cases u:o.isEmpty=aa
  .rw [bB u]at h;obtain rfl:=bf h;have i:=List.isEmpty_iff.mp u;exact i.symm▸((cu T w (lZ (Kq l F x (by simp)) eO)))
  .rw [bF u]at h
   split at h
   .rename_i y;have⟨y,aD⟩:=ew.mp y;have⟨y,aE⟩:=ew.mp y;have⟨aH,B⟩:=ew.mp y;have B:=of_decide_eq_true B;have aK:=λp aL=>by
     have:=kC.mp aH p aL;exact aG (tE.mp this) λa aO i=>(aM a aO (of_decide_eq_true i))
    refine jP (aJ _ _ (w+o.length) _ L h) λf S aU=>?_;have az:=Kq (a0:=j) (a1:=ai) (a2:=aj) (a3:=R) (a4:=au) (a5:=ao) (a6:=k) (a7:=E) (a8:=G) (a9:=m) (gg:=v) (fk:=O) (ie:=s) (n_:=b) (pB:=n) (oh:=q) (my:=t) (kI:= .own (jA d)) (oi:=H) (lq:=P) (lu:=g) (ly:=r) (lz:=z) (kJ:=A) (jL:=X) (kK:=ah) (sf:=Q) (al:=T) (po:=w) l F x (bh B (bx C));have aV:o.isEmpty=aA:=by simpa using u
    rw [aV]at az;exact(cu f S (lX az (VX l F x B (of_decide_eq_true aE) aK aD) aU))
   .exact aT C h)
end
noncomputable def eB(n p q:Y)(T:U (U Y))(i m:Y):aq:=(wz n p q (T.getD i []) (T.getD m []):Y)
noncomputable def lD(n p q:Y)(T:U (U Y))(i m:Y):bu:=decide (eB n p q T m m-eB n p q T m i<eB n p q T i i-eB n p q T i m)
noncomputable def g7(n p q:Y)(T:U (U Y))(i:Y):U (U Y):=([0,1,2].filter (lD n p q T i)).map λm=>T.getD m []
noncomputable def qz(n p q:Y)(T:U (U Y)):U AN:=jM (jM (jM [] (T.getD 0 []) (g7 n p q T 0)) (T.getD 1 []) (g7 n p q T 1)) (T.getD 2 []) (g7 n p q T 2)
theorem uU(n p q T i):(g7 n p q T i).length<=3:=by
 unfold g7;rw [cH];exact xy _ _
theorem Hp(A:U AN)(l:U Y):(fJ A l).length<=A.length+1:=by unfold fJ;split<;>simp
theorem vN(A:U AN)(O:U Y):∀(a:U (U Y)),(jM A O a).length<=A.length+1+a.length:=by
 intro a;unfold jM;have d:(kT (fJ A O) O a.length).length<=A.length+1:=by unfold kT;rw [cH];exact Hp A O
 generalize kT (fJ A O) O a.length=g at d;have:∀(u:U (U Y))(g:U AN)(k:Y),g.length<=k->(u.foldl (λA p=>iU (fJ A p) p O) g).length<=k+u.length:=by
  intro u
  induction u with
  |nil=>intro g k h;simpa using h
  |cons p u X=>
   intro g k h;rw [MW];have:=X (iU (fJ g p) p O) (k+1) (by unfold iU;rw [cH];have:=Hp g p;exact cF 0 (.v 2) (.a (.v 1) (.n 1)) (.v 0) (.v 1) (.v 2) (.a (.v 0) (.n 1)) C [_,_,_] h this);simp only [gw];exact bL 0 (.v 0) (.a (.v 1) (.a (.v 2) (.n 1))) (.v 0) (.a (.a (.v 1) (.n 1)) (.v 2)) C [_,_,_] this
 exact this a g _ d
theorem Fv(O:U Y){L:U AN}{k:Y}(e:U (U Y))(h:∀a∈L,a.2.2.length<=k):∀a∈jM L O e,a.2.2.length<=k+e.length:=by
 have i:∀(g:U AN)(l:U Y)(k:Y),(∀a∈g,a.2.2.length<=k)->∀a∈fJ g l,a.2.2.length<=k:=λg l k h a r=>by
  unfold fJ at r
  split at r
  .exact h a r
  .rcases fb.mp r with r|r
   .exact h a r
   .rw [cI.mp r];simp
 have v:∀a∈kT (fJ L O) O e.length,a.2.2.length<=k:=λa r=>by
  unfold kT at r;refine aG (eZ.mp r) λb t x=>?_;subst x;have:=i L O k h b t
  split<;>exact this
 unfold jM;generalize kT (fJ L O) O e.length=g at v;have:∀(u:U (U Y))(g:U AN)(k:Y),(∀a∈g,a.2.2.length<=k)->∀a∈u.foldl (λL p=>iU (fJ L p) p O) g,a.2.2.length<=k+u.length:=by
  intro u
  induction u with
  |nil=>intro g k h;simpa using h
  |cons p u X=>
   intro g k h a r;rw [MW]at r
   have:=X (iU (fJ g p) p O) (k+1) (λa r=>by
    unfold iU at r;refine aG (eZ.mp r) λb t x=>?_;subst x;have:=i g p k h b t
    split
    .simp;exact this
    .exact bL 0 (.v 0) (.a (.v 1) (.n 1)) (.v 0) (.v 1) C [_,_] this) a r
   simp only [gw];exact bL 0 (.v 0) (.a (.v 1) (.a (.v 2) (.n 1))) (.v 0) (.a (.a (.v 1) (.n 1)) (.v 2)) C [_,_,_] this
 exact this e g k v
section
variable{w1 w2:U Y}
theorem qT(h:i<3)(L:m<3):lI (oF b0 p q [w0,w1,w2]) (.int (i:Y))=J (za b0 p q [w0,w1,w2] ([w0,w1,w2].getD i []))/\lI (za b0 p q [w0,w1,w2] ([w0,w1,w2].getD i [])) (.int (m:Y))=J (.int (eB b0 p q [w0,w1,w2] i m)):=by
 constructor
 .refine gb (by omega) ?_
  match i,h with
  |0,_|1,_|2,_=>rfl
 .refine gb (by omega) ?_
  match m,L with
  |0,_|1,_|2,_=>rfl
theorem CA(b:bH c.B c.prog c.w bg)(F:Fm c.env cD 27 eN)(t:rP c bg){e:U AN}{i:Y}(z:i<3)(B:e.length<=100)(P:∀a∈e,a.2.2.length<=100):
  EX c cD 27 (LV f ai aE aH aJ aL aU aK aW aV aZ (.t (.list (wT [O,w1,w2]))) s y (.t (oF n p q [O,w1,w2])) (.obj (.bX Q e ae 0 0)) (.t (.int (i))) v g d w E A S L R ah) (fY (J (b6 13)))
   (LV f ai aE aH aJ aL aU aK aW aV aZ (.t (.list (wT [O,w1,w2]))) s y (.t (oF n p q [O,w1,w2])) (.obj (.bX Q (jM e ([O,w1,w2].getD i []) (g7 n p q [O,w1,w2] i)) ae 0 0)) (.t (.int (i))) v g d w E A S L R ah) .next:=by
 have x:=uU n p q [O,w1,w2] i;refine ua (t.ad Q e ([O,w1,w2].getD i []) (g7 n p q [O,w1,w2] i) (cF 0 (.a (.v 0) (.v 1)) (.n 900) (.v 0) (.n 100) (.v 1) (.n 3) C [_,_] B x) λa aj=>by have:=P a aj;exact cF 0 (.a (.v 1) (.v 0)) (.n 900) (.v 0) (.n 3) (.v 1) (.n 100) C [_,_] x this) λa bz bq az aB aC aD r=>?_;have l:∀{k:Y},k<3->(wT [O,w1,w2])[k]?=J (.str ([O,w1,w2].getD k [])):=λ{k}ao=>by
  match k,ao with
  |0,_|1,_|2,_=>rfl
 have au:(g7 n p q [O,w1,w2] i).map T.str=([0,1,2].filter (lD n p q [O,w1,w2] i)).map λm=> .str ([O,w1,w2].getD m []):=by unfold g7;rw [d_];rfl
 rw [au]at r
 refine dN (Mj b F 15 C C az aB (by decide+kernel) (C) aC aD (Oq (cX (zv F 11 C C) (zv F 16 C C) (gb (by omega) (l z)) C)
  (zf (Ag "j" ["i", "leads", "told"] [16,14,11] (λm:Y=>T.str ([O,w1,w2].getD m [])) (lD n p q [O,w1,w2] i) (g:=λm:Y=>T.int m) F (C) (C) (C) (jU F 32 C (zr (zi 3) cj C) C C C) C
   (λaO X m G=>?_) (λaO X m G bA=>?_) C (aX _ _))) (by rw [cH];have:=xy (lD n p q [O,w1,w2] i) [0,1,2];simp at this⊢;exact bh this (bx C)) C) C r C C) C
 .have h:m<3:=by simp at G;omega
  have o:=qT (b0:=n) (p:=p) (q:=q) (w0:=O) (w1:=w1) (w2:=w2) z z;have u:=qT (b0:=n) (p:=p) (q:=q) (w0:=O) (w1:=w1) (w2:=w2) z h;have j:=qT (b0:=n) (p:=p) (q:=q) (w0:=O) (w1:=w1) (w2:=w2) h h;have H:=qT (b0:=n) (p:=p) (q:=q) (w0:=O) (w1:=w1) (w2:=w2) h z;exact zC (dI (cX (cX (zv X 2 C C) (zv X 1 C C) o.1 C) (zv X 1 C C) o.2 C) (cX (cX (zv X 2 C C) (zv X 1 C C) u.1 C) (zv X 0 C C) u.2 C) C)
   (dI (cX (cX (zv X 2 C C) (zv X 0 C C) j.1 C) (zv X 0 C C) j.2 C) (cX (cX (zv X 2 C C) (zv X 0 C C) H.1 C) (zv X 1 C C) H.2 C) C) C C
 .have h:m<3:=by simp at G;omega
  exact cX (zv X 3 C C) (zv X 0 C C) (gb (by omega) (l h)) C
theorem Wa(l:bH c.B c.prog c.w L)(F:Fm c.env cD 27 eN)(e:rP c L):
  ES c cD 27 (LV x j b i d R B E G m v (.t (.list (wT [O,w1,w2]))) s y (.t (oF n p q [O,w1,w2])) (.obj (.bX Q [] ae 0 0)) ah t u H P o r w k z f) (b6 13)
   (LV x j b i d R B E G m v (.t (.list (wT [O,w1,w2]))) s y (.t (oF n p q [O,w1,w2])) (.obj (.bX Q (qz n p q [O,w1,w2]) ae 0 0)) (.t (.int (2:Y))) t u H P o r w k z f) .next:=by
 have T:=uU n p q [O,w1,w2] 0;have X:=uU n p q [O,w1,w2] 1;have g:=vN [] ([O,w1,w2].getD 0 []) (g7 n p q [O,w1,w2] 0);have A:=Fv ([O,w1,w2].getD 0 []) (L:= []) (k:=0) (g7 n p q [O,w1,w2] 0) (λS h=>nomatch h);simp only [tF]at g;exact iV (jU F 32 C (zr (zi 3) cj C) C C C)
  (fO (eJ F 16 C (aX _ _)) (CA (i:=0) l F e (c3 _) (by simp) (λS h=>nomatch h))
   (fO (eJ F 16 C (aX _ _)) (CA (i:=1) l F e (aX _ _) (cF 0 (.v 1) (.n 100) (.v 0) (.n 3) (.v 1) (.a (.a (.n 0) (.n 1)) (.v 0)) C [_,_] T g) (λa h=>by have:=A a h;exact cF 0 (.v 1) (.n 100) (.v 0) (.n 3) (.v 1) (.a (.n 0) (.v 0)) C [_,_] T this))
    (fO (eJ F 16 C (aX _ _)) (CA (i:=2) l F e (cY _) (pO 0 (.v 3) (.n 100) (.v 0) (.n 3) (.v 1) (.n 3) (.v 2) (.a (.a (.n 0) (.n 1)) (.v 0)) (.v 3) (.a (.a (.v 2) (.n 1)) (.v 1)) C [_,_,_,_] T X g (vN (jM [] ([O,w1,w2].getD 0 []) (g7 n p q [O,w1,w2] 0)) ([O,w1,w2].getD 1 []) (g7 n p q [O,w1,w2] 1))) (λa h=>by have:=(Fv ([O,w1,w2].getD 1 []) (g7 n p q [O,w1,w2] 1) A) a h;exact ki 0 (.v 2) (.n 100) (.v 0) (.n 3) (.v 1) (.n 3) (.v 2) (.a (.a (.n 0) (.v 0)) (.v 1)) C [_,_,_] T X this)) jh))) C C
theorem Wb(F:Fm c.env cD 27 eN):
  ES c cD 27 (LV x j b i n R k E G m v O s y p A q Q u H P o r w e z t) (b6 14) (LV x j b i n R k E G m v O s y p A q (.t (.bool aA)) (.own []) H P o r w e z t) .next:=
 Ye F 17 18 17 18 C (aX _ _) C (aX _ _) C C (zb aA) (o4 cj C) C C C (C) (C) (C)
end
structure Fl(c:Cx Ob)(cl:Cl)(a_:ak):Prop where
 pr:∀sf al(res:aS (U (U Y)))fuel,t9 al=aa->qK al fuel=J res->sF res=aa->al.length<=800->
  ∃a ob fd,(("prepare":af),a)∈cl.fs/\(∀{h},bN c.B.bI h->h.get? a=J ob)/\ob.data= .func fd/\nV c.B c.prog c.w c.n (.ref a) (.bX sf al ae 0 0) [] (.ref a_) λo' r=>o'= .bX sf al (J (iT al)) 0 0/\r=zO res
section
theorem Wc(Z:bH c.B c.prog c.w cl)(R:iM c [])(F:Fm c.env cD 27 eN){a_:ak}{bm:U ay}{Bx newId yY:String}(K:Fl c cl a_)(OC:OwnCls "CycleError" a_ bm newId c.mg c.B.bI)(FB:ExcBaseFacts Bx newId yY bm)
  (hc:t9 al=aa)(hf:qK al fuel=J res)(hk:sF res=aa)(hl:al.length<=800):
  ES c cD 27 (LV a0 a1 a2 a3 a4 a5 a6 a7 a8 a9 gg fk ie n_ pB (.obj (.bX sf al ae 0 0)) oh (.t (.bool aA)) kI oi lq lu ly lz kJ jL kK) (b6 15)
   (LV a0 a1 a2 a3 a4 a5 a6 a7 a8 a9 gg fk ie n_ pB (.obj (.bX sf al (J (iT al)) 0 0)) oh (.t (.bool res.isSome)) kI oi lq lu ly lz kJ jL kK) .next:=oA (K.pr sf al res fuel hc hf hk hl) λa ob fd h1 h3 h4 h5=>VB Z R F 15 17 33 C C h1 (by decide+kernel) h3 h4 h5 C C OC FB C (aX _ _) C (nofun) C C
theorem Wd(l:bH c.B c.prog c.w e)(F:Fm c.env cD 27 eN)(a:rP c e)(h:uX u al o []=J L):
  ∃f S,ES c cD 27 (LV x j b i n R k E G m v O s y p (.obj (.bX Q al (J o) 0 0)) q t (.own []) H P g d w z A X) (b6 16)
   (LV x j b i n R k E G m v O s y p (.obj (.bX Q f (J []) S S)) q t (.own (jA L)) H P g d w z A X) .next:=jP (VY l F a u al o 0 [] L h) λf S r=>(cu f S (l5 r))
theorem We(F:Fm c.env cD 27 eN):ES c cD 27 (LV x j b i n R k E G m v O s y p A q Q u H P o r w e z t) (b6 17) (LV x j b i n R k E G m v O s y p A q Q u (.own []) P o r w e z t) .next:=
 q_ F 19 C (aX _ _) (o4 cj C) C
noncomputable def iS(x:Y×Y):T:= .tup [.int (x.1:Y), .int (x.2:Y)]
noncomputable def iE(s:aq×aq)(i m:Y):U (Y×Y):=if s.2<2*s.1 then [(i,m)]else if 2*s.1<s.2 then [(m,i)]else []
theorem uF(s:aq×aq)(i m:Y):(iE s i m).length<=1:=by
 unfold iE
 split
 .exact c3 _
 .split<;>simp
structure rL(b0 b1 p q:Y)(ws:U (U Y))(i j:Y):Prop where
 m:0<eB b0 p q ws j j-eB b0 p q ws j i
 o:0<eB b0 p q ws i i-eB b0 p q ws i j
 e:(gP (ws.getD i []) (ws.getD j []) b0 b1 p q).1*((eB b0 p q ws j j-eB b0 p q ws j i)+(eB b0 p q ws i i-eB b0 p q ws i j))=(gP (ws.getD i []) (ws.getD j []) b0 b1 p q).2*(eB b0 p q ws j j-eB b0 p q ws j i)
 bt:eA (gP (ws.getD i []) (ws.getD j []) b0 b1 p q).1=aa
 bw:eA (gP (ws.getD i []) (ws.getD j []) b0 b1 p q).2=aa
 bm:eA (eB b0 p q ws j j-eB b0 p q ws j i)=aa
 bs:eA ((eB b0 p q ws j j-eB b0 p q ws j i)+(eB b0 p q ws i i-eB b0 p q ws i j))=aa
theorem Y9{c:Cx t}(F:Fm c.env n k r)(i m:Y)(j:n[i]?=J x)(z:i<k)(A:n[m]?=J O)(h:m<k)(l:EE c n k g e u (.tup [H,y]))
  (P:swapsWithSole [.Tuple [.Name x a, .Name O w] q R] e b.line c.env=pure aA)(p:swappedStores [.Tuple [.Name x a, .Name O w] q R] e c.env=pure ae):
  ES c n k g (.Assign [.Tuple [.Name x a, .Name O w] q R] e b) ((u.set i (.t H)).set m (.t y)) .next:=
 ⟨GP l.1 (GD (is:= [i,m]) c.R.handled (.cons (λv Q G s=>u4 v Q G s) j z (F.loc j z) (.cons (λv Q G s=>u4 v Q G s) A h (F.loc A h) .nil)) C C) P p⟩
theorem CY(F:Fm c.env cD 27 eN){i j:Y}(z:i<3)(G:j<3)(T:rL n f p q [O,y,S] i j)(g:lk.length<=100)
  (d:CN c "_law_chance" [.str ([O,y,S].getD i []), .str ([O,y,S].getD j []), .str [n,f], .list (nT [p,q])] (.tup [.int (gP ([O,y,S].getD i []) ([O,y,S].getD j []) n f p q).1, .int (gP ([O,y,S].getD i []) ([O,y,S].getD j []) n f p q).2])):
  ∃ah aB az aC,EX c cD 27 (LV a0 a1 a2 (.t (.str [n,f])) (.t (.list (nT [p,q]))) (.t (.list (wT [O,y,S]))) a6 a7 a8 a9 gg fk ie (.t (.int (j))) (.t (oF n p q [O,y,S])) pC (.t (.int (i))) my kI (.own (lk.map iS)) lq lu ly lz kJ jL kK) (fY (dD 0 (fY (J (b6 18)))))
   (LV a0 a1 a2 (.t (.str [n,f])) (.t (.list (nT [p,q]))) (.t (.list (wT [O,y,S]))) a6 a7 a8 a9 gg fk ie (.t (.int (j))) (.t (oF n p q [O,y,S])) pC (.t (.int (i))) my kI (.own ((lk++iE (gP ([O,y,S].getD i []) ([O,y,S].getD j []) n f p q) i j).map iS)) ah aB az aC kJ jL kK) .next:=by
 have l:∀{k:Y},k<3->(wT [O,y,S])[k]?=J (.str ([O,y,S].getD k [])):=λ{k}Q=>by
  match k,Q with
  |0,_|1,_|2,_=>rfl
 have o:=qT (b0:=n) (p:=p) (q:=q) (w0:=O) (w1:=y) (w2:=S) z z;have u:=qT (b0:=n) (p:=p) (q:=q) (w0:=O) (w1:=y) (w2:=S) z G;have a:=qT (b0:=n) (p:=p) (q:=q) (w0:=O) (w1:=y) (w2:=S) G G;have H:=qT (b0:=n) (p:=p) (q:=q) (w0:=O) (w1:=y) (w2:=S) G z;obtain⟨aH,aD,X,t,B,aj,ao⟩:=T;generalize aE:gP ([O,y,S].getD i []) ([O,y,S].getD j []) n f p q=v at*;obtain⟨b,x⟩:=v;dsimp only at X t B d;generalize R:eB n p q [O,y,S] j j-eB n p q [O,y,S] j i=r at*;generalize ai:eB n p q [O,y,S] i i-eB n p q [O,y,S] i j=P at*;have s:iC .Sub (.int (eB n p q [O,y,S] j j)) (.int (eB n p q [O,y,S] j i))=J (.int r):=by rw [<-R];rfl
 have au:iC .Sub (.int (eB n p q [O,y,S] i i)) (.int (eB n p q [O,y,S] i j))=J (.int P):=by rw [<-ai];rfl
 have E:eA 2=aa:=yg (aX _ _);refine(BZ (.t (.int b)) (.t (.int x)) (.t (.int r)) (.t (.int P)) (zx (Y9 F 20 21 C (aX _ _) C (aX _ _) (kY F 35 C (zr (cX (zv F 5 C C) (zv F 16 C C) (gb (by omega) (l z)) C) (zr (cX (zv F 5 C C) (zv F 13 C C) (gb (by omega) (l G)) C) (zr (zv F 3 C C) (zr (zv F 4 C C) cj C) C) C) C) d C) C C) (zx (z2 F 22 23 22 23 C (aX _ _) C (aX _ _) C C (zr (dI (cX (cX (zv F 14 C C) (zv F 13 C C) a.1 C) (zv F 13 C C) a.2 C) (cX (cX (zv F 14 C C) (zv F 13 C C) H.1 C) (zv F 16 C C) H.2 C) s) (zr (dI (cX (cX (zv F 14 C C) (zv F 16 C C) o.1 C) (zv F 16 C C) o.2 C) (cX (cX (zv F 14 C C) (zv F 16 C C) u.1 C) (zv F 13 C C) u.2 C) au) cj C) C) C (C) (C) (C) C C) (zx (dF (b:=aA) (jE (b:=aA||(aA||(aA||aA))) (vf (zC (zv F 22 C C) (zi 0) (aQ J (decide_eq_false (by omega))) C) λw=>(vf (zC (zv F 23 C C) (zi 0) (aQ J (decide_eq_false (by omega))) C) λw=>(vf (zC (dI (zv F 20 C C) (dI (zv F 22 C C) (zv F 23 C C) C) (oR t ao)) (dI (zv F 21 C C) (zv F 22 C C) (oR B aj)) ?_ C) λw=>Yh))) C) eO) ?_))))
 .show(e9 6 (.int _) (.int _)).map (!·)=J aA;rw [X];show J (!(x*r==x*r))=J aA;rw [beq_self_eq_true];rfl
 .rw [ej];have A:dh (lk.map iS).length=aa:=dM (bh (pe (cH ..)) (bh g (aX _ _)));have m:dh ((iE (b,x) i j).map iS).length=aa:=dM (bh (by rw [cH];exact uF _ _ _) (c3 _))
  by_cases h:x<2*b
  .have e:iE (b,x) i j= [(i,j)]:=by unfold iE;rw [bB h]
   rw [e]at m⊢;exact dN (sX F 19 C (by exact aX _ _) C (o5 (b:=aa) (zC (dI (zi 2) (zv F 20 C C) (oR E t)) (zv F 21 C C) (aQ J (decide_eq_true h)) C) (jT (zr (xm (zr (zv F 16 C C) (zr (zv F 13 C C) cj C) C) C) cj C) C)) C A m) C
  .by_cases L:2*b<x
   .have e:iE (b,x) i j= [(j,i)]:=by unfold iE;rw [bF h,bB L]
    rw [e]at m⊢;exact dN (sX F 19 C (by exact aX _ _) C (o5 (b:=aA) (zC (dI (zi 2) (zv F 20 C C) (oR E t)) (zv F 21 C C) (aQ J (decide_eq_false h)) C) (o5 (b:=aa) (zC (dI (zi 2) (zv F 20 C C) (oR E t)) (zv F 21 C C) (aQ J (decide_eq_true L)) C) (jT (zr (xm (zr (zv F 13 C C) (zr (zv F 16 C C) cj C) C) C) cj C) C))) C A m) C
   .have e:iE (b,x) i j= []:=by unfold iE;rw [bF h,bF L]
    rw [e]at m⊢;exact dN (sX F 19 C (by exact aX _ _) C (o5 (b:=aA) (zC (dI (zi 2) (zv F 20 C C) (oR E t)) (zv F 21 C C) (aQ J (decide_eq_false h)) C) (o5 (b:=aA) (zC (dI (zi 2) (zv F 20 C C) (oR E t)) (zv F 21 C C) (aQ J (decide_eq_false L)) C) (jT cj C))) C A m) C
end
noncomputable def lT(n f p q:Y)(T:U (U Y))(i m:Y):aq×aq:=gP (T.getD i []) (T.getD m []) n f p q
noncomputable def kQ(n f p q:Y)(T:U (U Y)):U (Y×Y):=iE (lT n f p q T 1 0) 1 0++iE (lT n f p q T 2 0) 2 0++iE (lT n f p q T 2 1) 2 1
section
theorem Wf(F:Fm c.env cD 27 eN)(T:∀i m,m<i->i<3->rL n f p q [O,y,S] i m)
  (d:∀i m,i<3->m<3->CN c "_law_chance" [.str ([O,y,S].getD i []), .str ([O,y,S].getD m []), .str [n,f], .list (nT [p,q])] (.tup [.int (gP ([O,y,S].getD i []) ([O,y,S].getD m []) n f p q).1, .int (gP ([O,y,S].getD i []) ([O,y,S].getD m []) n f p q).2])):
  ∃H X R w B g,ES c cD 27 (LV x j b (.t (.str [n,f])) (.t (.list (nT [p,q]))) (.t (.list (wT [O,y,S]))) k E G h v e s aj (.t (oF n p q [O,y,S])) A aB Q u (.own []) aC aD au az a z t) (b6 18)
   (LV x j b (.t (.str [n,f])) (.t (.list (nT [p,q]))) (.t (.list (wT [O,y,S]))) k E G h v e s H (.t (oF n p q [O,y,S])) A X Q u (.own ((kQ n f p q [O,y,S]).map iS)) R w B g a z t) .next:=by
 have aE:=uF (lT n f p q [O,y,S] 1 0) 1 0;have ao:=uF (lT n f p q [O,y,S] 2 0) 2 0
 refine vX (CY (lk:= []) F (aX _ _) (c3 _) (T 1 0 (cY _) (aX _ _)) (by simp) (d 1 0 (aX _ _) (c3 _))) λl L P r ah=>vX (CY (a0:=x) (a1:=j) (a2:=b) (a6:=k) (a7:=E) (a8:=G) (a9:=h) (gg:=v) (fk:=e) (ie:=s) (pC:=A) (my:=Q) (kI:=u) (lq:=l) (lu:=L) (ly:=P) (lz:=r) (kJ:=a) (jL:=z) (kK:=t) (lk:= []++iE (lT n f p q [O,y,S] 1 0) 1 0) F (i:=2) (j:=0) (cY _) (c3 _) (T 2 0 (c3 _) (cY _)) (by simp;omega) (d 2 0 (cY _) (c3 _))) λjP dK iD t_ ai=>vX (CY (a0:=x) (a1:=j) (a2:=b) (a6:=k) (a7:=E) (a8:=G) (a9:=h) (gg:=v) (fk:=e) (ie:=s) (pC:=A) (my:=Q) (kI:=u) (lq:=jP) (lu:=dK) (ly:=iD) (lz:=t_) (kJ:=a) (jL:=z) (kK:=t) (lk:= []++iE (lT n f p q [O,y,S] 1 0) 1 0++iE (lT n f p q [O,y,S] 2 0) 2 0) F (i:=2) (j:=1) (cY _) (aX _ _) (T 2 1 (cY _) (cY _)) (by simp;omega) (d 2 1 (cY _) (aX _ _))) λaH aJ aK aL o=>⟨_,_,_,_,_,_,iV (jU F 32 C (zr (zi 3) cj C) C C C) (fO (eJ F 16 C (aX _ _)) (dN (iV (jU F 32 C (zr (zv F 16 C C) cj C) C C C) jh C C) C)
  (fO (eJ F 16 C (aX _ _)) (dN (iV (jU F 32 C (zr (zv F 16 C C) cj C) C C C) (fO (eJ F 13 C (aX _ _)) ah jh) C C) C)
   (fO (eJ F 16 C (aX _ _)) (dN (iV (jU F 32 C (zr (zv F 16 C C) cj C) C C C) (fO (eJ F 13 C (aX _ _)) ai (fO (eJ F 13 C (by exact aX _ _)) o jh)) C C) C) jh))) C C⟩
end
section
theorem Vs(u:F.handled=ae){r:U aq}{g:aq}(d:Den j f t (.list (r.map .int)))(o:r.max?=J g):PO P (model ah ao) F j (call (.builtin "max") [t]) f (.int g):=by
 refine gZ (mH d) λa au aB H p s=>?_;subst H;have z:=Cg s;intro L az aC h O;refine bR (Z3.mp o) λT A=>?_;have B:=fL h.bC p;refine bZ z.allInts.items λn e=>?_;have l:r=n.toList.map (·.1):=by
  rw [<-z.numsOf,<-nums_intItems,<-e]
 have q:=by
  have S:=ZX T;rw [l,cH,Mu]at S;exact S
 rw [e]at B;refine max_intList u B q λv ai aj k c=>bZ (intItems_at k) λaD y=>?_;subst y;refine bR (argBest_gt (numAt n) (n.size-1)) λR E=>?_;have Q:numAt n (argBest (λi m=>decide (numAt n i>numAt n m)) (n.size-1))∈r:=by
  rw [l,numAt_eq];exact getD_mem (by rw [cH,Mu];exact cF 0 (.a (.v 1) (.n 1)) (.v 0) (.v 1) (.v 2) (.a (.v 2) (.n 1)) (.v 0) C [_,_,_] R ((lM (bL 0 (.n 1) (.v 0) (.a (.n 0) (.n 1)) (.v 0) C [_] q))))
 have w:∀a∈r,a<=numAt n (argBest (λi m=>decide (numAt n i>numAt n m)) (n.size-1)):=λa x=>by
  rw [l]at x;refine aG (mem_getD x) λm G X=>?_;subst X;rw [cH,Mu]at G;rw [<-numAt_eq];exact E m (cF 0 (.v 1) (.v 2) (.a (.v 1) (.n 1)) (.v 0) (.v 0) (.a (.v 2) (.n 1)) C [_,_,_] G nE)
 have b:=Int.le_antisymm (A _ Q) (w g T);exact b.symm▸(O _ _ _ (b5.keeps h c) (.int _ _))
end
section
variable{px py:Pos}
theorem YM(F:Fm c.env n k r)(m:Y){l:U aq}(G:r[m]?=J (("max":af), .globalImplicit))(h:EE c n k g e u (.list (l.map .int)))(T:l.max?=J a)(P:dj e=aa):EE c n k g (.Call (.Name "max" p) [e] [] b) u (.int a):=
 oZ F m 5 G C (zr h cj P) (by simp [P]) λf y d=>by refine aG d.iy λv A q=>?_;subst A;exact Vs c.R.handled q T
theorem Bw(F:Fm c.env (x::O::n) (k+2) r)(H:Y×Y):EA c (x::O::n) (k+2) (v::X::i) (.Tuple [.Name x px, .Name O py] kk b) (iS H) (.t (.int (H.1)):: .t (.int (H.2))::i):=
 ⟨GD (is:= [0,1]) c.R.handled (.cons (λv Q G s=>u4 v Q G s) C (c3 _) (F.loc C (c3 _)) (.cons (λv Q G s=>u4 v Q G s) C (aX _ _) (F.loc C (aX _ _)) .nil)) C C⟩
theorem YX(F:Fm c.env (x::O::n) (k+2) r)(z:Y×Y->T):∀(A:U (Y×Y))(v X:AV t),(∀H∈A,EE c (x::O::n) (k+2) (.t (.int (H.1)):: .t (.int (H.2))::i) y (.t (.int (H.1)):: .t (.int (H.2))::i) (z H))->
  rG c (x::O::n) (k+2) (.Tuple [.Name x px, .Name O py] b s) [] y (A.map iS) (v::X::i) (A.map z) (mU v (A.map λH=> .int (H.1))::mU X (A.map λH=> .int (H.2))::i):=λf=>f.rec
 (λv X w=> .nil)
 (λH A e v X h=> .go (Bw F H).1 yv (h H ee).1 (e _ _ λH a=>h H (dY _ a)))
theorem YY(F:Fm c.env (x::O::n) (k+2) l)(z:Y×Y->T)(q:Y×Y->bu):∀(A:U (Y×Y))(h X:AV t),(∀H∈A,EC c (x::O::n) (k+2) (.t (.int (H.1)):: .t (.int (H.2))::i) b (.t (.int (H.1)):: .t (.int (H.2))::i) (q H))->
  (∀H∈A,q H=aa->EE c (x::O::n) (k+2) (.t (.int (H.1)):: .t (.int (H.2))::i) y (.t (.int (H.1)):: .t (.int (H.2))::i) (z H))->
  rG c (x::O::n) (k+2) (.Tuple [.Name x px, .Name O py] j o) [b] y (A.map iS) (h::X::i) ((A.filter q).map z) (mU h (A.map λH=> .int (H.1))::mU X (A.map λH=> .int (H.2))::i):=λf=>f.rec
 (λh X w w=> .nil)
 (λH A s h X R E=>by
  have r:=s (.t (.int (H.1))) (.t (.int (H.2))) (λH a=>R H (dY _ a)) λH a=>E H (dY _ a);have e:=R H ee;cases v:q H with
  |true=>
   rw [v]at e;exact(Ew v).symm▸(.go (Bw F H).1 (yw e.1) (E H ee v).1 r)
  |false=>
   rw [v]at e;rw [Eu (by simp [v])]
   exact .skip (Bw F H).1 (yw e.1) r)
theorem Yn{A:U (Y×Y)}(x O:af)(o:U af)(v:U Y)(z:Y×Y->T)(F:Fm c.env n k r)(G:qF f [x,O] o=aa)(E:qC r n o v=aa)(j:nA f.names (x::O::o) 2=aa)(e:EI aa c n k g h u (A.map iS))(S:noOwn u v=aa)
  (b:∀a,Fm (c.fc f a).env (x::O::o) 2 f.names->∀H∈A,EE (c.fc f a) (x::O::o) 2 (.t (.int (H.1)):: .t (.int (H.2))::v.map λi=>(u[i]?).getD .un) y (.t (.int (H.1)):: .t (.int (H.2))::v.map λi=>(u[i]?).getD .un) (z H))
  (P:qZ h=aa)(q:A.length<=1000000):EF c n k g (.ListComp y [⟨.Tuple [.Name x px, .Name O py] s l,h, [],0⟩] f R) u (A.map z):=
 vh [x,O] o v F G E j e S (λa X=>YX X z A .un .un (b a X)) P C (decide_eq_true (by rw [cH];exact q)) (uR (pre:= [_,_]) C)
theorem Yo{A:U (Y×Y)}(x O:af)(o:U af)(v:U Y)(z:Y×Y->T)(q:Y×Y->bu)(F:Fm c.env n k r)(G:qF f [x,O] o=aa)(E:qC r n o v=aa)(j:nA f.names (x::O::o) 2=aa)(b:EI aa c n k g h u (A.map iS))(S:noOwn u v=aa)
  (e:∀a,Fm (c.fc f a).env (x::O::o) 2 f.names->∀H∈A,EC (c.fc f a) (x::O::o) 2 (.t (.int (H.1)):: .t (.int (H.2))::v.map λi=>(u[i]?).getD .un) s (.t (.int (H.1)):: .t (.int (H.2))::v.map λi=>(u[i]?).getD .un) (q H))
  (l:∀a,Fm (c.fc f a).env (x::O::o) 2 f.names->∀H∈A,q H=aa->EE (c.fc f a) (x::O::o) 2 (.t (.int (H.1)):: .t (.int (H.2))::v.map λi=>(u[i]?).getD .un) y (.t (.int (H.1)):: .t (.int (H.2))::v.map λi=>(u[i]?).getD .un) (z H))
  (P:qZ h=aa)(t:A.length<=1000000):EF c n k g (.ListComp y [⟨.Tuple [.Name x px, .Name O py] m d,h, [s],0⟩] f R) u ((A.filter q).map z):=
 vh [x,O] o v F G E j b S (λa X=>YY X z q A .un .un (e a X) (l a X)) P C (decide_eq_true (by rw [cH];exact t)) (uR (pre:= [_,_]) C)
end
theorem Ll{B:Type} [DecidableEq B](z:T->T->aS bu)(P:B->T)(h:∀x O,z (P x) (P O)=J (decide (x=O))):∀(l H:U B),l.length=H.length->jC z (l.map P) (H.map P)=J (decide (l=H))
 | [], [],_=>C
 |x::l,O::H,e=>(Xl (h x O) (Ll z P h l H (E0 e))).trans (aQ J (by rw [tq];simp))
theorem Du{B:Type} [DecidableEq B](u:Y)(P:B->T)(h:∀x O,e9 u (P x) (P O)=J (decide (x=O)))(l H:U B):e9 (u+1) (.list (l.map P)) (.list (H.map P))=J (decide (l=H)):=by
 show(if(l.map P).length==(H.map P).length then jC (e9 u) (l.map P) (H.map P)else J aA)=_;simp only [cH]
 by_cases e:l.length=H.length
 .rw [bB (by exact decide_eq_true e),Ll _ P h l H e]
 .rw [bF (by simpa using e),decide_eq_false (λq=>e (by rw [q]))]
theorem Xj(u:Y)(l H:U (U Y)):e9 (u+2) (.list (l.map .str)) (.list (H.map .str))=J (decide (l=H)):=
 Du (u+1) T.str (λx O=>aQ J (by rw [tq];simp)) l H
theorem Lh(l H:U (U (U Y))):gY .Eq (.list (jA l)) (.list (jA H))=J (decide (l=H)):=
 Du 5 _ (λx O=>Xj 3 x O) l H
noncomputable def uG(l:U Y):Y:=l.foldl vz 0
theorem fold_max:∀(l:U Y)(a:Y),(∀x∈l,x<=l.foldl vz a)/\a<=l.foldl vz a/\(l.foldl vz a∈l\/l.foldl vz a=a):=λf=>f.rec
 (λa=>(cR (λw h=>(nomatch h)) (ek _) (.inr C)))
 (λx l X a=>by
  refine fF (X (vz a x)) λR E S=>(cR (λO A=>?_) (bh (Nat.le_max_left ..) E) ?_)
  .rcases cC.mp A with rfl|A
   .exact bh (Nat.le_max_right ..) E
   .exact R O A
  .rw [MW];rcases S with h|h
   .exact .inl (dY _ h)
   .rw [h]
    by_cases q:a<=x
    .left
     have:vz a x=x:=Nat.max_eq_right q;rw [this];exact ee
    .right;exact bF ‹_›)
theorem T8(l:U Y):((0::l).map λu:Y=>(u:aq)).max?=J ((uG l):aq):=by
 rw [Z3];refine fF (fold_max l 0) λR w S=>?_;constructor
 .refine eZ.mpr (aM (uG l) ?_ C);rcases S with h|h
  .exact dY _ h
  .unfold uG;rw [h];exact ee
 .intro b t;refine aG (eZ.mp t) λu v x=>?_;subst x;have:u<=uG l:=by
   rcases cC.mp v with rfl|v
   .exact mh _
   .exact R u v
  exact iY.mpr (this)
noncomputable def lK(l:U (Y×Y))(A:U Y):U Y:= [0,1,2].map λi=>uG ((l.filter λH=>H.2==i).map λH=>A.getD H.1 0+1)
noncomputable def rU(T:U (U Y))(A:U Y):U (U (U Y)):= [0,1,2].map λu=>gu (([0,1,2].filter λi=>A.getD i 0==u).map λi=>T.getD i [])
noncomputable def Bt(T:U (U Y))(A:U Y):U (U (U Y)):=(rU T A).filter λP=>!P.isEmpty
section
theorem Wi(F:Fm c.env cD 27 eN):ES c cD 27 (LV x j b i n R k E G m v O s y p A q Q u H P o r w e z t) (b6 20) (LV x j b i n R k E G m v O s y p A q Q u H P o r w (.t (.list (nT [0,0,0]))) z t) .next:=
 fu F 24 C (aX _ _) (jT (zr (zi 0) (zr (zi 0) (zr (zi 0) cj C) C) C) C) C
theorem IY{i:Y}(z:i<A.length)(h:i<2^60):lI (.list (nT A)) (.int (i))=J (.int (A.getD i 0)):=by
 refine gb h ?_;unfold nT;rw [gD,cP z,h_,cP z];rfl
theorem II(F:Fm c.env cD 27 eN)(L:A.length=3)(g:l.length<=100)(B:∀H∈l,H.1<3):
  EX c cD 27 (LV ai j b h e a k E G m v O s y p x q Q u (.t (.list (l.map iS))) P o r w (.t (.list (nT A))) z t) (fY (J (b6 21)))
   (LV ai j b h e a k E G m v O s y p x q Q u (.t (.list (l.map iS))) P o r w (.t (.list (nT (lK l A)))) z t) .next:=by
 refine dN (fu F 24 C (aX _ _) (sW (zf (p5 "i" ["level", "likelier"] [24,19] (λi:Y=>T.int (uG ((l.filter λH=>H.2==i).map λH=>A.getD H.1 0+1))) (us:= [0,1,2]) (g:=λi:Y=>T.int i) F (C) (C) (C) (jU F 32 C (zr (zi 3) cj C) C C C) C
  (λao X i aj=>?_) C (aX _ _))) (τ:= .list (nT (lK l A))) C) (w7 (F.kn 24 C nofun))) C
 have ah:(((0:Y)::(l.filter λH=>H.2==i).map λH=>A.getD H.1 0+1).map λn:Y=>(n:aq)).map T.int= [T.int 0]++(l.filter λH=>H.2==i).map λH=>T.int (A.getD H.1 0+1:Y):=by simp
 refine YM X 2 C ?_ (T8 _) C;rw [ah];refine dI (jT (zr (zi 0) cj C) C) (zf (Yo "a" "b" ["i", "level"] [0,1] (λH=>T.int (A.getD H.1 0+1:Y)) (λH=>H.2==i) X (C) (C) (C) (lU (zv X 2 C C)) C (λd R H f=>?_) (λd R H f au=>?_) C (bh g (bx C)))) (zU ?_)
 .refine zC (zv R 1 C C) (zv R 2 C C) ?_ C;show J (((H.2))==((i):aq))=_
  congr 1
  rw [tq];simp;omega
 .have S:=B H f;exact dI (cX (zv R 3 C C) (zv R 0 C C) (IY (cF 0 (.a (.v 1) (.n 1)) (.v 0) (.n 3) (.v 0) (.a (.v 1) (.n 1)) (.n 3) C [_,_] ((dG L)) S) (by omega)) C) (zi ((1))) Ws
 .have:=xy (λH:Y×Y=>H.2==i) l;simp;exact cF 0 (.a (.n 1) (.v 1)) (.n 1000000) (.v 0) (.n 100) (.v 1) (.v 0) C [_,_] g this
theorem IC(l A):(lK l A).length=3:=C
theorem Wj(F:Fm c.env cD 27 eN)(g:l.length<=100)(a:∀H∈l,H.1<3):
  ES c cD 27 (LV x j b i n R k E G m v O s y p A q Q u (.t (.list (l.map iS))) P o r w (.t (.list (nT [0,0,0]))) z t) (b6 21)
   (LV x j b i n R k E G m v O s y p A q Q u (.t (.list (l.map iS))) P o r w (.t (.list (nT (lK l (lK l [0,0,0]))))) (.t (.int (1:Y))) t) .next:=
 iV (jU F 32 C (zr (zi 2) cj C) C C C) (fO (eJ F 25 C (aX _ _)) (II F C g a) (fO (eJ F 25 C (aX _ _)) (II F (IC _ _) g a) jh)) C C
theorem Wl(F:Fm c.env cD 27 eN)(B:A.length=3):
  ES c cD 27 (LV f d b t h (.t (.list (wT [w0,w1,w2]))) k E e m v O s y p x q Q u H P o r w (.t (.list (nT A))) l ah) (b6 22)
   (LV f d b t h (.t (.list (wT [w0,w1,w2]))) k E e m v O s y p x q Q u H P o r w (.t (.list (nT A))) l (.own (jA (rU [w0,w1,w2] A)))) .next:=by
 have S:jA (rU [w0,w1,w2] A)= [0,1,2].map λn:Y=>T.list ((gu (([0,1,2].filter λi=>A.getD i 0==n).map λi=> [w0,w1,w2].getD i [])).map .str):=by unfold rU jA;rw [d_];rfl
 refine DO "n" ["level", "words"] [24,5] (λn:Y=>T.list ((gu (([0,1,2].filter λi=>A.getD i 0==n).map λi=> [w0,w1,w2].getD i [])).map .str)) (us:= [0,1,2]) (g:=λi:Y=>T.int i) F (C) (C) (C) (jU F 32 C (zr (zi 3) cj C) C C C) C
  (λai X n L=>?_) C (aX _ _) C (cY _) (i':=26) C C (C)
 have G:=xy (λi=>A.getD i 0==n) [0,1,2];simp only [gw,tF]at G;refine Y5 X 2 C ?_ (by rw [cH];exact bL 0 (.a (.v 0) (.n 1)) (.n 64) (.v 0) (.a (.a (.a (.n 0) (.n 1)) (.n 1)) (.n 1)) C [_] G) C;have j:(([0,1,2].filter λi=>A.getD i 0==n).map λi=> [w0,w1,w2].getD i []).map T.str=([0,1,2].filter λi=>A.getD i 0==n).map λi=>T.str ([w0,w1,w2].getD i []):=by rw [d_];rfl
 rw [j];refine zf (Ag "i" ["level", "n", "words"] [1,0,2] (λi:Y=>T.str ([w0,w1,w2].getD i [])) (λi=>A.getD i 0==n) (g:=λi:Y=>T.int i) X (C) (C) (C) (jU X 3 C (zr (zi 3) cj C) C C C) C (λg R i z=>?_) (λg R i z aj=>?_) C (aX _ _))
 .have a:i<3:=by simp at z;omega
  refine zC (cX (zv R 1 C C) (zv R 0 C C) (IY (cF 0 (.a (.v 1) (.n 1)) (.v 0) (.n 3) (.v 0) (.a (.v 1) (.n 1)) (.n 3) C [_,_] ((dG B)) a) (by omega)) C) (zv R 2 C C) ?_ C;show J (((A.getD i 0))==((n):aq))=_
  congr 1
  rw [tq];simp;omega
 .have a:=by simp at z;omega
  refine cX (zv R 3 C C) (zv R 0 C C) (gb (by omega) ?_) C
  match i,a with
  |0,_|1,_|2,_=>rfl
theorem Xk(l:U aq):gY .Eq (.list (l.map .int)) (.list [.int 0, .int 1, .int 2])=J (decide (l= [0,1,2])):=
 Du 5 T.int (λx O=>aQ J (C)) l [0,1,2]
theorem C5(F:Fm c.env cD 27 eN){l:U (Y×Y)}(g:l.length<=50)(t:decide (q6 (l.map λH=>((H.2)))= [0,1,2])=b):EC c cD 27 (LV x j h i n R k E G m v O s y p A q Q u (.own (l.map iS)) P o r w e z f) (yX (J (b6 19)))
   (LV x j h i n R k E G m v O s y p A q Q u (.t (.list (l.map iS))) P o r w e z f) b:=by
 have a:(l.map λH=>((H.2))).map T.int=l.map λH=>T.int (H.2):=by rw [d_];rfl
 refine zC (Y7 F 34 C (l:=l.map λH=>((H.2:Y):aq)) ?_ (by rw [cH];exact bL 0 (.a (.v 0) (.n 1)) (.n 64) (.v 0) (.n 50) C [_] g) C) (jT (zr (zi 0) (zr (zi 1) (zr (zi 2) cj C) C) C) C) (t▸(Xk _)) C;rw [a];exact zf (Yn "a" "b" [] [] (λH=>T.int (H.2)) F (C) (C) (C) (lU (lW F 19 C C)) C (λB X H d=>zv X 1 C C) C (bh g (bx C)))
theorem Wh(F:Fm c.env cD 27 eN){l:U (Y×Y)}(g:l.length<=50)(h:q6 (l.map λH=>((H.2)))= [0,1,2]):
  ∃S,ES c cD 27 (LV x j b i n R k E G m v O s y p A q (.t (.bool a)) (.own (jA L)) (.own (l.map iS)) P o r w e z t) (b6 19) S (.ret (.bool (a&&decide (L= [])))):=by
 cases a with
 |true=>exact⟨_,dF (C5 F g (decide_eq_true h)) (gU (h8 (DY (zv F 17 C C) (xg (lW F 18 C C) (jT cj C) (Lh L []) C))))⟩
 |false=>exact⟨_,dF (C5 F g (decide_eq_true h)) (gU (h8 (Mn (zv F 17 C C))))⟩
theorem Wg(F:Fm c.env cD 27 eN){l:U (Y×Y)}(g:l.length<=50)(h:q6 (l.map λH=>((H.2)))≠ [0,1,2]):
  ES c cD 27 (LV x j b i n R k E G m v O s y p A q Q u (.own (l.map iS)) P o r w e z t) (b6 19) (LV x j b i n R k E G m v O s y p A q Q u (.t (.list (l.map iS))) P o r w e z t) .next:=
 dF (C5 F g (decide_eq_false h)) eO
theorem Wm(F:Fm c.env cD 27 eN)(q:due.length<=50):
  ∃S,ES c cD 27 (LV x j l t f R k E G m v O s y p A h (.t (.bool a)) (.own (jA out)) H e o r i b z (.own (jA due))) (b6 23) S (.ret (.bool (!a&&decide (out=due.filter λP=>!P.isEmpty)))):=by
 cases a with
 |true=>exact⟨_,h8 (Mn (sW (Mc (zv F 17 C C) C) C))⟩
 |false=>
  have n:jA (due.filter λP=>!P.isEmpty)=(due.filter λP=>!P.isEmpty).map λP=>T.list (P.map .str):=C;refine⟨_,h8 (DY (sW (Mc (zv F 17 C C) C) C) (xg (lW F 18 C C) (zf (Ag "group" [] [] (λP:U (U Y)=>T.list (P.map .str)) (λP=>!P.isEmpty) F (C) (C) (C) (lU (lW F 26 C C)) C (λd X P w=>zC (zv X 0 C C) (jT cj C) ?_ C) (λd X P w w=>zv X 0 C C) C (bh q (bx C)))) (Lh out _) C))⟩;show(e9 6 (.list (P.map .str)) (.list (([]).map .str))).map (!·)=_;cases P<;>rfl
end
noncomputable def LX(c:Cx Ob)(e:bV Ob)(g:U (AV Ob))(st:U cf):Prop:=
 ∀(A:HB)(f:Fz)(s:aR)(Q:Flow->aR->Prop)(G:ay->aR->Prop),A.lk= []->SR c.B c.ρ A f c.env cD 27 g s.heap->
  (∀m P S,bU s m->SR e c.ρ A P c.env cD 27 S m.heap->Q (.ret (.bool aa)) m)->wpAny (model c.prog c.w) c.A (execs st c.env) Q G s
section
variable{st:cf}{rest:U cf}
theorem iq(h:ES c cD 27 g st u .next)(r:LX c e u rest):LX c e g (st::rest):=by
 intro A f s Q G a S O;refine gN (h.1 A f s _ _ a S λi w b o X t d=>?_);obtain rfl:=d.nx;exact r A w i Q G a t λm P x q z=>O m P x (o.trans q) z
theorem TN(h:SP c cD 27 g st Φ)(r:∀S j,Φ S j->j= .next/\LX c e S rest):LX c e g (st::rest):=by
 intro A f s Q G a i O;refine gN (h.1 A f s _ _ a i λx w b u j p o X t d=>?_);obtain⟨rfl,r⟩:=r u j p;obtain rfl:=d.nx;exact r A w x Q G a t λm P S q z=>O m P S (o.trans q) z
theorem IK(e:ES c cD 27 g st u (.ret (.bool aa))):LX c c.B g (st::rest):=by
 intro A f s Q G a S O;refine gN (e.1 A f s _ _ a S λh w z o X t d=>?_);obtain⟨v,rfl,d⟩:=d.rt;obtain rfl:=d.inv;exact O h w u o t
end
structure Plain(b0 b1 p q:Y)(ws:U (U Y)):Prop where
 pr:∀i j,j<i->i<3->rL b0 b1 p q ws i j
 cl:t9 (qz b0 p q ws)=aa
 run:∃fuel res n out,qK (qz b0 p q ws) fuel=J res/\sF res=aa/\uX n (qz b0 p q ws) (iT (qz b0 p q ws)) []=J out/\
  if q6 ((kQ b0 b1 p q ws).map λu=>((u.2:Y):aq))= [0,1,2]then(res.isSome&&decide (out= []))=aa
  else(!res.isSome&&decide (out=Bt ws (lK (kQ b0 b1 p q ws) (lK (kQ b0 b1 p q ws) [0,0,0]))))=aa
structure vJ(c:Cx Ob)(cl:Cl)(a_:ak)(b0 b1 p q:Y)(ws:U (U Y)):Prop where
 rd:∀st bs,(∀i∈bs,i<256)->bs.length<=1000->x6 c st bs
 pat:∀s:U Y,s.length<=1000->CN c "_law_pattern" [.str s] (.str (jd s))
 tr:∀s:U Y,s.length<=3->(∀a∈s,a=b0\/a=b1)->CN c "translate" [.str (jd s)] (.str (hU s))
 ld:∀one∈ws,∀other∈ws,CN c "_law_lead" [.str one, .str other,oW other, .str [b0,b1], .list (nT [p,q])] (.int (wz b0 p q one other))
 ch:∀i j,i<3->j<3->CN c "_law_chance" [.str (ws.getD i []), .str (ws.getD j []), .str [b0,b1], .list (nT [p,q])] (.tup [.int (gP (ws.getD i []) (ws.getD j []) b0 b1 p q).1, .int (gP (ws.getD i []) (ws.getD j []) b0 b1 p q).2])
 sr:rP c cl
 pc:Fl c cl a_
 gH:∃mi n,n+2<=c.n/\(("__init__":af),mi)∈cl.fs/\∀sf d,eR c.B c.prog c.w (n+1) (.ref mi) (.gH sf d 0) [] λo' r=>o'= .bX sf [] ae 0 0/\r= .none
 top:c.mg "TopologicalSorter"=J (.ref cl.a_)
section
variable{b0 b1 p q:Y}{st:ak}
theorem N_(b0 p q:Y)(T:U (U Y)):(qz b0 p q T).length<=100:=by
 have g:=vN [] (T.getD 0 []) (g7 b0 p q T 0);have o:=vN (jM [] (T.getD 0 []) (g7 b0 p q T 0)) (T.getD 1 []) (g7 b0 p q T 1);have O:=vN (jM (jM [] (T.getD 0 []) (g7 b0 p q T 0)) (T.getD 1 []) (g7 b0 p q T 1)) (T.getD 2 []) (g7 b0 p q T 2);have h:=uU b0 p q T 0;have X:=uU b0 p q T 1;have B:=uU b0 p q T 2;simp only [tF]at g;exact bh O (bh (nh (xG (bh o (nh (xG (bh g (vy h _))) X))) B) (bx C))
theorem Tw(b0 b1 p q:Y)(T:U (U Y)):(kQ b0 b1 p q T).length<=3/\∀H∈kQ b0 b1 p q T,H.1<3:=by
 have h:∀(s:aq×aq)(i m:Y),i<3->m<3->∀H∈iE s i m,H.1<3:=λs i m z G H a=>by
  unfold iE at a
  split at a
  .exact(cI.mp a).symm▸z
  .split at a
   .exact(cI.mp a).symm▸G
   .exact nomatch a
 unfold kQ;refine⟨by simp only [ic];exact ki 0 (.a (.a (.v 0) (.v 1)) (.v 2)) (.n 3) (.v 0) (.n 1) (.v 1) (.n 1) (.v 2) (.n 1) C [_,_,_] (uF (lT b0 b1 p q T 1 0) 1 0) (uF (lT b0 b1 p q T 2 0) 2 0) (uF (lT b0 b1 p q T 2 1) 2 1),λH a=>?_⟩;rcases fb.mp a with a|a
 .rcases fb.mp a with a|a
  .exact h _ 1 0 (aX _ _) (c3 _) H a
  .exact h _ 2 0 (cY _) (c3 _) H a
 .exact h _ 2 1 (by exact cY _) (by exact aX _ _) H a
structure Fi(bs:U Y)(b0 b1 p q:Y)(w0 w1 w2:U Y):Prop where
 lt:∀i∈bs,i<256
 len:bs.length<=1000
 h0:bs[0]?=J 2
 h1:(bs.drop 1).take 2= [b0,b1]
 h3:bs[3]?=J p
 h4:bs[4]?=J q
 h5:bs[5]?=J 3
 h6:(bs.drop 6).take 3=w0
 h9:bs[9]?=J 3
 R8:(bs.drop 10).take 3=w1
 R_:bs[13]?=J 3
 Sa:(bs.drop 14).take 3=w2
theorem U1(d:b0<256)(R:b1<256)(H:p<256)(k:q<256)(f:O.length=3)(g:y.length=3)(o:S.length=3)(h:∀a∈O++(y++S),a=b0\/a=b1):Fi (U0 b0 b1 p q [O,y,S]) b0 b1 p q O y S:=by
 obtain⟨i,B,u,rfl⟩:=qU (P:=λl=>∃a b c,l= [a,b,c]) (λa b c=>r5 a b c C) _ f;obtain⟨x,s,n,rfl⟩:=qU (P:=λl=>∃a b c,l= [a,b,c]) (λa b c=>r5 a b c C) _ g;obtain⟨t,v,m,rfl⟩:=qU (P:=λl=>∃a b c,l= [a,b,c]) (λa b c=>r5 a b c C) _ o;have j:=λa e=>(h a e).elim (λr=>kD (pe r) d) λr=>kD (pe r) R;exact⟨bl (bx C) (bl d (bl R (bl H (bl k (bl (bx C) (bl (j _ (cN 0 C)) (bl (j _ (cN 1 C)) (bl (j _ (cN 2 C)) (bl (bx C) (bl (j _ (cN 3 C)) (bl (j _ (cN 4 C)) (bl (j _ (cN 5 C)) (bl (bx C) (bl (j _ (cN 6 C)) (bl (j _ (cN 7 C)) (bl (j _ (cN 8 C)) dR)))))))))))))))),aX _ _,C,C,C,C,C,C,C,C,C,C⟩
theorem Tl(l:bH c.B c.prog c.w e)(A:iM c [])(F:Fm c.env cD 27 eN)(aj:OwnCls "CycleError" i k j c.mg c.B.bI)(ai:ExcBaseFacts aL j b7 k)(K:vJ c e i b0 b1 p q [O,y,S])(v:∀G d,vJ (c.fc G d) e i b0 b1 p q [O,y,S])(X:Plain b0 b1 p q [O,y,S])
  (t:Fi u b0 b1 p q O y S)(f:O.length=3)(g:y.length=3)(o:S.length=3)(aD:∀a∈O++(y++S),a=b0\/a=b1):
  LX c c.B (LV aH b_ bQ (.t (.str [b0,b1])) (.t (.list (nT [p,q]))) (.t (.list (wT [O,y,S]))) aK aU (.obj (.bj st u 0)) .un .un .un .un .un .un .un .un .un .un .un .un .un .un .un .un .un .un) [b6 7,b6 8,b6 9,b6 10,b6 11,b6 12,b6 13,b6 14,b6 15,b6 16,b6 17,b6 18,b6 19,b6 20,b6 21,b6 22,b6 23]:=by
 obtain⟨bg,r,bW,L,w,H,E,h⟩:=X.run;obtain⟨bY,aJ,B,Q,R⟩:=K.gH;have n:=Tw b0 b1 p q [O,y,S];have m:=λG d=>(v G d).rd st u t.lt t.len;refine iq (s7 l F (K.rd st u t.lt t.len) t.h0 t.h1) (iq (s8 l F m t.h3 t.h4) (iq (s9 l F m f g o t.h5 t.h6 t.h9 t.R8 t.R_ t.Sa) (iq (V_ F f g o (λs P=>K.pat s P) λs P ao=>K.tr s P λa au=>aD a (ao a au)) (iq (V' F K.ld) (TN (YS l B F 15 31 C K.top Q R C (aX _ _) C) λx aO ah=>?_)))));obtain⟨aV,rfl,rfl⟩:=ah;refine⟨C,(iq (Wa l F K.sr) (iq (Wb F) (iq (Wc l A F K.pc aj ai X.cl w H (bh (N_ b0 p q [O,y,S]) (bx C))) ?_)))⟩;obtain⟨aW,aZ,aB⟩:=Wd l F K.sr E;refine iq aB (iq (We F) ?_);obtain⟨bq,bz,bA,bD,bK,bM,aC⟩:=Wf F X.pr K.ch;refine iq aC ?_
 by_cases P:q6 ((kQ b0 b1 p q [O,y,S]).map λaz=>((az.2)))= [0,1,2]
 .rw [bB P]at h;obtain⟨x,T⟩:=Wh F (bh n.1 (bx C)) P;rw [h]at T;exact IK T
 .rw [bF P]at h;refine iq (Wg F (bh n.1 (bx C)) P) (iq (Wi F) (iq (Wj F (bh n.1 (bx C)) n.2) (iq (Wl (w0:=O) (w1:=y) (w2:=S) F (IC _ _)) ?_)));obtain⟨x,b⟩:=Wm (out:=L) (due:=rU [O,y,S] (lK (kQ b0 b1 p q [O,y,S]) (lK (kQ b0 b1 p q [O,y,S]) [0,0,0]))) F (aX _ _);have aE:(!r.isSome&&decide (L=(rU [O,y,S] (lK (kQ b0 b1 p q [O,y,S]) (lK (kQ b0 b1 p q [O,y,S]) [0,0,0]))).filter λz=>!z.isEmpty))=aa:=h;rw [aE]at b;exact IK b
end
noncomputable abbrev Cx.r2(c:Cx Ob)(G:Inv c.B.tabs):Cx Ob:={c with B:=c.B.re G,G:=e6.re c.G}
theorem u_(a b x:Y):(e_ a b x).length=3/\∀w∈e_ a b x,w=a\/w=b:=by
 refine⟨C,λw s=>?_⟩;unfold e_ at s;refine aG (eZ.mp s) λm e h=>?_;subst h
 split
 .exact .inl C
 .exact .inr C
structure rQ(b0 b1:Y)(w0 w1 w2:U Y):Prop where
 l0:w0.length=3
 l1:w1.length=3
 l2:w2.length=3
 m0:∀z∈w0,z=b0\/z=b1
 m1:∀z∈w1,z=b0\/z=b1
 m2:∀z∈w2,z=b0\/z=b1
 d1:w1≠w0
 d2:w2≠w0
 d3:w2≠w1
theorem X8(h:n≠f)(c l n4:Y):∃O y S,LK n f c l n4= [O,y,S]/\rQ n f O y S:=by
 refine⟨_,_,_,C,(u_ ..).1,(u_ ..).1,(u_ ..).1,(u_ ..).2,(u_ ..).2,(u_ ..).2,?_,?_,?_⟩
 .have:=zN h (ws:= [e_ n f (iR n f [] 2 c)]) (by simp) l;exactλq=>this (by rw [q];simp)
 .have:=zN h (ws:= [e_ n f (iR n f [] 2 c),e_ n f (iR n f [e_ n f (iR n f [] 2 c)] 2 l)]) (by simp) n4;exactλq=>this (by rw [q];simp)
 .have:=zN h (ws:= [e_ n f (iR n f [] 2 c),e_ n f (iR n f [e_ n f (iR n f [] 2 c)] 2 l)]) (by simp) n4;exactλq=>this (by rw [q];simp)
theorem KP(h:(n,f)∈m5):n≠f/\n<128/\f<128:=by
 have:∀x∈m5,x.1≠x.2/\x.1<128/\x.2<128:=by decide
 exact this _ h
section
theorem Tj(Z:bH c.B c.prog c.w cl)(R:iM c [])(R2:iM (c.r2 V) [])(F:Fm c.env cD 27 eN)(hn:1<=c.n)(D:c.y.DC "_law_stream" 21 (.ref cd))(K:nv (c.B.re V) c.mg cd P)(emp:∀{h},c.B.inv h->TabAt h P #[]/\V.I h)
  (hW:∀n f x,x<2^60->CN c "_law_word" [.str [n,f], .int (x:Y)] (.str (e_ n f x)))(hC:∀w,w.length<=1000->CN c "_law_counted" [.str w] (.list (.int w.length::w.map λ(a:Y)=> .int a)))
  (OC:OwnCls "CycleError" a_ bm newId c.mg c.B.bI)(FB:ExcBaseFacts Bx newId yY bm)
  (HK:∀n f p q w0 w1 w2,(n,f)∈m5->0<p->p<256->0<q->q<256->rQ n f w0 w1 w2->vJ (c.r2 V) cl a_ n f p q [w0,w1,w2]/\∀sc d,vJ ((c.r2 V).fc sc d) cl a_ n f p q [w0,w1,w2])
  (HP:∀n f p q w0 w1 w2,(n,f)∈m5->0<p->p<256->0<q->q<256->rQ n f w0 w1 w2->Plain n f p q [w0,w1,w2])(s:U aq)(hs:s.length<=100):
  LX c (c.B.re V) (LV (.t (.list (s.map .int))) .un .un .un .un .un .un .un .un .un .un .un .un .un .un .un .un .un .un .un .un .un .un .un .un .un .un) [b6 0,b6 1,b6 2,b6 3,b6 4,b6 5,b6 6,b6 7,b6 8,b6 9,b6 10,b6 11,b6 12,b6 13,b6 14,b6 15,b6 16,b6 17,b6 18,b6 19,b6 20,b6 21,b6 22,b6 23]:=by
 refine cps λBb kk=>?_;obtain⟨n0,n1,n2,n3,n4,hN,g0,g1,g2,g3,g4⟩:=UE s;obtain⟨n,f,hb,hm⟩:=WG (n0/255);obtain⟨HD,Sh,Si⟩:=KP hm;obtain⟨w0,w1,w2,Sw,j⟩:=X8 HD n2 n3 n4;have hp:1+n0%255<256:=by have:=EV n0 (show 0<255 by exact c3 _);exact bL 0 (.a (.a (.n 1) (.v 0)) (.n 1)) (.n 256) (.a (.v 0) (.n 1)) (.n 255) C [_] this
 have hq:1+n1%255<256:=by have:=EV n1 (show 0<255 by exact c3 _);exact bL 0 (.a (.a (.n 1) (.v 0)) (.n 1)) (.n 256) (.a (.v 0) (.n 1)) (.n 255) C [_] this
 obtain⟨K1,K2⟩:=HK n f (1+n0%255) (1+n1%255) w0 w1 w2 hm (by exact e5 _ _) hp (by exact e5 _ _) hq j;refine kk ?_;have Hx:∀a∈w0++(w1++w2),a=n\/a=f:=λa ha=>by
  rcases fb.mp ha with h|h
  .exact j.m0 a h
  .rcases fb.mp h with h|h
   .exact j.m1 a h
   .exact j.m2 a h
 have e0:=s0 (c:=c) (a1:= .un) (a3:= .un) (a4:= .un) (a5:= .un) (a6:= .un) (a7:= .un) (a8:= .un) (a9:= .un) (gg:= .un) (fk:= .un) (ie:= .un) (n_:= .un) (pB:= .un) (pC:= .un) (oh:= .un) (my:= .un) (kI:= .un) (oi:= .un) (lq:= .un) (lu:= .un) (ly:= .un) (lz:= .un) (kJ:= .un) (jL:= .un) (kK:= .un) (a2:= .un) F s hs;rw [hN]at e0;refine iq e0 (iq (s1 F g0 hb) (iq (s2 F g0 g1) ?_));obtain⟨x,e3⟩:=s3 (c:=c) (n0:=n0) (n1:=n1) F (λx hx=>hW n f x hx) HD g2 g3 g4;rw [Sw]at e3;refine iq e3 (iq (s4 F (hC [n,f] (by exact aX _ _))) (iq (s5 (w0:=w0) (w1:=w1) (w2:=w2) F hC j.l0 j.l1 j.l2 (by exact aX _ _)) ?_));intro hB fz s' Q E yT S hQ;exact gN (W9 Z hn D K emp F 29 6 8 C C C C (by exact aX _ _) C yT S λs₁ st wR lj=>(Tl (c:=c.r2 V) (⟨Z.ob,λk=>Z.gS k,Z.ok⟩) R2 F OC FB K1 K2 (HP n f (1+n0%255) (1+n1%255) w0 w1 w2 hm (by exact e5 _ _) hp (by exact e5 _ _) hq j) (U1 (by exact bh Sh (bx C)) (by exact bh Si (bx C)) hp hq j.l0 j.l1 j.l2 Hx) j.l0 j.l1 j.l2 Hx hB fz s₁ Q E yT lj λm6 qP cU C1 vM=>hQ m6 qP cU (wR.trans C1) vM))
end
inductive qu(B:bV Ob)(cl:Cl)(f:af)(j:Y)(xs:U af):Prop
 |mk(a:ak)(ob:bE)(fd:tQ)(h1:(f,a)∈cl.fs)(h2:tR cl a)(h3:gO B a 16 j ob fd xs)
structure Fx(y:Ly Ob)(cl:Cl)(a_:ak)(bm:U ay)(Bx newId yY:String):Prop where
 Z:bH y.B y.prog y.w cl
 OC:OwnCls "CycleError" a_ bm newId y.mg y.B.bI
 FB:ExcBaseFacts Bx newId yY bm
 d4:y.D "translate" 4
 d7:y.D "escape" 7
 d9:∃cd P,y.DC "_translate" 9 (.ref cd)/\nv y.B y.mg cd P
 Gk:y.D "_join_translated_parts" 10
 Bq:y.D "read_uint1" 18
 Gl:y.D "read_string1" 19
 Gm:y.D "_law_pattern" 24
 Gn:y.D "_law_ends" 25
 Go:y.D "_law_lead" 26
 Gp:y.D "_law_chance" 27
 sp:A9 y
 pt:A7 y
 mA:qu y.B cl "add" 2 m8
 mG:qu y.B cl "_get_nodeinfo" 1 nJ
 mR:qu y.B cl "get_ready" 4 q8
 mI:qu y.B cl "is_active" 5 ve
 mD:qu y.B cl "done" 7 gB
 mP:qu y.B cl "prepare" 3 nK
 mF:qu y.B cl "_find_cycle" 8 eW
 nI:∃ob fd,gO y.B cl.ni 14 1 ob fd sU
 nN:y.mg "_NodeInfo"=J (.ref cl.N)
 nO:∃t,y.mg "_NODE_OUT"=J (.int (-1) t)
 nD:∃t,y.mg "_NODE_DONE"=J (.int (-2) t)
 gH:∃a ob fd,(("__init__":af),a)∈cl.fs/\jJ y.B a ob fd (cQ (e7 16 0)) q9/\fd.scope=d5 (e7 16 0)/\Binds y.B y.prog y.w fd q9 [] [.none]
 top:y.mg "TopologicalSorter"=J (.ref cl.a_)
section
theorem IJ(v:c.n=6)(T:Fx c.y aK aC k8 p_ p6 iX)(d6:(n,f)∈m5)(aJ:0<H)(k6:H<256)(bA:0<p)(o7:p<256)(j:rQ n f O y S):vJ c aK aC n f H p [O,y,S]:=by
 refine cps λ_ e=>fF (KP d6) λs_ eX gv=>dK T.d9 λqd nP az aB=>?_;have g:∀X∈ [O,y,S],X.length=3/\∀w∈X,w=n\/w=f:=bl ⟨j.l0,j.m0⟩ (bl ⟨j.l1,j.m1⟩ (bl ⟨j.l2,j.m2⟩ dR));have u:∀i,i<3->([O,y,S].getD i []).length=3:=oG j.l0 j.l1 j.l2;refine oA T.gH λaV iK qa bQ ai aj ao=>e ({rd:=λst qb d G=>⟨λt=>?_,λt aD aE aH=>?_⟩,pat:=λs P=>?_,tr:=λs P r=>?_,ld:=λaO aU A aW=>?_,ch:=λi aZ bg bq=>?_,sr:=⟨λQ h bD bK R E=>?_,λQ h m B L R E=>?_,λQ h m B L R=>?_,λQ h m B L bW R E=>?_⟩,pc:=⟨λQ h p9 bY R E b7 b_=>?_⟩,gH:=(gG aV 0 (bL 0 (.a (.n 0) (.n 2)) (.v 0) (.n 6) (.v 0) C [_] ((dG v))) bQ (λQ p8=>XV T.Z ai aj ao)),top:=T.top})
 .exact v.symm▸(LH T.Z T.Bq d G t)
 .exact v.symm▸(XW T.Z T.Bq T.Gl d G t aD aE aH)
 .unfold CN;exact v.symm▸(XT T.Gm s P)
 .unfold CN;rw [v];exact XY (n:=4) T.d4 az T.Gk (Xd T.pt aB) (λa r=>XJ T.d7 T.sp a r) s (bh P (bx C)) λa cv=>by rcases r a cv with x|x<;>(first|exact cF 0 (.a (.v 1) (.n 1)) (.n 128) (.a (.v 0) (.n 1)) (.n 128) (.v 1) (.v 0) C [_,_] eX ((c4 x))|exact cF 0 (.a (.v 1) (.n 1)) (.n 128) (.a (.v 0) (.n 1)) (.n 128) (.v 1) (.v 0) C [_,_] gv ((c4 x))|omega)
 .unfold CN;rw [v];refine bR (g A aW) λR E=>?_;obtain⟨cz,cB,ah,rfl⟩:=qU (P:=λcE=>∃a b c,cE= [a,b,c]) (λa b c=>⟨a,b,c,C⟩) A R
  .exact XR T.Go T.Gn (E cz (.head _)) (E cB (.tail _ (.head _))) (E ah (.tail _ (.tail _ (.head _)))) aJ bA (tH ‹_›) (tH ‹_›) (by rw [(g aO aU).1];exact aX _ _)
 .unfold CN;rw [v];exact XE T.Gp (u i bg) (u aZ bq) (tH ‹_›) (tH ‹_›)
 .obtain⟨cK,cO,cV,c9,au,k⟩:=T.mA;obtain⟨jj,jW,kA,aL,k7,c_⟩:=T.mG;exact jP T.nI λl6 nM dm=>(r6 cK cO cV c9 au k.d.ho k.d.hd (v.symm▸(w_add T.Z k c_ dm T.nN aL bD bK R E)))
 .obtain⟨dB,dJ,dO,bz,dX,l⟩:=T.mR;exact bZ T.nO λd8 z=>(r6 dB dJ dO bz dX l.d.ho l.d.hd (v.symm▸(XN T.Z l z R E)))
 .obtain⟨eg,eu,eE,eK,eL,F⟩:=T.mI;exact(r6 eg eu eE eK eL F.d.ho F.d.hd (v.symm▸(XO T.Z F R)))
 .obtain⟨fa,dS,fx,fy,fU,o⟩:=T.mD;exact cps λ_ e=>bZ T.nO λd8 z=>bZ T.nD λp7 ff=>e ((r6 fa dS fx fy fU o.d.ho o.d.hd (v.symm▸(XG T.Z o z ff bW R E))))
 .obtain⟨gJ,gK,gC,gV,qc,q⟩:=T.mP;obtain⟨qe,qf,s6,iz,tn,bM⟩:=T.mF;exact(mQ gJ gK gC gV q.d.ho q.d.hd (v.symm▸(XU T.Z q bM iz T.OC T.FB R bY E b7 b_)))
end
noncomputable abbrev Ly.r2(O:Ly Ob)(G:Inv O.B.tabs):Ly Ob:={O with B:=O.B.re G,G:=e6.re O.G}
theorem To:cQ (bj 28)= [b6 0,b6 1,b6 2,b6 3,b6 4,b6 5,b6 6,b6 7,b6 8,b6 9,b6 10,b6 11,b6 12,b6 13,b6 14,b6 15,b6 16,b6 17,b6 18,b6 19,b6 20,b6 21,b6 22,b6 23]:=C
section
variable{y:Ly Ob}
theorem Tn(T:Fx (y.r2 G) bM c_ cz c9 dm cK)(bK:y.DC "_law_stream" 21 (.ref aJ))(K:nv (y.B.re G) y.mg aJ X)(aU:∀{h},y.B.inv h->TabAt h X #[]/\G.I h)(aB:y.D "_law_word" 23)(aC:y.D "_law_counted" 22)
  (aH:∀n f p q O i S,(n,f)∈m5->0<p->p<256->0<q->q<256->rQ n f O i S->Plain n f p q [O,i,S])
  {o:bE}{d code:ay}(aL:y.B.bI.get? k=J o)(bD:o.data= .func (docDef "law" (gQ (bj 28)) (cQ (bj 28)) (d5 (bj 28)) d code r))(b7:y.B.bI.CodeRec code "law")
  {fz:Fz}{v:ay}{s:aR}{Rs:Result->aR->Prop}(au:dw F 7)(H:F.frames=J [])(P:Ready y.B fz s){sc:U aq}(a:Den ρ fz v (.list (sc.map .int)))(aV:sc.length<=100)
  (aW:∀m,bU s m->(∀b,b∉y.B.tabs->∀x,s.heap.get? b=J x->m.heap.get? b=J x)->G.I m.heap->Rs (.ok (.ret (.bool aa))) m):
  codeAny (model y.prog y.w) F (.call (.ref k) ⟨[v], []⟩) Rs s:=by
 have aK:n6 (d5 (bj 28)) cD:=kW (by decide+kernel);have bQ:bindArgs (docDef "law" (gQ (bj 28)) (cQ (bj 28)) (d5 (bj 28)) d code r) ⟨[v], []⟩=pure (eI cD [v]):=C;have bW:(d5 (bj 28)).names.lookup ("script":af)=J .local:=by decide+kernel
 refine Nu au.d (P.base _ _ aL) bD (y.G.nolimit P.base) (b7.keeps P.base) C bQ C (λx j=>?_) (λL Q=>?_) C C C
 .have:=cI.mp j;exact this.symm▸(.inl bW)
 let w:=callEnvC (docDef "law" (gQ (bj 28)) (cQ (bj 28)) (d5 (bj 28)) d code r) s.heap.objs.size k
 let c:=y.c (F.deeper w) ρ w 6 au.deeper
 have aD:Fm c.env cD 27 eN:=jQ (by decide+kernel) C;have aE:iM c []:=⟨(aM ([]) (Ei H) (λe u=>(nomatch u))),C,by show(d5 (bj 28)).kind≠_;exact nofun,λA E=>(nomatch E),λh _ A E=>(nomatch E),λh aO l g=>y.B.e8 l λX t o e=>(g X t o e).elim id λq=>(nomatch q.1)⟩;have aZ:iM (c.r2 G) []:=⟨(aM ([]) (Ei H) (λe u=>(nomatch u))),C,by show(d5 (bj 28)).kind≠_;exact nofun,λA E=>(nomatch E),λh _ A E=>(nomatch E),λh aO l g=>G.of l λX t o e=>(g X t o e).elim id λq=>(nomatch q.1)⟩;have bg:bH c.B c.prog c.w bM:=⟨T.Z.ob,λbq=>T.Z.gS bq,T.Z.ok⟩;have A:=Tj (c:=c) (V:=G) bg aE aZ aD (show 1<=6 by exact c3 _) bK K aU (λn f x j=>XZ (n:=5) aB n f x j) (λbz bA=>XF (n:=5) aC bz bA) T.OC T.FB
  (λn f p q O i S R ah B aj ai ao=>⟨IJ (c:=c.r2 G) C T R ah B aj ai ao,λsc a=>IJ (c:=(c.r2 G).fc sc a) C T R ah B aj ai ao⟩) aH sc aV
 rw [<-To]at A;refine A _ fz L _ _ C (Dm (B:=y.B) (ρ:=ρ) (fz:=fz) (xs:=cD) (m9:= [.list (sc.map .int)]) (vs:= [v]) (fd:=docDef "law" (gQ (bj 28)) (cQ (bj 28)) (d5 (bj 28)) d code r) (a:=k) (s:=s) (s₁:=L) aK C C P (.cons a .nil) (dP C) Q) λm cB cE q z=>?_;obtain⟨_,cO,cV,z⟩:=z;exact dK Q.done λbY b_ cv dB=>aW m (bU.trans (cu bY b_ cv) q) (λb az x e=>z.kept b x (by show(if b∈y.B.tabs then ae else s.heap.get? b)=J x;exact(bF az).trans e)) z.inv
end
noncomputable abbrev CW:ck:=PySem.Challenge.rw_rx0064_03.row.prog
noncomputable def oE(X:b4):Cl:={K:=hK X.params,a_:=192,N:=95,fs:= [("__init__",128),("_get_nodeinfo",135),("add",142),("prepare",147),("get_ready",154),("is_active",161),("done",175),("_find_cycle",182)],ni:=91,p0:=96,p1:=97,p2:=98}
theorem Ti(X:b4):rF (oE X)where
 pg:=λw=>C
 hd:=C
 sa:=C
 po:=C
 CB:=C
 Il:=C
 Ik:=C
 lt:=aX _ _
 FN:=C
 G_:=C
 CJ:=λw=>C
 IZ:=C
 zE:=C
 zB:=C
 I8:=C
 I3:=C
 I2:=C
 s0:=⟨C,C,C,C,C⟩
 s1:=⟨C,C,C,C,C⟩
 s2:=⟨C,C,C,C,C⟩
noncomputable def t0:bE:=⟨.none,ae, .fields #[],#[]⟩
noncomputable def tabI(P:b8):Prop:=∀X∈([212,64]:U ak),P.get? X=J t0
noncomputable def lB(h:b4)(e:b8):bV Ob where
 ob:=Fg CW h (oE h)
 ok:=λw=>True
 bI:=rest e [212,64]
 base:=λw=>trivial
 frame:=λx w k=>US x k
 tabs:= [212,64]
 inv:=tabI
 live:=λi X l=>by exact cS (i X l)
 e8:=λi k X l=>k X l _ (i X l)
noncomputable def lV(h:b4)(a:b8):Inv (lB h a).tabs where
 I:=λP=>∀X∈([212,64]:U ak),∃u,TabAt P X u
 live:=λi X l=>by refine aG (i X l) λu e w=>?_;exact cS e
 of:=λi k X l=>by refine aG (i X l) λu e r=>?_;exact(aM u (k X l _ e) r)
theorem Qz(l:X∈([212,64])){P:b8}(i:tabI P):TabAt P X #[]/\∀X∈([212,64]),∃u,TabAt P X u:=
 ⟨⟨i X l,trivial⟩,λQ O=>⟨#[],i Q O,trivial⟩⟩
theorem CL{l:U ak}(u:h.Ns a H)(q:a∉l):(rest h l).Ns a H:=i8 u λo d O e r=>(kP o d O (mZ e q) r)
section
variable{w:b4}{h:b8}{mg mb:af->aS ay}
theorem fZ(T:(hK w.params).In h)(k:bN (rest h [212,64]) P):(hK w.params).In P:=λa o e=>by
 refine k a o (mZ (T a o e) λq=>?_);have v:∀X∈([212,64]:U ak),(hK w.params).lookup X=ae:=by
  intro X l;simp only [cC,gM,or_false]at l;rcases l with rfl|rfl<;>kernel_rfl
 exact aT (v a q) e
theorem Aa(T:TopRead p g mg mb h):TopRead p g mg mb (rest h [212,64]):=
 ⟨CL T.g (nofun),CL T.b (nofun),(aG T.nolimit λt u e=>(aM t (CL u (nofun)) e)),T.builtins,T.free⟩
theorem OG(e:(hK w.params).In h)(T:TopRead p g mg mb h)(i:Y)(x:af)(v:ay)(a:t7[i]?=J (x,v)):mg x=ae/\mb x=J v:=by
 have E:(t7.all λO=>(nsIn (hK w.params) mainGlobals O.1==J ae)&&(bootBuiltins O.1==J O.2)&&!(O.1==("__name__":af)))=aa:=C;have:=kC.mp E (x,v) (cA a);simp only [qg,beq_iff_eq,El]at this;refine bR this λs c=>?_;obtain⟨l,b⟩:=s;exact⟨mg_none_of e T.g l,by rw [T.builtins x (by simpa using c)];exact b⟩
noncomputable def lY(e:(hK w.params).In h)(T:TopRead p g mg mb h):Ly Ob where
 B:=lB w h
 prog:=CW
 w:=w
 mg:=mg
 mb:=mb
 G:=⟨λk=>(Aa T).g.keeps k,λk=>(Aa T).b.keeps k,λk=>(Aa T).nolimit.keeps k⟩
 bi:=OG e T
theorem ny{e:bV Ob}(i:∀{P},bN e.bI P->(hK w.params).In P)(G:h.Ns mainGlobals mg)(T:(hK w.params).In h){z:af}(a c:ak)(o v:bE)(t:nsIn (hK w.params) mainGlobals z=J (J (.ref a)))(Q:(hK w.params).lookup a=J o)
  (x:o.data= .func (docDef z (gQ (bj u)) (cQ (bj u)) (d5 (bj u)) d (.ref c) j))(s:(hK w.params).lookup c=J v)(b:v.data= .fields y)(l:y[1]?=J (.str z E)):nW e mg z u:=
 (SE a o d (.ref c) j (mg_of T G t) (λk=>i k _ _ Q) x (λk=>(r7 c v y E C (i k _ _ s) b l)))
theorem Gw(e:(hK w.params).In h)(T:TopRead p g mg mb h)(a c:ak)(o v:bE)(t:nsIn (hK w.params) mainGlobals z=J (J (.ref a)))(Q:(hK w.params).lookup a=J o)
  (i:o.data= .func (docDef z (gQ (bj u)) (cQ (bj u)) (d5 (bj u)) d (.ref c) j))(s:(hK w.params).lookup c=J v)(x:v.data= .fields y)(b:y[1]?=J (.str z E)):(lY e T).DC z u (.ref c):=
 (r7 a o d j (mg_of e T.g t) (λk=>fZ e k _ _ Q) i (λk=>(r7 c v y E C (fZ e k _ _ s) x b)))
theorem sj(e:(hK w.params).In h)(T:TopRead p g mg mb h){z q:af}{m:Y}{n:U af}(a c:ak)(o v:bE){j:ay}{y:j4 ay}{E:fh}(t:(z,a)∈(oE w).fs)(i:tR (oE w) a)(Q:(hK w.params).lookup a=J o)
  (x:o.data= .func {docDef z (gQ (e7 16 m)) (cQ (e7 16 m)) (d5 (e7 16 m)) d (.ref c) j with qualname:=q})(s:(hK w.params).lookup c=J v)(l:v.data= .fields y)(b:y[1]?=J (.str q E))(f:n6 (d5 (e7 16 m)) n):qu ((lY e T).r2 (lV w h)).B (oE w) z m n:=
 ⟨a,o,_,t,i,⟨⟨λk=>fZ e k _ _ Q,x,λk=>(r7 c v y E C (fZ e k _ _ s) l b),C,C,f,C,C⟩,C,C,C,C⟩⟩
end
section
variable{w:b4}
theorem rS(w:b4):∀x∈(oE w).fs,tR (oE w) x.2:=by
 intro x j;have R:((oE w).fs.all λx=>(specialIn (hK w.params) (.ref x.2) "__get__"==J (J (.builtin "function.__get__")))&&(takesIn (hK w.params) (.ref x.2)==J aA)&&fnIn (hK w.params) x.2)=aa:=by kernel_rfl
 have:=kC.mp R x j;simp only [qg,beq_iff_eq]at this;exact⟨this.1.1,this.1.2,this.2⟩
noncomputable def vZ(X:cL):j4 DictEntry:=match(CP X).data with| .dict d _=>d|_=>#[]
noncomputable def H6(s:af):ay->bu
 | .str x _=>x==s
 |_=>aA
theorem SZ(h:H6 s v=aa):∃H,v= .str s H:=by
 cases v with
 |str x H=>exact⟨H,by rw [eq_of_beq (a:=x) h]⟩
 |_=>exact dg C h
theorem SY{v:ay}(h:v.isInt i=aa):∃H,v= .int i H:=by
 cases v with
 |int m H=>exact⟨H,by rw [eq_of_beq (a:=m) h]⟩
 |_=>exact dg C h
noncomputable def F8(X:cL)(a:Y):bu:=bif decide (a∈pX)then(findBy Nr (vZ X) (a:aq)).any (H6 (b3 [92,a]))else(findBy Nr (vZ X) (a:aq)).isNone
theorem O8(X:cL):(rj 256).all (F8 X)=aa:=by kernel_rfl
noncomputable def S5(X:cL):bu:=(vZ X).toList.all λe=>e.key.isInt e.hash&&e.hash==hashInt e.hash
theorem S6(X:cL):S5 X=aa:=C
set_option tactic.hygienic true in
theorem WR(h:(hK w.params).In a)(T:TopRead p s l x a):A9 ((lY h T).r2 (lV w a))where
 ex:=by
  refine(lG 52 ((findBy Nr (vZ w.params))) (mg_of h T.g (C)) (C) (λ{P}k=>?_) (λi r=>?_))
  .refine(r6 (CP w.params) (vZ w.params) _ (fZ h k _ _ C) (cR C C C) C (λe u=>?_) (λn=>C));have:=kC.mp (S6 w.params) e (Array.mem_toList_iff.mpr u);obtain⟨R,E⟩:=ew.mp this;exact(SY R).elim λb g=>aM e.hash (by rw [g];exact bB C) (eq_of_beq E)
  .have:=kC.mp (O8 w.params) i (Z6.mpr r);unfold F8 at this
   by_cases L:i∈pX
   .rw [decide_eq_true L]at this;obtain⟨v,e,q⟩:=(aap _ _).mp this;obtain⟨H,rfl⟩:=SZ q;exact .inr ⟨L,H,e⟩
   .rw [decide_eq_false L]at this;exact .inl ⟨L,Option.isNone_iff_eq_none.mp this⟩
theorem VC(h:(hK w.params).In e)(T:TopRead p g l r e):A7 ((lY h T).r2 (lV w e))where
 ex:=(aM 43 (mg_of h T.g (C)) (λk=>⟨JP w.params,_,_,_,_,42,JO w.params,_,fZ h k _ _ C,C,C,C,fZ h k _ _ C,C⟩))
theorem Lo(b:(hK w.params).In h)(T:TopRead p g a n h)(t:h.BuiltinsAt a 64){c X:ak}(l:X∈([212,64]))(y:∀{P},bN (rest h [212,64]) P->mq P c X):nv ((lB w h).re (lV w h)) a c X where
 tab:=l
 hd:=y
 at_:=λi=>i X l
 put:=λ{P f}i k e Q O=>by
  by_cases q:Q=X
  .exact q.symm▸e
  .exact aG (i Q O) λu B r=>(aM u (k Q O q _ B) r)
 ne:=by simp only [cC,gM,or_false]at l;rcases l with rfl|rfl<;>decide
 bm:=λ{P}k=>by
  refine P7 t λbm S x s c d e z=>?_;have L:=mg_of b T.g (n:= "__builtins__") (v:= .ref 4) (C);rw [L]at x;obtain rfl:=jZ (bf x);simp only [cC,gM,or_false]at l;refine(HH 4 S L s c ?_ (k _ _ (mZ e (nofun))) z);rcases l with rfl|rfl<;>decide
theorem yj(T:(hK w.params).In h)(Q:(hK w.params).lookup c=J o)(e:o.cls= .type "code")(s:o.data= .fields y)(i:y[11]?=J (.ref X))(x:y.getD 18 .none= .str z n)(b:y.getD 7 .none= .int a j)(t:y.getD 9 .none= .bool m)(q:y.getD 10 .none= .int l d)(u:c≠X)
  (k:bN (rest h [212,64]) P):mq P c X:=
 ⟨o,y,z,n,a,j,m,l,d,fZ T k _ _ Q,e,s,i,by rw [Array.getD_eq_getD_getElem?,i];rfl,x,b,t,q,u⟩
theorem SO(h:(hK w.params).In e)(T:TopRead p g l r e):∃a S f,(("__init__":af),a)∈(oE w).fs/\jJ ((lY h T).r2 (lV w e)).B a S f (cQ (e7 16 0)) q9/\f.scope=d5 (e7 16 0)/\Binds ((lY h T).r2 (lV w e)).B ((lY h T).r2 (lV w e)).prog w f q9 [] [.none]:=by
 refine(mQ 128 (Jf w.params) _ (.head _) (⟨λk=>fZ h k _ _ C,C,λk=>(r7 127 (Je w.params) _ _ C (fZ h k _ _ C) C C),C,C,kW (C),C,C⟩) C ?_);intro F B H y i s Q G u P z O;obtain rfl:=z.g6 C;refine BindsTo.of_defaults C (fZ h P.base _ _ C) C C C _ _ _ _ (O s i [.none] (b5.refl P) (.cons .none .nil) (bN.refl _))
end
section
variable{bG:Type} [DecidableEq bG]
noncomputable abbrev GN(bG:Type):=bG×aq×U bG
noncomputable def BP(A:U (GN bG))(l:bG):U (GN bG):=if A.any (λa=>decide (a.1=l))then A else A++ [(l,0, [])]
noncomputable def Hl(A:U (GN bG))(l:bG)(d:aq):U (GN bG):=A.map λa=>if a.1=l then(a.1,a.2.1+d,a.2.2)else a
noncomputable def Ho(A:U (GN bG))(l s:bG):U (GN bG):=A.map λa=>if a.1=l then(a.1,a.2.1,a.2.2++ [s])else a
noncomputable def yH(A:U (GN bG))(O:bG)(a:U bG):U (GN bG):=a.foldl (λA p=>Ho (BP A p) p O) (Hl (BP A O) O a.length)
noncomputable def yK(A:U (GN bG))(l:bG)(v:aq):U (GN bG):=A.map λa=>if a.1=l then(a.1,v,a.2.2)else a
noncomputable def wd(A:U (GN bG))(u:U bG):U (GN bG):=u.foldl (λA p=>yK A p (-1)) A
noncomputable def BK(A:U (GN bG))(l:bG):U (GN bG):=A.map λa=>if a.1=l then(a.1,a.2.1-1,a.2.2)else a
noncomputable def yL(A:U (GN bG))(l:bG):aq:=match A.find? (λa=>decide (a.1=l))with|J a=>a.2.1|ae=>0
noncomputable def ur(A:U (GN bG))(l:bG):U bG:=match A.find? (λa=>decide (a.1=l))with|J a=>a.2.2|ae=> []
noncomputable def Hi(s:U (GN bG)×U bG)(p:bG):U (GN bG)×U bG:=(BK s.1 p,if yL (BK s.1 p) p=0 then s.2++ [p]else s.2)
noncomputable def BL(s:U (GN bG)×U bG)(p:bG):U (GN bG)×U bG:=(ur s.1 p).foldl Hi (yK s.1 p (-2),s.2)
noncomputable def BN(s:U (GN bG)×U bG)(u:U bG):U (GN bG)×U bG:=u.foldl BL s
noncomputable def BR:U (GN bG)×U bG->U bG->bu
 |_, []=>aa
 |s,p::u=>s.1.any (λa=>decide (a.1=p))&&decide (yL s.1 p=-1)&&(ur s.1 p).all (λx=>s.1.any λa=>decide (a.1=x))&&decide (s.2.length+(ur s.1 p).length<=900)&&BR (BL s p) u
noncomputable def yM(A:U (GN bG)):U bG:=(A.filter λa=>decide (a.2.1=0)).map (·.1)
noncomputable def Hg(A:U (GN bG)):bu:=A.all λa=>a.2.2.all λs=>A.any λa=>decide (a.1=s)
noncomputable def yN(k:bG->bG->bu):Y->U (GN bG)->U bG->U (U bG)->aS (U (U bG))
 |0,_,_,_=>ae
 |u+1,T,o,d=>if o.isEmpty then J d else
   if o.all (λp=>T.any λa=>decide (a.1=p))&&decide (o.length<=50)&&decide (d.length<=50)&&BR (wd T o, []) (ko k o)then yN k u (BN (wd T o, []) (ko k o)).1 (BN (wd T o, []) (ko k o)).2 (d++ [ko k o])else ae
noncomputable def uo(r:U (bG×aq))(l:bG):aS aq:=(r.find? λx=>decide (x.1=l)).map (·.2)
noncomputable def Hj(r:U (bG×aq))(l:bG)(i:aq):U (bG×aq):=if r.any (λx=>decide (x.1=l))then r.map (λx=>if x.1=l then(x.1,i)else x)else r++ [(l,i)]
noncomputable def Hh(r:U (bG×aq))(l:bG):U (bG×aq):=r.filter λx=>decide (x.1≠l)
noncomputable def rY(P:bG->U bG):U (bG×Y)->U (bG×aq)->aS (aS bG×U (bG×Y)×U (bG×aq))
 | [],m=>J (ae, [],m)
 |(E,p)::r,m=>match(P E)[p]? with
  |J l=>J (J l,(E,p+1)::r,m)
  |ae=>if(uo m E).isSome then rY P r (Hh m E)else ae
noncomputable def uq(P:bG->U bG):Y->bG->U (bG×Y)->U (bG×aq)->U bG->aS (U bG⊕(U bG×U (bG×aq)))
 |0,_,_,_,_=>ae
 |u+1,T,r,m,s=>
  if T∈s then match uo m T with
   |J w=>J (.inl (cut (J w) ae ((r.map (·.1)).reverse)++ [T]))
   |ae=>match rY P r m with
    |J (J l,t,i)=>uq P u l t i s
    |J (ae,_,i)=>J (.inr (s,i))
    |ae=>ae
  else if r.length<=800/\m.length<=800/\s.length<=800 then match rY P ((T,0)::r) (Hj m T r.length)with
    |J (J l,t,i)=>uq P u l t i (s++ [T])
    |J (ae,_,i)=>J (.inr (s++ [T],i))
    |ae=>ae
   else ae
noncomputable def yJ(P:bG->U bG)(o:Y):U bG->U bG->U (bG×aq)->aS (aS (U bG))
 | [],_,_=>J ae
 |u::r,s,m=>if u∈s then yJ P o r s m else match uq P o u [] m s with
  |J (.inl c)=>J (J c)
  |J (.inr (h,i))=>yJ P o r h i
  |ae=>ae
noncomputable def yI(A:U (GN bG))(o:Y):aS (aS (U bG)):=yJ (ur A) o (A.map (·.1)) [] []
end
section
variable{bG:Type} [DecidableEq bG]{aI:bG->U Y}
noncomputable def mE(aI:bG->U Y)(a:GN bG):AN:=(aI a.1,a.2.1,a.2.2.map aI)
noncomputable def mN(aI:bG->U Y)(A:U (GN bG)):U AN:=A.map (mE aI)
theorem FI{B L:Type}{A:U B}{z:B->L}{p:L->bu}{q:B->bu}(h:∀a,p (z a)=q a):(A.map z).any p=A.any q:=List.any_map.trans (aQ _ (funext h))
theorem ya{B L:Type}{A:U B}{f:B->L}{p:L->bu}{q:B->bu}(h:∀a,p (f a)=q a):(A.map f).all p=A.all q:=ZR.trans (aQ _ (funext h))
theorem yo(k:∀{a b},aI a=aI b<->a=b)(a b:bG):decide (aI a=aI b)=decide (a=b):=decide_eq_decide.mpr k
theorem vO(k:∀{a b},aI a=aI b<->a=b):(mN aI A).any (λa=>decide (a.1=aI l))=A.any λa=>decide (a.1=l):=FI λa=>yo k a.1 l
theorem G6(k:∀{a b},aI a=aI b<->a=b):(mN aI A).find? (λa=>decide (a.1=aI l))=(A.find? λa=>decide (a.1=l)).map (mE aI):=
 ZU.trans (aQ (λp=>(A.find? p).map _) (funext λa=>yo k a.1 l))
theorem mT{B L:Type}{p q:Prop} [Decidable p] [Decidable q]{x O:B}{G t:L}{f:B->L}(h:q<->p)(j:G=f x)(A:t=f O):(if q then G else t)=f (if p then x else O):=by
 by_cases c:p
 .exact(bB (h.mpr c)).trans (j.trans (aQ f (bB c).symm))
 .exact(bF λe=>c (h.mp e)).trans (A.trans (aQ f (bF c).symm))
theorem Hs(k:∀{a b},aI a=aI b<->a=b):fJ (mN aI A) (aI l)=mN aI (BP A l):=mT (by rw [vO k]) C (ej (l₂:= [(l,0, [])])).symm
theorem Ab(k:∀{a b},aI a=aI b<->a=b)(F:AN->AN)(z:GN bG->GN bG)(h:∀a,F (mE aI a)=mE aI (z a)):(mN aI A).map (λa=>if a.1=aI l then F a else a)=mN aI (A.map λa=>if a.1=l then z a else a):=by
 unfold mN;rw [d_,d_];exact iZ λa w=>mT k (h a) C
theorem Uz(k:∀{a b},aI a=aI b<->a=b):kT (mN aI A) (aI l) d=mN aI (Hl A l d):=Ab k _ _ λw=>C
theorem W'(k:∀{a b},aI a=aI b<->a=b):iU (mN aI A) (aI l) (aI s)=mN aI (Ho A l s):=Ab k _ _ λa=>aQ (λx=>(aI a.1,a.2.1,x)) (ej (l₂:= [s])).symm
theorem I_(k:∀{a b},aI a=aI b<->a=b):sx (mN aI A) (aI l) d=mN aI (yK A l d):=Ab k _ _ λw=>C
theorem PN(k:∀{a b},aI a=aI b<->a=b):decA (mN aI A) (aI l)=mN aI (BK A l):=Ab k _ _ λw=>C
theorem Ja(k:∀{a b},aI a=aI b<->a=b):oM (mN aI A) (aI l)=yL A l:=by
 unfold oM yL;rw [G6 k];cases A.find? λa=>decide (a.1=l)<;>rfl
theorem Dr(k:∀{a b},aI a=aI b<->a=b):je (mN aI A) (aI l)=(ur A l).map aI:=by
 unfold je ur;rw [G6 k];cases A.find? λa=>decide (a.1=l)<;>rfl
theorem yE{B L e a:Type}{F:B->L->B}{z:e->a->e}{m:e->B}{n:a->L}(h:∀s p,F (m s) (n p)=m (z s p)):∀(u:U a)(s:e),(u.map n).foldl F (m s)=m (u.foldl z s):=λf=>f.rec
 (λw=>C)
 (λp u X s=>(aQ (AD F · _) (h s p)).trans (X _))
theorem Bd(k:∀{a b},aI a=aI b<->a=b):jM (mN aI A) (aI l) (u.map aI)=mN aI (yH A l u):=by
 refine Eq.trans ?_ (yE (F:=λA p=>iU _ p _) (m:=mN aI) (n:=aI) (λA p=>(aQ (iU · _ _) (Hs k)).trans (W' k)) u _);show AD _ _ _=_;rw [Hs k,Uz k,cH]
theorem Va(k:∀{a b},aI a=aI b<->a=b):jy (mN aI A) (u.map aI)=mN aI (wd A u):=yE (λw w=>I_ k) u A
noncomputable def mD(aI:bG->U Y)(s:U (GN bG)×U bG):U AN×U (U Y):=(mN aI s.1,s.2.map aI)
theorem PL(k:∀{a b},aI a=aI b<->a=b)(s:U _×U bG)(p:bG):qG (mD aI s) (aI p)=mD aI (Hi s p):=by
 show(decA (mN aI s.1) _,if oM (decA (mN aI s.1) _) _=0 then s.2.map aI++ [aI p]else s.2.map aI)=(mN aI _,jY aI _);rw [PN k,Ja k];exact aQ _ (mT Iff.rfl (ej (l₂:= [p])).symm C)
theorem Gy(k:∀{a b},aI a=aI b<->a=b)(s:U _×U bG)(p:bG):vV (mD aI s) (aI p)=mD aI (BL s p):=by
 refine Eq.trans ?_ (yE (PL k) _ (yK s.1 p (-2),s.2));show AD qG (sx (mN aI s.1) _ (-2),s.2.map aI) (je (mN aI s.1) _)=_;rw [Dr k,I_ k];rfl
theorem P0(k:∀{a b},aI a=aI b<->a=b):mJ (mD aI s) (u.map aI)=mD aI (BN s u):=yE (Gy k) u s
theorem J4(k:∀{a b},aI a=aI b<->a=b):∀{u:U bG}{s:U _×U bG},pQ (mD aI s) (u.map aI)=BR s u
 | [],s=>C
 |p::u,s=>by
  show((mN aI s.1).any _&&decide (oM (mN aI s.1) _=-1)&&(je (mN aI s.1) _).all (λx=>(mN aI s.1).any λa=>decide _)&&decide ((s.2.map aI).length+(je (mN aI s.1) _).length<=900)&&pQ _ _)=_;rw [Gy k,J4 k,vO k,Ja k,Dr k,cH,cH,ya (p:=λx=>(mN aI s.1).any λa=>decide _) λx=>vO k]
  rfl
theorem VU:iT (mN aI A)=(yM A).map aI:=by
 unfold iT yM mN;rw [Ex,d_,d_]
 rfl
theorem Pq(k:∀{a b},aI a=aI b<->a=b):t9 (mN aI A)=Hg A:=ya λa=>ya λx=>vO k
theorem SV:∀{l:U bG},r9 k (aI x) (l.map aI)=(r9 (λa b=>k (aI a) (aI b)) x l).map aI:= @λf=>f.rec
 (C)
 (@λO r X=>mT Iff.rfl C (aQ (aI O::·) X))
theorem K0:∀{l:U bG},ko k (l.map aI)=(ko (λa b=>k (aI a) (aI b)) l).map aI:= @λf=>f.rec
 C
 (@λx r X=>(aQ _ X).trans SV)
theorem Kx(k:∀{a b},aI a=aI b<->a=b):∀{u:Y}{T:U _}{o:U bG}{d:U _},uX u (mN aI T) (o.map aI) (d.map (jY aI))=(yN (λa b=>ef (aI a) (aI b)) u T o d).map (jY (jY aI))
 |0,_,_,_=>C
 |u+1,T,o,d=>by
  refine mT (by cases o<;>exact Iff.rfl) C ?_;have h:gu (o.map aI)=(ko _ o).map aI:=K0;have E:(jy (mN aI T) (o.map aI), [])=mD aI (wd T o, []):=aQ (·, []) (Va k);rw [h,E];refine mT ?_ ?_ C
  .rw [J4 k,cH,cH,ya (f:=aI) (p:=λp=>(mN aI T).any λa=>decide (a.1=p)) λx=>vO k]
  .rw [P0 k];exact(aQ _ (ej (l₂:= [ko _ o])).symm).trans (Kx k)
noncomputable def mK(aI:bG->U Y)(m:U (bG×aq)):U (U Y×aq):=m.map λx=>(aI x.1,x.2)
noncomputable def mR(aI:bG->U Y)(r:U (bG×Y)):U (U Y×Y):=r.map λx=>(aI x.1,x.2)
theorem Gv(k:∀{a b},aI a=aI b<->a=b):jO (mK aI m) (aI l)=uo m l:=by
 unfold jO uo mK;rw [ZU,Option.map_map];exact aQ (λp=>(m.find? p).map AQ) (funext λa=>yo k a.1 l)
theorem P4(k:∀{a b},aI a=aI b<->a=b):oz (mK aI m) (aI l) i=mK aI (Hj m l i):=by
 have e:(mK aI m).any (λx=>decide (x.1=aI l))=m.any λx=>decide _:=FI λa=>yo k a.1 l;refine mT (by rw [e]) ?_ (ej (l₂:= [(l,i)])).symm;unfold mK;rw [d_,d_];exact iZ λa w=>mT (f:=λx:bG×aq=>(aI x.1,x.2)) k C C
theorem PK(k:∀{a b},aI a=aI b<->a=b):lE (mK aI m) (aI l)=mK aI (Hh m l):=
 Ex.trans (aQ (λp=>(m.filter p).map λx=>(aI x.1,x.2)) (funext λa=>decide_eq_decide.mpr (not_congr k)))
theorem CV(k:∀{a b},aI a=aI b<->a=b)(v:∀a,G (aI a)=(P a).map aI):∀{r:U _}{m:U _},mY G (mR aI r) (mK aI m)=(rY P r m).map λx=>(x.1.map aI,mR aI x.2.1,mK aI x.2.2)
 | [],m=>C
 |(E,p)::r,m=>by
  show(match(G (aI E))[p]? with|J l=>_|ae=>_)=qm _ (match(P E)[p]? with|J l=>J (J l,(E,p+1)::r,m)|ae=>if(uo m E).isSome=aa then rY P r _ else ae);rw [v,gD];cases(P E)[p]? with
  |some l=>rfl
  |none=>exact mT (by rw [Gv k]) (PK k▸CV k v) C
theorem IQ(k:∀{a b},aI a=aI b<->a=b){s:U bG}:aI a∈s.map aI<->a∈s:=⟨λh=>aG (eZ.mp h) λw t e=>k.mp e▸t,gE⟩
noncomputable def mS(aI:bG->U Y):U bG⊕(U bG×U (bG×aq))->U (U Y)⊕(U (U Y)×Kv)
 | .inl l=> .inl (l.map aI)
 | .inr (s,m)=> .inr (s.map aI,mK aI m)
theorem PI{lo z:aS aq}{l:U B}:cut lo z (l.map h)=(cut lo z l).map h:=by
 unfold cut;rw [cH,AF,M4]
theorem C4(k:∀{a b},aI a=aI b<->a=b)(v:∀a,G (aI a)=(P a).map aI):∀{u:Y}{T:bG}{r:U _}{m:U _}{s:U bG},m3 G u (aI T) (mR aI r) (mK aI m) (s.map aI)=(uq P u T r m s).map (mS aI)
 |0,_,_,_,_=>C
 |u+1,T,r,m,s=>by
  refine mT (IQ k) ?_ (mT (by rw [show(mR aI r).length=r.length from cH ..,show(mK aI m).length=m.length from cH ..,cH]) ?_ C)
  .rw [Gv k];cases uo m T with
   |some w=>
    exact aQ (λl=>J (Sum.inl l)) ((aQ (·++ [aI T]) ((aQ _ (by unfold mR;rw [d_,List.map_reverse,d_];rfl)).trans PI)).trans (ej (l₂:= [T])).symm)
   |none=>
    show(match mY G _ _ with|J (J l,t,i)=>_|J (ae,_,i)=>_|ae=>_)=_;rw [CV k v];cases rY P r m with
    |none=>rfl
    |some x=>
     obtain⟨_|l,t,i⟩:=x
     .rfl
     .exact C4 k v
  .rw [show(aI T,0)::mR aI r=mR aI ((T,0)::r)from C,show(mR aI r).length=r.length from cH ..,P4 k,CV k v,show s.map aI++ [aI T]=(s++ [T]).map aI from ej (l₂:= [T]).symm];cases rY P _ _ with
   |none=>rfl
   |some x=>
    obtain⟨_|l,t,i⟩:=x
    .rfl
    .exact C4 k v
theorem BG(k:∀{a b},aI a=aI b<->a=b)(v:∀a,G (aI a)=(P a).map aI):∀{r seen:U bG}{kv:U _},qN G o (r.map aI) (seen.map aI) (mK aI kv)=(yJ P o r seen kv).map (qm (jY aI))
 | [],_,_=>C
 |u::r,seen,kv=>by
  refine mT (IQ k) (BG k v) ?_;rw [show m3 G o _ [] (mK aI kv) (seen.map aI)=(uq P o u [] kv seen).map (mS aI)from C4 k v (r:= [])];cases uq P o u [] kv seen with
  |none=>rfl
  |some x=>
   cases x with
   |inl c=>rfl
   |inr O=>exact BG k v
theorem RD(k:∀{a b},aI a=aI b<->a=b):qK (mN aI A) o=(yI A o).map (qm (jY aI)):=by
 unfold qK yI;have e:(mN aI A).map (·.1)=(A.map (·.1)).map aI:=by unfold mN;rw [d_,d_];rfl
 exact e.symm▸BG k (λa=>Dr k) (seen:= []) (kv:= [])
end
noncomputable def kf:Y->Fin 3
 |0=>0
 |1=>1
 |_=>2
noncomputable def cT(F u l:Fin 3)(i m:Y):bu:=
 if i=1/\m=0 then decide (F=1)else if i=0/\m=1 then decide (F=2)else if i=2/\m=0 then decide (u=1)else if i=0/\m=2 then decide (u=2)else
 if i=2/\m=1 then decide (l=1)else if i=1/\m=2 then decide (l=2)else aA
noncomputable def kc(E:Fin 3)(i m:Y):U (Y×Y):=if E=2 then [(i,m)]else if E=1 then [(m,i)]else []
noncomputable def Cs(h a x:bu)(i m:Fin 3):bu:=
 if i=0/\m=1 then h else if i=1/\m=0 then !h else if i=0/\m=2 then a else if i=2/\m=0 then !a else if i=1/\m=2 then x else if i=2/\m=1 then !x else aa
noncomputable def we(c:Y->Y->bu)(i:Y):U (Fin 3):=([0,1,2].filter (c i)).map kf
noncomputable def pJ(c:Y->Y->bu):U (GN (Fin 3)):=yH (yH (yH [] 0 (we c 0)) 1 (we c 1)) 2 (we c 2)
noncomputable def BO(k:Fin 3->Fin 3->bu)(A:U Y):U (U (Fin 3)):=([0,1,2].map λu=>ko k (([0,1,2].filter λi=>A.getD i 0==u).map kf)).filter λP=>!P.isEmpty
noncomputable def BQ:aS (U (Fin 3))->bu
 |J z=>!z.isEmpty&&decide (z.length<=1000)
 |ae=>aa
noncomputable def F_(F u l:Fin 3)(h a x:bu):bu:=
 Hg (pJ (cT F u l))&&match yI (pJ (cT F u l)) 20 with
 |ae=>aA
 |J e=>BQ e&&match yN (Cs h a x) 10 (pJ (cT F u l)) (yM (pJ (cT F u l))) []with
  |ae=>aA
  |J L=>if q6 ((kc F 1 0++kc u 2 0++kc l 2 1).map λH=>((H.2:Y):aq))= [0,1,2]then e.isSome&&decide (L= [])
   else !e.isSome&&decide (L=BO (Cs h a x) (lK (kc F 1 0++kc u 2 0++kc l 2 1) (lK (kc F 1 0++kc u 2 0++kc l 2 1) [0,0,0])))
theorem Pg:∀(F u l:Fin 3)(h a x:bu),(h&&x&&!a||!h&&!x&&a)=aA->F_ F u l h a x=aa:=by decide+kernel
theorem U2:sF (r.map (jY c))=BQ r:=by
 cases r with
 |none=>rfl
 |some l=>simp [sF,BQ]
section
theorem CU(h:rL n f p q ws i j)(X:0<(gP (ws.getD i []) (ws.getD j []) n f p q).2):
  ∃E,lD n p q ws i j=decide (E=1)/\lD n p q ws j i=decide (E=2)/\iE (lT n f p q ws i j) i j=kc E i j:=by
 obtain⟨H,o,e,-,-,-,-⟩:=h;unfold lD iE lT;generalize(gP (ws.getD i []) (ws.getD j []) n f p q).1=b at*;generalize(gP (ws.getD i []) (ws.getD j []) n f p q).2=x at*;generalize eB n p q ws j j-eB n p q ws j i=A at*;generalize eB n p q ws i i-eB n p q ws i j=a at*;have k:(2*b-x)*(A+a)=x*(A-a):=by
  have t:2*(b*(A+a))=2*(x*A):=aQ _ e;have Q:(2*b-x)*(A+a)=2*(b*(A+a))-x*(A+a):=by rw [Int.sub_mul,tD]
  have s:x*(A+a)=x*A+x*a:=MH ..;have l:x*(A-a)=x*A-x*a:=Int.mul_sub ..;omega
 rcases Int.lt_trichotomy A a with B|B|B
 .have u:x*(A-a)<0:=Int.mul_neg_of_pos_of_neg X (by omega);have c:2*b<x:=by
   rcases Int.lt_or_le (2*b) x with P|P
   .exact P
   .have:0<=(2*b-x)*(A+a):=Aw (by omega) (by omega);omega
  refine(i12 1 ?_ ?_ ?_)
  .exact bB ‹_›
  .have:¬a<A:=by omega
   simp [this]
  .unfold kc;rw [bF (by omega),bB c,bF (nofun),bB C]
 .have u:x*(A-a)=0:=by rw [B,Int.sub_self,Int.mul_zero]
  have c:2*b=x:=by
   rw [u]at k;rcases Int.mul_eq_zero.mp k with P|P<;>omega
  refine(i12 0 ?_ ?_ ?_)
  .have:¬A<a:=by omega
   simp [this]
  .have:¬a<A:=by omega
   simp [this]
  .unfold kc;rw [bF (by omega),bF (by omega),bF (nofun),bF (nofun)]
 .have u:0<x*(A-a):=MI X (by omega);have c:x<2*b:=by
   rcases Int.lt_or_le x (2*b)with P|P
   .exact P
   .have:(2*b-x)*(A+a)<=0:=Int.mul_nonpos_of_nonpos_of_nonneg (by omega) (by omega);omega
  refine(i12 2 ?_ ?_ ?_)
  .have:¬A<a:=by omega
   simp [this]
  .exact bB ‹_›
  .exact bB ‹_›
theorem Cr(h:a≠b):ef b a=!ef a b:=by
 cases q:ef a b with
 |false=>exact(zd a b q)
 |true=>
  cases o:ef b a with
  |false=>rfl
  |true=>exact cg (Cq a b q o) h
theorem f3{P:Fin 3->Prop}(d:P 0)(R:P 1)(E:P 2):∀i,P i
 |⟨0,_⟩=>d
 |⟨1,_⟩=>R
 |⟨2,_⟩=>E
theorem Vk(j:rQ n f O y S)(d:∀i m,m<i->i<3->rL n f p q [O,y,S] i m)(L:∀i m,m<i->i<3->0<(gP ([O,y,S].getD i []) ([O,y,S].getD m []) n f p q).2):Plain n f p q [O,y,S]:=by
 refine jq (CU (d 1 0 (cY _) (aX _ _)) (L 1 0 (cY _) (aX _ _))) λF bq bQ aL=>jq (CU (d 2 0 (c3 _) (cY _)) (L 2 0 (c3 _) (cY _))) λu aZ aW bz=>jq (CU (d 2 1 (cY _) (cY _)) (L 2 1 (cY _) (cY _))) λl cv bY aU=>?_;have o:∀i,lD n p q [O,y,S] i i=aA:=λi=>by unfold lD;simp
 have bA:=λi m r G=>
  oG (P:=λi=>lD n p q [O,y,S] i m=cT F u l i m) (oG (P:=λm=>lD n p q [O,y,S] 0 m=cT F u l 0 m) (o 0) bQ aW m G)
   (oG (P:=λm=>lD n p q [O,y,S] 1 m=cT F u l 1 m) bq (o 1) bY m G) (oG (P:=λm=>lD n p q [O,y,S] 2 m=cT F u l 2 m) aZ cv (o 2) m G) i r
 obtain⟨c,P⟩:∃c:Fin 3->U Y,c=λi=> [O,y,S].getD i.val []:=⟨_,C⟩;have T:c 0=O:=by rw [P];rfl
 have X:c 1=y:=by rw [P];rfl
 have B:c 2=S:=by rw [P];rfl
 have g:∀{H v:U Y}{a b:Fin 3}{bg:Prop},c a=H->c b=v->H≠v->c a=c b->bg:=λt Q cz e=>cg (t.symm.trans (e.trans Q)) cz
 have k:∀{a b},c a=c b<->a=b:=λ{a b}=>⟨f3 (P:=λa=>∀b,c a=c b->a=b) (f3 (P:=λb=>c 0=c b->0=b) (λR=>C) (g T X j.d1.symm) (g T B j.d2.symm)) (f3 (P:=λb=>c 1=c b->1=b) (g X T j.d1) (λR=>C) (g X B j.d3.symm))
  (f3 (P:=λb=>c 2=c b->2=b) (g B T j.d2) (g B X j.d3) λR=>C) a b,λh=>aQ _ h⟩
 have aH:∀z:Y->bu,([0,1,2].filter z).map (λm=> [O,y,S].getD m [])=(([0,1,2].filter z).map kf).map c:=λz=>by
  rw [d_];refine iZ λm G=>?_;exact bl (P:=λm=> [O,y,S].getD m []=(c∘kf) m) (a:=0) T.symm (bl (a:=1) X.symm (bl (a:=2) B.symm dR)) m ((List.mem_filter.mp G).1)
 have w:∀i,i<3->g7 n p q [O,y,S] i=(we (cT F u l) i).map c:=λi r=>by
  unfold g7 we;rw [aH]
  congr 2
  exact List.filter_congr λm G=>bA i m r (bl (P:=λm=>m<3) (bx C) (bl (bx C) (bl (bx C) dR)) m G)
 have ai:qz n p q [O,y,S]=mN c (pJ (cT F u l)):=by
  unfold qz pJ;rw [w 0 (by exact c3 _),w 1 (by exact aX _ _),w 2 (by exact cY _)];have cB:([O,y,S].getD 0 [])=c 0:=T.symm;have t:([O,y,S].getD 1 [])=c 1:=X.symm;have Q:([O,y,S].getD 2 [])=c 2:=B.symm;rw [cB,t,Q];have cE:([]:U AN)=mN c []:=C;rw [cE,Bd k,Bd k,Bd k]
 have cK:kQ n f p q [O,y,S]=kc F 1 0++kc u 2 0++kc l 2 1:=by
  unfold kQ;rw [aL,bz,aU]
 have aO:(λa b=>ef (c a) (c b))=Cs (ef O y) (ef O S) (ef y S):=by
  have e:∀{a b:Fin 3}{H v:U Y}{s:bu},c a=H->c b=v->ef H v=s->ef (c a) (c b)=s:=λt Q e=>t.symm▸Q.symm▸e;exact funext (f3 (funext (f3 (zc _) (e T X C) (e T B C))) (funext (f3 (e X T (Cr j.d1.symm)) (zc _) (e X B C))) (funext (f3 (e B T (Cr j.d2.symm)) (e B X (Cr j.d3.symm)) (zc _))))
 have aV:(ef O y&&ef y S&&!ef O S||!ef O y&&!ef y S&&ef O S)=aA:=by
  cases aE:ef O y<;>cases aB:ef y S<;>cases aJ:ef O S<;>first|rfl|skip
  .have aj:ef y O=aa:=zd _ _ aE;have E:ef S y=aa:=zd _ _ aB;exact cg (Cq _ _ aJ (ze _ _ _ E aj)) (jk j.d2)
  .have:=ze _ _ _ aE aB;rw [aJ]at this;exact bB ‹_›
 have aC:=Pg F u l _ _ _ aV;unfold F_ at aC;refine bR (ew.mp aC) λbD bK=>?_
 revert bK
 rw [<-aO];cases bM:yI (pJ (cT F u l)) 20 with
 |none=>intro h;exact dg C h
 |some x=>
  intro h;refine bR (ew.mp h) λaj E=>?_
  revert E
  cases bW:yN (λa b=>ef (c a) (c b)) 10 (pJ (cT F u l)) (yM (pJ (cT F u l))) []with
  |none=>intro h;exact dg C h
  |some aD=>
   intro E;simp only []at E;refine⟨d,?_,20,x.map (jY c),10,aD.map (jY c),?_,?_,?_,?_⟩
   .exact ai.symm▸(Pq k).symm▸bD
   .rw [ai,RD k,bM];rfl
   .exact U2.trans aj
   .have e:([]:U (U (U Y)))=([]:U (U (Fin 3))).map (jY c):=C;rw [ai,VU,e,Kx k,bW];rfl
   .rw [cK];have b7:(x.map (jY c)).isSome=x.isSome:=by cases x<;>rfl
    have b_:∀ah,Bt [O,y,S] ah=(BO (λa b=>ef (c a) (c b)) ah).map (jY c):=λah=>by
     unfold Bt BO rU;have e:∀au:U (U (Fin 3)),(au.map (jY c)).filter (λao=>!ao.isEmpty)=(au.filter λao=>!ao.isEmpty).map (jY c):=λau=>by
      rw [Ex]
      congr 2
      funext s
      simp
     rw [<-e,d_]
     congr 1
     refine iZ λcO R=>?_;rw [aH];exact K0
    rw [b7]
    split
    .rename_i az;rw [bB az]at E;refine bR (ew.mp E) λaK A=>?_;have A:aD= []:=of_decide_eq_true A;subst A
     assumption
    .rename_i az;rw [bF az]at E;refine bR (ew.mp E) λaK A=>?_;have A:=of_decide_eq_true A;rw [aK,b_,A];simp
end
section
set_option exponentiation.threshold 3000
noncomputable def ev(a b:aq):U aq->aq
 | []=>0
 |x::r=>x*b^r.length+a*ev a b r
theorem j9:ev a b []=0:=C
theorem fG:ev a b (x::r)=x*b^r.length+a*ev a b r:=C
noncomputable def fA(l H:U aq):U aq:=o_ (·+·) l H
noncomputable def fS(l H:U aq):U aq:=o_ (·-·) l H
noncomputable def fM:U aq->U aq->U aq
 | [],_=> []
 | [x],H=>H.map (x*·)
 |x::O::r,H=>fA (H.map (x*·)++fg (r.length+1) 0) (0::fM (O::r) H)
theorem G1:fM [x] H=H.map (x*·):=C
theorem G2:fM (x::O::r) H=fA (H.map (x*·)++fg (r.length+1) 0) (0::fM (O::r) H):=C
theorem N8(a b c d:aq):a+b+(c+d)=a+c+(b+d):=by omega
theorem OA(a b c d:aq):a-b+(c-d)=a+c-(b+d):=by omega
section
theorem ue(h:l.length=H.length):(fA l H).length=l.length:=by unfold fA;rw [AE,<-h,AI]
theorem G3(h:l.length=H.length):(fS l H).length=l.length:=by unfold fS;rw [AE,<-h,AI]
theorem ud:∀{l H:U aq},l.length=H.length->ev a b (fA l H)=ev a b l+ev a b H
 | [], [],_=>C
 |x::l,O::H,h=>by
  have h:=by simpa using h
  have e:fA (x::l) (O::H)=(x+O)::fA l H:=C;rw [e,fG,fG,fG,(ud h),ue h,<-h,Er,MH];exact N8 _ _ _ _
theorem yx:∀{l H:U aq},l.length=H.length->ev a b (fS l H)=ev a b l-ev a b H
 | [], [],_=>C
 |x::l,O::H,h=>by
  have h:=by simpa using h
  have e:fS (x::l) (O::H)=(x-O)::fS l H:=C;rw [e,fG,fG,fG,(yx h),G3 h,<-h,Int.sub_mul,Int.mul_sub];exact OA _ _ _ _
theorem GY:∀{H:U aq},ev a b (H.map (x*·))=x*ev a b H:= @λf=>f.rec
 (by simp [j9,fG])
 (@λO H X=>by
  rw [iA,fG,fG,X,cH,MH,tD,Int.mul_left_comm a x])
theorem G0:∀u,ev a b (fg u 0)=0:=λf=>f.rec
 (C)
 (λu X=>by rw [M6,fG,X];simp)
theorem Rt:∀{H:U aq},ev a b (H++fg u 0)=ev a b H*b^u:= @λf=>f.rec
 (by rw [AG,G0];simp [j9,fG])
 (@λO H X=>by
  rw [List.cons_append,fG,fG,X,ic,o9,Int.pow_add,Er,tD,tD])
theorem uf:∀{l m:U aq},l≠ []->(fM l m).length+1=l.length+m.length
 | [x],m,_=>by simp [G1];exact fV (f_ (.a (.v 0) (.n 1)) (.a (.n 1) (.v 0)) C [_]) (f_ (.a (.n 1) (.v 0)) (.a (.v 0) (.n 1)) C [_])
 |x::O::r,m,_=>by
  have X:=uf (l:=O::r) (m:=m) (nofun);have X:(fM (O::r) m).length+1=r.length+1+m.length:=X;rw [G2];unfold fA;rw [AE,ic,cH,o9,gw,gw,gw,X,Nat.add_comm m.length,AI];exact(Nat.succ_add _ _).symm
theorem kN:∀{l H:U aq},l≠ []->ev a b (fM l H)=ev a b l*ev a b H
 | [x],H,_=>by
  rw [G1,GY];simp [j9,fG]
 |x::O::r,H,_=>by
  have B:=uf (l:=O::r) (m:=H) (nofun);have B:=B;rw [G2,ud (by rw [ic,cH,o9,gw];exact fV (bL 0 (.a (.v 2) (.a (.v 1) (.n 1))) (.a (.v 0) (.n 1)) (.a (.a (.v 1) (.n 1)) (.v 2)) (.a (.v 0) (.n 1)) C [_,_,_] ((dG B))) (bL 0 (.a (.v 0) (.n 1)) (.a (.v 2) (.a (.v 1) (.n 1))) (.a (.v 0) (.n 1)) (.a (.a (.v 1) (.n 1)) (.v 2)) C [_,_,_] ((c4 B)))),Rt,GY];have m:ev a b (0::fM (O::r) H)=a*ev a b (fM (O::r) H):=by rw [fG];simp
  have t:ev a b (x::O::r)=x*b^(r.length+1)+a*ev a b (O::r):=C;rw [m,(kN (by exact nofun)),t,Er,tD x,tD x,tD a,Int.mul_comm (ev a b H) (b^(r.length+1))]
noncomputable def fP(l:U aq):bu:=l.all λx=>decide (0<=x)
theorem GW(r:0<=a)(t:0<=b):∀{l:U aq},fP l=aa->0<=ev a b l
 | [],_=>by simp [j9,fG]
 |x::l,h=>by
  unfold fP at h;rw [MM,qg,decide_eq_true_eq]at h;rw [fG];exact ZD (Aw h.1 (ZP t)) (Aw r (GW r t h.2))
theorem GX(r:0<a)(t:0<b):∀{l:U aq},fP l=aa->l.any (λx=>decide (0<x))=aa->0<ev a b l
 | [],_,h=>dg C h
 |x::l,h,L=>by
  have H:=h;unfold fP at h;rw [MM,qg,decide_eq_true_eq]at h;rw [Az,Zo,decide_eq_true_eq]at L;rw [fG];have X:=Aw (tC r) (GW (tC r) (tC t) h.2);rcases L with L|L
  .have:=MI L (Int.pow_pos t (m:=l.length));exact Int.add_pos_of_pos_of_nonneg this X
  .have o:=Aw h.1 (ZP (m:=l.length) (tC t));have:=MI r (GX r t h.2 L);exact Int.add_pos_of_nonneg_of_pos o this
noncomputable def fN(l:U aq):Y:=(l.map Int.natAbs).sum
theorem GU(r:a.natAbs<=256)(t:b.natAbs<=256):∀{l:U aq},(ev a b l).natAbs<=fN l*256^l.length
 | []=>ek _
 |x::l=>by
  rw [fG];have e:fN (x::l)=x.natAbs+fN l:=by unfold fN;simp
  rw [e,gw];have R:(x*b^l.length).natAbs<=x.natAbs*256^l.length:=by
   rw [Et,Int.natAbs_pow];exact AL _ (Nf t _)
  have E:(a*ev a b l).natAbs<=256*(fN l*256^l.length):=by
   rw [Et];exact AK r (GU r t)
  have S:=MJ (x*b^l.length) (a*ev a b l);have A:(x.natAbs+fN l)*256^(l.length+1)=x.natAbs*256^l.length*256+256*(fN l*256^l.length):=by
   rw [Nat.add_mul,Ng,AJ,Nc 256,AJ]
  have h:x.natAbs*256^l.length<=x.natAbs*256^l.length*256:=Nat.le_mul_of_pos_right _ (c3 _);exact bh S (bh (nh (bh R h) E) (pe A.symm))
theorem Ra(r:a.natAbs<=256)(t:b.natAbs<=256){l:U aq}(h:fN l<2^1000)(B:l.length<=100):eA (ev a b l)=aa:=by
 unfold eA;rw [decide_eq_true_eq];refine kD (GU r t) ?_;have R:256^l.length<=256^100:=AO (by decide) B;have e:(256:Y)^100=2^800:=C;rw [e]at R;refine qk (Nat.mul_lt_mul_of_lt_of_le h R (Nat.two_pow_pos _)) ?_;rw [<-Nat.pow_add];exact AO (by decide) (aX _ _)
end
end
noncomputable abbrev Fr:=U aq
noncomputable def sH(r:U Fr)(m:Y)(d:Fr):U Fr:=r.set m (fA (r.getD m [0,0]) d)
noncomputable def wQ(P:U (U Y))(z:U Y)(r:U Fr)(x:U Y)(X t:Fr):U Fr:=
 if x∈P then sH r (P.idxOf x) t else if x=z then sH r (r.length-1) X else r
noncomputable def wO(P:U (U Y))(z s:U Y)(i n:Y)(h:U Y):U Fr:=
 wQ P z (wQ P z (sH (fg (P.length+1) [0,0]) (P.idxOf h) [1,1]) (g8 P z s 4 (h++ [i])) [0,1] [0,-1]) (g8 P z s 4 (h++ [n])) [1,0] [-1,0]
noncomputable def zL(c:Y)(i b:U Fr):U Fr:=o_ (λx O=>fS (fM x (i.getD c [])) (fM (b.getD c []) O)) b i
noncomputable def sG(o:U (U Fr))(c:Y):U (U Fr):=(o.take c).map (zL c (o.getD c []))
noncomputable def wM:Y->U (U Fr)->U (U Fr)
 |0,o=>o
 |H+1,o=>wM H (sG o (H+1))
noncomputable def wN(z s:U Y)(i n:Y):U Fr:=(wM ((eG z s).length-1) ((eG z s).map (wO (eG z s) z s i n))).getD 0 []
noncomputable def zK(z s:U Y)(i n:Y):Fr×Fr:=((wN z s i n).getD ((wN z s i n).length-1) [],(wN z s i n).getD 0 [])
section
variable{a b:aq}
noncomputable abbrev gz(a b:aq)(r:U Fr):U aq:=r.map (ev a b)
noncomputable def nX(d:Y)(r:U Fr):Prop:=∀x∈r,x.length=d
theorem Dc(e:nX 2 r)(q:d.length=2):gz a b (sH r j d)=pW (gz a b r) j (ev a b d)/\nX 2 (sH r j d):=by
 have P:(r.getD j [0,0]).length=2:=by
  rw [h_];cases i:r[j]? with
  |none=>rfl
  |some x=>exact e x (cA i)
 refine⟨?_,λx h=>?_⟩
 .unfold sH pW gz;rw [Z1,ud (P.trans q.symm)]
  congr 2
  rw [h_,h_,gD];cases r[j]? with
  |none=>simp [j9,fG]
  |some x=>rfl
 .unfold sH at h;rcases Z5 h with h|rfl
  .exact e x h
  .rw [ue (P.trans q.symm),P]
theorem LC{w w':Fr}{v:aq}(h:nX 2 r)(R:w.length=2)(E:w'.length=2)(t:ev a b w=v)(Q:ev a b w'=-v):
  gz a b (wQ hs f r x w w')=oV hs f (gz a b r) x v/\nX 2 (wQ hs f r x w w'):=by
 unfold wQ oV;have B:(gz a b r).length=r.length:=cH ..
 split
 .have:=Dc (a:=a) (b:=b) (j:=hs.idxOf x) h E;exact Q▸this
 .split
  .have:=Dc (a:=a) (b:=b) (j:=r.length-1) h R;rw [t]at this;exact B.symm▸this
  .exact⟨C,h⟩
theorem Ks:gz a b (wO hs f s c0 c1 h)=jz hs f s c0 c1 a b h/\nX 2 (wO hs f s c0 c1 h):=by
 have x:nX 2 (fg (hs.length+1) ([0,0]:Fr)):=λk j=>aQ _ ((List.mem_replicate.mp j).2);refine bR (Dc (a:=a) (b:=b) (j:=hs.idxOf h) (d:= [1,1]) x C) λt R=>?_;have w:gz a b (fg (hs.length+1) ([0,0]:Fr))=fg (hs.length+1) 0:=by
  show jY _ _=_;rw [Z0];simp [j9,fG]
 have p:ev a b [1,1]=a+b:=by simp [j9,fG,ng];omega
 rw [w,p]at t;refine bR (LC (a:=a) (b:=b) (hs:=hs) (f:=f) (x:=g8 hs f s 4 (h++ [c0])) (w:= [0,1]) (w':= [0,-1]) (v:=a) R C C (by simp [j9,fG,ng]) (by simp [j9,fG,ng])) λQ l=>bR (LC (a:=a) (b:=b) (hs:=hs) (f:=f) (x:=g8 hs f s 4 (h++ [c1])) (w:= [1,0]) (w':= [-1,0]) (v:=b) l C C (by simp [j9,fG,ng]) (by simp [j9,fG,ng])) λe i=>?_;rw [Q,t]at e;exact⟨e,i⟩
theorem DS{c:Y}{P f:Fr}{d:Y}(q:0<d)(R:P.length=d)(E:f.length=d):∀{h i:U Fr},nX d h->nX d i->
  gz a b (o_ (λx O=>fS (fM x P) (fM f O)) h i)=o_ (λx O=>x*ev a b P-ev a b f*O) (gz a b h) (gz a b i)/\nX (2*d-1) (o_ (λx O=>fS (fM x P) (fM f O)) h i)
 | [],_,_,_=>⟨C,nofun⟩
 |_::_, [],_,_=>⟨C,nofun⟩
 |x::h,O::i,v,p=>by
  refine bR (DS (c:=c) q R E (λw s=>v w (dY _ s)) (λw s=>p w (dY _ s))) λF B=>?_;have j:=v x (ee ..);have A:=p O (ee ..);have n:x≠ []:=λe=>by rw [e]at j;simp at j;exact jx (cF 0 (.n 1) (.n 0) (.a (.n 0) (.n 1)) (.v 0) (.v 0) (.n 0) C [_] q ((dG j)))
  have k:f≠ []:=λe=>by rw [e]at E;simp at E;exact jx (cF 0 (.n 1) (.n 0) (.a (.n 0) (.n 1)) (.v 0) (.v 0) (.n 0) C [_] q ((dG E)))
  have g:=uf (m:=P) n;have o:=uf (m:=O) k;have l:=E0 ((g.trans (by rw [j,A,R,E])).trans o.symm);refine⟨?_,λw s=>?_⟩
  .rw [aad];show ev a b _::gz a b _=_;rw [F,yx l,kN n,kN k]
   rfl
  .rw [aad]at s;rcases cC.mp s with rfl|s
   .rw [G3 l];exact fV (pO 0 (.v 3) (.v 4) (.v 1) (.v 0) (.v 2) (.v 0) (.a (.v 3) (.n 1)) (.a (.v 2) (.v 1)) (.m 2 (.v 0)) (.a (.v 4) (.n 1)) C [_,_,_,_,_] ((c4 R)) ((c4 j)) ((c4 g)) nE) (pO 0 (.v 4) (.v 3) (.v 0) (.v 1) (.v 0) (.v 2) (.a (.v 2) (.v 1)) (.a (.v 3) (.n 1)) (.a (.v 4) (.n 1)) (.m 2 (.v 0)) C [_,_,_,_,_] ((dG R)) ((dG j)) ((dG g)) ((lM (bL 0 (.n 1) (.m 2 (.v 0)) (.a (.n 0) (.n 1)) (.v 0) C [_] q))))
   .exact B w s
noncomputable def xZ(u d:Y)(o:U (U Fr)):Prop:=∀r∈o,r.length=u/\nX d r
theorem Qv(y:c<o.length)(v:c<n)(l:0<d)(h:xZ n d o):
  (sG o c).map (gz a b)=oB (o.map (gz a b)) c/\xZ n (2*d-1) (sG o c)/\(sG o c).length=c:=by
 have t:o.getD c []∈o:=by rw [h_,cP y];exact M0 y
 have e:∀r∈o,(r.getD c []).length=d/\(gz a b r).getD c 0=ev a b (r.getD c []):=λr H=>by
  have i:c<r.length:=cF 0 (.a (.v 0) (.n 1)) (.v 2) (.a (.v 0) (.n 1)) (.v 1) (.v 1) (.v 2) C [_,_,_] v ((dG ((h r H).1)));refine⟨?_,?_⟩
  .exact h_.symm▸(cP i).symm▸((h r H).2 _ (M0 i))
  .rw [h_,h_,gD,cP i]
   rfl
 have s:=e _ t;refine(cR ?_ (λr H=>?_) ?_)
 .unfold sG oB;rw [d_,<-AF,d_];refine iZ λr H=>?_;have H:=ri H;have x:=e r H;have f:(o.map (gz a b)).getD c []=gz a b (o.getD c []):=by
   rw [h_,h_,gD,cP y];rfl
  show gz a b (zL c (o.getD c []) r)=pG c ((o.map (gz a b)).getD c []) (gz a b r);rw [f];unfold zL pG;exact s.2.symm▸x.2.symm▸((DS (c:=c) l s.1 x.1 (h r H).2 (h _ t).2).1)
 .unfold sG at H;refine aG (eZ.mp H) λq k j=>?_;subst j;have k:=ri k;refine⟨?_,(DS (a:=a) (b:=b) (c:=c) l s.1 (e q k).1 (h q k).2 (h _ t).2).2⟩;unfold zL;rw [AE,(h q k).1,(h _ t).1,AI]
 .unfold sG;rw [cH,xA];exact xE (i3 y)
theorem FH:∀{m d:Y}{o:U (U Fr)},o.length=m+1->m<n->0<d->xZ n d o->(wM m o).map (gz a b)=qJ m (o.map (gz a b))/\(wM m o).length=1/\∀r∈wM m o,r.length=n
 |0,d,o,B,_,_,h=>(cR C B (λr H=>(h r H).1))
 |m+1,d,o,B,L,q,h=>by
  refine fF (Qv (a:=a) (b:=b) ((dG B)) L q h) λi x R=>?_;have e:=(FH R (M9 ‹_›) (by exact ki 0 (.a (.n 0) (.n 1)) (.v 1) (.a (.n 0) (.n 1)) (.v 0) (.a (.n 0) (.n 1)) (.v 0) (.m 2 (.v 0)) (.a (.v 1) (.n 1)) C [_,_] q q nE) x);rw [i]at e;exact e
theorem O9(n:z.length=3)(P:s.length=3):gP z s c0 c1 a b=(ev a b (zK z s c0 c1).1,ev a b (zK z s c0 c1).2):=by
 refine vW (Hz z s n P) λo v p q=>?_;have T:xZ ((eG z s).length+1) 2 ((eG z s).map (wO (eG z s) z s c0 c1)):=λr H=>by
  refine aG (eZ.mp H) λh w x=>?_;subst x;have e:=Ks (a:=0) (b:=0) (hs:=eG z s) (f:=z) (s:=s) (c0:=c0) (c1:=c1) (h:=h);refine⟨?_,e.2⟩;have:=aQ M3 e.1;rw [Kr]at this;simpa using this
 refine fF (FH (a:=a) (b:=b) (by rw [cH];exact fV (nE) ((lM (bL 0 (.n 1) (.v 0) (.a (.n 0) (.n 1)) (.v 0) C [_] q)))) (by exact e5 _ _) (by exact c3 _) T) λe l t=>?_;have k:((eG z s).map (wO (eG z s) z s c0 c1)).map (gz a b)=(eG z s).map (jz (eG z s) z s c0 c1 a b):=by
  rw [d_];exact iZ λh _=>Ks.1
 rw [k]at e;have j:qE z s c0 c1 a b=gz a b (wN z s c0 c1):=by
  unfold qE wN;rw [<-e,h_,h_,gD,cP (by exact bL 0 (.a (.n 0) (.n 1)) (.v 0) (.n 1) (.v 0) C [_] ((dG l)))]
  rfl
 have i:∀(r:U Fr)m,(gz a b r).getD m 0=ev a b (r.getD m []):=λr m=>by
  rw [h_,h_,gD];cases r[m]?<;>rfl
 unfold gP zK;rw [j,i,i,cH]
end
section
set_option exponentiation.threshold 9100
noncomputable def mX:Y->Fr
 |0=> [1]
 |n+1=>fM [1,1] (mX n)
noncomputable def pT(os:U bu):Fr:=fg (3-os.countP id) 0++mX os.length++fg (3-os.countP not) 0
noncomputable def zM(c0:Y)(one:U Y)(o0 o1 o2:Y):Fr:=
 fA (fA (if mL one [o0]then pT [decide (o0=c0)]else fg 7 0) (if mL one [o0,o1]then pT [decide (o0=c0),decide (o1=c0)]else fg 7 0)) (if mL one [o0,o1,o2]then pT [decide (o0=c0),decide (o1=c0),decide (o2=c0)]else fg 7 0)
noncomputable def oP(c0:Y)(one other:U Y):Fr:=zM c0 one (other.getD 0 0) (other.getD 1 0) (other.getD 2 0)
noncomputable def v5(l:Fr):bu:=fP l&&l.any λx=>decide (0<x)
noncomputable def ug(l:Fr):bu:=decide (fN l<2^1000)&&decide (l.length<=100)
noncomputable def F9(c0 c1:Y)(f s:U Y):bu:=
 let m:=fS (oP c0 s s) (oP c0 s f)
 let o:=fS (oP c0 f f) (oP c0 f s)
 let t:=zK f s c0 c1
 v5 m&&v5 o&&v5 t.2&&decide (fM t.1 (fA m o)=fM t.2 m)&&ug t.1&&ug t.2&&ug m&&ug (fA m o)&&!t.1.isEmpty&&!t.2.isEmpty&&decide (m.length=o.length)
noncomputable def u9(b0 b1:Y):U (U Y):= [[b0,b0,b0], [b0,b0,b1], [b0,b1,b0], [b0,b1,b1], [b1,b0,b0], [b1,b0,b1], [b1,b1,b0], [b1,b1,b1]]
noncomputable abbrev rE(b0 b1:Y):Prop:=∀f∈u9 b0 b1,∀s∈u9 b0 b1,f≠s->F9 b0 b1 f s=aa
theorem O_:rE 97 98:=by decide+kernel
theorem Pa:rE 42 63:=by decide+kernel
theorem Pb:rE 91 93:=by decide+kernel
theorem Pc:rE 45 33:=by decide+kernel
theorem Pd:rE 92 94:=by decide+kernel
theorem Pe:rE 38 46:=by decide+kernel
theorem Pf{b0 b1:Y}(h:(b0,b1)∈m5):rE b0 b1:=by
 have h:(b0,b1)=(97,98)\/(b0,b1)=(42,63)\/(b0,b1)=(91,93)\/(b0,b1)=(45,33)\/(b0,b1)=(92,94)\/(b0,b1)=(38,46):=by
  unfold m5 at h;rcases cC.mp h with h|h
  .exact .inl h
  rcases cC.mp h with h|h
  .exact .inr (.inl h)
  rcases cC.mp h with h|h
  .exact .inr (.inr (.inl h))
  rcases cC.mp h with h|h
  .exact .inr (.inr (.inr (.inl h)))
  rcases cC.mp h with h|h
  .exact .inr (.inr (.inr (.inr (.inl h))))
  .exact .inr (.inr (.inr (.inr (.inr (cI.mp h)))))
 rcases h with h|h|h|h|h|h<;>cases h
 .exact O_
 .exact Pa
 .exact Pb
 .exact Pc
 .exact Pd
 .exact Pe
end
section
set_option exponentiation.threshold 9100
section
variable{a b:Y}
noncomputable def pS(e:bu):Fr:=if e then [0,1]else [1,0]
theorem uE:ev a b (pS (decide (o=i)))=(gI i a b o):=by
 unfold pS gI
 by_cases h:o=i
 .rw [bB (by exact bB ‹_›),bB h];simp [j9,fG,ng]
 .rw [bF (by simp [h]),bF h];simp [j9,fG,ng]
theorem zh(e:bu):pS e≠ []:=by cases e<;>decide
theorem VI:∀n,mX n≠ []:=λf=>f.rec
 (nofun)
 (λn X=>λh=>by
  have:=uf (l:= [1,1]) (m:=mX n) (nofun);have h:fM [1,1] (mX n)= []:=h;have q:=ED.mpr (X);rw [h]at this;simp at this
  exact jx (bL 0 (.n 1) (.n 0) (.a (.n 2) (.v 0)) (.n 1) C [_] ((dG this))))
theorem VH:∀u,ev a b (mX u)=((a)+b)^u:=λf=>f.rec
 (C)
 (λu X=>by
  have e:mX (u+1)=fM [1,1] (mX u):=C;rw [e,kN (by exact nofun),X,ng,Int.mul_comm]
  congr 1
  simp [j9,fG,ng];omega)
noncomputable def uS:Fr:=fM (fM [0,1] [1,0]) (fM (fM [0,1] [1,0]) (fM [0,1] [1,0]))
theorem N9:ev a b uS=((a)*b)^3:=by
 have e:ev a b (fM [0,1] [1,0])=(a:aq)*b:=by rw [kN (by exact nofun)];simp [j9,fG,ng]
 unfold uS;rw [kN (by exact nofun),kN (l:=fM [0,1] [1,0]) (nofun),e,ng,ng,ng,Int.pow_zero,Int.one_mul];exact(tD _ _ _).symm
theorem Cp{w k:Y}{E h:Fr}(p:0<w)(v:E≠ [])(l:ev a b h=(w))(i:fM E h=fM (mX (k+1)) uS):((ldK a b w k))=ev a b E:=by
 have e:=aQ (ev (a) b) i;rw [kN v,kN (VI _),l,VH,N9]at e;unfold ldK;rw [Int.natCast_ediv];have Q:(((a+b)^(k+1)*(a*b)^3:Y):aq)=((a)+b)^(k+1)*((a)*b)^3:=by
  push_cast;rfl
 rw [Q,<-e];exact Int.mul_ediv_cancel _ (λA=>jx (cF 0 (.n 1) (.n 0) (.a (.n 0) (.n 1)) (.v 0) (.v 0) (.n 0) C [_] p ((c4 (Ax A)))))
theorem Xn(e:bu):fM (pT [e]) (pS e)=fM (mX 1) uS:=by cases e<;>decide+kernel
theorem Xo(e z:bu):fM (pT [e,z]) (fM (pS e) (pS z))=fM (mX 2) uS:=by cases e<;>cases z<;>decide+kernel
theorem Xp(e z P:bu):fM (pT [e,z,P]) (fM (fM (pS e) (pS z)) (pS P))=fM (mX 3) uS:=by cases e<;>cases z<;>cases P<;>decide+kernel
theorem Lp(e:bu):(pT [e]).length=7:=by cases e<;>decide+kernel
theorem Lq(e z:bu):(pT [e,z]).length=7:=by cases e<;>cases z<;>decide+kernel
theorem Lr(e z P:bu):(pT [e,z,P]).length=7:=by cases e<;>cases z<;>cases P<;>decide+kernel
theorem RM{l H:Fr}(h:l≠ [])(L:H≠ []):fM l H≠ []:=λe=>by
 have:=uf (m:=H) h;rw [e]at this;have q:=ED.mpr h;simp at this;exact jx (ki 0 (.n 1) (.n 0) (.a (.n 0) (.n 1)) (.v 0) (.a (.n 0) (.n 1)) (.v 1) (.a (.v 0) (.v 1)) (.n 1) C [_,_] q (ED.mpr L) ((dG this)))
theorem CF{l:Fr}(h:l.length=7):l≠ []:=λe=>by rw [e]at h;contradiction
theorem B8{c:bu}{E:Fr}{u:Y}(h:((u))=ev a b E):ev a b (if c then E else fg 7 0)=((if c then u else 0)):=by
 cases c with
 |true=>exact h.symm
 |false=>exact G0 7
theorem B_{c:bu}{E:Fr}(h:E.length=7):(if c then E else fg 7 0).length=7:=by
 cases c with
 |true=>exact h
 |false=>rfl
theorem Iw(r:0<a)(t:0<b):ev a b (zM i l x c j)=(zg i a b l x c j)/\(zM i l x c j).length=7:=by
 have T:=u0 (c0:=i) (o:=x) r t;have X:=u0 (c0:=i) (o:=c) r t;have e:=Cp (w:=1*gI i a b x*gI i a b c*gI i a b j) (AM (AM (bL 0 (.a (.n 0) (.n 1)) (.m 1 (.v 0)) (.a (.n 0) (.n 1)) (.v 0) C [_] T) X) (u0 r t)) (CF (Lr (decide (x=i)) (decide (c=i)) (decide (j=i))))
  (by rw [kN (RM (zh _) (zh _)),kN (zh _),uE,uE,uE,EY];exact C) (Xp (decide (x=i)) (decide (c=i)) (decide (j=i)))
 have g:=B_ (c:=mL l [x]) (Lp (decide (x=i)));have o:=B_ (c:=mL l [x,c]) (Lq (decide (x=i)) (decide (c=i)));have O:=B_ (c:=mL l [x,c,j]) (Lr (decide (x=i)) (decide (c=i)) (decide (j=i)));unfold zM zg;refine⟨?_,?_⟩
 .rw [ud (by rw [ue (by exact fV (cF 0 (.v 0) (.v 1) (.v 0) (.n 7) (.n 7) (.v 1) C [_,_] ((c4 g)) ((dG o))) (cF 0 (.v 1) (.v 0) (.n 7) (.v 0) (.v 1) (.n 7) C [_,_] ((dG g)) ((c4 o))))];exact fV (cF 0 (.v 0) (.v 1) (.v 0) (.n 7) (.n 7) (.v 1) C [_,_] ((c4 g)) ((dG O))) (cF 0 (.v 1) (.v 0) (.n 7) (.v 0) (.v 1) (.n 7) C [_,_] ((dG g)) ((c4 O)))),ud (by exact fV (cF 0 (.v 0) (.v 1) (.v 0) (.n 7) (.n 7) (.v 1) C [_,_] ((c4 g)) ((dG o))) (cF 0 (.v 1) (.v 0) (.n 7) (.v 0) (.v 1) (.n 7) C [_,_] ((dG g)) ((c4 o)))),B8 (Cp (w:=1*gI i a b x) (bL 0 (.a (.n 0) (.n 1)) (.m 1 (.v 0)) (.a (.n 0) (.n 1)) (.v 0) C [_] T) (CF (Lp (decide (x=i)))) (by rw [uE,EY]) (Xn (decide (x=i)))),B8 (Cp (w:=1*gI i a b x*gI i a b c) (AM (bL 0 (.a (.n 0) (.n 1)) (.m 1 (.v 0)) (.a (.n 0) (.n 1)) (.v 0) C [_] T) X) (CF (Lq (decide (x=i)) (decide (c=i)))) (by rw [kN (zh _),uE,uE,EY];exact C) (Xo (decide (x=i)) (decide (c=i)))),B8 e,tK];exact C
 .rw [ue (by rw [ue (by exact fV (cF 0 (.v 0) (.v 1) (.v 0) (.n 7) (.n 7) (.v 1) C [_,_] ((c4 g)) ((dG o))) (cF 0 (.v 1) (.v 0) (.n 7) (.v 0) (.v 1) (.n 7) C [_,_] ((dG g)) ((c4 o))))];exact fV (cF 0 (.v 0) (.v 1) (.v 0) (.n 7) (.n 7) (.v 1) C [_,_] ((c4 g)) ((dG O))) (cF 0 (.v 1) (.v 0) (.n 7) (.v 0) (.v 1) (.n 7) C [_,_] ((dG g)) ((c4 O)))),ue (by exact fV (cF 0 (.v 0) (.v 1) (.v 0) (.n 7) (.n 7) (.v 1) C [_,_] ((c4 g)) ((dG o))) (cF 0 (.v 1) (.v 0) (.n 7) (.v 0) (.v 1) (.n 7) C [_,_] ((dG g)) ((c4 o)))),g]
theorem DE(B:X.length=3):(∀w∈X,w=n\/w=f)->X∈u9 n f:=
 qU (P:=λX=>(∀w∈X,w=n\/w=f)->X∈u9 n f) (λx O w h=>by
  rcases h x (cN 0 C)with rfl|rfl<;>rcases h O (cN 1 C)with rfl|rfl<;>rcases h w (cN 2 C)with rfl|rfl
  .exact cN 0 C
  .exact cN 1 C
  .exact cN 2 C
  .exact cN 3 C
  .exact cN 4 C
  .exact cN 5 C
  .exact cN 6 C
  .exact cN 7 C) X B
theorem CX(P:(n,f)∈m5)(r:0<a)(aH:a<256)(t:0<b)(aJ:b<256)(ah:ws.getD i []∈u9 n f)(R:ws.getD m []∈u9 n f)(ai:ws.getD i []≠ws.getD m [])(aj:(ws.getD i []).length=3)(ao:(ws.getD m []).length=3):
  rL n f a b ws i m/\0<(gP (ws.getD i []) (ws.getD m []) n f a b).2:=by
 have Q:=Pf P _ ah _ R ai;have B:∀s O:Y,ev a b (oP n (ws.getD s []) (ws.getD O []))=eB n a b ws s O:=λs O=>(Iw r t).1;have H:∀z k,(oP n z k).length=7:=λz k=>(Iw r t).2;have y:=O9 (a:=a) (b:=b) (c0:=n) (c1:=f) aj ao;unfold F9 at Q;simp only [qg,El,decide_eq_true_eq]at Q;refine cps λaE az=>?_;obtain⟨⟨⟨⟨⟨⟨⟨⟨⟨⟨aC,aB⟩,aD⟩,v⟩,A⟩,w⟩,L⟩,u⟩,p⟩,F⟩,T⟩:=Q;refine az ?_;have j:ev a b (fS (oP n (ws.getD m []) (ws.getD m [])) (oP n (ws.getD m []) (ws.getD i [])))=eB n a b ws m m-eB n a b ws m i:=by rw [yx (by rw [H,H]),B,B]
 have E:ev a b (fS (oP n (ws.getD i []) (ws.getD i [])) (oP n (ws.getD i []) (ws.getD m [])))=eB n a b ws i i-eB n a b ws i m:=by rw [yx (by rw [H,H]),B,B]
 have d:=ud (a:=a) (b:=b) T;rw [j,E]at d;have x:∀{l:Fr},v5 l=aa->0<ev a b l:=λ{l}h=>by
  unfold v5 at h;obtain⟨au,G⟩:=ew.mp h;exact GX (kB.mpr (r)) (kB.mpr (t)) au G
 have S:∀{l:Fr},ug l=aa->eA (ev a b l)=aa:=λ{l}h=>by
  unfold ug at h;simp only [qg,decide_eq_true_eq]at h;exact Ra (i3 ‹_›) (i3 ‹_›) h.1 h.2
 have g:∀{l:Fr},l.isEmpty=aA->l≠ []:=λh e=>by rw [e]at h;exact dg C h.symm
 have e:=aQ (ev (a) b) v;rw [kN (g p),kN (g F),d,j]at e;have o:=S L;have c:=S u;rw [j]at o;rw [d]at c;have X:=x aC;have q:=x aB;rw [j]at X;rw [E]at q;rw [y];exact⟨⟨X,q,by rw [y];exact e,by rw [y];exact(S A),by rw [y];exact(S w),o,c⟩,(x aD)⟩
theorem TH{P:Y->Y->Prop}(R:P 1 0)(E:P 2 0)(S:P 2 1)(i m:Y)(G:m<i)(z:i<3):P i m:=
 oG (P:=λi=>m<i->P i m) (λh=>cg h (Nat.not_lt_zero m)) (λh=>(Nat.lt_one_iff.mp h).symm▸R) (λh=>(aak.mp h).elim (λh=>(Nat.lt_one_iff.mp h).symm▸E) λh=>h.symm▸S) i z G
theorem Vl(P:(n,f)∈m5)(r:0<a)(L:a<256)(t:0<b)(h:b<256)(j:rQ n f O y S):Plain n f a b [O,y,S]:=by
 have X:=λi m G z=>by
  have R:=DE j.l0 j.m0;have Q:=DE j.l1 j.m1;have e:=DE j.l2 j.m2;exact TH (P:=λi m=>rL n f a b [O,y,S] i m/\0<(gP ([O,y,S].getD i []) ([O,y,S].getD m []) n f a b).2) (CX P r L t h Q R j.d1 j.l1 j.l0) (CX P r L t h e R j.d2 j.l2 j.l0) (CX P r L t h e Q j.d3 j.l2 j.l1) i m G z
 exact Vk j (λi m G z=>(X i m G z).1) λi m G z=>(X i m G z).2
end
end
section
theorem Xs(e:(hK X.params).In h)(T:TopRead p g l r h)(t:h.BuiltinsAt l 64):nv ((lB X h).re (lV X h)) l 68 64:=
 Lo e T t (.tail _ (.head _)) (yj e C C C C C C C C (by exact nofun))
theorem Xr(e:(hK X.params).In h)(T:TopRead p g l r h)(t:h.BuiltinsAt l 64):nv ((lB X h).re (lV X h)) l 216 212:=
 Lo e T t (.head _) (yj e C C C C C C C C (by exact nofun))
theorem R1(h:(hK X.params).In e)(T:TopRead p g l r e)(t:e.BuiltinsAt l 64):Fx ((lY h T).r2 (lV X e)) (oE X) 110 [.type "ValueError", .type "Exception", .type "BaseException", .type "object"] "ValueError" "ValueError.__new__" "ValueError.__init__"where
 Z:=⟨C,λk=>fZ h k,Ti X⟩
 OC:=own_of_in (fZ h (bN.refl _)) (Aa T) (C) (by kernel_rfl)
 FB:=PySem.F.excBase_ValueError
 d4:=ny (fZ h) T.g h 50 49 (JR X.params) (JQ X.params) (C) C C C C C
 d7:=ny (fZ h) T.g h 62 61 (JT X.params) (JS X.params) (C) C C C C C
 d9:=(eV 68 64 (Gw h T 69 68 (JV X.params) (JU X.params) (by exact C) C C C C C) (Xs h T t))
 Gk:=ny (fZ h) T.g h 76 75 (JX X.params) (JW X.params) (by kernel_rfl) C C C C C
 Bq:=ny (fZ h) T.g h 203 202 (Jw X.params) (Jv X.params) (by kernel_rfl) C C C C C
 Gl:=ny (fZ h) T.g h 210 209 (Jy X.params) (Jx X.params) (by kernel_rfl) C C C C C
 Gm:=ny (fZ h) T.g h 232 231 (JG X.params) (JF X.params) (by kernel_rfl) C C C C C
 Gn:=ny (fZ h) T.g h 239 238 (JI X.params) (JH X.params) (by kernel_rfl) C C C C C
 Go:=ny (fZ h) T.g h 246 245 (JK X.params) (JJ X.params) (by kernel_rfl) C C C C C
 Gp:=ny (fZ h) T.g h 251 250 (JM X.params) (JL X.params) (by kernel_rfl) C C C C C
 sp:=WR h T
 pt:=VC h T
 mA:=sj h T 142 141 (Jj X.params) (Ji X.params) (by exact cA (i:=2) C) (rS X ("add",142) (by exact cA (i:=2) C)) C C C C C (kW (by decide+kernel))
 mG:=sj h T 135 134 (Jh X.params) (Jg X.params) (by exact cA (i:=1) C) (rS X ("_get_nodeinfo",135) (by exact cA (i:=1) C)) C C C C C (kW (by decide+kernel))
 mR:=sj h T 154 153 (Jo X.params) (Jm X.params) (by exact cA (i:=4) C) (rS X ("get_ready",154) (by exact cA (i:=4) C)) C C C C C (kW (by decide+kernel))
 mI:=sj h T 161 160 (Jq X.params) (Jp X.params) (by exact cA (i:=5) C) (rS X ("is_active",161) (by exact cA (i:=5) C)) C C C C C (kW (by decide+kernel))
 mD:=sj h T 175 174 (Js X.params) (Jr X.params) (by exact cA (i:=6) C) (rS X ("done",175) (by exact cA (i:=6) C)) C C C C C (kW (by decide+kernel))
 mP:=sj h T 147 146 (Jl X.params) (Jk X.params) (by exact cA (i:=3) C) (rS X ("prepare",147) (by exact cA (i:=3) C)) C C C C C (kW (by decide+kernel))
 mF:=sj h T 182 181 (Ju X.params) (Jt X.params) (by exact cA (i:=7) C) (rS X ("_find_cycle",182) (by exact cA (i:=7) C)) C C C C C (kW (by decide+kernel))
 nI:=⟨JZ X.params,_,⟨λk=>fZ h k _ _ C,C,λk=>(r7 90 (JY X.params) _ _ C (fZ h k _ _ C) C C),C,C,kW (by decide+kernel),C,C⟩,C,C,C,C⟩
 nN:=mg_of h T.g (by exact C)
 nO:=⟨530,mg_of h T.g (by exact C)⟩
 nD:=⟨533,mg_of h T.g (by exact C)⟩
 gH:=SO h T
 top:=mg_of h T.g (by kernel_rfl)
theorem Gs:∀{y:U ay}{l:U aq},WellAll X h y (ofPys (l.map PyData.int))->aY B f y (l.map .int)
 | [], [],_=> .nil
 |_::_, [],p=>nomatch p
 | [],_::_,p=>nomatch p
 |v::y,i::l,p=>by
  cases p with
  |cons R E=>
   cases R;exact .cons (.int _ _) (Gs E)
theorem OT(h:(hK X.params).In i)(T:TopRead k aj n ao i)(t:i.BuiltinsAt n 64)(A:∀e∈([212,64]),i.get? e=J t0)(P:s.heap=i){a:ak}{G:U aq}(p:Well X.params i (.ref a) (ofPy (.list (G.map .int))))(B:G.length<=63)
  {Rs:Result->aR->Prop}(o:∀m,bU s m->(∀b,b∉([212,64])->∀x,s.heap.get? b=J x->m.heap.get? b=J x)->(∀e∈([212,64]),∃u,TabAt m.heap e u)->Rs (.ok (.ret (.bool aa))) m):
  codeAny (model CW X) callerA (.call (.ref 256) ⟨[.ref a], []⟩) Rs s:=by
 subst P;have p:∃y,s.heap.get? a=J (lo y 0)/\WellAll X.params s.heap y (ofPys (G.map .int)):=by
  generalize j:ofPy (PyData.list (G.map .int))=x at p;cases p with
  |list R E=>unfold ofPy at j;obtain rfl:=PySem.W.WData.list.inj j;exact(aM _ R E)
  |_=>unfold ofPy at j;exact nc PySem.W.WData.ctorIdx j C
 refine aG p λy v f=>?_;have r:a∉([212,64]:U ak):=λq=>by
  have:=A a q;rw [v]at this;exact nomatch this
 refine Tn (R1 h T t) (Gw h T 217 216 (JA X.params) (Jz X.params) (C) C C C C C) (Xr h T t) ((Qz (.head _)))
  (ny (fZ h) T.g h 227 226 (JE X.params) (JD X.params) (C) C C C C C) (ny (fZ h) T.g h 222 221 (JC X.params) (JB X.params) (C) C C C C C)
  (λO Q k q F ah ai L H d c g w=>Vl L H d c g w)
  (fZ h (bN.refl _) _ _ C) C (r7 255 (JN X.params) _ _ C (fZ h (bN.refl _) _ _ C) C C)
  (ρ:=⟨0,0⟩) (fz:=(rest s.heap [212,64]).get?) (sc:=G) ⟨aX _ _,aX _ _,C⟩ C ?_ ?_ (bh B (bx C)) o
 .exact{bC:=λb z S=>sJ _ b z S,base:=sJ _,inv:=A,iH:=λe l=>ry _ l,lS:=λe l=>ry _ l}
 .exact .list (mZ v r) (Gs f)
end
end i4
set_option tactic.hygienic false
set_option maxRecDepth 100000
set_option maxHeartbeats 0
open PySem PySem.Calls PySem.SeqAt PyProof.Rows PySem.W
namespace i4
section
variable{w:b4}
theorem U3(T:(hK w.params).In h)(A:∀X∈([212,64]),h.get? X=J t0){P:b8}(g:∀b,b∉([212,64])->∀x,h.get? b=J x->P.get? b=J x)(H:∀X∈([212,64]),∃u,TabAt P X u):OldK h P:=by
 have y:∀X∈([212,64]:U ak),isCodeTable h X:=λX l=>by
  have n:TabAt h X #[]:=⟨A X l,trivial⟩;simp only [cC,gM,or_false]at l;rcases l with rfl|rfl
  .exact((yj T (c:=216) C C C C C C C C (nofun) (sJ _)).tab n).isCodeTable
  .exact((yj T (c:=68) C C C C C C C C (nofun) (sJ _)).tab n).isCodeTable
 refine⟨λb o e=>?_,λb o e=>?_⟩
 .by_cases q:b∈([212,64])
  .refine aG (H b q) λu B a=>?_;have:=A b q;rw [e]at this;obtain rfl:=bf this;exact .inr (.inl ⟨y b q,C,#[],u,C,by rw [B];simp [t0]⟩)
  .exact .inl (g b q o e)
 .by_cases q:b∈([212,64])
  .exact aG (H b q) λu B a=>⟨_,B⟩
  .exact⟨o,g b q o e⟩
end
end i4
theorem i4.Wq:OpenLaw.wellSaid PySem.Challenge.rw_rx0064_03=aa:=by kernel_rfl
open i4
set_option tactic.hygienic true in
theorem PySem.Challenge.cw_rx0064_03_holds : PySem.Challenge.rw_rx0064_03.Holds := by
 w_on
 refine holds_law i4.Wq λ_=>holds_open (q:=q3) (loose:=zk) (XP:=XL q3 []) (Yf:=ME lH) (Ya:=MF lH) (YP:=Hook.says lH) (N:=5824) ?hl (Hook.of lH) (Hook.keeps lH) (λs e=>xl_of s (ew.mp e).1) XL.keeps (by rfl) (by rfl) (by rfl) (λs e=>recFacts_of (ew.mp e).2) (by rfl) (by first|assumption|decide+kernel) (by decide+kernel) ⟨C,C,C,C,C,by decide+kernel⟩ ?hw ?aj
 case hl=>exact Tp
 case hw=>w_witness2
 intro R Q b l aJ G H O f aH aL aO ai aD aE q x p m v ao au aB E B F u P;clear q p x;refine Ground.open G ?_;intro T aU r y w
 wrow_args E B F u P
 rename_i X _ _ _ _ _ _ _ _ a _ _ _ _ g _ _ _ ah _;obtain⟨h,A⟩:=H;have n:=mg_of h T.g (n:= "law") (v:= .ref 256) (by kernel_rfl);have m:l "law"=J (.ref O):=m;rw [n]at m;cases m;have t:b.heap.BuiltinsAt l 64:=by
  obtain⟨az,S,a,aC,c,d,e,z⟩:=T.bmain;have L:=mg_of h T.g (n:= "__builtins__") (v:= .ref 4) (by exact C);rw [L]at a;cases a;exact⟨4,S,L,by assumption,by exact nofun,by exact nofun,c,d,e,z⟩
 refine enter_call (OT h (topRead_of T) t A C g (by omega) λaK k j o=>?_);obtain⟨aV,aW,rfl⟩:=k;refine⟨.inl ⟨.bool aa, .bool aa, [],C,λaZ=>by rfl, .bool _,?_,λ_=>⟨xC,λa i=>nomatch i⟩⟩,U3 h A j o,C,?_⟩
 .first|rfl|exact postW_of (by wrow_shape) (by wtm_val) (by assumption)
 .exact .of_eq v
