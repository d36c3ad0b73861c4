import PyProof.Rows.All
import Wide.All
import OpenK.KCell
import Open.Line
import Open.FastT9
import Open.TreeImp
import Wide.FinOn
import PyProof.ListCopy
import PyProof.Conv_bool
import PyProof.ListTruth
import PyProof.DictWalks
import PyProof.SetNew
import PyProof.SetRoads
import PyProof.MeetsDictList
import PyProof.LetGo
import PyProof.StationsW
import PyProof.RulesTry
import PyProof.RulesDelMore
import PyProof.MeetsSeq
import PyProof.ExcBaseAll.ValueError
import PyProof.FactsAll.str_8
import PyProof.CodeObjX
import PyProof.DefMake
import PyProof.SeqWrite
import KE.BytesMake
import KE.KxDecode
import KE.KStar
import KE.KBoundM
import KE.KLam
import PyProof.GenQ
import PyProof.JoinWalk
import OpenK.KOwn
import Lean
import PySem.Challenge.RW_rx0064_01
set_option Elab.async false
set_option linter.all false
set_option genInjectivity false
set_option genSizeOf false
set_option tactic.hygienic false
set_option backward.match.sparseCases false
open And renaming intro->Gg
open Array renaming replicate->Gh,getElem?_eq_some_iff->N3,toList->N4,mem_of_getElem?->acG
open Bool renaming true->ae,false->ak,and_eq_true_iff->cU,and_self->nS,eq_iff_iff->oU,and_true->uz,true_and->wd,and_eq_true->yE,false_or->yF,not_eq_true'->yG,false_ne_true->BF,or_false->Gi,or_eq_true->N6,eq_false_iff->acH,or_eq_false_iff->acI,or_eq_true_iff->acJ
open Classical renaming not_not->N9
open Decidable renaming em->uA
open Eq renaming trans->aZ,symm->Gj
open Exists renaming imp->Gk
open ForInStep renaming yield->qW
open Function renaming comp->yJ
open Int renaming natCast_nonneg->jl,ofNat_lt->jF,not_le->mY,ofNat_le->mZ,not_lt->oW,lt_trans->qX,le_trans->uB,toNat->we,le_of_lt->BI,fmod_eq_emod_of_nonneg->Gn,lt_of_le_of_lt->Go,max_eq_right->Gp,natCast_add->Gq,toNat_natCast->Gs,toNat_of_nonneg->Gu,add_comm->Oh,add_lt_add->Oi,negSucc->Oj,ofNat_inj->Ol,add_lt_add_of_lt_of_le->acW,eq_ofNat_of_zero_le->acX,fmod_nonneg_of_pos->acY,le_max_right->acZ,lt_of_lt_of_le->ac0,natCast_emod->ac1,neg_lt_of_neg_lt->ac2
open Int.ofNat renaming inj->BJ
open List renaming length_map->b5,getElem?_eq_some_iff->ck,mem_singleton->cD,mem_of_getElem?->cL,getElem?_eq_getElem->cP,mem_cons->cQ,replicate->dF,length_append->dM,map_append->dO,not_mem_nil->dP,map_map->d5,range->ej,mem_map->eG,map->eO,all_eq_true->e7,mem_append->e8,mem_range->fx,getD_eq_getElem?_getD->fE,mem_cons_of_mem->fF,mem_map_of_mem->fG,mem_append_left->fV,nodup_append->f9,mem_cons_self->gj,toArray->gJ,getElem?_map->hU,getElem?_set_self->iF,length_replicate->iG,getElem?_set_ne->iV,map_cons->iW,mem_append_right->iX,map_congr_left->jG,getElem?_append_right->jV,getElem?_append_left->j9,append_assoc->kG,length_set->kH,nodup_cons->lu,foldl_cons->m3,length_cons->m4,append_nil->nV,size_toArray->nW,length_range->oX,getElem?_of_mem->qa,any_eq_true->qY,mem_flatMap->qZ,lookup_cons->sO,drop_eq_getElem_cons->uC,filter_cons_of_neg->uD,filter_cons_of_pos->uE,nodup_nil->uF,eq_nil_of_length_eq_zero->wg,getElem?_replicate->wh,map_flatMap->wj,map_take->wm,mem_filter->wo,filter_map->yK,getElem_of_mem->yL,nil_append->yM,set_set->yN,flatMap_cons->BK,flatten_cons->BL,length->BN,length_erase_of_mem->BO,length_filter_le->BP,map_drop->BQ,map_id->BR,mem_reverse->BS,any_cons->Gv,drop_take->Gw,eq_of_mem_replicate->Gx,filter_eq_nil_iff->Gy,find?_eq_none->Gz,isEmpty_iff->GA,isEmpty_map->GB,length_drop->GC,length_take->GD,lookup_append->GF,map_nil->GG,map_set->GH,mem_of_mem_take->GI,perm_cons_erase->GJ,all_cons->Oo,drop_of_length_le->Oq,filterMap_cons_some->Ot,find?_append->Ou,find?_cons->Ov,find?_cons_of_neg->Ow,find?_cons_of_pos->Ox,flatMap_map->Oz,foldl->OA,getElem?_toArray->OD,getElem?_zip_eq_some->OE,length_nil->OF,map_replicate->OG,mem_singleton_self->OH,set_comm->OI,any_toArray->ac3,boole_getElem_le_countP->ac4,countP_congr->ac5,countP_set->ac6,drop_eq_nil_of_le->ac7,drop_length->ac8,eq_replicate_iff->ac9,ext_getElem?->ac_,filterMap_cons_none->ada,find?_range_eq_some->adb,flatten_append->ade,forIn_cons->adf,getElem?_eq_none->adg,getElem?_mapIdx->adh,idxOf_cons->adi,length_eq_one_iff->adj,length_eq_zero_iff->adk,length_flatten->adl,length_pos_iff->adm,length_reverse->adn,length_take_le'->ado,map_toArray->adp,mem_erase_of_ne->adq,mem_of_mem_drop->ads,mem_toArray->adt,perm_append_comm->adu,replicate_succ->adv,reverse_cons->adw,take_append_drop->adx,take_eq_take_min->ady,take_sublist->adz
open Nat renaming le_trans->aJ,le_add_left->cE,succ_pos->cS,le_of_ble_eq_true->dQ,le_refl->ek,mod_lt->er,lt_succ_self->eH,lt_of_lt_of_le->eU,le_add_right->fH,not_lt->fJ,ne_of_lt->fW,le_of_eq->f_,add_le_add->gk,le_of_lt->gm,lt_of_le_of_lt->iH,zero_le->iY,mod_eq_of_lt->jm,succ_le_succ->jH,lt_trans->kI,add_le_add_left->ly,le_antisymm->lz,add_assoc->l5,add_comm->l6,zero_add->l7,lt_irrefl->m5,add_sub_cancel_left->nX,le_of_not_lt->oY,lt_succ_of_lt->oZ,beq->qb,ne_of_gt->q1,sub_add_cancel->sP,le_of_succ_le_succ->uG,le_succ->uH,mul_le_mul_left->uI,add_le_add_right->wq,add_zero->wu,le_succ_of_le->yO,one_pos->yP,sub_le->yQ,succ_ne_zero->yR,le_of_lt_succ->BV,min_eq_left->BW,not_le->BX,add_mod_right->GK,succ_le_of_lt->GL,succ_lt_succ->GN,add_lt_add->OJ,beq_refl->OK,ctorIdx->OL,le_of_sub_eq_zero->OM,le_total->ON,lt_add_of_pos_right->OO,lt_succ_of_le->OP,min_eq_right->OQ,min_le_left->OR,mod_add_mod->OS,mul_add->OT,not_lt_of_le->OU,not_lt_zero->OV,sub_lt_left_of_lt_add->OW,add_add_add_comm->adB,add_left_cancel->adC,add_right_comm->adD,add_sub_add_left->adE,add_sub_assoc->adF,eq_or_lt_of_le->adG,le_of_succ_le->adH,lt_of_succ_lt_succ->adI,lt_succ_iff_lt_or_eq->adJ,min_le_right->adK,mod_eq_sub_mod->adL,mul_le_mul_right->adM,ne_of_beq_eq_false->adN,sub_add_comm->adO,sub_mod_eq_zero_of_mod_eq->adP,sub_sub_self->adQ
open Nat.succ renaming inj->BY
open Ne renaming symm->iZ
open Option renaming some->U,none->af,isSome_iff_exists->fc,isSome->l8,map->l9,map_eq_some_iff->uJ,bind_some->yS,map_some->BZ,any_eq_true->GO,bind_eq_some_iff->adS,eq_some_of_isSome->adT,getD_some->adU,none_or->adV
open Option.some renaming inj->bg
open PUnit renaming unit->O0
open Prod renaming snd->yT,ext->B0
open Prod.mk renaming inj->l_
open PyProof.Rows renaming tail_any->uK,Subscript_->wz,evalArgs_nil3->yY,Attribute_any_->N5,Assign_Tuple->O1,BoolOp_or->O2,join_list->O3,BoolOp_and->adW,add_str->adX,isTrue_plain->adY,mod_int'->adZ
open PySem renaming Str->ai,Addr->ay,Value->aD,wpAny_bind->aE,Shared->aT,wpAny_pure->bD,Obj->bN,World->bR,Expr->bW,Program->bZ,Stmt->b9,Heap->cu,Env->cG,Around->cI,Params->cT,wpAny_Name->ez,wpAny_holding->e9,NameKind->fe,Tok->fK,Pos->fR,wpAny_execs_cons->g4,wpAny_of_eq->g5,Scope->g6,wpAny_mono->i0,wpAny_call->i7,wpAny_standAt->kK,wpAny_Assign_Name->lC,wpAny_Call_Name_kw->lD,wpAny_Call_method->lE,wpAny_assign_Name->m8,codeAny_call_builtin->o5,sizeLine_eq->o6,wpAny_ite_false->o7,wpAny_execs_nil->q4,wpAny_mkStr->q5,wpAny_newObj_type->q6,FuncData->q7,strKind_is->sS,typeIs_str->sT,wpAny_Expr_any->sU,strKind->uM,wpAny_truthy_bool->uQ,call_meets->wA,plainObj_wpAny_Assign_Attribute->wB,pushCells_keeps->wC,wpAny_isTrue_Compare1->wD,wpAny_rule->wF,wpAny_seqItems->wG,wpAny_specialOf->wH,codeAny_builtin->yW,entryFor_of_tree->yX,wpAny_If->yZ,wpAny_mkText->y9,Arguments->y_,callWith_type->B5,wpAny_BinOp->B_,wpAny_field->Ca,wpAny_assign_Tuple->GZ,wpAny_list_append_plain->G0,wpAny_load->G1,wpAny_loadName_local->G2,wpAny_loadPart->G3,wpAny_newList->G4,wpAny_pyIter_list->G5,wpAny_storeName_local->G6,call_gives->Pa,codeAny_call_cells->Pb,codeAny_of_tree->Pd,name_of_addr->Pe,wpAny_Constant_int->Pf,wpAny_List->Pg,wpAny_Return_some->Ph,wpAny_Try_except->Pj,wpAny_Tuple->Pk,wpAny_askSetting->Pn,wpAny_builtinsFor->Po,wpAny_getItem_of->Pp,wpAny_isInstance->Pq,wpAny_newTuple->Pr,wpAny_nsGet->Ps,wpAny_typeOf->Pu,wpAny_updatePart->Pw,codeAny_call_function->aee,codeAny_compStart_list->aef,exec_Assign_Name_used->aeg,wpAny_Assign_Subscript->aeh,wpAny_AugAssign_AttributeAny->aei,wpAny_AugAssign_Name->aej,wpAny_callSpecial?_slot->aek,wpAny_comprehension_free->ael,wpAny_letOwnedTupleGo_listiter->aem,wpAny_listSubscript_int->aen,wpAny_newFunctionEnv->aeo,wpAny_storeName_cell->aep
open PySem.Around renaming frames_deeper->N2
open PySem.Builtin renaming divisionGoesByPylong->acO
open PySem.Builtin.Int renaming intBits->acK
open PySem.Builtin.List renaming listTooLong->BG,listFitsIndex->acL
open PySem.Builtin.Range renaming rangeSize->p_,rangeFitsLong->N7,small->acM
open PySem.Builtin.Str renaming occurrences->N8,tableLookup->acN
open PySem.Calls renaming callWith_builtin->j_,spliced_nil->kJ,spliced_cons->nY,Constant_str->qV,evalArgs_plain->uO,callWith_function->B8,Name_function_global->adA
open PySem.Code renaming quiet_builtin->yH
open PySem.Const renaming int->ad0
open PySem.Data renaming ctorIdx->ad1
open PySem.Data.cell renaming inj->acP
open PySem.DictEntry renaming val->acQ
open PySem.Env renaming blockKind->BH
open PySem.Expr renaming Name->yI,Attribute->N_
open PySem.F renaming plainAttrs_str->B3,slot_str_translate->B4,slot_list_getattribute->Gl,type_list_append->Gm,plainAttrs_list->GP,slot_str_replace->GQ,type_str_replace->GR,plainAttrs_list->Oa,slot_list_append->Oc,slot_list_getitem->Od,slot_list_pop->O4,args_str_replace_3->acR,entry_str_replace->acS,slot_str_getitem->acT,slot_str_replace->acU,args_object_getattribute_2->ad2,args_str_translate_2->ad3,entry_object_getattribute->ad4,entry_str_translate->ad5,slot_dict_delitem->ad6,slot_list_index->ad7,slot_str_join->ad8,store_object->ad9,type_list_pop->ad_,type_str_join->ad'
open PySem.Heap renaming get?_push_of_some->eg,get?_push_size->eN,lt_size->fQ,SameBut->gI,size_push->l0,ExtBut->mX,get?_update_self->oV
open PySem.Heap.SameBut renaming update->nU
open PySem.NameKind renaming ctorIdx->lA,free->BU
open PySem.Obj renaming mapSeq->m6,data->OX,data_mapFields->OY,putName->OZ,isFreed_of_fields->adR
open PySem.PyData renaming keyHash->q2
open PySem.ScopeKind renaming isAnnotationScope->GU
open PySem.SeqAt.RcAt renaming lists_lengths->aec
open PySem.Sre renaming forSearch->yV,M->B6,Outcome->O6
open PySem.Str renaming ofString->aea
open PySem.StrLaws renaming At->aeb,found_one->aed
open PySem.Txt renaming join->GV,replace->GW
open PySem.Value renaming type->m7,type->sQ,ref->uN,ctorIdx->yU,str->B7,ref->O5,int->O7,isInt->O8
open PySem.Value.ref renaming inj->jn,inj->O9
open PySem.W renaming hideAll_none->sR,plainGet_of->uP,looks_field->GX,typeIs_bytes->GY
open PySem.W.FB renaming slot_bytes_decode->Oe,entry_bytes_decode->acV
open PySem.W.Hook renaming obs->Of,val->Og
open PySem.W.KF renaming slot_mset->Om
open PySem.Walks renaming list->O_
open _root_ renaming rfl->J,List->Y,Nat->aa,Int->aF,congrArg->aL,Option->aY,Bool->bl,if_pos->bx,if_neg->bA,absurd->bE,Array->jo
set_option maxRecDepth 100000
set_option maxHeartbeats 0
section
open PySem PySem.Calls PySem.SeqAt PyProof.Rows PySem.W
set_option maxRecDepth 100000
namespace jJ
noncomputable abbrev pw:bZ:=PySem.Challenge.pw_rx0064_01
noncomputable def dZ{T:Type}:aa->Y T->aY T
 |_,[]=>af
 |0,x::_=>U x
 |g+1,_::r=>dZ g r
noncomputable abbrev eD:bW:=.Constant .none 0 default
noncomputable def mQ:aY b9->bW×bW×Y b9×Y b9×g6×y_
 |U (.FunctionDef _ a b _ _ _ Q _ _ _)=>(eD,eD,b,[],Q,a)
 |U (.While w b o _)=>(w,w,b,o,default,default)
 |U (.For w i b o _)=>(w,i,b,o,default,default)
 |U (.If w b o _)=>(w,w,b,o,default,default)
 |U (.AugAssign _ _ e _)=>(e,e,[],[],default,default)
 |U (.Assign _ e _)=>(e,e,[],[],default,default)
 |U (.Expr e _)=>(e,e,[],[],default,default)
 |U (.Return e _)=>(e.getD eD,eD,[],[],default,default)
 |U (.ClassDef _ _ _ b _ _ _ _ _ _ _)=>(eD,eD,b,[],default,default)
 |_=>(eD,eD,[],[],default,default)
noncomputable def cZ(s:aY b9):Y b9:=(mQ s).2.2.1
noncomputable def eK(s:aY b9):g6:=(mQ s).2.2.2.2.1
noncomputable def ik(s:aY b9):y_:=(mQ s).2.2.2.2.2
noncomputable def xV:bW->bW×bW×aa
 |.Starred _ _=>(eD,eD,1)
 |.Slice ..=>(eD,eD,2)
 |.Set ..=>(eD,eD,3)
 |.Name ..=>(eD,eD,4)
 |.Tuple ..=>(eD,eD,5)
 |.ListComp e _ _ _=>(e,eD,0)
 |.BinOp a _ b _=>(a,b,0)
 |.Call _ A _ _=>(A.head?.getD eD,eD,0)
 |_=>(eD,eD,0)
noncomputable def bz(g:aa):aY b9:=dZ g pw.main.body
noncomputable def Rl(s:aY b9):Y b9:=(mQ s).2.2.1
noncomputable def fm(i u:aa):aY b9:=dZ u (Rl (bz i))
end jJ
end
section
namespace jJ
section
variable{p q r s t u v w x y:Prop}{G:Prop}
theorem bM(h:p/\q)(f:p->q->G):G:=f h.1 h.2
theorem gg(h:p/\q/\r)(f:p->q->r->G):G:=f h.1 h.2.1 h.2.2
theorem ve(h:p/\q/\r/\s)(f:p->q->r->s->G):G:=f h.1 h.2.1 h.2.2.1 h.2.2.2
theorem tE(h:p/\q/\r/\s/\t)(f:p->q->r->s->t->G):G:=f h.1 h.2.1 h.2.2.1 h.2.2.2.1 h.2.2.2.2
theorem Iz(h:p/\q/\r/\s/\t/\u)(f:p->q->r->s->t->u->G):G:=f h.1 h.2.1 h.2.2.1 h.2.2.2.1 h.2.2.2.2.1 h.2.2.2.2.2
end
section
variable{A:Sort _}{p q r s t u v w x y:A->Prop}{G:Prop}
theorem bC(h:∃a,p a)(f:∀a,p a->G):G:=h.elim λa h=>f a h
theorem aA(h:∃a,p a/\q a)(f:∀a,p a->q a->G):G:=h.elim λa h=>f a h.1 h.2
theorem jL(h:∃a,p a/\q a/\r a)(f:∀a,p a->q a->r a->G):G:=h.elim λa h=>f a h.1 h.2.1 h.2.2
theorem CJ(h:∃a,p a/\q a/\r a/\s a)(f:∀a,p a->q a->r a->s a->G):G:=h.elim λa h=>f a h.1 h.2.1 h.2.2.1 h.2.2.2
end
section
variable{A B:Sort _}{p q r s t u v w x y:A->B->Prop}{G:Prop}
theorem gD(h:∃a b,p a b)(f:∀a b,p a b->G):G:=h.elim λa h=>h.elim λb h=>f a b h
theorem dS(h:∃a b,p a b/\q a b)(f:∀a b,p a b->q a b->G):G:=h.elim λa h=>h.elim λb h=>f a b h.1 h.2
theorem jw(h:∃a b,p a b/\q a b/\r a b)(f:∀a b,p a b->q a b->r a b->G):G:=h.elim λa h=>h.elim λb h=>f a b h.1 h.2.1 h.2.2
theorem zP(h:∃a b,p a b/\q a b/\r a b/\s a b)(f:∀a b,p a b->q a b->r a b->s a b->G):G:=h.elim λa h=>h.elim λb h=>f a b h.1 h.2.1 h.2.2.1 h.2.2.2
theorem rE(h:∃a b,p a b/\q a b/\r a b/\s a b/\t a b)(f:∀a b,p a b->q a b->r a b->s a b->t a b->G):G:=h.elim λa h=>h.elim λb h=>f a b h.1 h.2.1 h.2.2.1 h.2.2.2.1 h.2.2.2.2
theorem IA(h:∃a b,p a b/\q a b/\r a b/\s a b/\t a b/\u a b)(f:∀a b,p a b->q a b->r a b->s a b->t a b->u a b->G):G:=h.elim λa h=>h.elim λb h=>f a b h.1 h.2.1 h.2.2.1 h.2.2.2.1 h.2.2.2.2.1 h.2.2.2.2.2
theorem IB(h:∃a b,p a b/\q a b/\r a b/\s a b/\t a b/\u a b/\v a b/\w a b)(f:∀a b,p a b->q a b->r a b->s a b->t a b->u a b->v a b->w a b->G):G:=h.elim λa h=>h.elim λb h=>f a b h.1 h.2.1 h.2.2.1 h.2.2.2.1 h.2.2.2.2.1 h.2.2.2.2.2.1 h.2.2.2.2.2.2.1 h.2.2.2.2.2.2.2
end
section
variable{A B C:Sort _}{p q r s t u v w x y:A->B->C->Prop}{G:Prop}
theorem CK(h:∃a b c,p a b c)(f:∀a b c,p a b c->G):G:=h.elim λa h=>h.elim λb h=>h.elim λc h=>f a b c h
theorem iL(h:∃a b c,p a b c/\q a b c)(f:∀a b c,p a b c->q a b c->G):G:=h.elim λa h=>h.elim λb h=>h.elim λc h=>f a b c h.1 h.2
theorem jb(h:∃a b c,p a b c/\q a b c/\r a b c)(f:∀a b c,p a b c->q a b c->r a b c->G):G:=h.elim λa h=>h.elim λb h=>h.elim λc h=>f a b c h.1 h.2.1 h.2.2
theorem pG(h:∃a b c,p a b c/\q a b c/\r a b c/\s a b c)(f:∀a b c,p a b c->q a b c->r a b c->s a b c->G):G:=h.elim λa h=>h.elim λb h=>h.elim λc h=>f a b c h.1 h.2.1 h.2.2.1 h.2.2.2
theorem xn(h:∃a b c,p a b c/\q a b c/\r a b c/\s a b c/\t a b c)(f:∀a b c,p a b c->q a b c->r a b c->s a b c->t a b c->G):G:=h.elim λa h=>h.elim λb h=>h.elim λc h=>f a b c h.1 h.2.1 h.2.2.1 h.2.2.2.1 h.2.2.2.2
theorem IC(h:∃a b c,p a b c/\q a b c/\r a b c/\s a b c/\t a b c/\u a b c)(f:∀a b c,p a b c->q a b c->r a b c->s a b c->t a b c->u a b c->G):G:=h.elim λa h=>h.elim λb h=>h.elim λc h=>f a b c h.1 h.2.1 h.2.2.1 h.2.2.2.1 h.2.2.2.2.1 h.2.2.2.2.2
end
section
variable{A B C D:Sort _}{p q r s t u v w x y:A->B->C->D->Prop}{G:Prop}
theorem ID(h:∃a b c d,p a b c d)(f:∀a b c d,p a b c d->G):G:=h.elim λa h=>h.elim λb h=>h.elim λc h=>h.elim λd h=>f a b c d h
theorem IE(h:∃a b c d,p a b c d/\q a b c d)(f:∀a b c d,p a b c d->q a b c d->G):G:=h.elim λa h=>h.elim λb h=>h.elim λc h=>h.elim λd h=>f a b c d h.1 h.2
theorem rF(h:∃a b c d,p a b c d/\q a b c d/\r a b c d)(f:∀a b c d,p a b c d->q a b c d->r a b c d->G):G:=h.elim λa h=>h.elim λb h=>h.elim λc h=>h.elim λd h=>f a b c d h.1 h.2.1 h.2.2
theorem zQ(h:∃a b c d,p a b c d/\q a b c d/\r a b c d/\s a b c d)(f:∀a b c d,p a b c d->q a b c d->r a b c d->s a b c d->G):G:=h.elim λa h=>h.elim λb h=>h.elim λc h=>h.elim λd h=>f a b c d h.1 h.2.1 h.2.2.1 h.2.2.2
theorem RY(h:∃a b c d,p a b c d/\q a b c d/\r a b c d/\s a b c d/\t a b c d/\u a b c d)(f:∀a b c d,p a b c d->q a b c d->r a b c d->s a b c d->t a b c d->u a b c d->G):G:=h.elim λa h=>h.elim λb h=>h.elim λc h=>h.elim λd h=>f a b c d h.1 h.2.1 h.2.2.1 h.2.2.2.1 h.2.2.2.2.1 h.2.2.2.2.2
theorem IF(h:∃a b c d,p a b c d/\q a b c d/\r a b c d/\s a b c d/\t a b c d/\u a b c d/\v a b c d)(f:∀a b c d,p a b c d->q a b c d->r a b c d->s a b c d->t a b c d->u a b c d->v a b c d->G):G:=h.elim λa h=>h.elim λb h=>h.elim λc h=>h.elim λd h=>f a b c d h.1 h.2.1 h.2.2.1 h.2.2.2.1 h.2.2.2.2.1 h.2.2.2.2.2.1 h.2.2.2.2.2.2
end
section
variable{A B C D E:Sort _}{p q r s t u v w x y:A->B->C->D->E->Prop}{G:Prop}
theorem IG(h:∃a b c d e,p a b c d e/\q a b c d e)(f:∀a b c d e,p a b c d e->q a b c d e->G):G:=h.elim λa h=>h.elim λb h=>h.elim λc h=>h.elim λd h=>h.elim λe h=>f a b c d e h.1 h.2
theorem RZ(h:∃a b c d e,p a b c d e/\q a b c d e/\r a b c d e)(f:∀a b c d e,p a b c d e->q a b c d e->r a b c d e->G):G:=h.elim λa h=>h.elim λb h=>h.elim λc h=>h.elim λd h=>h.elim λe h=>f a b c d e h.1 h.2.1 h.2.2
theorem IH(h:∃a b c d e,p a b c d e/\q a b c d e/\r a b c d e/\s a b c d e)(f:∀a b c d e,p a b c d e->q a b c d e->r a b c d e->s a b c d e->G):G:=h.elim λa h=>h.elim λb h=>h.elim λc h=>h.elim λd h=>h.elim λe h=>f a b c d e h.1 h.2.1 h.2.2.1 h.2.2.2
theorem R0(h:∃a b c d e,p a b c d e/\q a b c d e/\r a b c d e/\s a b c d e/\t a b c d e/\u a b c d e/\v a b c d e/\w a b c d e/\x a b c d e)(f:∀a b c d e,p a b c d e->q a b c d e->r a b c d e->s a b c d e->t a b c d e->u a b c d e->v a b c d e->w a b c d e->x a b c d e->G):G:=h.elim λa h=>h.elim λb h=>h.elim λc h=>h.elim λd h=>h.elim λe h=>f a b c d e h.1 h.2.1 h.2.2.1 h.2.2.2.1 h.2.2.2.2.1 h.2.2.2.2.2.1 h.2.2.2.2.2.2.1 h.2.2.2.2.2.2.2.1 h.2.2.2.2.2.2.2.2
end
section
variable{p q r s t u v w x y:Prop}{G:Prop}
theorem c_(h0:p)(h1:q)(h2:r):p/\q/\r:=⟨h0,h1,h2⟩
theorem kU(h0:p)(h1:q)(h2:r)(h3:s):p/\q/\r/\s:=⟨h0,h1,h2,h3⟩
theorem kW(h0:p)(h1:q)(h2:r)(h3:s)(h4:t):p/\q/\r/\s/\t:=⟨h0,h1,h2,h3,h4⟩
theorem xF(h0:p)(h1:q)(h2:r)(h3:s)(h4:t)(h5:u):p/\q/\r/\s/\t/\u:=⟨h0,h1,h2,h3,h4,h5⟩
theorem Jw(h0:p)(h1:q)(h2:r)(h3:s)(h4:t)(h5:u)(h6:v)(h7:w):p/\q/\r/\s/\t/\u/\v/\w:=⟨h0,h1,h2,h3,h4,h5,h6,h7⟩
end
section
variable{A:Sort _}{p q r s t u v w x y:A->Prop}{G:Prop}
theorem aR(a:A)(h0:p a)(h1:q a):∃a,p a/\q a:=⟨a,h0,h1⟩
theorem i12(a:A)(h0:p a)(h1:q a)(h2:r a):∃a,p a/\q a/\r a:=⟨a,h0,h1,h2⟩
theorem UK(a:A)(h0:p a)(h1:q a)(h2:r a)(h3:s a):∃a,p a/\q a/\r a/\s a:=⟨a,h0,h1,h2,h3⟩
theorem C'(a:A)(h0:p a)(h1:q a)(h2:r a)(h3:s a)(h4:t a)(h5:u a):∃a,p a/\q a/\r a/\s a/\t a/\u a:=⟨a,h0,h1,h2,h3,h4,h5⟩
end
section
variable{A B:Sort _}{p q r s t u v w x y:A->B->Prop}{G:Prop}
theorem b_(a:A)(b:B)(h0:p a b):∃a b,p a b:=⟨a,b,h0⟩
theorem gh(a:A)(b:B)(h0:p a b)(h1:q a b):∃a b,p a b/\q a b:=⟨a,b,h0,h1⟩
theorem g8(a:A)(b:B)(h0:p a b)(h1:q a b)(h2:r a b):∃a b,p a b/\q a b/\r a b:=⟨a,b,h0,h1,h2⟩
theorem my(a:A)(b:B)(h0:p a b)(h1:q a b)(h2:r a b)(h3:s a b):∃a b,p a b/\q a b/\r a b/\s a b:=⟨a,b,h0,h1,h2,h3⟩
theorem Jx(a:A)(b:B)(h0:p a b)(h1:q a b)(h2:r a b)(h3:s a b)(h4:t a b):∃a b,p a b/\q a b/\r a b/\s a b/\t a b:=⟨a,b,h0,h1,h2,h3,h4⟩
theorem Jy(a:A)(b:B)(h0:p a b)(h1:q a b)(h2:r a b)(h3:s a b)(h4:t a b)(h5:u a b):∃a b,p a b/\q a b/\r a b/\s a b/\t a b/\u a b:=⟨a,b,h0,h1,h2,h3,h4,h5⟩
end
section
variable{A B C:Sort _}{p q r s t u v w x y:A->B->C->Prop}{G:Prop}
theorem Dc(a:A)(b:B)(c:C)(h0:p a b c):∃a b c,p a b c:=⟨a,b,c,h0⟩
theorem kq(a:A)(b:B)(c:C)(h0:p a b c)(h1:q a b c):∃a b c,p a b c/\q a b c:=⟨a,b,c,h0,h1⟩
theorem Aa(a:A)(b:B)(c:C)(h0:p a b c)(h1:q a b c)(h2:r a b c):∃a b c,p a b c/\q a b c/\r a b c:=⟨a,b,c,h0,h1,h2⟩
theorem nu(a:A)(b:B)(c:C)(h0:p a b c)(h1:q a b c)(h2:r a b c)(h3:s a b c):∃a b c,p a b c/\q a b c/\r a b c/\s a b c:=⟨a,b,c,h0,h1,h2,h3⟩
theorem vn(a:A)(b:B)(c:C)(h0:p a b c)(h1:q a b c)(h2:r a b c)(h3:s a b c)(h4:t a b c):∃a b c,p a b c/\q a b c/\r a b c/\s a b c/\t a b c:=⟨a,b,c,h0,h1,h2,h3,h4⟩
theorem Ab(a:A)(b:B)(c:C)(h0:p a b c)(h1:q a b c)(h2:r a b c)(h3:s a b c)(h4:t a b c)(h5:u a b c):∃a b c,p a b c/\q a b c/\r a b c/\s a b c/\t a b c/\u a b c:=⟨a,b,c,h0,h1,h2,h3,h4,h5⟩
end
section
variable{A B C D:Sort _}{p q r s t u v w x y:A->B->C->D->Prop}{G:Prop}
theorem UL(a:A)(b:B)(c:C)(d:D)(h0:p a b c d)(h1:q a b c d):∃a b c d,p a b c d/\q a b c d:=⟨a,b,c,d,h0,h1⟩
theorem xG(a:A)(b:B)(c:C)(d:D)(h0:p a b c d)(h1:q a b c d)(h2:r a b c d):∃a b c d,p a b c d/\q a b c d/\r a b c d:=⟨a,b,c,d,h0,h1,h2⟩
theorem qp(a:A)(b:B)(c:C)(d:D)(h0:p a b c d)(h1:q a b c d)(h2:r a b c d)(h3:s a b c d):∃a b c d,p a b c d/\q a b c d/\r a b c d/\s a b c d:=⟨a,b,c,d,h0,h1,h2,h3⟩
theorem UM(a:A)(b:B)(c:C)(d:D)(h0:p a b c d)(h1:q a b c d)(h2:r a b c d)(h3:s a b c d)(h4:t a b c d)(h5:u a b c d):∃a b c d,p a b c d/\q a b c d/\r a b c d/\s a b c d/\t a b c d/\u a b c d:=⟨a,b,c,d,h0,h1,h2,h3,h4,h5⟩
theorem UN(a:A)(b:B)(c:C)(d:D)(h0:p a b c d)(h1:q a b c d)(h2:r a b c d)(h3:s a b c d)(h4:t a b c d)(h5:u a b c d)(h6:v a b c d):∃a b c d,p a b c d/\q a b c d/\r a b c d/\s a b c d/\t a b c d/\u a b c d/\v a b c d:=⟨a,b,c,d,h0,h1,h2,h3,h4,h5,h6⟩
theorem UO(a:A)(b:B)(c:C)(d:D)(h0:p a b c d)(h1:q a b c d)(h2:r a b c d)(h3:s a b c d)(h4:t a b c d)(h5:u a b c d)(h6:v a b c d)(h7:w a b c d):∃a b c d,p a b c d/\q a b c d/\r a b c d/\s a b c d/\t a b c d/\u a b c d/\v a b c d/\w a b c d:=⟨a,b,c,d,h0,h1,h2,h3,h4,h5,h6,h7⟩
end
section
variable{A B C D E:Sort _}{p q r s t u v w x y:A->B->C->D->E->Prop}{G:Prop}
theorem UP(a:A)(b:B)(c:C)(d:D)(e:E)(h0:p a b c d e)(h1:q a b c d e):∃a b c d e,p a b c d e/\q a b c d e:=⟨a,b,c,d,e,h0,h1⟩
theorem UQ(a:A)(b:B)(c:C)(d:D)(e:E)(h0:p a b c d e)(h1:q a b c d e)(h2:r a b c d e)(h3:s a b c d e):∃a b c d e,p a b c d e/\q a b c d e/\r a b c d e/\s a b c d e:=⟨a,b,c,d,e,h0,h1,h2,h3⟩
end
theorem nc{α:Type _}(f:α->aa){a b:α}{P:Prop}(h:a=b)(e:qb (f a) (f b)=ak):P:=nomatch e.symm.trans (h▸OK (f a):qb (f a) (f b)=ae)
end jJ
end
section
set_option maxRecDepth 100000
open PySem PySem.Calls PySem.SeqAt PyProof.Rows PySem.W
namespace jJ
noncomputable def de(P:cT)(k:ai)(t:aa)(v:aD):DictEntry:=⟨q2 P k,.str k t,v⟩
noncomputable def co(n q:ai)(t:aa)(l a b c d:aF)(r r':ay)(x y z u:aD)(m:aF)(t':aa):bN:={cls:=.type "code",dict:=af,data:=.fields #[.str n t,.str q (t+1),.str "/claim/cut.py" (t+2),.int l 0,.int a 0,.int b 0,.int c 0,.int d 0,.ref r,.bool ae,.int 276 0,.ref r',x,y,z,u,.int m 0,.int l 0,.str "/claim/cut.py" t'],slots:=#[]}
noncomputable def fo(n q:ai)(s:aY b9)(m:aD)(c:ay)(d:aD):bN:={cls:=.type "function",dict:=af,data:=.func {docDef n (ik s) (cZ s) (eK s) m (.ref c) .none with qualname:=q,defaults:=d},slots:=#[]}
noncomputable def o3(P:cT):bN:={cls:=.type "dict",dict:=af,data:=.dict (gJ (de P "__name__" 165 (.str "law_rx0064_01" 728)::de P "__doc__" 166 .none::de P "__package__" 167 .none::de P "__loader__" 168 (.builtin "__main__.__loader__#opaque")::de P "__spec__" 169 .none::de P "__annotations__" 170 (.ref 6)::de P "__builtins__" 171 (.ref 4)::de P "__file__" 173 (.str "/claim/cut.py" 172)::de P "__cached__" 174 .none::de P "_sre" 275 (.ref 12)::de P "_wall" 288 (.ref 38)::de P "_NODE_OUT" 293 (.int (-1) 292)::de P "_NODE_DONE" 296 (.int (-2) 295)::de P "_NodeInfo" 333 (.ref 57)::de P "CycleError" 351 (.ref 72)::de P "TopologicalSorter" 470 (.ref 154)::de P "_twin_re_1" 510 (.ref 163)::de P "translate" 519 (.ref 170)::de P "_special_chars_map" 667 (.ref 172)::de P "escape" 674 (.ref 182)::de P "_translate" 695 (.ref 189)::de P "_join_translated_parts" 708 (.ref 196)::de P "read_uint1" 718 (.ref 203)::de P "read_string1" 727 (.ref 210)::de P "_law_stream" 740 (.ref 217)::de P "_law_keys" 751 (.ref 224)::de P "_law_made" 762 (.ref 231)::de P "_law_moved" 773 (.ref 238)::de P "_law_takes" 784 (.ref 245)::de P "_law_keeps" 790 (.ref 250)::de P "law" 796 (.ref 255)::[])) 31,slots:=#[]}
noncomputable def LG(P:cT):bN:=co "__init__" "_NodeInfo.__init__" 313 11 2 0 0 3 47 48 (.none) (.ref 49) (.ref 50) (.ref 51) 318 319
noncomputable def LH(P:cT):bN:=fo "__init__" "_NodeInfo.__init__" (fm 5 1) (.str "cpy313.graphlib" 289) 52 (.none)
noncomputable def Xu(P:cT):bN:={cls:=.type "dict",dict:=af,data:=.dict #[de P "__module__" 304 (.str "cpy313.graphlib" 289),de P "__firstlineno__" 308 (.int 8 307),de P "__slots__" 312 (.ref 46),de P "__init__" 320 (.ref 53),de P "__static_attributes__" 324 (.ref 54),de P "node" 326 (.ref 58),de P "npredecessors" 328 (.ref 59),de P "successors" 330 (.ref 60),de P "__doc__" 331 .none] 5,slots:=#[]}
noncomputable def Xv(P:cT):bN:={cls:=.type "type",dict:=af,data:=.cls {name:={cps:=#[95,78,111,100,101,73,110,102,111]},bases:=[sQ "object"],mro:=[O5 57,sQ "object"],ns:=56,qualname:={cps:=#[95,78,111,100,101,73,110,102,111]},hasDict:=ak,slotNames:=[{cps:=#[110,111,100,101]},{cps:=#[110,112,114,101,100,101,99,101,115,115,111,114,115]},{cps:=#[115,117,99,99,101,115,115,111,114,115]}],subclasses:=[],abstract:=ak,collection:=af,hasDel:=ak},slots:=#[af,af,(U (.str "_NodeInfo" 297)),(U (.str "_NodeInfo" 305)),(U (.builtin "object.__new__")),(U (.bool ak))]}
noncomputable def Xw(P:cT):bN:={cls:=.type "member_descriptor",dict:=af,data:=.fields #[.str "node" 325,.ref 57,.builtin "proto.slot",.builtin "proto.slot#set",.int 2 0],slots:=#[]}
noncomputable def Xx(P:cT):bN:={cls:=.type "member_descriptor",dict:=af,data:=.fields #[.str "npredecessors" 327,.ref 57,.builtin "proto.slot",.builtin "proto.slot#set",.int 1 0],slots:=#[]}
noncomputable def Xy(P:cT):bN:={cls:=.type "member_descriptor",dict:=af,data:=.fields #[.str "successors" 329,.ref 57,.builtin "proto.slot",.builtin "proto.slot#set",.int 0 0],slots:=#[]}
noncomputable def Xz(P:cT):bN:={cls:=.type "tuple",dict:=af,data:=.seq #[.type "ValueError"] 0,slots:=#[]}
noncomputable def XA(P:cT):bN:={cls:=.type "dict",dict:=af,data:=.dict #[de P "__module__" 341 (.str "cpy313.graphlib" 289),de P "__firstlineno__" 345 (.int 15 344),de P "__static_attributes__" 346 (.ref 70),de P "__weakref__" 348 (.ref 73),de P "__doc__" 349 .none] 3,slots:=#[]}
noncomputable def XB(P:cT):bN:={cls:=.type "type",dict:=af,data:=.cls {name:={cps:=#[67,121,99,108,101,69,114,114,111,114]},bases:=[sQ "ValueError"],mro:=[O5 72,sQ "ValueError",sQ "Exception",sQ "BaseException",sQ "object"],ns:=71,qualname:={cps:=#[67,121,99,108,101,69,114,114,111,114]},hasDict:=ae,slotNames:=[],subclasses:=[],abstract:=ak,collection:=af,hasDel:=ak},slots:=#[(U (.ref 63)),af,(U (.str "CycleError" 334)),(U (.str "CycleError" 342)),(U (.builtin "ValueError.__new__")),(U (.bool ae))]}
noncomputable def XC(P:cT):bN:={cls:=.type "tuple",dict:=af,data:=.seq #[.none] 0,slots:=#[]}
noncomputable def XD(P:cT):bN:=co "__init__" "TopologicalSorter.__init__" 364 19 2 0 0 3 84 85 (.none) (.ref 86) (.ref 87) (.ref 88) 371 372
noncomputable def XE(P:cT):bN:=fo "__init__" "TopologicalSorter.__init__" (fm 7 0) (.str "cpy313.graphlib" 289) 89 (.ref 83)
noncomputable def LI(P:cT):bN:=co "_get_nodeinfo" "TopologicalSorter._get_nodeinfo" 374 28 2 0 0 3 91 92 (.none) (.ref 93) (.ref 94) (.ref 95) 380 381
noncomputable def LJ(P:cT):bN:=fo "_get_nodeinfo" "TopologicalSorter._get_nodeinfo" (fm 7 1) (.str "cpy313.graphlib" 289) 96 (.none)
noncomputable def K0(P:cT):bN:=co "add" "TopologicalSorter.add" 383 33 2 0 0 7 98 99 (.none) (.ref 100) (.ref 101) (.ref 102) 392 393
noncomputable def K1(P:cT):bN:=fo "add" "TopologicalSorter.add" (fm 7 2) (.str "cpy313.graphlib" 289) 103 (.none)
noncomputable def K2(P:cT):bN:=co "prepare" "TopologicalSorter.prepare" 395 42 1 0 0 3 105 106 (.none) (.none) (.none) (.ref 107) 398 399
noncomputable def K3(P:cT):bN:=fo "prepare" "TopologicalSorter.prepare" (fm 7 3) (.str "cpy313.graphlib" 289) 108 (.none)
noncomputable def K4(P:cT):bN:=co "get_ready" "TopologicalSorter.get_ready" 401 50 1 0 0 3 110 111 (.none) (.ref 112) (.ref 113) (.ref 114) 408 409
noncomputable def K5(P:cT):bN:=fo "get_ready" "TopologicalSorter.get_ready" (fm 7 4) (.str "cpy313.graphlib" 289) 115 (.none)
noncomputable def K6(P:cT):bN:=co "is_active" "TopologicalSorter.is_active" 411 61 1 0 0 3 117 118 (.none) (.ref 119) (.ref 120) (.ref 121) 415 416
noncomputable def K7(P:cT):bN:=fo "is_active" "TopologicalSorter.is_active" (fm 7 5) (.str "cpy313.graphlib" 289) 122 (.none)
noncomputable def K8(P:cT):bN:=co "done" "TopologicalSorter.done" 425 69 1 0 0 7 131 132 (.none) (.ref 133) (.ref 134) (.ref 135) 436 437
noncomputable def K9(P:cT):bN:=fo "done" "TopologicalSorter.done" (fm 7 7) (.str "cpy313.graphlib" 289) 136 (.none)
noncomputable def K_(P:cT):bN:=co "_find_cycle" "TopologicalSorter._find_cycle" 439 92 1 0 0 3 138 139 (.none) (.ref 140) (.ref 141) (.ref 142) 449 450
noncomputable def La(P:cT):bN:=fo "_find_cycle" "TopologicalSorter._find_cycle" (fm 7 8) (.str "cpy313.graphlib" 289) 143 (.none)
noncomputable def Xq(P:cT):bN:={cls:=.type "dict",dict:=af,data:=.dict #[de P "__module__" 359 (.str "cpy313.graphlib" 289),de P "__firstlineno__" 363 (.int 17 362),de P "__init__" 373 (.ref 90),de P "_get_nodeinfo" 382 (.ref 97),de P "add" 394 (.ref 104),de P "prepare" 400 (.ref 109),de P "get_ready" 410 (.ref 116),de P "is_active" 417 (.ref 123),de P "__bool__" 424 (.ref 130),de P "done" 438 (.ref 137),de P "_find_cycle" 451 (.ref 144),de P "static_order" 458 (.ref 151),de P "__static_attributes__" 463 (.ref 152),de P "__dict__" 465 (.ref 155),de P "__weakref__" 467 (.ref 156),de P "__doc__" 468 .none] 4,slots:=#[]}
noncomputable def Xr(P:cT):bN:={cls:=.type "type",dict:=af,data:=.cls {name:={cps:=#[84,111,112,111,108,111,103,105,99,97,108,83,111,114,116,101,114]},bases:=[sQ "object"],mro:=[O5 154,sQ "object"],ns:=153,qualname:={cps:=#[84,111,112,111,108,111,103,105,99,97,108,83,111,114,116,101,114]},hasDict:=ae,slotNames:=[],subclasses:=[],abstract:=ak,collection:=af,hasDel:=ak},slots:=#[af,af,(U (.str "TopologicalSorter" 352)),(U (.str "TopologicalSorter" 360)),(U (.builtin "object.__new__")),(U (.bool ae))]}
noncomputable def Lb(P:cT):bN:={cls:=.type "tuple",dict:=af,data:=.seq (gJ ((.int 14 0)::(.int 14 0)::(.int 4 0)::(.int 1 0)::(.int 1 0)::(.int 9 0)::(.int 0 0)::(.int 64 0)::(.int 0 0)::(.int 1342177280 0)::(.int 0 0)::(.int 0 0)::(.int 0 0)::(.int 0 0)::(.int 0 0)::(.int 17 0)::(.int 0 0)::(.int 13 0)::(.int 11 0)::(.int 9 0)::(.int 0 0)::(.int 64 0)::(.int 0 0)::(.int 1342177280 0)::(.int 0 0)::(.int 0 0)::(.int 0 0)::(.int 0 0)::(.int 0 0)::(.int 17 0)::(.int 1 0)::(.int 1 0)::[])) 0,slots:=#[]}
noncomputable def Lc(P:cT):bN:={cls:=.type "re.Pattern",dict:=af,data:=.fields #[.str "([&~|])" 474,.int 32 509,.int 1 0,.none,.none,.ref 162,.int 0 0],slots:=#[]}
noncomputable def Ld(P:cT):bN:=co "translate" "translate" 511 125 1 0 0 3 164 165 (.none) (.ref 166) (.ref 167) (.ref 168) 517 518
noncomputable def Lf(P:cT):bN:=fo "translate" "translate" (bz 10) (.str "cpy313.fnmatch" 471) 169 (.none)
noncomputable def Lg(P:cT):bN:={cls:=.type "dict",dict:=af,data:=.dict (gJ (⟨40,.int 40 523,.str "\\(" 527⟩::⟨41,.int 41 529,.str "\\)" 533⟩::⟨91,.int 91 535,.str "\\[" 539⟩::⟨93,.int 93 541,.str "\\]" 545⟩::⟨123,.int 123 547,.str "\\{" 551⟩::⟨125,.int 125 553,.str "\\}" 557⟩::⟨63,.int 63 559,.str "\\?" 563⟩::⟨42,.int 42 565,.str "\\*" 569⟩::⟨43,.int 43 571,.str "\\+" 575⟩::⟨45,.int 45 577,.str "\\-" 581⟩::⟨124,.int 124 583,.str "\\|" 587⟩::⟨94,.int 94 589,.str "\\^" 593⟩::⟨36,.int 36 595,.str "\\$" 599⟩::⟨92,.int 92 601,.str "\\\\" 605⟩::⟨46,.int 46 607,.str "\\." 611⟩::⟨38,.int 38 613,.str "\\&" 617⟩::⟨126,.int 126 619,.str "\\~" 623⟩::⟨35,.int 35 625,.str "\\#" 629⟩::⟨32,.int 32 631,.str "\\ " 635⟩::⟨9,.int 9 637,.str "\\\t" 641⟩::⟨10,.int 10 643,.str "\\\n" 647⟩::⟨13,.int 13 649,.str "\\\x0d" 653⟩::⟨11,.int 11 655,.str "\\\x0b" 659⟩::⟨12,.int 12 661,.str "\\\x0c" 665⟩::[])) 24,slots:=#[]}
noncomputable def Lh(P:cT):bN:=co "escape" "escape" 668 131 1 0 0 3 176 177 (.none) (.ref 178) (.ref 179) (.ref 180) 672 673
noncomputable def Li(P:cT):bN:=fo "escape" "escape" (bz 13) (.str "re" 520) 181 (.none)
noncomputable def Lj(P:cT):bN:=co "_translate" "_translate" 677 138 3 0 0 3 183 184 (.none) (.ref 185) (.ref 186) (.ref 187) 693 694
noncomputable def Lk(P:cT):bN:=fo "_translate" "_translate" (bz 15) (.str "cpy313.fnmatch" 675) 188 (.none)
noncomputable def Ll(P:cT):bN:=co "_join_translated_parts" "_join_translated_parts" 696 200 2 0 0 3 190 191 (.none) (.ref 192) (.ref 193) (.ref 194) 706 707
noncomputable def Lm(P:cT):bN:=fo "_join_translated_parts" "_join_translated_parts" (bz 16) (.str "cpy313.fnmatch" 675) 195 (.none)
noncomputable def Ln(P:cT):bN:=co "read_uint1" "read_uint1" 711 228 1 0 0 3 197 198 (.none) (.ref 199) (.ref 200) (.ref 201) 716 717
noncomputable def Lo(P:cT):bN:=fo "read_uint1" "read_uint1" (bz 18) (.str "cpy313.pickletools" 709) 202 (.none)
noncomputable def Lp(P:cT):bN:=co "read_string1" "read_string1" 719 233 1 0 0 3 204 205 (.none) (.ref 206) (.ref 207) (.ref 208) 725 726
noncomputable def Lq(P:cT):bN:=fo "read_string1" "read_string1" (bz 19) (.str "cpy313.pickletools" 709) 209 (.none)
noncomputable def Lr(P:cT):bN:=co "_law_stream" "_law_stream" 730 241 1 0 0 3 211 212 (.none) (.ref 213) (.ref 214) (.ref 215) 738 739
noncomputable def Ls(P:cT):bN:=fo "_law_stream" "_law_stream" (bz 21) (.str "law_rx0064_01" 728) 216 (.none)
noncomputable def Lu(P:cT):bN:=co "_law_keys" "_law_keys" 741 250 2 0 0 3 218 219 (.none) (.ref 220) (.ref 221) (.ref 222) 749 750
noncomputable def Lv(P:cT):bN:=fo "_law_keys" "_law_keys" (bz 22) (.str "law_rx0064_01" 728) 223 (.none)
noncomputable def Eh(P:cT):bN:=co "_law_made" "_law_made" 752 258 2 0 0 3 225 226 (.none) (.ref 227) (.ref 228) (.ref 229) 760 761
noncomputable def Ei(P:cT):bN:=fo "_law_made" "_law_made" (bz 23) (.str "law_rx0064_01" 728) 230 (.none)
noncomputable def Lw(P:cT):bN:=co "_law_moved" "_law_moved" 763 266 4 0 0 3 232 233 (.none) (.ref 234) (.ref 235) (.ref 236) 771 772
noncomputable def Lz(P:cT):bN:=fo "_law_moved" "_law_moved" (bz 24) (.str "law_rx0064_01" 728) 237 (.none)
noncomputable def LA(P:cT):bN:=co "_law_takes" "_law_takes" 774 270 2 0 0 3 239 240 (.none) (.ref 241) (.ref 242) (.ref 243) 782 783
noncomputable def LB(P:cT):bN:=fo "_law_takes" "_law_takes" (bz 25) (.str "law_rx0064_01" 728) 244 (.none)
noncomputable def LC(P:cT):bN:=co "_law_keeps" "_law_keeps" 785 291 2 0 0 3 246 247 (.none) (.none) (.none) (.ref 248) 788 789
noncomputable def LD(P:cT):bN:=fo "_law_keeps" "_law_keeps" (bz 26) (.str "law_rx0064_01" 728) 249 (.none)
noncomputable def LF(P:cT):bN:=co "law" "law" 791 297 1 0 0 3 251 252 (.none) (.none) (.none) (.ref 253) 794 795
noncomputable def Xs(P:cT):bN:=fo "law" "law" (bz 27) (.str "law_rx0064_01" 728) 254 (.none)
noncomputable def hK(P:cT):Frag:=(3,o3 P)::(52,LG P)::(53,LH P)::(56,Xu P)::(57,Xv P)::(58,Xw P)::(59,Xx P)::(60,Xy P)::(63,Xz P)::(71,XA P)::(72,XB P)::(83,XC P)::(89,XD P)::(90,XE P)::(96,LI P)::(97,LJ P)::(103,K0 P)::(104,K1 P)::(108,K2 P)::(109,K3 P)::(115,K4 P)::(116,K5 P)::(122,K6 P)::(123,K7 P)::(136,K8 P)::(137,K9 P)::(143,K_ P)::(144,La P)::(153,Xq P)::(154,Xr P)::(162,Lb P)::(163,Lc P)::(169,Ld P)::(170,Lf P)::(172,Lg P)::(181,Lh P)::(182,Li P)::(188,Lj P)::(189,Lk P)::(195,Ll P)::(196,Lm P)::(202,Ln P)::(203,Lo P)::(209,Lp P)::(210,Lq P)::(216,Lr P)::(217,Ls P)::(223,Lu P)::(224,Lv P)::(230,Eh P)::(231,Ei P)::(237,Lw P)::(238,Lz P)::(244,LA P)::(245,LB P)::(249,LC P)::(250,LD P)::(254,LF P)::(255,Xs P)::[]
noncomputable def hA:Y ay:=3::52::53::56::57::58::59::60::63::71::72::83::89::90::96::97::103::104::108::109::115::116::122::123::136::137::143::144::153::154::162::163::169::170::172::181::182::188::189::195::196::202::203::209::210::216::217::223::224::230::231::237::238::244::245::249::250::254::255::[]
theorem Um(P:cT):hA=(hK P).map (·.1):=J
end jJ
end
section
set_option maxRecDepth 100000
set_option maxHeartbeats 0
open PySem PySem.W PyProof.Rows
namespace jJ
noncomputable def MR:bN:=⟨.none,af,.fields #[],#[]⟩
noncomputable def WQ(K:cT->Frag)(as:Y ay)(e:∀P,as=(K P).map (·.1))(ts:Y ay):Hook where
 α:=Y (aY bN)×Y (aY bN)
 obs:=λs=>(as.map s.heap.get?,ts.map s.heap.get?)
 val:=λw=>((K w.params).map λp=>U p.2,ts.map λ_=>U MR)
 says:=λw h=>InK K w h/\∀P∈ts,h.get? P=U MR
 of:=λw s x=>⟨InK.of e w s (l_ x).1,List.map_inj_left.mp (l_ x).2⟩
 keeps:=λw h h' x k=>⟨InK.keeps w h h' x.1 k,λP hP=>k _ _ (x.2 P hP)⟩
noncomputable def lH:Hook:=WQ hK hA Um [212,184]
noncomputable def P3:bZ:=PySem.Challenge.rw_rx0064_01.row.prog
noncomputable def Vm:Y aa:=[0,1,3,4,5,6,7,9,10,12,13,15,16,18,19,21,22,23,24,25,26,27]
noncomputable def q3:bZ:=view P3 Vm
noncomputable def Au:Y PySem.Str:=["_twin_re_1","_special_chars_map","_NodeInfo"]
noncomputable abbrev sX(w:bR):Prop:=(openEnds treeTable PySem.Challenge.rw_rx0064_01.row.prog w 5824).map (λs=>(openSeen q3 Au (importedModules PySem.Challenge.rw_rx0064_01.row.prog.main.body) (λs=>xlAt q3 [] s&&recOk (RowW.records PySem.Challenge.rw_rx0064_01.row.toRowW) s) ae s,Of lH s))=U (openGood q3 Au,Og lH w)
theorem Vy:∀w:bR,sX ((w.withFollow "special-get-raises" ak).withFollow "comprehension-iter-twice" ak):=by intro w;kernel_rfl
theorem Vz:∀w:bR,sX ((w.withFollow "special-get-raises" ae).withFollow "comprehension-iter-twice" ak):=by intro w;kernel_rfl
theorem VA:∀w:bR,sX ((w.withFollow "special-get-raises" ak).withFollow "comprehension-iter-twice" ae):=by intro w;kernel_rfl
theorem VB:∀w:bR,sX ((w.withFollow "special-get-raises" ae).withFollow "comprehension-iter-twice" ae):=by intro w;kernel_rfl
theorem VO:LeftO PySem.Challenge.rw_rx0064_01.row.prog q3 Au (λs=>xlAt q3 [] s&&recOk (RowW.records PySem.Challenge.rw_rx0064_01.row.toRowW) s) (Of lH) (Og lH) 5824:=
 byRow2 (P:=sX) "comprehension-iter-twice" (byRow2 (P:=λw=>sX (w.withFollow "comprehension-iter-twice" ak)) "special-get-raises" Vy Vz) (byRow2 (P:=λw=>sX (w.withFollow "comprehension-iter-twice" ae)) "special-get-raises" VA VB)
end jJ
end
namespace jJ
inductive Lx where
 |v(i:aa)|n(k:aa)|a(x y:Lx)|m(k:aa)(x:Lx)|r(x:Lx)(k:aa)
noncomputable def x6:Y aa->aa->aa
 |[],_=>0
 |x::_,0=>x
 |_::r,i+1=>x6 r i
noncomputable def Lx.d(c:Y aa):Lx->aa
 |.v i=>x6 c i
 |.n k=>k
 |.a x O=>x.d c+O.d c
 |.m k x=>k*x.d c
 |.r x k=>x.d c*k
noncomputable def AE:Y aa->Y aa->Y aa
 |[],E=>E
 |l,[]=>l
 |x::l,O::E=>(x+O)::AE l E
noncomputable def Lx.p:Lx->Y aa
 |.v i=>0::(dF i 0++[1])
 |.n k=>[k]
 |.a x O=>AE x.p O.p
 |.m k x=>x.p.map (k*·)
 |.r x k=>x.p.map (k*·)
noncomputable def gq:Y aa->Y aa->aa
 |[],_=>0
 |k::l,[]=>k*0+gq l []
 |k::l,x::c=>k*x+gq l c
noncomputable def AG:Y aa->Y aa->bl
 |[],_=>ae
 |x::l,[]=>qb x 0&&AG l []
 |x::l,O::E=>Nat.ble x O&&AG l E
theorem D_:∀(l E c:Y aa),gq (AE l E) c=gq l c+gq E c
 |[],E,c=>(l7 _).symm
 |x::l,[],c=>J
 |x::l,O::E,[]=>by
  show(x+O)*0+gq _ []=(x*0+gq l [])+(O*0+gq E []);simp only [D_];exact adB 0 0 _ _
 |x::l,O::E,s::c=>by
  show(x+O)*s+gq _ c=(x*s+gq l c)+(O*s+gq E c);simp only [D_,Nat.add_mul];exact adB _ _ _ _
theorem AF(k:aa):∀(l c:Y aa),gq (l.map (k*·)) c=k*gq l c
 |[],_=>J
 |x::l,[]=>by
  show k*x*0+gq _ []=k*(x*0+gq l []);simp only [AF,OT,Nat.mul_assoc]
 |x::l,s::c=>by
  show k*x*s+gq _ c=k*(x*s+gq l c);simp only [AF,OT,Nat.mul_assoc]
theorem Ea:∀(i:aa)(c:Y aa),gq (dF i 0++[1]) c=x6 c i
 |0,[]=>J
 |0,x::c=>Nat.one_mul x
 |i+1,[]=>by
  show 0*0+gq (dF i 0++[1]) []=0;rw [Ea];exact J
 |i+1,x::c=>by
  show 0*x+gq (dF i 0++[1]) c=x6 c i;simp only [Ea,Nat.zero_mul,l7]
theorem vC(c:Y aa):∀x:Lx,x.d c=gq x.p (1::c)
 |.v i=>by
  show x6 c i=0*1+gq _ c;rw [Ea];exact(l7 _).symm
 |.n k=>(Nat.mul_one k).symm
 |.a x O=>by
  show x.d c+O.d c=gq (AE x.p O.p) _;simp only [D_,vC c x,vC c O]
 |.m k x=>by
  show k*x.d c=gq (x.p.map _) _;simp only [AF,vC c x]
 |.r x k=>by
  show x.d c*k=gq (x.p.map (k*·)) _;simp only [AF,vC c x,Nat.mul_comm]
theorem xZ:∀{l E:Y aa}(c:Y aa),AG l E=ae->gq l c<=gq E c
 |[],_,_,_=>iY _
 |x::l,[],c,h=>by
  have h:=cU.mp h;have e:=Nat.eq_of_beq_eq_true h.1;cases c with
  |nil=>exact aJ (f_ (l7 _)) (xZ [] h.2)
  |cons s c=>subst e;exact aJ (f_ (by show 0*s+_=_;rw [Nat.zero_mul,l7])) (xZ c h.2)
 |x::l,O::E,c,h=>by
  have h:=cU.mp h;cases c with
  |nil=>exact ly (xZ [] h.2) 0
  |cons s c=>exact gk (adM s (dQ h.1)) (xZ c h.2)
noncomputable def xY(k:aa)(F H m n:Lx):bl:=AG (Lx.a (.m (k+1) F) n).p (Lx.a (.a (.m (k+1) H) m) (.n k)).p
theorem dg(k:aa)(F H m n:Lx)(e:xY k F H m n=ae)(c:Y aa)(h:m.d c<=n.d c):F.d c<=H.d c:=by
 have q:=xZ (1::c) e;rw [<-vC,<-vC]at q;have q:(k+1)*F.d c+n.d c<=((k+1)*H.d c+m.d c)+k:=q;refine BV (Nat.lt_of_mul_lt_mul_left (a:=k+1) ?_);exact OP (Nat.le_of_add_le_add_right (aJ q (by simp only [adD];exact ly h _)))
theorem lO(F H:Lx)(e:xY 0 F H (.n 0) (.n 0)=ae)(c:Y aa):F.d c<=H.d c:=dg 0 F H _ _ e c (ek 0)
theorem g_(k:aa)(F H m n G x:Lx)(e:xY k F H (.a m G) (.a n x)=ae)(c:Y aa)(h:m.d c<=n.d c)(T:G.d c<=x.d c):F.d c<=H.d c:=
 dg k F H _ _ e c (gk h T)
theorem rW(k:aa)(F H m n G x i b:Lx)(e:xY k F H (.a (.a m G) i) (.a (.a n x) b)=ae)(c:Y aa)(h:m.d c<=n.d c)(T:G.d c<=x.d c)(a:i.d c<=b.d c):F.d c<=H.d c:=
 dg k F H _ _ e c (gk (gk h T) a)
theorem D9(k:aa)(F H m n G x i b s j:Lx)(e:xY k F H (.a (.a m G) (.a i s)) (.a (.a n x) (.a b j))=ae)(c:Y aa)(h:m.d c<=n.d c)(T:G.d c<=x.d c)(a:i.d c<=b.d c)(l:s.d c<=j.d c):F.d c<=H.d c:=
 dg k F H _ _ e c (gk (gk h T) (gk a l))
theorem jN{a b:aa}(h:qb a b=ak):a≠b:=adN h
theorem aC{a b:aa}(h:Nat.ble a b=ae):a<=b:=dQ h
theorem oB(h:1<=0):False:=nomatch h
theorem W_{a b:aa}:a-b<=a:=yQ a b
theorem x8{a b:aa}:a<=a-b+b:=Nat.sub_le_iff_le_add.mp (ek _)
theorem vD{a b:aa}(h:b<=a):a-b+b<=a:=f_ (sP h)
theorem mC{a b:aa}(h:a=b):a<=b:=f_ h
theorem qv{a b:aa}(h:a=b):b<=a:=f_ h.symm
theorem W9{a b:aa}:min a b<=a:=OR a b
theorem KO{a b:aa}:min a b<=b:=adK a b
theorem vE(c:g+i=l+1)(h:i<l):g-1<g/\g-1+(i+1)=l+1:=by
 cases g with
 |zero=>exact bE (c.symm.trans (l7 i)) (q1 (oZ h))
 |succ g=>exact⟨eH g,(Nat.succ_add_eq_add_succ g i).symm.trans c⟩
open PySem PySem.Calls PyProof.Rows
section
theorem cps{G:Prop}(h:∀P:Prop,(G->P)->P):G:=h G id
theorem aU{T:Type}{o:aY T}{x:T}{P:Prop}(h:o=af)(e:o=U x):P:=nomatch h.symm.trans e
theorem cW{P:Prop}(h:b=ak)(e:b=ae):P:=nomatch h.symm.trans e
theorem lX{T:Type}{a b:Sem T}{Q:T->aT->Prop}(h:a=b)(q:wpAny g F b Q P s):wpAny g F a Q P s:=h▸q
theorem dc{T:Type}{o:aY T}{x:T}(h:o=U x):o.isSome=ae:=h▸J
noncomputable abbrev Fz:=ay->aY bN
inductive T where
 |none
 |bool(b:bl)
 |int(i:aF)
 |str(s:Y aa)
 |list(l:Y T)
 |tup(l:Y T)
 |atom
 |bY(v:aD)
noncomputable abbrev lo(n:Y aD)(g:aa):bN:={cls:=.type "list",data:=.seq n.toArray g}
noncomputable abbrev r9(n:Y aD)(g:aa):bN:={cls:=.type "tuple",data:=.seq n.toArray g}
structure Mk where
 star:ay
 mark:ay
mutual
inductive Den(ρ:Mk)(fz:Fz):aD->T->Prop
 |none:Den ρ fz .none .none
 |bool(b:bl):Den ρ fz (.bool b) (.bool b)
 |int(i:aF)(t:fK):Den ρ fz (.int i t) (.int i)
 |str(l:Y aa)(t:fK):Den ρ fz (.str ⟨l.toArray⟩ t) (.str l)
 |atom:Den ρ fz (.ref ρ.star) .atom
 |bY(v:aD):Den ρ fz v (.bY v)
 |list{a vs n ts}:fz a=U (lo vs n)->bq ρ fz vs ts->Den ρ fz (.ref a) (.list ts)
 |tup{a vs n ts}:fz a=U (r9 vs n)->bq ρ fz vs ts->Den ρ fz (.ref a) (.tup ts)
inductive bq(ρ:Mk)(fz:Fz):Y aD->Y T->Prop
 |nil:bq ρ fz [] []
 |cons{v vs t ts}:Den ρ fz v t->bq ρ fz vs ts->bq ρ fz (v::vs) (t::ts)
end
noncomputable def Le(X A:Fz):Prop:=∀b o,X b=U o->A b=U o
noncomputable def zo(X A:Fz):Prop:=∀b o z,o.data=.fields z->X b=U o->A b=U o
theorem Le.refl(X:Fz):Le X X:=λ_ _ e=>e
theorem Le.trans(x:Le X A)(O:Le A h):Le X h:=λb o e=>O b o (x b o e)
theorem Den.re(p:ρ.star=ρ'.star)(h:Le X A){v:aD}{w:T}(d:Den ρ X v w):Den ρ' A v w:=
 Den.rec .none .bool .int .str (p▸.atom) .bY (λe _ i=>.list (h _ _ e) i) (λe _ i=>.tup (h _ _ e) i) .nil (λ_ _ i u=>.cons i u) d
theorem bq.re(p:ρ.star=ρ'.star)(h:Le X A){z:Y aD}{o:Y T}(d:bq ρ X z o):bq ρ' A z o:=
 bq.rec .none .bool .int .str (p▸.atom) .bY (λe _ i=>.list (h _ _ e) i) (λe _ i=>.tup (h _ _ e) i) .nil (λ_ _ i u=>.cons i u) d
theorem Den.mono(h:Le X A)(d:Den e X v w):Den e A v w:=d.re J h
theorem bq.mono(h:Le X A)(d:bq e X z o):bq e A z o:=d.re J h
section
variable{ρ:Mk}{fz:Fz}
section
variable{P:Y aD->Prop}
theorem bq.jg(d:bq ρ fz z [])(h:P []):P z:=by cases d;exact h
theorem bq.ju(d:bq ρ fz z (w::o))(h:∀v A,Den ρ fz v w->bq ρ fz A o->P (v::A)):P z:=by cases d with|cons a b=>exact h _ _ a b
end
theorem bq.ind{P:Y aD->Y T->Prop}(g:P [] [])(c:∀{v z w o},Den ρ fz v w->bq ρ fz z o->P z o->P (v::z) (w::o)):∀{o:Y T}{z:Y aD},bq ρ fz z o->P z o
 |[],_,d=>d.jg (P:=λz=>P z []) g
 |_::_,_,d=>d.ju (P:=λz=>P z _) λ_ _ a b=>c a b (bq.ind g c b)
theorem bq.length(d:bq ρ fz z o):z.length=o.length:=d.ind (P:=λz o=>z.length=o.length) J λ_ _ i=>aL Nat.succ i
theorem bq.get(d:bq ρ fz z o):∀{i:aa}{t:T},o[i]?=U t->∃v,z[i]?=U v/\Den ρ fz v t:=
 d.ind (P:=λz o=>∀{i:aa}{t:T},o[i]?=U t->∃v,z[i]?=U v/\Den ρ fz v t) (λh=>aU J h) λ{v _ _ _}a _ f{i _}h=>match i,h with
  |0,h=>aR v J (bg h▸a)
  |_+1,h=>f h
theorem bq.append(d:bq ρ fz z o)(h:bq ρ fz A j):bq ρ fz (z++A) (o++j):=d.ind (P:=λz o=>bq ρ fz (z++A) (o++j)) h λa _ i=>.cons a i
theorem bq.drop(d:bq ρ fz z o):∀(k:aa),bq ρ fz (z.drop k) (o.drop k):=
 d.ind (P:=λz o=>∀(k:aa),bq ρ fz (z.drop k) (o.drop k)) (λk=>k.casesOn .nil λ_=>.nil) λa b i k=>k.casesOn (.cons a b) i
theorem bq.take(d:bq ρ fz z o):∀(k:aa),bq ρ fz (z.take k) (o.take k):=
 d.ind (P:=λz o=>∀(k:aa),bq ρ fz (z.take k) (o.take k)) (λk=>k.casesOn .nil λ_=>.nil) λa _ i k=>k.casesOn .nil λk=>.cons a (i k)
theorem bq.reverse(d:bq ρ fz z o):bq ρ fz z.reverse o.reverse:=
 d.ind (P:=λz o=>bq ρ fz z.reverse o.reverse) .nil λa _ i=>adw.symm▸adw.symm▸i.append (.cons a .nil)
noncomputable def PE(ρ:Mk)(fz:Fz)(v:aD):T->Prop
 |.none=>v=.none
 |.bool b=>v=.bool b
 |.int i=>∃w,v=.int i w
 |.str l=>∃w,v=.str ⟨l.toArray⟩ w
 |.atom=>v=.ref ρ.star
 |.bY u=>v=u
 |.list o=>∃a z g,fz a=U (lo z g)/\bq ρ fz z o/\v=.ref a
 |.tup o=>∃a z g,fz a=U (r9 z g)/\bq ρ fz z o/\v=.ref a
theorem Den.inv(d:Den ρ fz v w):PE ρ fz v w:=by
 cases d with
 |none=>rfl
 |bool=>rfl
 |int i w=>exact⟨w,J⟩
 |str l w=>exact⟨w,J⟩
 |atom=>rfl
 |bY=>rfl
 |list e d=>exact Aa _ _ _ e d J
 |tup e d=>exact Aa _ _ _ e d J
section
variable{P:aD->Prop}
theorem Den.pQ(d:Den ρ fz v .none)(h:P .none):P v:=d.inv.symm▸h
theorem Den.tD(d:Den ρ fz v (.bool b))(h:P (.bool b)):P v:=d.inv.symm▸h
theorem Den.gG(d:Den ρ fz v (.int i))(h:∀w,P (.int i w)):P v:=bC d.inv λw e=>e.symm▸h w
theorem Den.i5(d:Den ρ fz v (.str l))(h:∀w,P (.str ⟨l.toArray⟩ w)):P v:=bC d.inv λw e=>e.symm▸h w
theorem Den.zA(d:Den ρ fz v .atom)(h:P (.ref ρ.star)):P v:=d.inv.symm▸h
theorem Den.LU(d:Den ρ fz v (.bY u))(h:P u):P v:=d.inv.symm▸h
theorem Den.listE(d:Den ρ fz v (.list o))(h:∀a z g,fz a=U (lo z g)->bq ρ fz z o->P (.ref a)):P v:=jb d.inv λa z g e d q=>q.symm▸h a z g e d
theorem Den.Fj(d:Den ρ fz v (.tup o))(h:∀a z g,fz a=U (r9 z g)->bq ρ fz z o->P (.ref a)):P v:=jb d.inv λa z g e d q=>q.symm▸h a z g e d
end
theorem bq.jS(d:bq ρ fz z [a]):∃t,z=[t]/\Den ρ fz t a:=
 d.ju (P:=λz=>∃t,z=[t]/\Den ρ fz t a) λv A d b=>b.jg (P:=λA=>∃t,v::A=[t]/\Den ρ fz t a) (aR v J d)
theorem bq.Bs(d:bq ρ fz z [a,b]):∃t g,z=[t,g]/\Den ρ fz t a/\Den ρ fz g b:=
 d.ju (P:=λz=>∃t g,z=[t,g]/\Den ρ fz t a/\Den ρ fz g b) λv A d h=>aA h.jS λu e P=>g8 v u (aL _ e) d P
theorem pS{T:Type}{x O:T}(h:(if c=ae then U x else af)=U O):c=ae/\x=O:=by
 cases c with
 |true=>exact⟨J,bg h⟩
 |false=>exact aU J h
theorem bq.one(d:Den ρ fz v w):bq ρ fz [v] [w]:=.cons d .nil
end
inductive AV(O:Type)where
 |un
 |t(x:T)
 |own(l:Y T)
 |obj(o:O)
 |fN(l:Y T)
 |jf
structure OB(O:Type)where
 at_:O->aD->cu->Y ay->Prop
 live:∀{o v h fp},at_ o v h fp->∀b∈fp,(h.get? b).isSome=ae
structure HB where
 b:Fz
 it:Y ay
 f0:Fz
 lk:Y (aa×aD)
noncomputable def bG(h T:cu):Prop:=∀b o,h.get? b=U o->T.get? b=U o
theorem bG.refl(h:cu):bG h h:=λ_ _ e=>e
theorem bG.trans(x:bG a b)(O:bG b c):bG a c:=λd o e=>O d o (x d o e)
theorem bG.push(h:cu)(o:bN):bG h (h.push o):=λ_ _ e=>eg _ e
structure br(O:Type)where
 ob:OB O
 ok:cu->Prop
 bO:cu
 base:∀{h},bG bO h->ok h
 frame:∀{o v h h' fp},ob.at_ o v h fp->bG bO h'->(∀b∈fp,∀x,h.get? b=U x->h'.get? b=U x)->ob.at_ o v h' fp
 tabs:Y ay
 inv:Fz->cu->Prop
 live:∀{f h},inv f h->∀P∈tabs,(h.get? P).isSome=ae
 tN:∀{f f' h h'},inv f h->zo f f'->(∀P∈tabs,∀o,h.get? P=U o->h'.get? P=U o)->inv f' h'
theorem br.vp{H:br q}{X j:Fz}{h T:cu}(l:Le X j)(i:H.inv X h)(k:∀P∈H.tabs,∀o,h.get? P=U o->T.get? P=U o):H.inv j T:=H.tN i (λb o _ _ e=>l b o e) k
theorem br.gO{B:br q}{X:Fz}{h T:cu}(i:B.inv X h)(k:∀P∈B.tabs,∀o,h.get? P=U o->T.get? P=U o):B.inv X T:=B.vp (Le.refl X) i k
noncomputable def kL(H:br q)(h T:cu):Prop:=∀b,b∉H.tabs->∀o,h.get? b=U o->T.get? b=U o
theorem bG.t{h T:cu}(x:bG h T):kL H h T:=λb _ o e=>x b o e
theorem kL.trans(x:kL H a b)(O:kL H b c):kL H a c:=λd E o e=>O d E o (x d E o e)
theorem kL.refl(h:cu):kL H h h:=λ_ _ _ e=>e
noncomputable abbrev pA(a:ay):bN:={cls:=.type "builtin_function_or_method",data:=.fields #[.builtin "list.append",.ref a]}
inductive PS(ρ:Mk)(fz:Fz)(x:T)(ov:aY aD)(fp:Y ay):Prop
 |mk(e:fp=[])(v:aD)(ev:ov=U v)(d:Den ρ fz v x)
inductive PM(ρ:Mk)(fz:Fz)(h:cu)(l:Y T)(ov:aY aD)(fp:Y ay):Prop
 |mk(a:ay)(vs:Y aD)(n:aa)(ev:ov=U (.ref a))(ha:h.get? a=U (lo vs n))(d:bq ρ fz vs l)(e:fp=[a])
inductive PR(ob:OB O)(h:cu)(o:O)(ov:aY aD)(fp:Y ay):Prop
 |mk(v:aD)(ev:ov=U v)(hv:ob.at_ o v h fp)
inductive PN(ρ:Mk)(fz:Fz)(h:cu)(l:Y T)(ov:aY aD)(fp:Y ay):Prop
 |mk(vs:Y aD)(n:aa)(ev:ov=U (.ref ρ.mark))(ha:h.get? ρ.mark=U (lo vs n))(d:bq ρ fz vs l)(e:fp=[ρ.mark])
inductive PL(a:ay)(h:cu)(ov:aY aD)(fp:Y ay):Prop
 |mk(b:ay)(ev:ov=U (.ref b))(ha:h.get? b=U (pA a))(e:fp=[b])
noncomputable def Holds(H:br q)(X:Mk)(f:Fz)(h:cu):AV q->aY aD->Y ay->Prop
 |.un,_,p=>p=[]
 |.t x,F,p=>PS X f x F p
 |.own l,F,p=>PM X f h l F p
 |.obj o,F,p=>PR H.ob h o F p
 |.fN l,F,p=>PN X f h l F p
 |.jf,F,p=>PL X.mark h F p
theorem Holds.live(x:Holds H X f h y F p):∀b∈p,(h.get? b).isSome=ae:=by
 cases y with
 |un=>intro b t;cases x;exact bE t dP
 |t _=>obtain⟨rfl,_⟩:=x;intro b t;exact bE t dP
 |own e=>
  obtain⟨a,z,g,_,Q,_,rfl⟩:=x;intro b t;cases cD.mp t;rw [Q];rfl
 |obj o=>obtain⟨v,_,l⟩:=x;exact H.ob.live l
 |fN e=>
  obtain⟨z,g,_,Q,_,rfl⟩:=x;intro b t;cases cD.mp t;rw [Q];rfl
 |jf=>
  obtain⟨a,_,Q,rfl⟩:=x;intro b t;cases cD.mp t;rw [Q];rfl
theorem Holds.mono{X e T}(x:Holds H X f e y F h)(p:Le f j)(t:bG H.bO T)(l:∀b∈h,∀x,e.get? b=U x->T.get? b=U x):
  Holds H X j T y F h:=by
 cases y with
 |un=>exact x
 |t _=>obtain⟨n,v,s,d⟩:=x;exact⟨n,v,s,d.mono p⟩
 |own k=>
  obtain⟨a,z,g,s,Q,d,rfl⟩:=x;exact⟨a,z,g,s,l a (.head _) _ Q,d.mono p,J⟩
 |obj o=>obtain⟨v,s,i⟩:=x;exact⟨v,s,H.frame i t l⟩
 |fN k=>
  obtain⟨z,g,s,Q,d,rfl⟩:=x;exact⟨z,g,s,l _ (.head _) _ Q,d.mono p,J⟩
 |jf=>
  obtain⟨a,s,Q,rfl⟩:=x;exact⟨a,s,l a (.head _) _ Q,J⟩
noncomputable def eA(B:cG)(E:ai->aY aD)(h:cu)(x:ai)(F:aY aD):Prop:=
 (B.kindOf x=U .local/\F=E x)\/
 ((B.kindOf x=U .cell\/(B.kindOf x=U .free/\(x==("__classdict__":ai))=ak))/\∃c,B.cells.lookup x=U c/\h.IsCell c F)
inductive Ho(B:br O)(ρ:Mk)(fz:Fz)(h:cu)(env:cG)(m:ai->aY aD)(x:ai)(av:AV O)(fp:Y ay):Prop
 |mk(ov:aY aD)(a:eA env m h x ov)(hh:Holds B ρ fz h av ov fp)
structure gb(env:cG):Prop where
 kind:env.scope.kind=.function
 globals:env.globals=mainGlobals
 builtins:env.builtins=builtinsNs
structure aQ(B:br O)(ρ:Mk)(hB:HB)(fz:Fz)(env:cG)(xs:Y ai)(k:aa)(lv:Y (AV O))(m:ai->aY aD)(dY:aa->Y ay)(h:cu):Prop where
 len:lv.length=xs.length
 base:bG B.bO h
 kept:∀b o,hB.b b=U o->h.get? b=U o
 bI:∀b o,fz b=U o->h.get? b=U o
 ns:h.Ns env.locals m
 nL:hB.b env.locals=af/\fz env.locals=af
 fT:∀b o,B.bO.get? b=U o->hB.b b=U o
 vars:∀(i:aa)(x:ai)(av:AV O),xs[i]?=U x->lv[i]?=U av->Ho B ρ fz h env m x av (dY i)
 own:∀(i:aa)(x:ai)(c:ay),i<k->xs[i]?=U x->env.kindOf x≠U .local->env.cells.lookup x=U c->hB.b c=af
 jt:∀(i:aa)(x:ai)(c:ay),k<=i->xs[i]?=U x->env.cells.lookup x=U c->env.kindOf x≠U .local->∃o,hB.b c=U o
 cell:∀(i:aa)(x:ai)(c:ay),xs[i]?=U x->env.kindOf x≠U .local->env.cells.lookup x=U c->c≠env.locals/\fz c=af
 qf:∀(i:aa)(x:ai),k<=i->xs[i]?=U x->env.kindOf x≠U .local
 inj:∀(i j:aa)(x y:ai)(c:ay),xs[i]?=U x->xs[j]?=U y->env.kindOf x≠U .local->env.kindOf y≠U .local->env.cells.lookup x=U c->env.cells.lookup y=U c->i=j
 nodup:∀(i j:aa)(x:ai),xs[i]?=U x->xs[j]?=U x->i=j
 fp:∀(i:aa),i<xs.length->∀b∈dY i,hB.b b=af/\fz b=af/\b≠env.locals/\∀(j:aa)(x:ai),xs[j]?=U x->env.kindOf x≠U .local->env.cells.lookup x≠U b
 inv:B.inv fz h
 tab:∀P∈B.tabs,hB.b P=af/\fz P=af/\P≠env.locals/\(∀(j:aa)(x:ai),xs[j]?=U x->env.kindOf x≠U .local->env.cells.lookup x≠U P)/\∀i,i<xs.length->P∉dY i
 c3:∀b∈hB.it,(hB.b b).isSome=ae/\fz b=af/\(∀(j:aa)(x:ai),xs[j]?=U x->env.kindOf x≠U .local->env.cells.lookup x≠U b)/\B.bO.get? b=af
 new:∀b o,fz b=U o->hB.f0 b=U o\/hB.b b=af
 lock:∀p∈hB.lk,∀x,xs[p.1]?=U x->eA env m h x (U p.2)
 apart:∀(i j:aa),i<xs.length->j<xs.length->i≠j->∀b∈dY i,b∉dY j
inductive SR(B:br O)(ρ:Mk)(hB:HB)(fz:Fz)(env:cG)(xs:Y ai)(k:aa)(lv:Y (AV O))(h:cu):Prop
 |mk(eo:gb env)(m:ai->aY aD)(dY:aa->Y ay)(S:aQ B ρ hB fz env xs k lv m dY h)
section
variable{B:br O}{ρ:Mk}{hB:HB}{fz:Fz}{env:cG}{xs:Y ai}{k:aa}{lv:Y (AV O)}{m:ai->aY aD}{h h':cu}
theorem eA.keep(a:eA env m h x F)(l:∀c,env.kindOf x≠U .local->env.cells.lookup x=U c->∀o,h.get? c=U o->h'.get? c=U o):eA env m h' x F:=by
 rcases a with a|⟨v,c,H,B,P,E⟩
 .exact .inl a
 .refine .inr ⟨v,c,H,B,l c (λq=>?_) H _ P,E⟩;rw [q]at v;rcases v with v|⟨v,_⟩<;>exact nc lA (bg v) J
theorem Ed(g:h.Ns a m)(l:∀o,h.get? a=U o->h'.get? a=U o):h'.Ns a m:=iL g λo A H L r=>kq o A H (l o L) r
theorem AL(g:h.Ns a m):(h.get? a).isSome=ae:=iL g λy y y L y=>L▸J
theorem aQ.ji(S:aQ B ρ hB fz env xs k lv m R h)(e:hB.b b=U o):b∉B.tabs:=λq=>aU ((S.tab b q).1) e
theorem aQ.mT(S:aQ B ρ hB fz env xs k lv m R h)(e:fz b=U o):b∉B.tabs:=λq=>aU ((S.tab b q).2.1) e
theorem aQ.fresh(S:aQ B ρ hB fz env xs k lv m R h)(t:h.get? b=af):
  hB.b b=af/\fz b=af/\b≠env.locals/\(∀(u:aa)(x:ai),xs[u]?=U x->env.kindOf x≠U .local->env.cells.lookup x≠U b)/\(∀u,u<xs.length->b∉R u)/\b∉B.tabs:=by
 refine xF ?_ ?_ ?_ (λu O s a v=>?_) (λu d z=>?_) (λz=>?_)
 .cases e:hB.b b with
  |none=>rfl
  |some o=>have:=S.kept b o e;exact aU t this
 .cases e:fz b with
  |none=>rfl
  |some o=>have:=S.bI b o e;exact aU t this
 .rintro rfl;have:=AL S.ns;rw [t]at this;exact cW J this
 .have d:u<lv.length:=by rw [S.len];exact(ck.mp s).1
  obtain⟨F,Q,_⟩:=S.vars u O _ s (cP d);rcases Q with⟨e,_⟩|⟨_,l,H,n,P,_⟩
  .exact a e
  .rw [v]at H;obtain rfl:=bg H;exact aU t P
 .have i:u<lv.length:=by rw [S.len];exact d
  refine cps λ_ r=>?_;obtain⟨F,_,g⟩:=S.vars u _ _ (cP d) (cP i);refine r ?_;have:=g.live b z;rw [t]at this;exact cW J this
 .have:=B.live S.inv b z;rw [t]at this;exact cW J this
theorem aQ.grow(S:aQ B ρ hB fz env xs k lv m R h)(l:kL B h h')(A:B.inv jx h')(z:Le fz jx)(a:∀b o,jx b=U o->fz b=U o\/h.get? b=af/\h'.get? b=U o):
  aQ B ρ hB jx env xs k lv m R h':=by
 have r:∀b,fz b=af->(h.get? b).isSome=ae->jx b=af:=λb E w=>by
  cases e:jx b with
  |none=>rfl
  |some o=>
   rcases a b o e with f|⟨f,_⟩
   .exact aU E f
   .rw [f]at w;exact cW J w
 have u:bG B.bO h':=λb o e=>l b (S.ji (S.fT b o e)) o (S.base b o e);refine{S with base:=u,kept:=λb o e=>l _ (S.ji e) _ (S.kept b o e),bI:=λb o e=>?_,ns:=?_,nL:=⟨S.nL.1,?_⟩,vars:=λi x y j d=>?_,cell:=λi x c j n v=>?_,fp:=λi A b t=>?_,inv:=A,tab:=λP G=>?_,c3:=λb t=>?_,new:=λb o e=>?_,lock:=λp O x j=>(S.lock p O x j).keep λc s v o e=>l c (λq=>(S.tab c q).2.2.2.1 p.1 x j s v) o e}
 .rcases a b o e with f|⟨_,f⟩
  .exact l _ (S.mT f) _ (S.bI b o f)
  .exact f
 .exact Ed S.ns (l _ (λq=>(S.tab _ q).2.2.1 J))
 .exact r _ S.nL.2 (AL S.ns)
 .obtain⟨F,Q,g⟩:=S.vars i x y j d;exact⟨F,Q.keep λc s v o e=>l c (λq=>(S.tab c q).2.2.2.1 i x j s v) o e,g.mono z u λb t o e=>l b (λq=>(S.tab b q).2.2.2.2 i (ck.mp j).1 t) o e⟩
 .have:=S.cell i x c j n v;refine⟨this.1,r _ this.2 ?_⟩;have A:i<lv.length:=by rw [S.len];exact(ck.mp j).1
  obtain⟨F,Q,_⟩:=S.vars i x _ j (cP A);rcases Q with⟨e,_⟩|⟨_,T,H,aj,X,_⟩
  .exact bE e n
  .rw [v]at H;obtain rfl:=bg H;exact dc X
 .have:=S.fp i A b t;refine c_ this.1 (r _ this.2.1 ?_) this.2.2;obtain⟨F,_,g⟩:=S.vars i _ _ (cP A) (cP (by rw [S.len];exact A));exact g.live b t
 .have:=S.tab P G;exact c_ this.1 (r _ this.2.1 (B.live S.inv P G)) this.2.2
 .have:=S.c3 b t;refine c_ this.1 (r _ this.2.1 ?_) this.2.2;obtain⟨o,L⟩:=fc.mp this.1;exact dc (S.kept b o L)
 .rcases a b o e with q|⟨q,_⟩
  .exact S.new b o q
  .exact .inr (S.fresh q).1
theorem aQ.vh(S:aQ B ρ hB fz env xs k lv m R h)(l:bG h h')(p:Le fz j)(c:∀b o,j b=U o->fz b=U o\/h.get? b=af/\h'.get? b=U o):
  aQ B ρ hB j env xs k lv m R h':=S.grow l.t (br.vp ‹_› S.inv λP _ o e=>l P o e) p c
end
theorem dH{T:Type}{l:Y T}{a:T}(i:aa)(h:l[i]?=U a):a∈l:=cL h
theorem eu{T:Type}{P:T->Prop}:∀b∈[],P b:=λ_ h=>nomatch h
theorem bL{T:Type}{P:T->Prop}{a:T}{l:Y T}(h:P a)(w:∀b∈l,P b):∀b∈a::l,P b:=λb t=>(cQ.mp t).elim (λe=>e▸h) (w b)
noncomputable def kT(X:Fz)(a:ay)(o:bN):Fz:=λb=>if b=a then U o else X b
section
theorem qm:kT X a o a=U o:=bx J
theorem qo(h:b≠a)(e:X b=af):kT X a o b=af:=(bA h).trans e
theorem tI(h:b≠a)(e:X b=U x):kT X a o b=U x:=(bA h).trans e
theorem eP{X:ay->aY bN}(h:X a=af)(e:X b=U x):b≠a:=λq=>aU h (q▸e)
theorem xx(h:X a=af):Le X (kT X a o):=λ_ _ e=>tI (eP h e) e
theorem qn{P:Prop}(e:kT X a o b=U x)(R:b=a->o=x->P)(w:X b=U x->P):P:=
 (uA _).elim (λq=>R q (bg ((bx q).symm.trans e))) λq=>w ((bA q).symm.trans e)
noncomputable def tJ(w:Y ay)(a:ay)(h:cu):Fz:=λb=>if b∈w\/b=a then af else h.get? b
theorem tK(e:h.get? b=U o)(R:b∉w)(a:b≠i):tJ w i h b=U o:=(bA (λq=>q.elim R a)).trans e
theorem Ju(e:tJ w a h b=U o):h.get? b=U o:=
 (uA _).elim (λq=>aU (bx q) e) λq=>(bA q).symm.trans e
theorem Uv(e:h.get? b=af):tJ w a h b=af:=by
 cases q:tJ w a h b with
 |none=>rfl
 |some o=>exact aU e (Ju q)
theorem Uw(q:b∈w):tJ w a h b=af:=bx (.inl q)
theorem Uu:tJ w a h a=af:=bx (.inr J)
theorem iO{o:aY bN}(h:∀x,o=U x->False):o=af:=by
 cases o with
 |none=>rfl
 |some x=>exact(h x J).elim
end
end
noncomputable def bS(s O:aT):Prop:=∃h m,(O,AllBare O.gens)=({s with heap:=h,toks:=m,gens:=O.gens},AllBare s.gens)
theorem bS.refl(s:aT):bS s s:=b_ s.heap s.toks J
theorem bS.trans(x:bS a b)(O:bS b c):bS a c:=
 gD x λh w e=>gD O λT L f=>b_ T L (B0 ((l_ f).1.trans (aL (λs:aT=>{s with heap:=T,toks:=L,gens:=c.gens}) (l_ e).1)) ((l_ f).2.trans (l_ e).2))
theorem bS.of(e:O={s with heap:=h,toks:=w}):bS s O:=by subst e;exact b_ h w J
noncomputable def bT(X:aa->Y ay)(i:aa)(l:Y ay):aa->Y ay:=λu=>if u=i then l else X u
section
theorem IsCell.ext(v:h.IsCell c F)(r:gI a h h')(d:c≠a):h'.IsCell c F:=aA v λo L E=>aR o ((r.2 c d).trans L) E
theorem aQ.JJ(S:aQ H X L f B n k m E R h)(Q:a∉H.tabs)(r:gI a h h'):H.inv f h':=
 br.gO S.inv λP G o e=>(r.2 P (λq=>Q (q▸G))).trans e
structure ng(B:br O)(hB:HB)(fz:Fz)(env:cG)(xs:Y ai)(dY:aa->Y ay)(i:aa)(fp:Y ay):Prop where
 a:∀b∈fp,hB.b b=af/\fz b=af/\b≠env.locals/\∀(j:aa)(x:ai),xs[j]?=U x->env.kindOf x≠U .local->env.cells.lookup x≠U b
 b:∀j,j≠i->j<xs.length->∀b∈fp,b∉dY j
 c:∀P∈B.tabs,P∉fp
theorem ng.nil:ng H L f B n R i []:=⟨λy h=>bE h dP,λy y y y h=>bE h dP,λy y h=>bE h dP⟩
theorem aQ.A0(S:aQ H X L f env m az aO E R h){fp:Y ay}(aM:L.lk=[])(T:m[i]?=U x)(aj:env.kindOf x=U .local)
  (ao:h'.Ns env.locals (λO=>if O=x then U n else E O))(r:gI env.locals h h')(aH:Holds H X f h av (U n) fp)(z:ng H L f env m R i fp):
  aQ H X L f env m az (aO.set i av) (λO=>if O=x then U n else E O) (bT R i fp) h':=by
 have p:∀{g:Fz}{b o},g env.locals=af->g b=U o->b≠env.locals:=λF aq e=>aU ((aL _ e).trans F) aq;have j:=λb o e=>(r.2 b (p S.nL.1 (S.fT b o e))).trans (S.base b o e)
 refine{S with len:=by simp [S.len],base:=j,kept:=λb o e=>(r.2 b (p S.nL.1 e)).trans (S.kept b o e),bI:=λb o e=>(r.2 b (p S.nL.2 e)).trans (S.bI b o e),ns:=ao,lock:=(by rw [aM];intro aS aG;cases aG),vars:=λu O au s w=>?_,fp:=λu d b t=>?_,inv:=S.JJ (λq=>(S.tab _ q).2.2.1 J) r,tab:=λP G=>kW ((S.tab P G).1) ((S.tab P G).2.1) ((S.tab P G).2.2.1) ((S.tab P G).2.2.2.1) (λu d t=>by
   by_cases k:u=i
   .subst k
    rw [show bT R u fp u=fp from bx J]at t
    exact z.c P G t
   .rw [show bT R i fp u=R u from bA ‹_›]at t
    exact(S.tab P G).2.2.2.2 u d t),apart:=λa b Q t A c v=>?_}
 .by_cases k:u=i
  .subst k;rw [T]at s;obtain rfl:=bg s;have d:=by
    have:=(ck.mp w).1;simpa using this
   obtain rfl:=bg ((iF d)▸w);refine⟨U n,.inl ⟨aj,by simp⟩,?_⟩;simp only [show bT R u fp u=fp from bx J];exact aH.mono (Le.refl _) j λb t o e=>(r.2 b (z.a b t).2.2.1).trans e
  .rw [iV (iZ k)]at w;refine cps λaW aK=>?_;obtain⟨aB,Q,aN⟩:=S.vars u O au s w;have aI:O≠x:=λe=>k (S.nodup u i x (e▸s) T);refine aK ?_;refine⟨aB,?_,?_⟩
   .rcases Q with⟨e,q⟩|⟨v,c,B,aP⟩
    .exact .inl ⟨e,by simp [aI,q]⟩
    .refine .inr ⟨v,c,B,IsCell.ext aP r (S.cell u O c s (λq=>by rw [q]at v;rcases v with v|⟨v,_⟩<;>exact nc lA (bg v) J) B).1⟩
   .exact(show bT R i fp u=R u from bA ‹_›)▸aN.mono (Le.refl _) j λb t o e=>(r.2 b ((λu d b t=>(S.fp u d b t).2.2.1) u (ck.mp s).1 b t)).trans e
 .by_cases k:u=i
  .subst k;rw [show bT R u fp u=fp from bx J]at t;exact z.a b t
  .rw [show bT R i fp u=R u from bA ‹_›]at t;exact S.fp u d b t
 .by_cases y:a=i<;>by_cases l:b=i
  .exact bE (y.trans l.symm) A
  .subst y;have v:=((by simp [bT]:bT R a fp a=fp))▸v;exact((by simp [bT,l]:bT R a fp b=R b))▸z.b b l t c v
  .subst l;rw [(by simp [bT,y]:bT R b fp a=R a)]at v;rw [(by simp [bT]:bT R b fp b=fp)];exactλq=>z.b a y Q c q v
  .rw [show bT R i fp a=R a from by simp [bT,y]]at v;exact(show bT R i fp b=R b from by simp [bT,l])▸(S.apart a b Q t A c v)
theorem aQ.Md(S:aQ H X L p B f aj aH aX R F){fp:Y ay}(aN:L.lk=[])(j:f[i]?=U x)(aM:i<aj)(T:B.kindOf x=U .cell)(v:B.cells.lookup x=U c)
  (aS:ao.IsCell c (U aB))(r:gI c F ao)(aW:Holds H X p F a_ (U aB) fp)(z:ng H L p B f R i fp):
  aQ H X L p B f aj (aH.set i a_) aX (bT R i fp) ao:=by
 have m:B.kindOf x≠U .local:=by rw [T];decide
 have au:=S.own i x c aM j m v;refine bM (S.cell i x c j m v) λbf aO=>?_;have A:∀{aG:Fz}{b o},aG c=af->aG b=U o->b≠c:=λaI aK e=>aU ((aL _ e).trans aI) aK;have E:=λb o e=>(r.2 b (A au (S.fT b o e))).trans (S.base b o e);have aP:∀u,u<f.length->∀b∈R u,b≠c:=λu d b t e=>(S.fp u d b t).2.2.2 i x j m (e▸v)
 refine{S with len:=by simp [S.len],base:=E,kept:=λb o e=>(r.2 b (A au e)).trans (S.kept b o e),bI:=λb o e=>(r.2 b (A aO e)).trans (S.bI b o e),ns:=S.ns.sameBut r (iZ bf),lock:=(by rw [aN];intro bK bu;cases bu),vars:=λu O bF l w=>?_,fp:=λu d b t=>?_,inv:=S.JJ (λq=>(S.tab _ q).2.2.2.1 i x j m v) r,tab:=λP G=>kW ((S.tab P G).1) ((S.tab P G).2.1) ((S.tab P G).2.2.1) ((S.tab P G).2.2.2.1) (λu d t=>by
   by_cases k:u=i
   .subst k
    rw [show bT R u fp u=fp from bx J]at t
    exact z.c P G t
   .rw [show bT R i fp u=R u from bA ‹_›]at t
    exact(S.tab P G).2.2.2.2 u d t),apart:=λa b Q t aq n g=>?_}
 .by_cases k:u=i
  .subst k;rw [j]at l;obtain rfl:=bg l;have d:=by
    have:=(ck.mp w).1;simpa using this
   obtain rfl:=bg ((iF d)▸w);refine⟨U aB,.inr ⟨.inl T,c,v,aS⟩,?_⟩;simp only [show bT R u fp u=fp from bx J];exact aW.mono (Le.refl _) E λb t o e=>(r.2 b (λq=>(z.a b t).2.2.2 u x j m (q▸v))).trans e
  .rw [iV (iZ k)]at w;obtain⟨bh,Q,bj⟩:=S.vars u O bF l w;refine⟨bh,?_,?_⟩
   .rcases Q with⟨e,q⟩|⟨h,n,az,bB⟩
    .exact .inl ⟨e,q⟩
    .have bw:B.kindOf O≠U .local:=λq=>by rw [q]at h;rcases h with h|⟨h,_⟩<;>exact nc lA (bg h) J
     refine .inr ⟨h,n,az,IsCell.ext bB r λe=>k (S.inj u i O x c l j bw m (e▸az) v)⟩
   .exact(show bT R i fp u=R u from bA ‹_›)▸bj.mono (Le.refl _) E λb t o e=>(r.2 b (aP u (ck.mp l).1 b t)).trans e
 .by_cases k:u=i
  .subst k;rw [show bT R u fp u=fp from bx J]at t;exact z.a b t
  .rw [show bT R i fp u=R u from bA ‹_›]at t;exact S.fp u d b t
 .by_cases y:a=i<;>by_cases s:b=i
  .exact bE (y.trans s.symm) aq
  .subst y;rw [(by simp [bT]:bT R a fp a=fp)]at g;exact((by simp [bT,s]:bT R a fp b=R b))▸z.b b s t n g
  .subst s;rw [(by simp [bT,y]:bT R b fp a=R a)]at g;rw [(by simp [bT]:bT R b fp b=fp)];exactλq=>z.b a y Q n q g
  .rw [show bT R i fp a=R a from by simp [bT,y]]at g;exact(show bT R i fp b=R b from by simp [bT,s])▸(S.apart a b Q t aq n g)
theorem aQ.M0(S:aQ H ao aj f env m aG aI E R h){fp:Y ay}(j:m[i]?=U aH)
  (hs:∀b,b∉R i->∀o,h.get? b=U o->h'.get? b=U o)(au:eA env E h aH ov)(aK:Holds H ao f h' aP ov fp)
  (z:∀b∈fp,b∈R i\/h.get? b=af):
  aQ H ao aj f env m aG (aI.set i aP) E (bT R i fp) h':=by
 have r:=(ck.mp j).1;have F:=S.fp i r;have B:∀{X:Fz}{b o},(∀b∈R i,X b=af)->X b=U o->b∉R i:=λaN aO e=>aU (aN _ e) aO;have p:=λ{b o}(e:aj.b b=U o)=>B (λb t=>(F b t).1) e;have aq:bG H.bO h':=λb o e=>hs b (p (S.fT b o e)) o (S.base b o e);have v:∀{u O ov},m[u]?=U O->eA env E h O ov->eA env E h' O ov:=λ{u O ov}s Q=>by
  rcases Q with⟨e,q⟩|⟨x,l,T,o,L,aM⟩
  .exact .inl ⟨e,q⟩
  .exact .inr ⟨x,l,T,o,hs l (λq=>(F l q).2.2.2 u O s (λq=>by rw [q]at x;rcases x with x|⟨x,_⟩<;>exact nc lA (bg x) J) T) o L,aM⟩
 have c:=λb(t:h.get? b=af)=>S.fresh t
 refine{S with len:=by simp [S.len],base:=aq,kept:=λb o e=>hs b (p e) o (S.kept b o e),bI:=λb o e=>hs b ((λ{b o}(e:f b=U o)=>B (λb t=>(F b t).2.1) e) e) o (S.bI b o e),lock:=λbh az O s=>v s (S.lock bh az O s),ns:=?_,vars:=λu O aB s w=>?_,fp:=λu d b t=>?_,inv:=br.gO S.inv λP G o e=>hs P ((S.tab P G).2.2.2.2 i r) o e,tab:=λP G=>kW ((S.tab P G).1) ((S.tab P G).2.1) ((S.tab P G).2.2.1) ((S.tab P G).2.2.2.1) (λu d t=>by
   by_cases k:u=i
   .subst k
    rw [show bT R u fp u=fp from bx J]at t
    rcases z P t with q|q
    .exact(S.tab P G).2.2.2.2 u d q
    .exact(c P q).2.2.2.2.2 G
   .rw [show bT R i fp u=R u from bA ‹_›]at t
    exact(S.tab P G).2.2.2.2 u d t),apart:=λa b Q t A l g=>?_}
 .exact iL S.ns λo aS aW L aX=>kq o aS aW (hs _ (λq=>(F _ q).2.2.1 J) o L) aX
 .by_cases k:u=i
  .subst k;rw [j]at s;obtain rfl:=bg s;have d:=by
    have:=(ck.mp w).1;simpa using this
   rw [iF d]at w;obtain rfl:=bg w;simp only [show bT R u fp u=fp from bx J];exact⟨ov,v j au,aK⟩
  .rw [iV (iZ k)]at w;obtain⟨a_,Q,bf⟩:=S.vars u O aB s w;exact(show bT R i fp u=R u from bA ‹_›)▸(⟨a_,v s Q,bf.mono (Le.refl _) aq λb t o e=>hs b (S.apart u i ((ck.mp s).1) r k b t) o e⟩)
 .by_cases k:u=i
  .subst k;rw [show bT R u fp u=fp from bx J]at t;rcases z b t with q|q
   .exact F b q
   .have:=c b q;exact kU this.1 this.2.1 this.2.2.1 this.2.2.2.1
  .rw [show bT R i fp u=R u from bA ‹_›]at t;exact S.fp u d b t
 .by_cases y:a=i<;>by_cases n:b=i
  .exact bE (y.trans n.symm) A
  .subst y;have g:=(show bT R a fp a=fp from bx J)▸g;refine(show bT R a fp b=R b from bA ‹_›)▸?_;rcases z l g with q|q
   .exact S.apart a b Q t A l q
   .exact(c l q).2.2.2.2.1 b t
  .subst n;rw [show bT R b fp a=R a from bA ‹_›]at g;rw [show bT R b fp b=fp from bx J];intro q;rcases z l q with q|q
   .exact S.apart a b Q t A l g q
   .exact(c l q).2.2.2.2.1 a Q g
  .rw [show bT R i fp a=R a from by simp [bT,y]]at g;exact(show bT R i fp b=R b from by simp [bT,n])▸(S.apart a b Q t A l g)
theorem aQ.freeze(S:aQ aM az aH f au v aN p L R c){i:aa}{q:Y T}(B:p[i]?=U (.own q)):
  ∃j,Le f j/\(∃a z g x,v[i]?=U x/\eA au L c x (U (.ref a))/\j a=U (lo z g)/\bq az j z q/\f a=af/\R i=[a]/\j=λb=>if b=a then U (lo z g)else f b)/\
   aQ aM az aH j au v aN (p.set i (.t (.list q))) L (bT R i []) c:=by
 have E:=(ck.mp B).1;have A:=by exact(S.len)▸(E)
 obtain⟨bh,Q,a,z,g,rfl,aK,aj,n⟩:=S.vars i _ _ (cP A) B;have F:=S.fp i A a (by exact(n)▸(.head _));have h:Le f (λb=>if b=a then U (lo z g)else f b):=λb o e=>by
  by_cases t:b=a
  .subst t;exact aU F.2.1 e
  .simp [t,e]
 refine i12 _ h (UN a z g _ (cP A) Q (bx J) (aj.mono h) F.2.1 n J) ?_;have r:∀b,b≠a->f b=af->(if b=a then U (lo z g)else f b)=af:=λb aI aB=>by simp [aI,aB]
 refine{S with len:=by simp [S.len],inv:=br.vp h S.inv (λP y o e=>e),bI:=λb o e=>?_,nL:=⟨S.nL.1,r _ (iZ F.2.2.1) S.nL.2⟩,vars:=λu O aG s w=>?_,cell:=λu O X s aq H=>?_,fp:=λu d b t=>?_,new:=λb o e=>(by
   by_cases ao:b=a
   .exact ao▸.inr F.1
   .simp only [ao]at e;exact S.new b o e),c3:=λb t=>c_ ((S.c3 b t).1) (r b (λe=>by have:=(S.c3 b t).1;rw [e,F.1]at this;exact cW J this) (S.c3 b t).2.1) ((S.c3 b t).2.2),tab:=λP G=>kW ((S.tab P G).1) (r P (λe=>(S.tab P G).2.2.2.2 i A (by exact(n)▸(e)▸(.head _))) (S.tab P G).2.1) ((S.tab P G).2.2.1) ((S.tab P G).2.2.2.1) (λu d t=>by
   by_cases k:u=i
   .subst k;rw [show bT R u [] u=[]from bx J]at t;exact nomatch t
   .rw [show bT R i [] u=R u from bA ‹_›]at t
    exact(S.tab P G).2.2.2.2 u d t),apart:=λx b aO t aP aS l=>?_}
 .by_cases t:b=a
  .subst t;simp at e;subst e;exact aK
  .simp only [t]at e;exact S.bI b o e
 .by_cases k:u=i
  .subst k;rw [iF E]at w;obtain rfl:=bg w;rw [cP A]at s;obtain rfl:=bg s;refine⟨_,Q,?_⟩;simp only [show bT R u [] u=[]from bx J];exact⟨J,_,J,Den.list (bx J) (aj.mono h)⟩
  .rw [iV (iZ k)]at w;obtain⟨aX,aW,a_⟩:=S.vars u O aG s w;exact(show bT R i [] u=R u from bA ‹_›)▸⟨aX,aW,a_.mono h S.base λy y y e=>e⟩
 .have:=S.cell u O X s aq H;exact⟨this.1,r X (λe=>F.2.2.2 u O s aq (e▸H)) this.2⟩
 .by_cases k:u=i
  .subst k;rw [show bT R u [] u=[]from bx J]at t;exact nomatch t
  .have t:=(show bT R i [] u=R u from bA ‹_›)▸t;have:=S.fp u d b t;refine c_ this.1 (r b (λe=>?_) this.2.1) this.2.2;subst e;exact S.apart u i d A k b t (by rw [n];exact .head _)
 .by_cases bf:x=i
  .subst bf;rw [show bT R x [] x=[]from by simp [bT]]at l;cases l
  .rw [show bT R i [] x=R x from bA ‹_›]at l
   by_cases m:b=i
   .subst m;rw [show bT R b [] b=[]from by simp [bT]];simp
   .exact((by simp [bT,m]:bT R i [] b=R b))▸(S.apart x b aO t aP aS l)
end
open PySem.SeqAt
structure cg(B:br O)(fz:Fz)(s:aT)(jx:Fz)(s':aT):Prop where
 same:bS s s'
 keep:kL B s.heap s'.heap
 inv:B.inv jx s'.heap
 le:Le fz jx
 bI:Le jx s'.heap.get?
 new:∀b o,jx b=U o->fz b=U o\/s.heap.get? b=af
structure Ready(B:br O)(fz:Fz)(s:aT):Prop where
 bI:Le fz s.heap.get?
 base:bG B.bO s.heap
 inv:B.inv fz s.heap
 ji:∀P∈B.tabs,B.bO.get? P=af
 mT:∀P∈B.tabs,fz P=af
section
variable{B:br O}{fz jx Jb:Fz}
theorem cg.ready(A:cg B fz s jx s')(r:Ready B fz s):Ready B jx s' where
 bI:=A.bI
 base:=λb o e=>A.keep b (λq=>aU (r.ji b q) e) o (r.base b o e)
 inv:=A.inv
 ji:=r.ji
 mT:=λP G=>iO λo e=>(A.new P o e).elim (aU (r.mT P G)) λq=>cW (aL l8 q) (B.live r.inv P G)
theorem cg.refl(r:Ready B fz s):cg B fz s fz s:=⟨bS.refl _,kL.refl _,r.inv,Le.refl _,r.bI,λy y e=>.inl e⟩
theorem cg.trans(r:Ready B fz s)(a:cg B fz s jx s')(b:cg B jx s' Jb p):cg B fz s Jb p where
 same:=a.same.trans b.same
 keep:=a.keep.trans b.keep
 inv:=b.inv
 le:=a.le.trans b.le
 bI:=b.bI
 new:=λx o e=>(b.new x o e).elim (a.new x o) λq=>.inr (iO λH h=>aU q (a.keep x (λk=>cW (aL l8 q) (B.live a.inv x k)) H h))
theorem cg.tok(r:Ready B fz s)(w:fK):cg B fz s fz {s with toks:=w}:=⟨(b_ s.heap w J),kL.refl _,r.inv,Le.refl _,r.bI,λy y e=>.inl e⟩
theorem cg.push(r:Ready B fz s)(o:bN)(w:fK)(L:o.isFreed=ak):cg B fz s (kT fz s.heap.objs.size o) {s with heap:=s.heap.push o,toks:=w}where
 same:=(b_ _ _ J)
 keep:=(bG.push _ o).t
 inv:=br.vp (λb x e=>tI (fW (fQ (r.bI b x e))) e) r.inv λP y x e=>eg _ e
 le:=λb x e=>tI (fW (fQ (r.bI b x e))) e
 bI:=λb x e=>qn e (λq E=>q▸E▸eN _ L) λe=>eg _ (r.bI b x e)
 new:=λb x e=>qn e (λq y=>.inr (iO λH h=>bE (q▸fQ h) (m5 _))) .inl
theorem cg.iu(r:Ready B fz s)(o:bN)(w:fK):cg B fz s fz {s with heap:=s.heap.push o,toks:=w}where
 same:=(b_ _ _ J)
 keep:=(bG.push _ o).t
 inv:=br.gO r.inv λP y x e=>eg _ e
 le:=Le.refl _
 bI:=λb x e=>eg _ (r.bI b x e)
 new:=λy y e=>.inl e
theorem cg.keeps(r:Ready B fz s){t:fK}(l:bG s.heap h):cg B fz s fz {s with heap:=h,toks:=t}where
 same:=(b_ _ _ J)
 keep:=l.t
 inv:=br.gO r.inv λP y x e=>l _ _ e
 le:=Le.refl _
 bI:=λb x e=>l _ _ (r.bI b x e)
 new:=λy y e=>.inl e
end
noncomputable def PO(H:br q)(g:Model)(F:cI)(X:Mk)(w:Sem aD)(f:Fz)(y:T):Prop:=
 ∀(s:aT)(Q:aD->aT->Prop)(P:aD->aT->Prop),Ready H f s->(∀O j v,cg H f s j O->Den X j v y->Q v O)->wpAny g F w Q P s
noncomputable def PB(H:br q)(g:Model)(F:cI)(w:Sem bl)(f:Fz)(b:bl):Prop:=
 ∀(s:aT)(Q:bl->aT->Prop)(P:aD->aT->Prop),Ready H f s->(∀O j,cg H f s j O->Q b O)->wpAny g F w Q P s
structure dB(A:cI)(n:aa):Prop where
 depth:A.depth+4*n+16<recursionLimit
 units:A.units+8*n+64<cLine
 handled:A.handled=af
theorem dB.deeper(r:dB F (n+1)):dB (F.deeper B) n:=⟨by have:=r.depth;exact dg 0 (.a (.a (.a (.a (.v 0) (.n 1)) (.m 4 (.v 1))) (.n 16)) (.n 1)) (.v 2) (.a (.a (.a (.v 0) (.m 4 (.a (.v 1) (.n 1)))) (.n 16)) (.n 1)) (.v 2) J [_,_,_] this,by have:=r.units;exact dg 0 (.a (.a (.a (.a (.v 0) (.n 3)) (.m 8 (.v 1))) (.n 64)) (.n 1)) (.v 2) (.a (.a (.a (.v 0) (.m 8 (.a (.v 1) (.n 1)))) (.n 64)) (.n 1)) (.v 2) J [_,_,_] this,r.handled⟩
theorem dB.less(r:dB F g)(h:E<=g):dB F E:=⟨iH (wq (ly (uI 4 h) _) 16) r.depth,iH (wq (ly (uI 8 h) _) 64) r.units,r.handled⟩
theorem dB.d(r:dB F n):F.depth<recursionLimit:=by have:=r.depth;exact dg 0 (.a (.v 0) (.n 1)) (.v 2) (.a (.a (.a (.v 0) (.m 4 (.v 1))) (.n 16)) (.n 1)) (.v 2) J [_,_,_] this
noncomputable def i_(i:aF):bl:=decide (i.natAbs<2^9000)
noncomputable def d_(g:aa):bl:=decide (g<=1000000)
noncomputable def rO(X:aF->aF->aY T):T->T->aY T
 |.int a,.int b=>X a b
 |_,_=>af
noncomputable def Hv:T->T->aY T
 |.int a,.int b=>U (.int (a+b))
 |.str a,.str b=>if d_ (a.length+b.length)then U (.str (a++b))else af
 |.list a,.list b=>if d_ (a.length+b.length)then U (.list (a++b))else af
 |_,_=>af
noncomputable def kN(v:Operator)(x O:T):aY T:=match v with
 |.Add=>Hv x O
 |.Sub=>rO (λa b=>U (.int (a-b))) x O
 |.Mult=>rO (λa b=>if i_ a&&i_ b then U (.int (a*b))else af) x O
 |.FloorDiv=>rO (λa b=>if b !=0&&i_ a then U (.int (a.fdiv b))else af) x O
 |.Mod=>rO (λa b=>if b !=0&&i_ a then U (.int (a.fmod b))else af) x O
 |.Pow=>rO (λa g=>if decide (0<=g)&&i_ a&&decide (g<=1000)then U (.int (a^g.toNat))else af) x O
 |_=>af
section
variable{B:br O}{prog:bZ}{w:bR}{A:cI}{ρ:Mk}{fz:Fz}
theorem kB(h:d_ g=ae):g<=sizeLine:=by
 have:=of_decide_eq_true h;exact aJ this (aC J)
theorem HL(h:i_ i=ae):i.natAbs.log2<9000\/i=0:=
 (uA _).elim (λe=>.inr (Int.natAbs_eq_zero.mp e)) λe=>.inl ((Nat.log2_lt e).mpr (of_decide_eq_true h))
theorem Cw(h:i_ i=ae):acK i<=9000:=by
 delta acK
 rcases HL h with h|h
 .split<;>(first|exact aC J|exact h|omega)
 .subst h;exact iY _
theorem Qy(h:i_ i=ae):acO i u=ak:=by
 delta acO
 have:(if(i==0)=ae then 0 else i.natAbs.log2/30+1)<=300:=by
  rcases(HL h)with h|h
  .split
   .exact aC J
   .have:i.natAbs.log2/30<300:=Nat.div_lt_of_lt_mul (by assumption);exact this
  .subst h;exact iY _
 simp only [Bool.and_eq_false_iff,decide_eq_false_iff_not];omega
theorem Bh(a b:Y aa):(⟨(a++b).toArray⟩:ai)=⟨a.toArray⟩++⟨b.toArray⟩:=by
 show _=Str.append _ _
 first|rfl|(delta Str.append;simp)
theorem str_len(a:Y aa):(⟨a.toArray⟩:ai).length=a.length:=J
theorem VV(a b:Y aD):({cls:=.type "list",data:=.seq (a.toArray++b.toArray)})=lo (a++b) 0:=by simp [lo]
theorem Ready.list(r:Ready B fz s){tk:fK}(d:bq ρ fz z o){Q:aD->aT->Prop}(G:∀O j v,cg B fz s j O->Den ρ j v (.list o)->Q v O):
  Q (.ref s.heap.objs.size) {s with heap:=s.heap.push (lo z n),toks:=tk}:=by
 have A:=cg.push r (lo z n) tk J;exact G _ _ _ A (.list (bx J) (d.mono A.le))
theorem Ready.tup(r:Ready B fz s){m:fK}(d:bq ρ fz z o){Q:aD->aT->Prop}(G:∀O j v,cg B fz s j O->Den ρ j v (.tup o)->Q v O):
  Q (.ref s.heap.objs.size) {s with heap:=s.heap.push (r9 z g),toks:=m}:=by
 have A:=cg.push r (r9 z g) m J;exact G _ _ _ A (.tup (bx J) (d.mono A.le))
variable{vb:aD}
theorem PO.give(h:∀(s:aT)(Q:aD->aT->Prop)(P:aD->aT->Prop),Ready B fz s->(∀v m,Den ρ fz v y->Q v {s with toks:=m})->wpAny g A t Q P s):PO B g A ρ t fz y:=
 λs Q P r G=>h s Q P r λv m d=>G _ _ _ (cg.tok r m) d
theorem tM{h:aD->aD->Sem aD}(o:Den ρ fz i m)(E:Den ρ fz vb n)(e:rO X m n=U y)
  (t:∀a b w L,X a b=U y->PO B g A ρ (h (.int a w) (.int b L)) fz y):PO B g A ρ (h i vb) fz y:=by
 cases m with
 |int a=>cases n with
  |int b=>exact o.gG (P:=λv=>PO B g A ρ (h v vb) fz y) λw=>E.gG (P:=λv=>PO B g A ρ (h _ v) fz y) λL=>t a b w L e
  |_=>exact aU J e
 |_=>exact aU J e
theorem KC(R:i_ a=ae)(w:i_ b=ae):IntMulOk a b:=λg=>bE (ac0 (of_decide_eq_true (cU.mp g).2) (Int.add_le_add (mZ.mpr (Cw R)) (mZ.mpr (Cw w)))) (nofun)
theorem HQ{b:aF}(h:(b !=0)=ae):b≠0:=λe=>by subst e;exact cW J h
theorem P9(o:Den ρ fz t m)(E:Den ρ fz vb n)(h:Hv m n=U y):PO B (model prog w) A ρ (binaryOp .Add t vb) fz y:=by
 cases m with
 |int a=>cases n with
  |int b=>
   obtain rfl:=bg h;exact o.gG (P:=λv=>PO B _ A ρ (binaryOp .Add v vb) fz _) λx=>E.gG (P:=λv=>PO B (model prog w) A ρ _ fz _) λL=>PO.give λs Q i r G=>P.add_int (G _ _ (.int _ _))
  |_=>exact aU J h
 |str a=>cases n with
  |str b=>
   refine bM (pS h) λe j=>?_;subst j;exact o.i5 (P:=λv=>PO B _ A ρ (binaryOp .Add v vb) fz _) λx=>E.i5 (P:=λv=>PO B (model prog w) A ρ _ fz _) λL=>
    PO.give λs Q i r G=>adX (λL u=>Bh a b▸G _ _ (.str _ _)) ((str_len a).symm▸(str_len b).symm▸kB e)
  |_=>exact aU J h
 |list a=>cases n with
  |list b=>
   refine bM (pS h) λe j=>?_;subst j;exact o.listE (P:=λv=>PO B (model prog w) A ρ (binaryOp .Add v vb) fz _) λk z g l o=>E.listE (P:=λv=>PO B (model prog w) A ρ (binaryOp .Add (.ref k) v) fz _) λO q d f E s Q i r G=>
    P.add_list (r.bI _ _ l) (r.bI _ _ f) (VV z q▸r.list (o.append E) G) (by rw [<-o.length,<-E.length]at e;exact kB e)
  |_=>exact aU J h
 |_=>exact aU J h
theorem QA(l:dB A g)(o:Den ρ fz t m)(E:Den ρ fz vb n)(h:kN v m n=U y):PO B (model prog w) A ρ (binaryOp v t vb) fz y:=by
 cases v with
 |Add=>exact P9 o E h
 |Sub=>
  exact tM o E h λi b e L h=>by obtain rfl:=bg h;exact PO.give λs Q a x G=>P.sub_int (G _ _ (.int _ _))
 |Mult=>
  exact tM o E h λi b e L h=>by
   obtain⟨r,rfl⟩:=pS h;have r:=cU.mp r;exact PO.give λs Q a x G=>P.mul_int (G _ _ (.int _ _)) (KC r.1 r.2)
 |FloorDiv=>
  exact tM o E h λi b e L h=>by
   obtain⟨r,rfl⟩:=pS h;have r:=cU.mp r;exact PO.give λs Q a x G=>PyProof.Rows.floordiv_int (HQ r.1) (G _ _ (.int _ _)) (.inl (Qy r.2))
 |Mod=>
  exact tM o E h λi b e L h=>by
   obtain⟨r,rfl⟩:=pS h;exact PO.give λs Q a x G=>adZ (HQ (cU.mp r).1) (G _ _ (.int _ _))
 |Pow=>
  exact tM o E h λi b e L h=>by
   obtain⟨r,rfl⟩:=pS h;have r:=cU.mp r;have T:=cU.mp r.1;have R:=of_decide_eq_true T.1;exact PO.give λs Q a x G=>PyProof.Rows.pow_int R (uB (Int.mul_le_mul (mZ.mpr (Cw T.2)) (of_decide_eq_true r.2) R (by decide)) (by decide)) (G _ _ (.int _ _))
 |_=>exact aU J h
noncomputable def j5(X:T->T->aY bl):Y T->Y T->aY bl
 |[],[]=>U ae
 |x::n,O::G=>match X x O,j5 X n G with
  |U a,U b=>U (a&&b)
  |_,_=>af
 |_,_=>U ak
theorem aaP{X:T->T->aY bl}(h:X x y=U a)(e:j5 X n G=U b):j5 X (x::n) (y::G)=U (a&&b):=
 (congr (aL (λo p=>j5.match_1 (λi v=>aY bl) o p _ λi v=>af) h) e)
noncomputable def Bl(X:T->T->aY bl):T->T->aY bl
 |.none,.none=>U ae
 |.bool a,.bool b=>U (a==b)
 |.int a,.int b=>U (a==b)
 |.str a,.str b=>U (a==b)
 |.list a,.list b=>if a.length==b.length then j5 X a b else U ak
 |_,_=>af
noncomputable def fb:aa->T->T->aY bl
 |0,_,_=>af
 |g+1,a,b=>Bl (fb g) a b
inductive TQ(f:T->T->aY bl):T->T->bl->Prop
 |none:TQ f .none .none ae
 |bool(a b:bl):TQ f (.bool a) (.bool b) (a==b)
 |int(a b:aF):TQ f (.int a) (.int b) (a==b)
 |str(a b:Y aa):TQ f (.str a) (.str b) (a==b)
 |list{a b:Y T}{c:bl}(hl:a.length=b.length)(h:j5 f a b=U c):TQ f (.list a) (.list b) c
 |xM{a b:Y T}(hl:a.length≠b.length):TQ f (.list a) (.list b) ak
theorem Bm(h:Bl X x y=U b):TQ X x y b:=by
 cases x with
 |none=>cases y with
  |none=>exact bg h▸.none
  |_=>exact aU J h
 |bool a=>cases y with
  |bool b=>exact bg h▸(.bool _ _)
  |_=>exact aU J h
 |int a=>cases y with
  |int b=>exact bg h▸(.int _ _)
  |_=>exact aU J h
 |str a=>cases y with
  |str b=>exact bg h▸(.str _ _)
  |_=>exact aU J h
 |list a=>cases y with
  |list c=>
   have h:(if(a.length==c.length)=ae then j5 X a c else U ak)=U b:=h
   by_cases e:a.length=c.length
   .rw [bx (beq_iff_eq.mpr e)]at h;exact .list e h
   .rw [bA λq=>e (beq_iff_eq.mp q)]at h;exact bg h▸(.xM e)
  |_=>exact aU J h
 |_=>exact aU J h
theorem MV{n G:Y T}{b:bl}(h:j5 X (x::n) (y::G)=U b):∃p q,X x y=U p/\j5 X n G=U q/\b=(p&&q):=by
 have h:(match X x y,j5 X n G with|U a,U b=>U (a&&b)|_,_=>af)=U b:=h;cases R:X x y with
 |none=>rw [R]at h;exact aU J h
 |some p=>cases w:j5 X n G with
  |none=>rw [R,w]at h;exact aU J h
  |some q=>rw [R,w]at h;exact bg h▸((g8 p q J J J))
theorem MU:∀{n G:Y T}{b:bl},n.length=G.length->j5 X n G=U b->
  ∃e,b=(ej n.length).all e/\∀u x O,n[u]?=U x->G[u]?=U O->X x O=U (e u)
 |[],G,b,H,h=>by
  rw [wg H.symm]at h;exact(aR (λy=>ae) ((bg h).symm) (λu x O h=>aU J h))
 |x::n,G,b,H,h=>by
  cases G with
  |nil=>exact nc OL H J
  |cons O G=>
   refine jw (MV h) λp q R w i=>?_;subst i;refine aA (MU (BY H) w) λe j a=>?_;subst j;refine(aR (λu=>Nat.casesOn u p e) ?_ (λu s b Q t=>?_))
   .simp only [m4,List.range_succ_eq_map,Oo,List.all_map];rfl
   .cases u with
    |zero=>exact bg Q▸bg t▸R
    |succ u=>exact a u s b Q t
theorem gP{s:aT}(p:Le fz s.heap.get?)(e:fz a=U (lo z g)):s.heap.IsList a z.toArray:=(i12 _ (p _ _ e) J ⟨g,J⟩)
theorem vq{s:aT}(p:Le fz s.heap.get?)(e:fz a=U (r9 z g)):s.heap.IsTuple a z.toArray:=(i12 _ (p _ _ e) J ⟨g,J⟩)
theorem E8(a b:Y aa):((⟨a.toArray⟩:ai)==⟨b.toArray⟩)=(a==b):=by
 rw [<-str_beq]
theorem ZX{z A:Y aD}(h:({cls:=c,data:=.seq z.toArray g}:bN)={cls:=c,data:=.seq A.toArray E}):z=A/\g=E:=
 (Data.seq.inj (aL OX h)).imp (aL N4) id
theorem VW(h:lo z g=lo ws E):z=ws/\g=E:=ZX h
theorem bq.Ry(d:bq ρ fz (v::z) o):∃w r,o=w::r/\Den ρ fz v w/\bq ρ fz z r:=by cases d with|cons a b=>exact(g8 _ _ J a b)
theorem Kd(o:Den ρ fz v (.list a))(R:Den ρ fz v (.list c)):∃z,bq ρ fz z a/\bq ρ fz z c:=by
 refine jb o.inv λx z g B q w=>?_;subst w;exact jb R.inv λO A h f E e=>(aR z q ((VW (bg (f.symm.trans ((aL fz (O9 e)).symm.trans B)))).1▸E))
theorem aaQ(p:∀v x O b,Den ρ fz v x->Den ρ fz v O->X x O=U b->b=ae)(d:bq ρ fz z n):∀{G:Y T}{b:bl},bq ρ fz z G->j5 X n G=U b->b=ae:=
 d.ind (P:=λz n=>∀{G:Y T}{b:bl},bq ρ fz z G->j5 X n G=U b->b=ae)
  (λ{G b}P h=>by rw [wg P.length.symm]at h;exact(bg h).symm)
  λd y f=>@λy y P h=>by
   obtain⟨L,r,rfl,P,e⟩:=P.Ry;obtain⟨a,q,R,w,rfl⟩:=MV h;rw [p _ _ _ a d P R,f e w];rfl
theorem JG(e:O7 a t=.int b L):a=b:=by refine bM (PySem.Value.int.inj e) λu j=>?_;subst u j;rfl
theorem MN{a b:Y aa}(e:B7 ⟨a.toArray⟩ t=.str ⟨b.toArray⟩ L):a=b:=by cases e;rfl
theorem Fb:∀{g:aa}{v:aD}{x O:T}{b:bl},Den ρ fz v x->Den ρ fz v O->fb g x O=U b->b=ae
 |0,_,_,_,_,_,_,h=>aU J h
 |g+1,v,x,O,b,n,i,h=>by
  cases Bm h with
  |none=>rfl
  |bool a c=>obtain rfl:=PySem.Value.bool.inj (n.inv.symm.trans i.inv);exact bx J
  |int a c=>
   refine bC n.inv λw j=>?_;subst j;exact bC i.inv λL e=>beq_iff_eq.mpr (JG e)
  |str a c=>
   refine bC n.inv λw j=>?_;subst j;exact bC i.inv λL e=>beq_iff_eq.mpr (MN e)
  |list H h=>exact aA (Kd n i) λz d P=>aaQ (λv x O b=>Fb) d P h
  |xM H=>exact aA (Kd n i) λz d P=>bE (d.length.symm.trans P.length) H
theorem HG{z:Y aD}(e:z[u]?=U v)(h:u<z.toArray.size):z.toArray[u]=v:=(ck.mp e).2
theorem DQ{R:aD->aD->bl->Prop}{G:Y T}{r:bl}(o:bq ρ fz z n)(E:bq ρ fz ws G)(H:n.length=G.length)(i:j5 X n G=U r)
  (t:∀v w x O b,Den ρ fz v x->Den ρ fz w O->X x O=U b->R v w b):
  ∃e,r=(ej z.toArray.size).all e/\∀u(h:u<z.toArray.size)(h2:u<ws.toArray.size),R z.toArray[u] ws.toArray[u] (e u):=by
 refine aA (MU H i) λe j s=>?_;subst j;refine(aR e (aL (λg=>(ej g).all e) o.length.symm) (λu h h2=>?_));have a:=cP ((o.length▸h:u<n.length));have b:=cP (show u<G.length from E.length▸h2);exact aA (o.get a) λv k q=>aA (E.get b) λw f l=>(HG k h).symm▸(HG f h2).symm▸(t _ _ _ _ _ q l (s u _ _ a b))
theorem up1(d:a+(g+1)<cLine):a+1+g<cLine:=by simp only [l5,l6 1 g];exact d
theorem vZ(d:a+g<cLine):a<cLine:=iH (fH a g) d
theorem EV{n G:Y T}(o:bq ρ fz z n)(E:bq ρ fz ws G)(H:n.length=G.length):z.toArray.size=ws.toArray.size:=(o.length.trans H).trans E.length.symm
theorem EY{n G:Y T}(o:bq ρ fz z n)(E:bq ρ fz ws G)(H:n.length≠G.length):(z.toArray.size !=ws.toArray.size)=ae:=
 bne_iff_ne.mpr λe=>H ((o.length.symm.trans e).trans E.length)
theorem xo(p:Le fz s.heap.get?):∀{g:aa}{A:cI}{t vb:aD}{m n:T}{b:bl},A.units+g<cLine->Den ρ fz t m->Den ρ fz vb n->fb g m n=U b->EqAt A s t vb b
 |0,_,_,_,_,_,_,_,_,_,h=>aU J h
 |g+1,A,t,vb,m,n,b,d,o,E,h=>by
  cases Bm h with
  |none=>exact o.pQ (P:=λv=>EqAt A s v vb ae) (E.pQ (P:=λv=>EqAt A s _ v ae) (EqAt.same _))
  |bool x O=>exact o.tD (P:=λv=>EqAt A s v vb _) (E.tD (P:=λv=>EqAt A s _ v _) (EqAt.bool_bool _ _))
  |int x O=>exact o.gG (P:=λv=>EqAt A s v vb _) λi=>E.gG (P:=λv=>EqAt A s _ v _) λL=>EqAt.int_int _ _ _ _
  |str x O=>exact o.i5 (P:=λv=>EqAt A s v vb _) λi=>E.i5 (P:=λv=>EqAt A s _ v _) λL=>E8 x O▸EqAt.str_str _ _ _ _
  |list H j=>
   exact o.listE (P:=λv=>EqAt A s v vb _) λx z u B q=>E.listE (P:=λv=>EqAt A s _ v _) λO l k f a=>by
    by_cases e:x=O
    .subst e;exact(Fb (Den.list B q) (Den.list f a) h)▸(EqAt.same _)
    .refine aA (DQ (R:=EqAt A.in1 s) q a H j λv w x O b=>xo p (up1 d)) λc r X=>?_;subst r;exact EqAt.of_refs e (RcAt.lists (gP p B) (gP p f) (EV q a H) (vZ d) X)
  |xM H=>
   exact o.listE (P:=λv=>EqAt A s v vb _) λx z u B q=>E.listE (P:=λv=>EqAt A s _ v _) λO l k f a=>by
    by_cases e:x=O
    .subst e;exact cW J (Fb (Den.list B q) (Den.list f a) h)
    .exact EqAt.of_refs e (aec (gP p B) (gP p f) (EY q a H) (vZ d))
end
section
variable{B:br O}{prog:bZ}{w:bR}{A:cI}{ρ:Mk}{fz:Fz}{va vb:aD}{ta tb:T}
noncomputable def uc:T->bl
 |.str _=>ae
 |.int _=>ae
 |_=>ak
theorem M3(h:Bl X t (.str l)=U b):∃a,t=.str a/\b=(a==l):=by
 cases t<;>first|exact aU J h|exact⟨_,J,(bg h).symm⟩
theorem M1(h:Bl X t (.int l)=U b):∃a,t=.int a/\b=(a==l):=by
 cases t<;>first|exact aU J h|exact⟨_,J,(bg h).symm⟩
theorem MS(j:uc x=ae)(d:Den ρ fz v t)(P:Den ρ fz v L)(h:fb (g+1) t x=U b)(T:fb (g+1) L x=U Q):b=Q:=by
 cases x with
 |str l=>
  refine aA (M3 h) λa e q=>aA (M3 T) λi f E=>?_;subst e f q E;exact bC d.inv λt e=>bC P.inv λL f=>aL (·==l) (MN (e.symm.trans f))
 |int l=>
  refine aA (M1 h) λa e q=>aA (M1 T) λi f E=>?_;subst e f q E;exact bC d.inv λt e=>bC P.inv λL f=>aL (·==l) (JG (e.symm.trans f))
 |_=>exact cW J j
theorem YY(p:Le fz s.heap.get?)(d:A.units+g<cLine)(o:Den ρ fz va ta)(E:Den ρ fz vb tb)(h:fb g ta tb=U b):RcAt A s va vb b:=by
 cases g with
 |zero=>exact aU J (h)
 |succ g=>
  cases Bm h with
  |none=>exact o.pQ (P:=λv=>RcAt A s v vb ae) (E.pQ (P:=λv=>RcAt A s _ v ae) RcAt.none_none)
  |bool x O=>exact o.tD (P:=λv=>RcAt A s v vb _) (E.tD (P:=λv=>RcAt A s _ v _) (RcAt.bool_bool _ _))
  |int x O=>exact o.gG (P:=λv=>RcAt A s v vb _) λi=>E.gG (P:=λv=>RcAt A s _ v _) λL=>RcAt.int_int _ _ _ _
  |str x O=>exact o.i5 (P:=λv=>RcAt A s v vb _) λi=>E.i5 (P:=λv=>RcAt A s _ v _) λL=>E8 x O▸RcAt.str_str _ _ _ _
  |list H T=>
   exact o.listE (P:=λv=>RcAt A s v vb _) λx z e B q=>E.listE (P:=λv=>RcAt A s _ v _) λO l k f a=>by
    refine aA (DQ (R:=EqAt A.in1 s) q a H T λv w x O b=>xo p (up1 d)) λn j X=>?_;subst j;exact RcAt.lists (gP p B) (gP p f) (EV q a H) (vZ d) X
  |xM H=>
   exact o.listE (P:=λv=>RcAt A s v vb _) λx z e B q=>E.listE (P:=λv=>RcAt A s _ v _) λO l k f a=>
    aec (gP p B) (gP p f) (EY q a H) (vZ d)
theorem YZ(p:Le fz s.heap.get?)(d:A.units+g<cLine)(o:Den ρ fz va ta)(E:Den ρ fz vb tb)(h:fb g ta tb=U b):RcNeAt A s va vb (!b):=by
 cases g with
 |zero=>exact nomatch h
 |succ g=>
  cases Bm h with
  |none=>exact o.pQ (P:=λv=>RcNeAt A s v vb ak) (E.pQ (P:=λv=>RcNeAt A s _ v ak) RcNeAt.none_none)
  |bool x O=>exact o.tD (P:=λv=>RcNeAt A s v vb _) (E.tD (P:=λv=>RcNeAt A s _ v _) (RcNeAt.bool_bool _ _))
  |int x O=>exact o.gG (P:=λv=>RcNeAt A s v vb _) λi=>E.gG (P:=λv=>RcNeAt A s _ v _) λL=>RcNeAt.int_int _ _ _ _
  |str x O=>exact o.i5 (P:=λv=>RcNeAt A s v vb _) λi=>E.i5 (P:=λv=>RcNeAt A s _ v _) λL=>E8 x O▸RcNeAt.str_str _ _ _ _
  |list H T=>
   exact o.listE (P:=λv=>RcNeAt A s v vb _) λx z e B q=>E.listE (P:=λv=>RcNeAt A s _ v _) λO l k f a=>by
    refine aA (DQ (R:=EqAt A.in1 s) q a H T λv w x O b=>xo p (up1 d)) λn j X=>?_;subst j;exact RcNeAt.lists (gP p B) (gP p f) (EV q a H) (vZ d) X
  |xM H=>
   exact o.listE (P:=λv=>RcNeAt A s v vb _) λx z e B q=>E.listE (P:=λv=>RcNeAt A s _ v _) λO l k f a=>
    RcNeAt.lists_lengths (gP p B) (gP p f) (EY q a H) (vZ d)
noncomputable def jc(x:T):Y T->aY bl
 |[]=>U ak
 |O::G=>match fb 6 O x,jc x G with
  |U a,U b=>U (a||b)
  |_,_=>af
theorem UX(h:jc x (y::G)=U b):∃p q,fb 6 y x=U p/\jc x G=U q/\b=(p||q):=by
 have h:(match fb 6 y x,jc x G with|U a,U b=>U _|_,_=>af)=U b:=h;cases R:fb 6 y x with
 |none=>rw [R]at h;exact aU J h
 |some p=>cases w:jc x G with
  |none=>rw [R,w]at h;exact aU J h
  |some q=>rw [R,w]at h;exact bg h▸((g8 p q J J J))
theorem JB(d:bq ρ fz z G):∀{b:bl},jc x G=U b->
  (∀v∈z,∃w c,Den ρ fz v w/\fb 6 w x=U c)/\∀e,(∀v w c,v∈z->Den ρ fz v w->fb 6 w x=U c->e v=c)->z.any e=b:=
 d.ind (P:=λz G=>∀{b:bl},jc x G=U b->(∀v∈z,∃w c,Den ρ fz v w/\fb 6 w x=U c)/\∀e,(∀v w c,v∈z->Den ρ fz v w->fb 6 w x=U c->e v=c)->z.any e=b)
  (λh=>⟨λv l=>(bE (l) dP),λe X=>bg h⟩) λ{v z _ _}d y f y h=>by
  refine jw (UX h) λp q R s a=>?_;subst a;refine bM (f s) λS H=>⟨λB i=>(cQ.mp i).elim (λq=>q▸(gh _ _ d R)) (S B),λe X=>?_⟩;refine aZ (Gv) ?_;simp only [X _ _ _ gj d R,H e λv w c l=>X v w c (fF _ l)]
theorem El{T:Type}{x:aY T}{O:T}(h:(if c=ae then x else af)=U O):c=ae/\x=U O:=by cases c;exact aU J h;exact⟨J,h⟩
open Classical in
theorem Dl(j:uc x=ae)(p:Le fz h.heap.get?)(l:A.units+8<cLine)(n:Den ρ fz t x){z:Y aD}{b:bl}(i:bq ρ fz z G)(a:jc x G=U b):
  ∃e,(∀O,O∈z.toArray->EqAt A.in1 h O t (e O))/\z.toArray.any e=b:=by
 refine bM (JB i a) λS H=>?_
 let e:=λv=>decide (∃w,Den ρ fz v w/\fb 6 w x=U ae)
 have X:∀v w c,v∈z->Den ρ fz v w->fb 6 w x=U c->e v=c:=λv w c y d q=>by
  cases c with
  |true=>exact decide_eq_true (aR w d q)
  |false=>exact decide_eq_false λk=>aA k λL P E=>cW J (MS j d P q E)
 refine(aR e (λO s=>?_) (ac3.trans (H e X)));have s:=adt.mp s;exact dS (S O s) λw c d q=>(X O w c s d q)▸(xo p (iH (uH _) l) d n q)
noncomputable def JL:T->aY bl
 |.none=>U ak
 |_=>af
noncomputable def JK(a b:aY bl):T->aY bl
 |.atom=>a
 |.str _=>b
 |_=>af
noncomputable def Dv:T->T->aY bl
 |.atom=>JK (U ae) (U ak)
 |.str _=>JK (U ak) af
 |.none=>λw=>(JL w).map (!·)
 |.bY (.ref _)=>JL
 |_=>λy=>af
noncomputable def nh(prog:bZ)(w:bR)(A:cI)(Q P:aD->aT->Prop)(s:aT)(va vb:aD)(b:bl):Prop:=
 (Q (.bool b) s->wpAny (model prog w) A (compareOp .Is va vb) Q P s)/\(Q (.bool (!b)) s->wpAny (model prog w) A (compareOp .IsNot va vb) Q P s)
theorem JQ(o:Den ρ fz va ta)(E:Den ρ fz vb tb)(h:Dv ta tb=U b):nh prog w A Q P s va vb b:=by
 have i:∀{va vb:aD}{b:bl},U ak=U b->plainIs va vb=ae->va≠vb->nh prog w A Q P s va vb b:=
  λe p g=>bg e▸⟨(wpAny_is_other p g),(wpAny_isNot_other p g)⟩
 cases ta with
 |atom=>cases tb with
  |atom=>exact bg h▸o.zA (P:=λv=>nh prog w A Q P s v vb _) (E.zA (P:=λv=>nh prog w A Q P s _ v _) ⟨(wpAny_is_ref_self),(wpAny_isNot_ref_self)⟩)
  |str l=>exact o.zA (P:=λv=>nh prog w A Q P s v vb _) (E.i5 (P:=λv=>nh prog w A Q P s _ v _) λa=>i h J nofun)
  |_=>exact aU J h
 |str l=>cases tb with
  |atom=>exact o.i5 (P:=λv=>nh prog w A Q P s v vb _) λa=>E.zA (P:=λv=>nh prog w A Q P s _ v _) (i h J nofun)
  |_=>exact aU J h
 |none=>cases tb with
  |none=>exact bg h▸o.pQ (P:=λv=>nh prog w A Q P s v vb _) (E.pQ (P:=λv=>nh prog w A Q P s _ v _) ⟨(wpAny_is_self J),(wpAny_isNot_self J)⟩)
  |_=>exact aU J h
 |bY v=>cases v with
  |ref x=>cases tb with
   |none=>exact o.LU (P:=λv=>nh prog w A Q P s v vb _) (E.pQ (P:=λv=>nh prog w A Q P s _ v _) (i h J nofun))
   |_=>exact aU J h
  |_=>exact aU J h
 |_=>exact aU J h
noncomputable def zH(X:aF->aF->bl):T->T->aY bl
 |.int a,.int b=>U (X a b)
 |_,_=>af
noncomputable def Ul:T->T->aY bl
 |.int a,.int b=>U (decide (a>b))
 |.str a,.str b=>U (decide (b<a))
 |_,_=>af
noncomputable def Dj:T->Y aa->aY bl
 |.str [c],b=>U (decide (c∈b))
 |_,_=>af
noncomputable def Rc(x:T):T->aY bl
 |.str b=>Dj x b
 |.list l=>if uc x=ae then jc x l else af
 |.tup l=>if uc x=ae then jc x l else af
 |_=>af
noncomputable def Rr(x:T):T->aY bl
 |.str b=>(Dj x b).map (!·)
 |.list l=>if uc x=ae then(jc x l).map (!·)else af
 |_=>af
noncomputable def gp(v:CmpOp)(a b:T):aY bl:=match v with
 |.Eq=>fb 6 a b
 |.NotEq=>(fb 6 a b).map (!·)
 |.Lt=>zH (λa b=>decide (a<b)) a b
 |.LtE=>zH (λa b=>decide (a<=b)) a b
 |.Gt=>Ul a b
 |.GtE=>zH (λa b=>decide (a>=b)) a b
 |.In=>Rc a b
 |.NotIn=>Rr a b
 |.Is=>Dv a b
 |.IsNot=>(Dv a b).map (!·)
theorem PO.same(h:∀(s:aT)(Q:aD->aT->Prop)(P:aD->aT->Prop),Ready B fz s->Q (.bool b) s->wpAny g A t Q P s):PO B g A ρ t fz (.bool b):=
 λs Q P r G=>h s Q P r (G _ _ _ (cg.refl r) (.bool b))
theorem zI{e:aD->aD->Sem aD}(o:Den ρ fz va ta)(E:Den ρ fz vb tb)(h:zH X ta tb=U b)
  (t:∀a b w L s(Q P:aD->aT->Prop),Q (.bool (X a b)) s->wpAny g A (e (.int a w) (.int b L)) Q P s):PO B g A ρ (e va vb) fz (.bool b):=by
 cases ta with
 |int x=>cases tb with
  |int O=>
   exact bg h▸(o.gG (P:=λv=>PO B g A ρ (e v vb) fz _) λw=>E.gG (P:=λv=>PO B g A ρ _ fz _) λL=>PO.same λs Q P r G=>t x O w L s Q P G)
  |_=>exact aU J h
 |_=>exact aU J h
theorem JA(o:Den ρ fz va ta)(h:Dj ta l=U b):∃c w,va=.str ⟨#[c]⟩ w/\b=decide (c∈l):=by
 cases ta with
 |str x=>match x,o,h with
  |[c],o,h=>exact bC o.inv λw e=>(gh c w e ((bg h).symm))
 |_=>exact aU J h
theorem xd(H:dB A n)(o:Den ρ fz va ta)(E:Den ρ fz vb tb)(h:gp y ta tb=U b):PO B (model prog w) A ρ (compareOp y va vb) fz (.bool b):=by
 have d:A.units+8<cLine:=dg 0 (.a (.a (.v 0) (.n 8)) (.n 1)) (.v 2) (.a (.a (.a (.v 0) (.m 8 (.v 1))) (.n 64)) (.n 1)) (.v 2) J [_,_,_] H.units;have u:A.units+6<cLine:=iH (ly (aC J) _) d;cases y with
 |Eq=>exact PO.same λs Q e r G=>YY r.bI u o E h prog w e Q G
 |NotEq=>
  refine aA (uJ.mp h) λc S i=>?_;subst i;exact PO.same λs Q e r G=>YZ r.bI u o E S prog w e Q G
 |Lt=>exact zI o E h λa b x L s Q e G=>P.lt_int G
 |LtE=>exact zI o E h λa b x L s Q e G=>P.le_int G
 |GtE=>exact zI o E h λa b x L s Q e G=>P.ge_int G
 |Gt=>
  cases ta with
  |int k=>exact zI o E (by cases tb<;>first|exact h|cases h) λa b x L s Q e G=>P.gt_int G
  |str k=>cases tb with
   |str O=>
    obtain rfl:=bg h;exact o.i5 (P:=λv=>PO B (model prog w) A ρ (compareOp .Gt v vb) fz _) λx=>E.i5 (P:=λv=>PO B (model prog w) A ρ (compareOp .Gt (.str ⟨k.toArray⟩ x) v) fz _) λL=>PO.same λs Q e r G=>P.gt_str (G)
   |_=>exact aU J h
  |_=>exact aU J h
 |In=>
  cases tb with
  |str g=>
   refine dS (JA o h) λc x i p=>?_;subst i p;exact E.i5 (P:=λv=>PO B (model prog w) A ρ (compareOp .In _ v) fz _) λL=>PO.same λs Q e r G=>P.in_str (by rw [aed];exact G)
  |list g=>
   exact E.listE (P:=λv=>PO B (model prog w) A ρ (compareOp .In va v) fz _) λk z m f l=>PO.same λs Q e r G=>bM (El h) λj h=>aA (Dl (A:=A) j r.bI d o l h) λq X t=>in_listAt q (gP r.bI f) X (t▸G)
  |tup g=>
   exact E.Fj (P:=λv=>PO B (model prog w) A ρ (compareOp .In va v) fz _) λk z m f l=>PO.same λs Q e r G=>bM (El h) λj h=>aA (Dl (A:=A) j r.bI d o l h) λq X t=>in_tupleAt q (vq r.bI f) X (t▸G)
  |_=>exact aU J h
 |NotIn=>
  cases tb with
  |str g=>
   refine aA (uJ.mp h) λb S i=>?_;subst i;refine dS (JA o S) λc x i p=>?_;subst i p;exact E.i5 (P:=λv=>PO B (model prog w) A ρ (compareOp .NotIn _ v) fz _) λL=>PO.same λs Q e r G=>P.notIn_str (by rw [aed];exact G)
  |list g=>
   refine bM (El h) λj h=>aA (uJ.mp h) λb S i=>?_;subst i;exact E.listE (P:=λv=>PO B (model prog w) A ρ (compareOp .NotIn va v) fz _) λk z m f l=>PO.same λs Q e r G=>aA (Dl (A:=A) j r.bI d o l S) λq X t=>notIn_listAt q (gP r.bI f) X (t▸G)
  |_=>exact aU J h
 |Is=>exact PO.same λs Q e r G=>(JQ o E h).1 G
 |IsNot=>
  refine aA (uJ.mp h) λc S i=>?_;subst i;exact PO.same λs Q e r G=>(JQ o E S).2 G
end
section
theorem aQ.ready(S:aQ H X L f B n k m E R s.heap):Ready H f s where
 bI:=S.bI
 base:=S.base
 inv:=S.inv
 ji:=λP G=>by
  cases e:H.bO.get? P with
  |none=>rfl
  |some o=>have:=S.fT P o e;exact aU ((S.tab P G).1) this
 mT:=λP G=>(S.tab P G).2.1
theorem SR.ready(S:SR H X L f B n k m s.heap):Ready H f s:=let⟨_,_,_,S⟩:=S;S.ready
theorem aQ.step(S:aQ H X L f B n k m E R s.heap)(A:cg H f s j O):aQ H X L j B n k m E R O.heap:=
 S.grow A.keep A.inv A.le λb o e=>(A.new b o e).imp id λq=>⟨q,A.bI b o e⟩
theorem SR.step(S:SR H h L f B n k m s.heap)(A:cg H f s j O):SR H h L j B n k m O.heap:=let⟨a,E,X,S⟩:=S;⟨a,E,X,S.step A⟩
end
noncomputable def cF(H:br q)(i:bZ)(u:bR)(F:cI)(X:Mk)(B:cG)(n:Y ai)(k:aa)(m:Y (AV q))(e:bW)(S:Y (AV q))(y:T):Prop:=
 ∀(L:HB)(f:Fz)(s:aT)(Q:aD->aT->Prop)(P:aD->aT->Prop),SR H X L f B n k m s.heap->
  (∀O j v,bS s O->Le f j->SR H X L j B n k S O.heap->Den X j v y->Q v O)->wpAny (model i u) F (eval e B) Q P s
noncomputable def fX(H:br q)(i:bZ)(u:bR)(F:cI)(X:Mk)(B:cG)(n:Y ai)(k:aa)(m:Y (AV q))(e:bW)(S:Y (AV q))(b:bl):Prop:=
 ∀(L:HB)(f:Fz)(s:aT)(Q:bl->aT->Prop)(P:aD->aT->Prop),SR H X L f B n k m s.heap->
  (∀O j,bS s O->Le f j->SR H X L j B n k S O.heap->Q b O)->wpAny (model i u) F (isTrue e B (eval e B)) Q P s
noncomputable def lG(H:br q)(i:bZ)(u:bR)(F:cI)(X:Mk)(B:cG)(n:Y ai)(k:aa)(m:Y (AV q))(w:fR)(A:Y bW)(S:Y (AV q))(E:Y T):Prop:=
 ∀(L:HB)(f:Fz)(s:aT)(Q:Y aD->aT->Prop)(P:aD->aT->Prop),SR H X L f B n k m s.heap->
  (∀O j z,bS s O->Le f j->SR H X L j B n k S O.heap->bq X j z E->Q z O)->wpAny (model i u) F (spliced (backTo w (starEach A B))) Q P s
noncomputable def qH:T->aY bl
 |.none=>U ak
 |.bool b=>U b
 |.int i=>U (i !=0)
 |.str l=>if d_ l.length then U (!l.isEmpty)else af
 |.list l=>if d_ l.length then U (!l.isEmpty)else af
 |_=>af
section
variable{B:br O}{prog:bZ}{w:bR}{A:cI}{ρ:Mk}{env:cG}{xs:Y ai}
theorem yk(h:d_ g=ae):(g:aF)<2^63:=Go (mZ.mpr (of_decide_eq_true h)) (by decide)
theorem vY(n:dB A g){b:bl}(d:Den ρ f t m)(h:qH m=U b):PB B (model prog w) A (truthy t) f b:=by
 intro s Q e r G;cases m with
 |none=>obtain rfl:=bg h;exact d.pQ (P:=λv=>wpAny (model prog w) A _ Q e s) (λy y y=>G _ _ (cg.refl r))
 |bool b=>obtain rfl:=bg h;exact d.tD (P:=λv=>wpAny (model prog w) A _ Q e s) (uQ (G _ _ (cg.refl r)))
 |int k=>obtain rfl:=bg h;exact d.gG (P:=λv=>wpAny (model prog w) A _ Q e s) λi=>P.truthy_int (G _ _ (cg.refl r))
 |str l=>
  refine bM (pS h) λa j=>?_;subst j;refine d.i5 (P:=λv=>wpAny (model prog w) A (truthy v) Q e s) λi=>P.truthy_str (by simp only [str_len];exact mY.mpr (yk a)) ?_;simp only [str_len,show(((l.length):aF)!=0)=!l.isEmpty from by cases l<;>rfl];exact G _ _ (cg.tok r _)
 |list l=>
  refine bM (pS h) λa j=>?_;subst j;exact d.listE (P:=λv=>wpAny (model prog w) A (truthy v) Q e s) λq z g x o=>wpAny_truthy_list (gP r.bI x) (nW.symm▸o.length.symm▸(yk a)) ((show z.toArray.isEmpty=l.isEmpty from by cases o<;>rfl)▸(G _ _ (cg.tok r _)))
 |_=>exact aU J h
theorem ew(y:gb env)(c:s.heap.Ns env.locals E)(a:eA env E s.heap x (U v))(h:Q v s):
  wpAny (model prog w) A (loadName env x) Q P s:=by
 rcases a with⟨H,l⟩|⟨H|⟨H,e⟩,i,G,b⟩
 .exact G2 y.kind H c l.symm h
 .exact wpAny_loadName_cell y.kind H G b h
 .exact wpAny_loadName_free y.kind H G b h e
theorem Td{i:aa}(j:xs[i]?=U x)(H:m[i]?=U (.t e))(E:(x==("__debug__"))=ak):cF B prog w A ρ env xs k m (.Name x p) m e:=by
 rintro L f s b P⟨y,h,X,S⟩G;obtain⟨F,Q,a,v,rfl,d⟩:=S.vars i x _ j H;exact ez (ew y S.ns Q (G s f v (bS.refl s) (Le.refl _) ⟨y,h,X,S⟩ d)) E
theorem Te{x:ai}(e:xs[i]?=U x)(H:m[i]?=U (.own l))(a:(x==("__debug__"))=ak):
  cF B prog w A ρ env xs q m (.Name x p) (m.set i (.t (.list l))) (.list l):=by
 rintro L f s v P⟨h,E,X,S⟩G;refine cps λy r=>jL (S.freeze H) λj T k b=>?_;refine IF (k) λt z g o n Q O d y y y=>?_;refine r ?_;obtain rfl:=bg (e▸n);exact ez (ew h S.ns Q (G s j _ (bS.refl s) T ⟨h,E,_,b⟩ (.list O d))) a
noncomputable def VU(c:Const):T->Prop
 |.int b=>c=.int b
 |.str b=>c=.str ⟨b.toArray⟩
 |.bool b=>c=.bool b
 |.none=>c=.none
 |_=>False
theorem xr(h:VU c τ):cF B prog w A ρ env xs k m (.Constant c r p) m τ:=by
 intro L f s Q P S G;cases τ with
 |int b=>exact h▸(Pf (G _ f _ (b_ _ _ J) (Le.refl _) S (.int _ _)))
 |str b=>exact h▸(qV (G _ f _ (b_ _ _ J) (Le.refl _) S (.str _ _)))
 |bool b=>exact h▸(λy y y=>G _ f _ (bS.refl s) (Le.refl _) S (.bool _))
 |none=>exact h▸(λy y y=>G _ f _ (bS.refl s) (Le.refl _) S .none)
 |_=>exact h.elim
theorem cF.to(p:PO B (model prog w) A ρ e f y)(S:SR B ρ L f env xs k m s.heap)
  (G:∀O j v,bS s O->Le f j->SR B ρ L j env xs k m O.heap->Den ρ j v y->Q v O):wpAny (model prog w) A e Q P s:=
 p s Q P S.ready λO j v h d=>G O j v h.same h.le (S.step h) d
theorem S2(n:dB A Q)(R:cF B prog w A ρ env xs k m P g h)(e:cF B prog w A ρ env xs k g dR H a)(i:kN v h a=U y):
  cF B prog w A ρ env xs k m (.BinOp P v dR F) H y:=by
 intro L f s au az S G;exact B_ (R L f s _ _ S λt u aB q c T o=>e L u t _ _ T λaj ao aq x z b E=>(cF.to (QA n (o.mono z) E i) b λO j r l p X d=>G O j r ((q.trans x).trans l) ((c.trans z).trans p) X d))
theorem S4(R:dB A aj)(h1:cF B prog w A ρ env xs k e P g m)(h2:cF B prog w A ρ env xs k g dR H tb)(h:gp v m tb=U b)(a:behindInMarks v dR=ak):
  cF B prog w A ρ env xs k e (.Compare P [v] [dR] ao) H (.bool b):=by
 intro L f s Q X S G;exact wpAny_Compare1 (h1 L f s _ _ S λt u y YW c T o=>h2 L u t _ _ T λp F b x z i E=>(cF.to (xd R (o.mono z) E h) i λO j l q n r d=>G O j l ((YW.trans x).trans q) ((c.trans z).trans n) r d)) a
theorem R4(R:dB A aj)(h1:cF B prog w A ρ env xs k e P g m)(h2:cF B prog w A ρ env xs k g dR H tb)(h:gp v m tb=U b)(a:behindInMarks v dR=ak):
  fX B prog w A ρ env xs k e (.Compare P [v] [dR] aq) H b:=by
 intro L f s Q ao S G;refine wD (h1 L f s _ _ S λt u p q c T o=>h2 L u t _ _ T λy F b i z x E=>(cF.to (xd R (o.mono z) E h) x λO j X n l r d=>?_)) a;obtain rfl:=d.inv;exact uQ (G O j ((q.trans i).trans n) ((c.trans z).trans l) r)
theorem R_(n:dB A l)(R:cF B prog w A ρ env xs k x e g m)(a:qH m=U b)(X:∀i,isTrue e env i=(do let v<-i;standAt e.pos;holding [v] (truthy v))):
  fX B prog w A ρ env xs k x e g b:=by
 intro L f s Q P S G;exact adY (R L f s _ _ S λt u d q c T o=>(vY n o a t _ _ T.ready λO j h=>G O j (q.trans h.same) (c.trans h.le) (T.step h))) (X _)
theorem R7{b:bl}(R:fX B prog w A ρ env xs k m e g b):fX B prog w A ρ env xs k m (.UnaryOp .Not e p) g (!b):=by
 intro L f s Q P S G;exact PyProof.Rows.isTrue_not (R L f s _ _ S λt u q c T=>G t u q c T)
theorem Tf(R:cF B prog w A ρ env xs k m e g (.int i)):cF B prog w A ρ env xs k m (.UnaryOp .USub e p) g (.int (-i)):=by
 intro L f s Q x S G;refine wpAny_UnaryOp (R L f s _ _ S λt u a q c T o=>?_);obtain⟨h,rfl⟩:=o.inv;exact P.neg_int (G _ u _ (q.trans (b_ _ _ J)) c T (.int _ _))
theorem S_(R:fX B prog w A ρ env xs k m P g b)(h:cF B prog w A ρ env xs k g (if b then dR else e) H y):cF B prog w A ρ env xs k m (.IfExp P dR e p) H y:=by
 intro L f s Q a S G;refine wpAny_IfExp (R L f s _ _ S λt u q c T=>?_);have:=h L u t Q a T λO j v i l x d=>G O j v (q.trans i) (c.trans l) x d;cases b<;>exact this
theorem kS:lG B prog w A ρ env xs k m h [] m []:=λL f s Q P S G=>kJ (G s f [] (bS.refl s) (Le.refl _) S .nil)
theorem ML(h:∀x p,e≠.Starred x p):starEach (e::es) env=(ak,eval e env)::starEach es env:=by cases e<;>first|rfl|exact bE J (h _ _)
theorem lI(h:∀x p,e≠.Starred x p):backTo pos (starEach (e::es) env)=(ak,eval e env)::backTo pos (starEach es env):=(aL _ (ML h)).trans J
theorem pH(R:cF B prog w A ρ env xs k m e g y)(h:lG B prog w A ρ env xs k g a i H E)(r:∀x p,e≠.Starred x p):
  lG B prog w A ρ env xs k m a (e::i) H (y::E):=by
 intro L f s Q P S G;exact lI r▸(nY (R L f s _ _ S λt u v q c T o=>h L u t _ _ T λl F d n z j b=>(G l F _ (q.trans n) (c.trans z) j (.cons (o.mono z) b))))
theorem Tc(a:lG B prog w A ρ env xs k m i e g E)(r:d_ E.length=ae):cF B prog w A ρ env xs k m (.List e i) g (.list E):=by
 intro L f s Q P S G;refine Pg (a L f s _ _ S λt u z q c T b=>⟨?_,?_⟩)
 .exact(b.length)▸(kB r)
 .exact(T.ready).list b λO j v h d=>G O j v (q.trans h.same) (c.trans h.le) (T.step h) d
theorem xt(a:lG B prog w A ρ env xs k m i e g E)(r:d_ E.length=ae):cF B prog w A ρ env xs k m (.Tuple e x i) g (.tup E):=by
 intro L f s Q P S G;refine Pk (a L f s _ _ S λt u z q c T b=>⟨?_,?_⟩)
 .exact(b.length)▸(kB r)
 .exact(T.ready).tup b λO j v h d=>G O j v (q.trans h.same) (c.trans h.le) (T.step h) d
end
noncomputable def iq(i:aF):bl:=decide (-(2^62)<i)&&decide (i<2^62)
noncomputable def Ac(l:Y T)(i:aF):aY T:=if iq i then(seqIndex? i l.length).bind (l[·]?)else af
noncomputable def Df:T->aF->aY T
 |.list l,i=>Ac l i
 |.tup l,i=>Ac l i
 |.str l,i=>if iq i then((seqIndex? i l.length).bind (l[·]?)).map λc=>.str [c]else af
 |_,_=>af
noncomputable def pK(x:T):T->aY T
 |.int i=>Df x i
 |_=>af
noncomputable def cut{T:Type}(lo A:aY aF)(l:Y T):Y T:=(l.drop (lo.elim 0 (clipAt l.length))).take (A.elim l.length (clipAt l.length)-lo.elim 0 (clipAt l.length))
noncomputable def Bb:T->aY aF->aY aF->aY T
 |.list l,lo,A=>if d_ l.length then U (.list (cut lo A l))else af
 |.str l,lo,A=>if d_ l.length then U (.str (cut lo A l))else af
 |_,_,_=>af
section
variable{B:br O}{prog:bZ}{w:bR}{A:cI}{ρ:Mk}{env:cG}{xs:Y ai}{k:aa}{lv:Y (AV O)}{τ:T}
theorem En{T:Type} [Decidable c]{x O:T}(h:(if c then U x else af)=U O):c/\x=O:=by
 by_cases q:c
 .rw [bx q]at h;exact⟨q,bg h⟩
 .exact aU (bA q) h
theorem X0{x O:aa}(h:(if(c&&d)=ae then U x else af)=U O):c=ae/\d=ae/\x=O:=
 have q:=En h;have r:=cU.mp q.1
 (c_ r.1 r.2 q.2)
theorem Mz(e:seqIndex? i g=U u):(0<=i/\u=i.toNat/\u<g)\/(i<0/\-(g)<=i/\u=(i+g).toNat/\u<g):=by
 refine gg (X0 (e)) λR w h=>?_;subst h;have t:=(Int.toNat_lt (of_decide_eq_true R)).mpr (of_decide_eq_true w)
 by_cases q:i<0
 .rw [bx q]at R t⊢;exact .inr (kU q (Int.neg_le_of_neg_le (Int.sub_nonneg.mp (by simp only [Int.sub_neg,Oh];exact of_decide_eq_true R))) J t)
 .rw [bA q]at t⊢;exact .inl (c_ (oW.mp q) J t)
theorem Dh(h:iq i=ae):-(2^63)<=i:=uB (by decide) (BI (of_decide_eq_true (cU.mp h).1))
theorem Dg(h:iq i=ae):i<2^63:=qX (of_decide_eq_true (cU.mp h).2) (by decide)
theorem MB(h:Ac l i=U τ):iq i=ae/\∃u,seqIndex? i l.length=U u/\l[u]?=U τ:=by
 by_cases q:iq i=ae
 .have h:(if iq i=ae then(seqIndex? i l.length).bind (l[·]?)else af)=U τ:=h;rw [bx q]at h;exact⟨q,adS.mp h⟩
 .exact aU (bA q) h
theorem list_item(d:bq ρ f z n)(h:Ac n i=U τ)(k:s.heap.IsList l z.toArray)(G:∀v,Den ρ f v τ->Q v s):wpAny (model prog w) A (getItem (.ref l) (.int i t)) Q P s:=by
 refine cps λy r=>bM (MB h) λa j=>?_;refine aA (j) λu x h=>?_;refine aA (d.get h) λv O H=>r ?_;rcases Mz x with⟨e,rfl,_⟩|⟨e,b,rfl,_⟩
 .exact wpAny_getItem_list k e (Dg a) (OD.trans O) (G v H)
 .rw [(d.length.symm)]at b O;exact wpAny_getItem_list_neg k e b (Dh a) (OD.trans O) (G v H)
theorem Ua(o:Den ρ f t m)(h:Df m i=U τ)(r:Ready B f s)(G:∀v j,Den ρ f v τ->Q v {s with toks:=j}):wpAny (model prog w) A (getItem t (.int i X)) Q a s:=by
 cases m with
 |list l=>exact o.listE (P:=λv=>wpAny _ A (getItem v _) Q a s) λk z g x o=>list_item o h (gP r.bI x) λv d=>G v _ d
 |tup l=>
  refine o.Fj (P:=λv=>wpAny _ A (getItem v _) Q a s) λk z g x o=>cps λS n=>bM (MB h) λe u=>?_;refine aA (u) λE p h=>?_;exact aA (o.get h) λv O H=>n (P.getItem_tuple (r.bI _ _ x) (Dh e) (Dg e) (nW.symm▸o.length.symm▸p) (OD.trans O) (G v _ H))
 |str l=>
  refine o.i5 (P:=λv=>wpAny _ A (getItem v _) Q a s) λL=>?_;refine cps λT F=>?_;obtain⟨e,h⟩:iq i=ae/\((seqIndex? i l.length).bind (l[·]?)).map _=U τ:=by
   by_cases q:iq i=ae
   .exact⟨q,(bx q).symm.trans h⟩
   .exact aU J ((bA q).symm.trans h)
  refine aA (uJ.mp h) λc y b=>?_;subst b;refine F ?_;refine P.getItem_str ?_ ?_ (G _ _ (.str [c] _))
  .exact acI.mpr ⟨decide_eq_false (oW.mpr (Dh e)),decide_eq_false (mY.mpr (Dg e))⟩
  .simp only [str_len];simpa using y
 |_=>exact aU J h
theorem VY(d:Den ρ f t m)(h:Df m i=U τ){s:aT}(p:Le f s.heap.get?):∃T id,s.TypeIs t T/\typeLookup (.type T) "__getitem__"=pure (U (.builtin id)):=by
 cases m with
 |list l=>exact d.listE (P:=λv=>∃T id,s.TypeIs v T/\typeLookup (.type T) "__getitem__"=pure (U (.builtin id))) λa z g B o=>(gh _ _ ((gP p B).typeIs) Od.lookup)
 |tup l=>exact d.Fj (P:=λv=>∃T id,s.TypeIs v T/\typeLookup (.type T) "__getitem__"=pure (U (.builtin id))) λa z g B o=>(gh _ _ (aR _ (p _ _ B) J) F.slot_tuple_getitem.lookup)
 |str l=>exact d.i5 (P:=λv=>∃T id,s.TypeIs v T/\typeLookup (.type T) "__getitem__"=pure (U (.builtin id))) λw=>(gh _ _ (sT _ _ _) acT.lookup)
 |_=>exact aU J h
theorem vV(h:∀a b c p,e≠.Slice a b c p):subscripted e ak o i=operate [o,i] (getItem o i):=by
 cases e with
 |Slice=>exact bE J (h _ _ _ _)
 |_=>rfl
theorem S8(R:cF B prog w A ρ env xs k lv x aV g)(X:cF B prog w A ρ env xs k aV dR H n)(h:pK g n=U τ)(m:∀a b y p,dR≠.Slice a b y p):
  cF B prog w A ρ env xs k lv (.Subscript x dR p) H τ:=by
 intro L f s Q P S G;refine wz (R L f s _ _ S λt u a q c i o=>X L u t _ _ i λl F b j z e E=>?_);cases n with
 |int au=>
  refine E.gG (P:=λv=>wpAny (model prog w) A _ Q P l) λaq=>?_;have r:=e.ready;exact dS (VY (o.mono z) h r.bI) λT id O ao=>uK O ao (Ua (o.mono z) h r λv aj d=>G _ F v ((q.trans j).trans (b_ _ _ J)) (c.trans z) (e.step (cg.tok r aj)) d) (vV m)
 |_=>exact aU J h
noncomputable def nZ(B:br O)(prog:bZ)(w:bR)(A:cI)(ρ:Mk)(env:cG)(xs:Y ai)(k:aa)(lv:Y (AV O))(e:bW)(τ:T):Prop:=
 ∀(L:HB)(f:Fz)(s:aT)(Q:aD->aT->Prop)(P:aD->aT->Prop),SR B ρ L f env xs k lv s.heap->
  (∀m v,Den ρ f v τ->Q v {s with toks:=m})->wpAny (model prog w) A (eval e env) Q P s
theorem CQ{i:aa}(j:xs[i]?=U x)(H:lv[i]?=U (.t τ))(E:(x==("__debug__"))=ak):nZ B prog w A ρ env xs k lv (.Name x p) τ:=by
 rintro L f s e P⟨y,h,X,S⟩G;obtain⟨F,Q,a,v,rfl,d⟩:=S.vars i x _ j H;exact ez (ew y S.ns Q (G s.toks v d)) E
theorem Su:nZ B prog w A ρ env xs k lv (.Constant (.int i) r p) (.int i):=
 λL f s Q P S G=>Pf (G _ _ (.int _ _))
theorem Sv{i:aF}(R:nZ B prog w A ρ env xs k lv e (.int i)):nZ B prog w A ρ env xs k lv (.UnaryOp .USub e p) (.int (-i)):=by
 intro L f s Q a S G;refine wpAny_UnaryOp (R L f s _ _ S λm v d=>?_);obtain⟨h,rfl⟩:=d.inv;exact P.neg_int (G _ _ (.int _ _))
theorem S9{u:aa}(q:xs[u]?=U x)(hl:lv[u]?=U (.own l))(E:(x==("__debug__"))=ak)(e:nZ B prog w A ρ env xs k lv dR (.int i))(n:pK (.list l) (.int i)=U τ)
  (r:∀a b c p,dR≠.Slice a b c p):cF B prog w A ρ env xs k lv (.Subscript (.Name x px) dR p) lv τ:=by
 rintro L fz s Q P⟨y,m,X,S⟩G;refine cps λf t=>?_;obtain⟨T,h,a,z,j,rfl,o,d,g⟩:=S.vars u x _ q hl;refine t ?_;refine wz (ez (ew y S.ns h (e L fz s _ _ ⟨y,m,X,S⟩ λtk v H=>H.gG (P:=λv=>wpAny (model prog w) A _ Q P {s with toks:=tk}) λO=>?_)) E);have il:({s with toks:=tk}).heap.IsList a z.toArray:=(i12 _ o J ⟨j,J⟩);exact uK il.typeIs Od.lookup (list_item d n il λv H=>G {s with toks:=tk} fz v (b_ _ _ J) (Le.refl _) ⟨y,m,X,S⟩ H) (vV r)
theorem aQ.lend(S:aQ B ρ L f env xs k lv E R s.heap){t:aa}{n:Y T}(d:xs[t]?=U X)(H:lv[t]?=U (.own n)):
  ∃a j,eA env E s.heap X (U (.ref a))/\Ready B j s/\Le f j/\Den ρ j (.ref a) (.list n)/\
   ∀O r,cg B j s r O->∃u,Le f u/\aQ B ρ L u env xs k lv E R O.heap:=by
 refine cps λy G=>jL (S.freeze H) λj i m P=>?_;refine IF (m) λa aq g ao x Q l p c y z=>?_;refine G ?_;rw [d]at x;obtain rfl:=bg x;refine Jx a j Q P.ready i (.list l p) λO h A=>?_;have F:∀{b o},(if b=a then af else h b)=U o->b≠a/\h b=U o:=λ{b o}e=>by
  by_cases q:b=a
  .rw [bx q]at e;exact aU J (e)
  .rw [bA q]at e;exact⟨q,e⟩
 have v:Le f λb=>if b=a then af else h b:=λb o e=>(bA (eP c e)).trans (A.le _ _ (i _ _ e))
 refine aR _ v (S.grow A.keep (B.tN A.inv (λb o w aj e=>(bA λq=>?_).trans e) λau y o e=>e) v λb o e=>bM (F e) λg e=>(A.new b o e).elim (λq=>.inl ?_) λq=>.inr ⟨q,A.bI _ _ e⟩)
 .subst q;have:=bg ((A.le _ _ l).symm.trans e);subst this;exact nomatch aj
 .rw [z]at q;exact(bA g).symm.trans q
theorem R5(n:dB A aK){u:aa}(R:cF B prog w A ρ env xs k lv P g m)(j:xs[u]?=U x)(H:g[u]?=U (.own l))(E:(x==("__debug__"))=ak)
  (a:gp v m (.list l)=U b):fX B prog w A ρ env xs k lv (.Compare P [v] [.Name x au] az) g b:=by
 intro L f s aq aO S G;refine wD (R L f s _ _ S λt aB aN q c T o=>?_) (J);obtain⟨y,i,X,T⟩:=T;refine rE (T.lend j H) λaG aM Q r p z d=>ez (ew y T.ns Q (xd n (o.mono p) z a t _ _ r λF aH aI h O=>?_)) E;obtain rfl:=O.inv;exact aA (d _ _ h) λaj ao e=>uQ (G F aj (q.trans h.same) (c.trans ao) ⟨y,i,X,e⟩)
end
section
variable{c4:Y (AV O)}
noncomputable def wM(H:br O)(i:bZ)(u:bR)(F:cI)(X:Mk)(B:cG)(n:Y ai)(k:aa)(m:Y (AV O))(e:aY bW)(S:Y (AV O))(a:aY aF):Prop:=
 ∀(L:HB)(f:Fz)(s:aT)(Q:aD->aT->Prop)(P:aD->aT->Prop),SR H X L f B n k m s.heap->
  (∀h j(p:aY (aF×fK)),p.map (·.1)=a->bS s h->Le f j->SR H X L j B n k S h.heap->Q (partValue p) h)->wpAny (model i u) F (evalPart e B) Q P s
theorem Sq:wM H i u F X B n k m af m af:=λL f s Q P S G=>by
 exact bD (G s f af J (bS.refl s) (Le.refl _) S)
theorem Ss(a:cF H h u F X B n k m e g (.int i)):wM H h u F X B n k m (U e) g (U i):=λL f s Q P S G=>by
 refine a L f s Q P S λO j v q l x d=>?_;cases d with
 |int i w=>exact G O j (U (i,w)) J q l x
theorem JM:∀(p:aY _),IsPart (partValue p) (p.map (·.1))
 |af=>.none
 |U (i,w)=>.int i w
theorem Z5(x:ai)(l B:aY _):
  (slicePicked x l B af).filterMap (x.cps[·]?)=(x.cps.toList.drop ((l.map (·.1)).elim 0 (clipAt x.length))).take ((B.map (·.1)).elim x.length (clipAt x.length)-(l.map (·.1)).elim 0 (clipAt x.length)):=by
 have e:slicePicked x l B af=sliceRange (sliceBounds (l.map _) (B.map (·.1)) af x.length).1 (sliceBounds (l.map (·.1)) _ af x.length).2.1 1:=J;rw [e,sliceBounds_plain];rw [sliceRange_one,pick_run]
theorem MA(E:aa):seqIndex? (-1) (E+1)=U E:=by
 show(if(decide (0<=(-1)+((E+1:aa):aF))&&decide ((-1)+((E+1:aa))<((E+1:aa):aF)))=ae then U ((-1)+((E+1:aa):aF)).toNat else af)=_;rw [((Oh _ _).trans (Int.add_sub_cancel (E) 1))];exact bx (cU.mpr ⟨decide_eq_true (jl E),decide_eq_true (jF.mpr (eH E))⟩)
theorem Rf(g:aa)(i:aF):clipAt g i<=g:=Int.toNat_le.mpr (Int.max_le.mpr ⟨jl g,Int.min_le_right _ _⟩)
theorem aau{x O g:aa}(h:x-O=g+1)(R:x<=g+1):O=0:=Nat.eq_zero_of_not_pos λs=>bE (Nat.sub_lt (eU (cS g) (h▸yQ x O)) s) (fJ.mpr (h.symm▸R))
set_option tactic.hygienic true in
theorem Ti{lo j:aY bW}(R:cF i x u b X B n k aX bQ aH m)(aI:wM i x u b X B n k aH lo c4 S)(aP:wM i x u b X B n k c4 j az aS)(h:Bb m S aS=U a_):
  cF i x u b X B n k aX (.Subscript bQ (.Slice lo j af cC) cK) az a_:=by
 intro L b8 cy cz cA aG G;refine wz (R L b8 cy _ _ aG λaN aW cM bh bu bw T=>(wpAny_Slice (aI L aW aN _ _ bw λP aj e aq au z aB=>aP L aj P _ _ aB λw H a aK aM p O=>(bD ?_))));subst aq aK;have r:=O.ready;have A:=cg.iu r {cls:=.type "slice",data:=.fields #[partValue e,partValue a,.none]} w.toks;have t:=A.ready r;have q:=(T.mono z).mono p;have f:=(bh.trans au).trans aM;have g:=(bu.trans z).trans p;cases m with
 |list l=>
  obtain⟨s,rfl⟩:=En h
  .
   cases q with
   |list bf c=>
    rename_i bj cH;have d:=c.length;have y:=gP t.bI bf;refine uK y.typeIs Od.lookup (wpAny_getItem_list_slice y (Heap.IsSliceOf.new ..) (JM e) (JM a) .none (nofun) ?_ (by simp only [nW,d];exact kB s)) J;rw [slicePick_plain];have aO:bq X H (cut (e.map (·.1)) (a.map (·.1)) bj) (cut (e.map (·.1)) (a.map (·.1)) l):=by
     unfold cut;exact(d)▸((c.drop _).take _)
    have:=t.list (n:=0) (tk:=w.toks) aO λbF bK v E bV=>G bF bK v (f.trans (A.same.trans E.same)) (g.trans E.le) ((O.step A).step E) bV;simpa [cut]using this
 |str l=>
  obtain⟨s,rfl⟩:=En (c:=d_ l.length=ae) h
  .
   obtain⟨cN,rfl⟩:=q.inv;refine uK (sT _ _ _) acT.lookup (wpAny_getItem_str_slice (st:=af) (i12 _ (eN _ J) J J) J ?_) J;have bB:(slicePicked ⟨l.toArray⟩ e a af).filterMap ((⟨l.toArray⟩:ai).cps[·]?)=cut (e.map (·.1)) (a.map (·.1)) l:=by
    rw [Z5,str_len];exact J
   unfold sliceMade
   split
   .rename_i b7;have Q:=by simpa [str_len]using b7
    have bX:slicePicked ⟨l.toArray⟩ e a af=sliceRange (sliceBounds (e.map (·.1)) (a.map (·.1)) af l.length).1 (sliceBounds (e.map (·.1)) (a.map (·.1)) af l.length).2.1 1:=by
     delta slicePicked Builtin.Str.strSliceIndices sliceBounds
     exact J
    rw [bX,sliceBounds_plain]at Q;simp only [sliceRange_one,b5,oX]at Q;have cf:∀o:aY aF,o.elim l.length (clipAt l.length)<=l.length:=λo=>by
     cases o with
     |none=>exact ek _
     |some cY=>exact Rf _ _
    have R:=cf (a.map (·.1));have:cut (e.map (·.1)) (a.map (·.1)) l=l:=by
     unfold cut;rw [Q];cases l with
     |nil=>simp
     |cons ao r=>
      have:(e.map (·.1)).elim 0 (clipAt (ao::r).length)=0:=aau Q R;rw [this];simp
    exact(this▸G) _ H _ (f.trans A.same) g (O.step A) (.str _ _)
   .refine bB▸(⟨?_,G _ H _ ((f.trans A.same).trans (b_ _ _ J)) g (O.step (cg.trans r A (cg.tok t _))) (.str _ _)⟩);simp only [str_len];have:=kB s;unfold cut;simp only [GD,GC];exact rW 0 (.v 3) (.v 1) (.v 0) (.v 1) (.v 3) (.v 2) (.v 2) (.v 0) J [_,_,_,_] this KO W_
 |_=>exact aU J h
theorem IX(h:cF H i u F X B n k m e g y):cF H i u F X B n k m (.BoolOp v [e] p) g y:=
 λL f s Q P S G=>PyProof.Rows.BoolOp_one (h L f s Q P S G)
theorem S1(n:dB F l)(x:cF H i u F X B h k m P g y)(e:qH y=U ak):cF H i u F X B h k m (.BoolOp .And (P::v::r) p) g y:=by
 intro L f s Q b S G;exact adW (x L f s _ _ S λt d a q c T o=>(vY n o e t _ _ T.ready λO j A=>G O j a (q.trans A.same) (c.trans A.le) (T.step A) (o.mono A.le)))
theorem S0(n:dB F aj)(e:cF H i u F X env xs k m P g ta)(h:qH ta=U ae)(w:cF H i u F X env xs k g (.BoolOp .And (dR::r) p) c4 y):cF H i u F X env xs k m (.BoolOp .And (P::dR::r) p) c4 y:=by
 intro L f s Q a S G;exact adW (e L f s _ _ S λt R E q c T o=>(vY n o h t _ _ T.ready λO j A=>(w L j O Q a (T.step A) λx l v b z B d=>G x l v ((q.trans A.same).trans b) ((c.trans A.le).trans z) B d)))
theorem Th(n:dB F l)(x:cF H i u F X B h k m P g y)(e:qH y=U ae):cF H i u F X B h k m (.BoolOp .Or (P::v::r) p) g y:=by
 intro L f s Q b S G;exact O2 (x L f s _ _ S λt d a q c T o=>(vY n o e t _ _ T.ready λO j A=>G O j a (q.trans A.same) (c.trans A.le) (T.step A) (o.mono A.le)))
theorem Tg(n:dB F aj)(e:cF H i u F X env xs k m P g ta)(h:qH ta=U ak)(w:cF H i u F X env xs k g (.BoolOp .Or (dR::r) p) c4 y):cF H i u F X env xs k m (.BoolOp .Or (P::dR::r) p) c4 y:=by
 intro L f s Q a S G;exact O2 (e L f s _ _ S λt R E q c T o=>(vY n o h t _ _ T.ready λO j A=>(w L j O Q a (T.step A) λx l v b z B d=>G x l v ((q.trans A.same).trans b) ((c.trans A.le).trans z) B d)))
theorem R3:fX H i u F X B n k m (.BoolOp .And [] p) m ae:=λL f s Q P S G=>PyProof.Rows.isTrue_and_nil (G s f (bS.refl s) (Le.refl _) S)
theorem R8:fX H i u F X B n k m (.BoolOp .Or [] p) m ak:=λL f s Q P S G=>PyProof.Rows.isTrue_or_nil (G s f (bS.refl s) (Le.refl _) S)
theorem JP(v:BoolOp)(A:Y bW)(p:fR)(B:cG)(h e:Sem aD):isTrue (.BoolOp v A p) B h=isTrue (.BoolOp v A p) B e:=J
theorem zR{b c:bl}(x:fX H i u F X B n k m l g b)(w:if b then fX H i u F X B n k g (.BoolOp .And r p) c4 c else(c4=g/\c=ak)):
  fX H i u F X B n k m (.BoolOp .And (l::r) p) c4 c:=by
 intro L f s Q P S G;refine PyProof.Rows.isTrue_and (x L f s _ _ S λt h q e T=>?_);cases b with
 |true=>
  exact(JP _ _ _ _ _ _).symm▸(w L h t Q P T λj o v z a=>G j o (q.trans v) (e.trans z) a)
 |false=>
  obtain⟨rfl,rfl⟩:=w;exact G t h q e T
theorem IJ{b c:bl}(x:fX H i u F X B n k m l g b)(w:if b then(c4=g/\c=ae)else fX H i u F X B n k g (.BoolOp .Or r p) c4 c):
  fX H i u F X B n k m (.BoolOp .Or (l::r) p) c4 c:=by
 intro L f s Q P S G;refine PyProof.Rows.isTrue_or (x L f s _ _ S λt h q e T=>?_);cases b with
 |false=>
  exact(JP _ _ _ _ _ _).symm▸(w L h t Q P T λj o v z a=>G j o (q.trans v) (e.trans z) a)
 |true=>
  obtain⟨rfl,rfl⟩:=w;exact G t h q e T
end
structure fy(B:br O)(mg mb:ai->aY aD):Prop where
 g:∀{h},bG B.bO h->h.Ns mainGlobals mg
 b:∀{h},bG B.bO h->h.Ns builtinsNs mb
 nolimit:∀{h},bG B.bO h->h.NoLimit
noncomputable def Cc(H:br q)(i:bZ)(u:bR)(g:aa)(h:aD)(R:Y T)(r:T):Prop:=
 ∀(F:cI)(X:Mk)(f:Fz)(z:Y aD)(n:Result->aT->Prop)(s:aT),dB F g->Ready H f s->bq X f z R->
  (∀O j v,cg H f s j O->Den X j v r->n (.ok (.ret v)) O)->codeAny (model i u) F (.call h ⟨z,[]⟩) n s
section
theorem kA:∀(A:Y bW),(∀e∈A,∀x p,e≠.Starred x p)->(backTo pos (starEach A env)).any (·.1)=ak:=λi=>i.rec
 (λy=>J)
 (λe A f h=>lI (h e gj)▸f λe X=>h e (fF _ X))
theorem jY{A:Y bW}(R:∀e∈A,∀x p,e≠.Starred x p)(h:lG H i u F X B n k m w A g E)(S:SR H X hB f B n k m s.heap)
  (G:∀O j z,bS s O->Le f j->SR H X hB j B n k g O.heap->bq X j z E->Q ⟨z,[]⟩ O):wpAny (model i u) F (evalArgs a ae (backTo w (starEach A B)) []) Q P s:=by
 cases A with
 |nil=>
  exact aE (i0 (h hB f s _ P S G) (λz O T=>(e9 (aE (bD (aE (bD (bD T))))))) λy y x=>x)
 |cons e A=>
  have v:=h hB f s _ P S G;rw [(lI (R e gj))]at v⊢;exact uO v
theorem pN(G:fy H d r)(y:gb B)(t:bG H.bO s.heap)(j:B.kindOf x=U .globalImplicit)(l:d x=U v)(E:(x==("__debug__"))=ak)(h:Q v s):
  wpAny (model i u) F (eval (.Name x p) B) Q P s:=adA y.kind j (loadGlobal_global (y.globals▸G.g t) l h) E
theorem nA(G:fy H d r)(y:gb B)(t:bG H.bO s.heap)(j:B.kindOf x=U .globalImplicit)(z:d x=af)(l:r x=U v)(E:(x==("__debug__"))=ak)(h:Q v s):
  wpAny (model i u) F (eval (.Name x p) B) Q P s:=adA y.kind j (loadGlobal_builtin (y.globals▸G.g t) z (y.builtins▸G.b t) l h) E
theorem cF.vJ{s t:aT}(q:bS s t)(c:Le f u)(T:SR H X L u B n k m t.heap)(p:PO H (model i h) F X w u y)
  (G:∀O j v,bS s O->Le f j->SR H X L j B n k m O.heap->Den X j v y->Q v O):wpAny (model i h) F w Q P t:=
 cF.to p T λO a v e l x d=>G O a v (q.trans e) (c.trans l) x d
theorem IY(G:fy H d r){id:String}(t:B.kindOf x=U .globalImplicit)(e:d x=af)(l:r x=U (.builtin id))(E:(x==("__debug__"))=ak)
  (R:∀s∈A,∀x p,s≠.Starred x p)(h:lG H i u F X B n k m w A g a)(O:∀f z,bq X f z a->PO H (model i u) F X (call (.builtin id) z) f y):
  cF H i u F X B n k m (.Call (.Name x p) A [] w) g y:=by
 intro L f v Q P S j;exact lD (nA G S.1 S.ready.base t e l E (j_ (kA A R) (jY R h S λaj o z q c T b=>(cF.vJ q c T (O o z b) j))))
theorem S3(G:fy H l aN)(f:dB F g)(j:B.kindOf x=U .globalImplicit)(k:l x=U (.ref a))(aj:(x==("__debug__"))=ak)
  (az:∀{h},bG H.bO h->h.get? a=U o)(b:o.data=.func aB)(R:∀s∈e,∀x p,s≠.Starred x p)(h:lG H i u F X B n t m w e q E)(v:Cc H i u g (.ref a) E y):
  cF H i u F X B n t m (.Call (.Name x p) e [] w) q y:=by
 intro aG aH aI aK aM S r;exact lD (pN G S.1 S.ready.base j k aj (B8 (jY R h S λz L O Q c T ao=>⟨⟨az T.ready.base,b⟩,(i7 (v F X L O _ z f T.ready ao λP au aq A d=>r P au aq (Q.trans A.same) (c.trans A.le) (T.step A) d))⟩)))
theorem xQ(l:(backTo w (starEach A B)).any (·.1)=ak)(Q:A.length<30):methodCallForm (A.length+([]:Y Keyword).length) (backTo w (starEach A B)) (backToKw w (keywordEach [] B))=ae:=
 cU.mpr ⟨cU.mpr ⟨(by simpa using l),J⟩,decide_eq_true Q⟩
theorem KA{e:bW}{b:fR}(T:(b.endLine==w.line)=ae):methodCallPos ae e B b w=pure w:=by delta methodCallPos;simp [T]
theorem CS{T id:String}(c:attributeBase o G B (eval o B)=eval o B)(R:∀aI∈A,∀y S,aI≠.Starred y S)
  (P:A.length<30)(aG:(aH.endLine==w.line)=ae)(aO:PlainAttrs T)(r:Slot T G id)(p:typeOf (.builtin id)=pure (.type "method_descriptor"))
  (L:cF H i u F X B n k aM o aN m)(q:lG H i u F X B n k aN w A g E)
  (x:∀f v(s:aT),Ready H f s->Den X f v m->s.TypeIs v T/\(∀a,v=.ref a->∃Q,s.heap.get? a=U Q/\Q.dict=af))
  (O:∀f v z,Den X f v m->bq X f z E->PO H (model i u) F X (call (.builtin id) (v::z)) f aj):
  cF H i u F X B n k aM (.Call (.Attribute o G aH) A [] w) g aj:=by
 intro ao f s aX aW az aB;have l:=kA (pos:=w) (env:=B) A R;exact lE c (xQ l P) aG aO r p (L ao f s _ _ az λt e v aq au h d=>((c_ ((x e v t h.ready d).1) ((x e v t h.ready d).2) (j_ l (jY R q h λa_ aK z aP b aS j=>cF.vJ (aq.trans aP) (au.trans b) aS (O aK v z (d.mono b) j) aB)))))
end
section
set_option tactic.hygienic true
section
variable{B:br O}{k:aa}{lv:Y (AV O)}{hB:HB}
theorem gu(y:gb h)(e:hB.lk=[])(S:aQ B X hB f h n k lv g R s.heap)(j:n[i]?=U x)(E:i<k)
  (b:h.kindOf x=U .local\/h.kindOf x=U .cell)(l:Holds B X f s.heap av (U a) fp)(z:ng B hB f h n R i fp)
  (G:∀O m,bS s O->aQ B X hB f h n k (lv.set i av) m (bT R i fp) O.heap->Q () O):wpAny (model w u) d (storeName h x a) Q P s:=by
 rcases b with H|H
 .exact G6 H S.ns (λT c r=>G _ _ (b_ _ _ J) (S.A0 e j H c r l z)) (y.kind.symm▸J)
 .have A:=by exact(S.len)▸((ck.mp j).1)
  obtain⟨F,o,_⟩:=S.vars i x _ j (cP A);rcases o with⟨q,_⟩|⟨_,p,v,t⟩
  .rw [H]at q;exact nc lA (bg q) J
  .exact aep y.kind H v t λT c r=>G _ _ (b_ _ s.toks J) (S.Md e j E H v c r l z)
noncomputable def h_(B:br O)(i:bZ)(u:bR)(F:cI)(X:Mk)(e:cG)(n:Y ai)(k:aa)(lv:Y (AV O))(a:bW)(y:T)(S:Y (AV O)):Prop:=
 ∀(hB:HB)(f:Fz)(s:aT)(v:aD)(Q:Unit->aT->Prop)(P:aD->aT->Prop),hB.lk=[]->SR B X hB f e n k lv s.heap->Den X f v y->
  (∀h,bS s h->SR B X hB f e n k S h.heap->Q () h)->wpAny (model i u) F (assign a e v) Q P s
theorem R1(j:n[i]?=U x)(E:i<k)(l:h.kindOf x=U .local\/h.kindOf x=U .cell):h_ B t u F X h n k lv (.Name x p) y (lv.set i (.t y)):=by
 rintro hB m g v Q P b⟨e,o,f,S⟩d G;exact m8 (gu (av:=.t y) e b S j E l ⟨J,v,J,d⟩ .nil λO s q a=>G O q ⟨e,s,_,a⟩)
theorem CL{x O:ai}{q f:T}(X:F.handled=af)(v:n[i]?=U x)(E:i<k)(o:h.kindOf x=U .local\/h.kindOf x=U .cell)(p:n[u]?=U O)(P:u<k)(ao:h.kindOf O=U .local\/h.kindOf O=U .cell):
  h_ B aS aG F bj h n k lv (.Tuple [.Name x bB,.Name O aH] bu bw) (.tup [q,f]) ((lv.set i (.t q)).set u (.t f)):=by
 rintro hB e s aK aP bh l S d G;refine cps λaI m=>?_;obtain⟨aM,aN,aO,g,b,rfl⟩:=d.inv;refine m ?_;cases b with
 |cons z b=>cases b with
  |cons c b=>cases b with
   |nil=>
    rename_i w t;have r:=S.ready;refine GZ X (vq r.bI g) J J λL Q=>?_;have A:cg B e s e {s with heap:=L}:=cg.keeps r λR H a=>Q R H (fW (fQ a)) a;obtain⟨y,aW,aX,S⟩:=S.step A;refine aE (e9 (m8 (gu (av:=.t q) y l S v E o ⟨J,w,J,z⟩ .nil λa_ bf aq aj=>?_)));exact aE (e9 (m8 (gu (av:=.t f) y l aj p P ao ⟨J,t,J,c⟩ .nil λaz au aB j=>(bD (G az ((A.same.trans aq).trans aB) ⟨y,au,_,j⟩)))))
noncomputable def HB.add(hB:HB)(k:Y ay)(h:cu):HB:=⟨λb=>if b∈k then h.get? b else hB.b b,k++hB.it,hB.f0,hB.lk⟩
structure eW(B:br O)(hB:HB)(fz:Fz)(env:cG)(xs:Y ai)(dY:aa->Y ay)(b:ay):Prop where
 hb:hB.b b=af
 fz:fz b=af
 loc:b≠env.locals
 cell:∀(j:aa)(x:ai),xs[j]?=U x->env.kindOf x≠U .local->env.cells.lookup x≠U b
 fp:∀j,j<xs.length->b∉dY j
 tab:b∉B.tabs
 h0:B.bO.get? b=af
theorem aQ.b0(S:aQ B X hB f a n k lv E R h)(e:hB.b b=af):B.bO.get? b=af:=iO λo q=>aU e (S.fT b o q)
theorem aQ.free(S:aQ B x hB f h n k lv E R e)(t:e.get? b=af):eW B hB f h n R b:=
 Iz (S.fresh t) λa Q c d i X=>⟨a,Q,c,d,i,X,S.b0 a⟩
theorem aQ.vg(S:aQ B X hB f e n k lv E R h)(A:i<n.length):∀b∈R i,f b=af/\B.bO.get? b=af/\b∉B.tabs:=
 λb t=>(c_ ((S.fp i A b t).2.1) (S.b0 (S.fp i A b t).1) (λq=>(S.tab b q).2.2.2.2 i A t))
theorem jz{T:Type}{l:Y T}{x:T}(h:l[i]?=U x):i<l.length:=(ck.mp h).1
theorem gn(t:b∈wr):(hB.add wr h).b b=h.get? b:=bx ‹_›
theorem fS(t:b∉wr):(hB.add wr h).b b=hB.b b:=bA ‹_›
theorem aQ.enter(S:aQ B X hB f s n k lv l R a)(g:∀b∈h,eW B hB f s n R b)(r:∀b∈h,(a.get? b).isSome=ae):
  aQ B X (hB.add h a) f s n k lv l R a:=by
 refine{S with kept:=λb o e=>?_,nL:=⟨?_,S.nL.2⟩,fT:=λb o e=>(fS ((λe q=>aU ((g _ q).h0) e) e)).trans (S.fT b o e),own:=λi x c A j m v=>?_,jt:=λi x c A j v m=>?_,fp:=λi A b t=>?_,tab:=λP G=>?_,c3:=λb t=>?_,new:=λb o e=>by rw [fS λq=>aU ((g b q).fz) e];exact S.new b o e}
 .by_cases t:b∈h
  .exact(gn t).symm.trans e
  .rw [fS t]at e;exact S.kept b o e
 .exact(fS λq=>(g _ q).loc J).trans S.nL.1
 .exact(fS λq=>(g c q).cell i x j m v).trans (S.own i x c A j m v)
 .exact(fS λq=>(g c q).cell i x j m v).symm▸(S.jt i x c A j v m)
 .exact(fS λq=>(g b q).fp i A t).symm▸(S.fp i A b t)
 .exact(fS λq=>(g P q).tab G).symm▸(S.tab P G)
 .by_cases q:b∈h
  .exact(gn q).symm▸((kU (r b q) ((g b q).fz) ((g b q).cell) ((g b q).h0)))
  .rw [fS q];rcases e8.mp t with E|E
   .exact bE E q
   .exact S.c3 b E
theorem aQ.turn(S:aQ B r (hB.add h p) f a g k lv E R Q)(l:∀b,b∉h->∀o,Q.get? b=U o->h'.get? b=U o)(y:∀b∈h,(h'.get? b).isSome=ae):
  aQ B r (hB.add h h') f a g k lv E R h':=by
 have A:∀b∈h,b∈(hB.add h p).it:=λb t=>fV _ t;have T:∀{b},(hB.add h p).b b=af->b∉h:=λe q=>by have:=(S.c3 _ (A _ q)).1;rw [e]at this;exact cW J this
 have n:∀{b o},f b=U o->b∉h:=λe q=>aU ((S.c3 _ (A _ q)).2.1) e;have d:∀{b o},B.bO.get? b=U o->b∉h:=λe q=>aU ((S.c3 _ (A _ q)).2.2.2) e;have nc:∀{c i x},g[i]?=U x->a.kindOf x≠U .local->a.cells.lookup x=U c->c∉h:=λj m v q=>(S.c3 _ (A _ q)).2.2.1 _ _ j m v;have X:∀{b},b∉h->(hB.add h h').b b=(hB.add h p).b b:=λq=>by refine aZ (fS q) ?_;rw [fS q]
 have u:bG B.bO h':=λb o e=>l b (d e) o (S.base b o e);refine{S with base:=u,kept:=λb o e=>?_,bI:=λb o e=>l b (n e) o (S.bI b o e),ns:=?_,nL:=⟨?_,S.nL.2⟩,fT:=λb o e=>(X (d e)).trans (S.fT b o e),vars:=λi x z j w=>?_,own:=λi x c A j m v=>?_,jt:=λi x c A j v m=>?_,fp:=λi A b t=>?_,inv:=br.gO S.inv λP G o e=>l P (T (S.tab P G).1) o e,lock:=λL O x j=>(S.lock L O x j).keep λc s v o e=>l c (nc j s v) o e,tab:=λP G=>?_,c3:=λb t=>?_,new:=λb o e=>(X (n e)).symm▸(S.new b o e)}
 .by_cases t:b∈h
  .exact(gn t).symm.trans e
  .exact l b t o (S.kept b o ((X t)▸e))
 .exact iL S.ns λo F aj ao aq=>(kq o F aj (l _ (T S.nL.1) o ao) aq)
 .exact(X (T S.nL.1)).trans S.nL.1
 .obtain⟨au,az,H⟩:=S.vars i x z j w;exact⟨au,az.keep λc s v o e=>l c (nc j s v) o e,H.mono (Le.refl _) u λb t o e=>l b (T (S.fp i (ck.mp j).1 b t).1) o e⟩
 .exact(X (nc j m v)).trans (S.own i x c A j m v)
 .exact(X (nc j m v)).symm▸(S.jt i x c A j v m)
 .have:=S.fp i A b t;exact(X (T this.1)).symm▸this
 .have:=S.tab P G;exact(X (T this.1)).symm▸this
 .have:=S.c3 b t;refine⟨?_,this.2⟩
  by_cases q:b∈h
  .exact(aL _ (gn q)).trans (y b q)
  .exact(aL _ (X q)).trans this.1
theorem aQ.leave{p:cu}{h:Y ay}(S:aQ B H (hB.add h p) f a n k lv E R y)(l:∀b,b∉h->∀o,y.get? b=U o->h'.get? b=U o)(L:∀b∈h,hB.b b=af)(F:∀b∈hB.it,(hB.b b).isSome=ae):
  aQ B H hB f a n k lv E R h':=by
 have A:∀b∈h,b∈(hB.add h p).it:=λb t=>fV _ t;have T:∀{b},(hB.add h p).b b=af->b∉h:=λe q=>by have:=(S.c3 _ (A _ q)).1;rw [e]at this;exact cW J (this)
 have g:∀{b o},f b=U o->b∉h:=λe q=>aU ((S.c3 _ (A _ q)).2.1) e;have d:∀{b o},B.bO.get? b=U o->b∉h:=λe q=>aU ((S.c3 _ (A _ q)).2.2.2) e;have nc:∀{c i x},n[i]?=U x->a.kindOf x≠U .local->a.cells.lookup x=U c->c∉h:=λj m v q=>(S.c3 _ (A _ q)).2.2.1 _ _ j m v;have X:∀{b},b∉h->(hB.add h p).b b=hB.b b:=(fS);have u:bG B.bO h':=λb o e=>l b (d e) o (S.base b o e);refine{S with base:=u,kept:=λb o e=>?_,bI:=λb o e=>l b (g e) o (S.bI b o e),ns:=?_,nL:=⟨?_,S.nL.2⟩,fT:=λb o e=>(X (d e)).symm.trans (S.fT b o e),vars:=λi x z j w=>?_,own:=λi x c A j m v=>?_,jt:=λi x c A j v m=>?_,fp:=λi A b t=>?_,inv:=br.gO S.inv λP G o e=>l P (T (S.tab P G).1) o e,lock:=λO Q x j=>(S.lock O Q x j).keep λc s v o e=>l c (nc j s v) o e,tab:=λP G=>?_,c3:=λb t=>?_,new:=λb o e=>(X (g e))▸(S.new b o e)}
 .have r:b∉h:=λq=>aU (L b q) e;exact l b r o (S.kept b o ((X r).trans e))
 .exact iL S.ns λo ao aq au az=>(kq o ao aq (l _ (T S.nL.1) o au) az)
 .exact(X (T S.nL.1)).symm.trans S.nL.1
 .obtain⟨aB,aG,aj⟩:=S.vars i x z j w;exact⟨aB,aG.keep λc s v o e=>l c (nc j s v) o e,aj.mono (Le.refl _) u λb t o e=>l b (T (S.fp i (ck.mp j).1 b t).1) o e⟩
 .exact(X (nc j m v)).symm.trans (S.own i x c A j m v)
 .exact(X (nc j m v))▸(S.jt i x c A j v m)
 .have:=S.fp i A b t;exact(X (T this.1))▸this
 .have:=S.tab P G;exact(X (T this.1))▸this
 .exact⟨F b t,(S.c3 b (iX _ t)).2⟩
theorem aQ.Dx(S:aQ B X hB f h n k lv E R e):∀b∈hB.it,(hB.b b).isSome=ae:=λb t=>(S.c3 b t).1
theorem aQ.alive(S:aQ B X (hB.add h p) f a n k lv E R e):∀b∈h,(e.get? b).isSome=ae:=λb t=>bC (fc.mp (S.c3 b (fV _ t)).1) λo L=>dc (S.kept b o L)
end
end
inductive fg where
 |next|brk|cont|ret(t:T)
noncomputable def FD(X:Mk)(f:Fz):Flow->fg->Prop
 |.next,.next=>True
 |.brk,.brk=>True
 |.cont,.cont=>True
 |.ret v,.ret w=>Den X f v w
 |_,_=>False
theorem FD.bk(d:FD h f X .brk):X=.brk:=by cases X<;>first|rfl|exact d.elim
theorem FD.cn(d:FD h f X .cont):X=.cont:=by cases X<;>first|rfl|exact d.elim
theorem FD.rt(d:FD h f X (.ret w)):∃v,X=.ret v/\Den h f v w:=by cases X<;>first|exact⟨_,J,d⟩|exact d.elim
theorem FD.nx(d:FD h f X .next):X=.next:=by cases X<;>first|rfl|exact d.elim
theorem FD.ne(d:FD e f X A)(h:A≠.next):X≠.next:=λq=>by subst q;cases A<;>first|exact h J|exact d.elim
theorem FD.map{f j:Fz}{X:Flow}{A:fg}(d:FD h f X A)(a:∀{v w},Den h f v w->Den e j v w):FD e j X A:=by cases X<;>cases A<;>first|exact d|exact a d
noncomputable def gB(H:br q)(i:bZ)(u:bR)(F:cI)(X:Mk)(B:cG)(n:Y ai)(k:aa)(m:Y (AV q))(a:b9)(S:Y (AV q))(A:fg):Prop:=
 ∀(L:HB)(f:Fz)(s:aT)(Q:Flow->aT->Prop)(P:aD->aT->Prop),L.lk=[]->SR H X L f B n k m s.heap->
  (∀O j h,bS s O->Le f j->SR H X L j B n k S O.heap->FD X j h A->Q h O)->wpAny (model i u) F (exec a B) Q P s
noncomputable def eV(H:br q)(i:bZ)(u:bR)(F:cI)(X:Mk)(B:cG)(n:Y ai)(k:aa)(m:Y (AV q))(a:Y b9)(S:Y (AV q))(A:fg):Prop:=
 ∀(L:HB)(f:Fz)(s:aT)(Q:Flow->aT->Prop)(P:aD->aT->Prop),L.lk=[]->SR H X L f B n k m s.heap->
  (∀O j h,bS s O->Le f j->SR H X L j B n k S O.heap->FD X j h A->Q h O)->wpAny (model i u) F (execs a B) Q P s
noncomputable def nf(r:bl)(H:br q)(h:bZ)(u:bR)(F:cI)(X:Mk)(B:cG)(n:Y ai)(a:aa)(m:Y (AV q))(g:bW)(S:Y (AV q))(o:Y T):Prop:=
 ∀(L:HB)(f:Fz)(s:aT)(Q:aD->aT->Prop)(P:aD->aT->Prop),SR H X L f B n a m s.heap->
  (∀O j e p k x d E R,bS s O->Le f j->gb B->aQ H X L j B n a S E R O.heap->Walks h u F e p k o.length x d->(∀i v,x i v->∃w,o[i]?=U w/\Den X j v w)->
   d 0 O.heap->(∀b∈k,eW H L j B n R b/\(O.heap.get? b).isSome=ae)->(∀b∈p,b∈k\/(j b).isSome=ae\/(H.bO.get? b).isSome=ae)->(∀b∈p,b<O.heap.objs.size)->(∀i l,d i l->∀b∈k,(l.get? b).isSome=ae)->
   (r=ae->∀i(s:aT)(c:Y bW)(y:aa)(z:fR)(v:aD)(Q:Unit->aT->Prop)(P:aD->aT->Prop),d i s.heap->Q () s->wpAny (model h u) F (letOwnedTupleGo (.Tuple c y z) (.ref e) v) Q P s)->Q (.ref e) O)->
  wpAny (model h u) F (eval g B) (λA t=>wpAny (model h u) F (pyIter A) Q P t) P s
section
variable{B:br O}{prog:bZ}{w:bR}{A:cI}{ρ:Mk}{ts:Y T}
theorem i3:eV B prog w A ρ h n k m [] m .next:=λL f s Q P l S G=>q4 (G s f .next (bS.refl s) (Le.refl _) S trivial)
theorem Tj(R:gB B prog w A ρ h n k m o g .next)(a:eV B prog w A ρ h n k g b H i):eV B prog w A ρ h n k m (o::b) H i:=by
 intro L f s Q P l S G;refine g4 (R L f s _ _ l S λt u X q c T d=>?_);cases d.nx;exact a L u t Q P l T λx F X j z e d=>G x F X (q.trans j) (c.trans z) e d
theorem tH(R:gB B prog w A ρ e n k m o g h)(p:h≠.next):eV B prog w A ρ e n k m (o::b) g h:=by
 intro L f s Q P l S G;refine g4 (R L f s _ _ l S λt u X q c T d=>?_);have j:=G t u X q c T d;cases X<;>first|exact bE J (d.ne p)|exact j
theorem fM(s:aT):s.heap.get? s.heap.objs.size=af:=iO λy q=>bE (fQ q) (m5 _)
theorem Sb(u:A.handled=af)(n:cF B prog w A ρ y aj m d e az (.list ts)):nf ae B prog w A ρ y aj m d e az ts:=by
 intro aG E s Q au g G;refine n aG E s _ _ g λt P v ao c k aq=>jb aq.inv λa z aN h b p=>?_;subst p;have r:=k.ready;have j:=gP r.bI h;refine G5 j ?_;have x:=cg.iu r {cls:=.type "list_iterator",data:=.fields #[.ref a,.int 0 0]} t.toks;obtain⟨L,O,R,X⟩:=k;have o:=fQ (r.bI _ _ h);have F:=O_ (prog:=prog) (w:=w) u t.heap.objs.size a (fW o) z.toArray;simp only [show z.toArray.size=ts.length from b.length]at F;have H:(t.heap.push {cls:=.type "list_iterator",data:=.fields #[.ref a,.int 0 0]}).objs.size=t.heap.objs.size+1:=l0 _ _;refine G _ P _ _ _ _ _ O R (ao.trans x.same) c L (X.step x) F (λq v l=>?_) ⟨⟨_,eN _ J,J,J⟩,j.at λaM e=>eg _ e⟩ (bL ⟨X.free (fM t),dc (eN _ J)⟩ eu) (bL (.inl (.head _)) (bL (.inr (.inl (dc h))) eu)) (bL (H.symm▸eH _) (bL (H.symm▸oZ o) eu)) (λq n i=>bL (match i with|⟨⟨_,aH,_⟩,_⟩=>dc aH) eu) ?_
 .have l:=by simpa using l
  have f:=b.length▸(ck.mp l).1;exact aA (b.get (cP f)) λaK aB aI=>bg (aB.symm.trans l)▸⟨_,cP f,aI⟩
 .intro _ q s aO aP aS v Q au i S;cases v with
  |ref T=>exact aem i.1 S
  |_=>exact bD S
theorem Sd{I:ay}{s t:aT}{Q:aD->aT->Prop}{d:aa->cu->Prop}{m:fK}
  (z:bS s t)(c:Le f u)(T:SR B ρ L u a n l g t.heap)(y:o.isFreed=ak)
  (F:Walks prog w A t.heap.objs.size [t.heap.objs.size] [t.heap.objs.size] ts.length P d)(q:∀i v,P i v->∃e,ts[i]?=U e/\Den ρ u v e)(aq:d 0 (t.heap.push o))(az:∀i h,d i h->(h.get? t.heap.objs.size).isSome=ae)
  (G:∀O j I p k P d E R,bS s O->Le f j->gb a->aQ B ρ L j a n l g E R O.heap->Walks prog w A I p k ts.length P d->(∀i v,P i v->∃e,ts[i]?=U e/\Den ρ j v e)->
   d 0 O.heap->(∀b∈k,eW B L j a n R b/\(O.heap.get? b).isSome=ae)->(∀b∈p,b∈k\/(j b).isSome=ae\/(B.bO.get? b).isSome=ae)->(∀b∈p,b<O.heap.objs.size)->(∀i h,d i h->∀b∈k,(h.get? b).isSome=ae)->
   (ak=ae->∀i(s:aT)(H:Y bW)(S:aa)(aj:fR)(v:aD)(Q:Unit->aT->Prop)(ao:aD->aT->Prop),d i s.heap->Q () s->wpAny (model prog w) A (letOwnedTupleGo (.Tuple H S aj) (.ref I) v) Q ao s)->Q (.ref I) O):
  Q (.ref t.heap.objs.size) {t with heap:=t.heap.push o,toks:=m}:=by
 have x:=cg.iu (T.ready) o m;obtain⟨au,E,R,X⟩:=T;exact G _ u _ _ _ _ _ E R (z.trans x.same) c au (X.step x) F q aq (bL ⟨X.free (fM t),dc (eN _ y)⟩ eu) (λb aB=>.inl aB) (bL ((l0 t.heap o).symm▸eH _) eu) (λi h r=>bL (az i h r) eu) nofun
inductive Out:fg->fg->Prop
 |brk:Out .brk .next
 |ret{r:T}:Out (.ret r) (.ret r)
theorem Out.fin{G P:Flow->Prop}(o:Out fl i)(d:FD ρ f X fl)(R:P .next->G .brk)(w:∀v,P (.ret v)->G (.ret v))(h:∀j,FD ρ f j i->P j):G X:=by
 cases o with
 |brk=>exact d.bk▸R (h _ trivial)
 |ret=>refine aA d.rt λv e d=>?_;subst e;exact w v (h _ d)
theorem FD.go{G:Flow->Prop}(d:FD ρ f X fl)(o:fl=.next\/fl=.cont)(R:G .next)(w:G .cont):G X:=by
 rcases o with rfl|rfl
 .exact d.nx▸R
 .exact d.cn▸w
inductive Cq(B:br O)(prog:bZ)(w:bR)(A:cI)(ρ:Mk)(env:cG)(xs:Y ai)(k:aa)(gv:bW)(body:Y b9)(t:T)(lv lv':Y (AV O))(zW:fg)(X:Y (AV O)->Prop):Prop
 |go{aV c4:Y (AV O)}{fl:fg}(ha:h_ B prog w A ρ env xs k lv gv t aV)(hb:eV B prog w A ρ env xs k aV body c4 fl)(hf:fl=.next\/fl=.cont)(h:X c4)
 |out{aV:Y (AV O)}{fl:fg}(ha:h_ B prog w A ρ env xs k lv gv t aV)(hb:eV B prog w A ρ env xs k aV body lv' fl)(o:Out fl zW)
noncomputable def n3(B:br O)(prog:bZ)(w:bR)(A:cI)(ρ:Mk)(e:cG)(n:Y ai)(k:aa)(f:bW)(L:Y b9):Y T->Y (AV O)->Y (AV O)->fg->Prop
 |[],m,S,h=>m=S/\h=.next
 |a::ts,m,S,h=>Cq B prog w A ρ e n k f L a m S h λl=>n3 B prog w A ρ e n k f L ts l S h
theorem n3.nil:n3 B prog w A ρ h n k f L [] m m .next:=⟨J,J⟩
theorem n3.go(Q:h_ B prog w A ρ h n k m f a aV)(t:eV B prog w A ρ h n k aV L H e)(p:e=.next\/e=.cont)(x:n3 B prog w A ρ h n k f L ts H j i):n3 B prog w A ρ h n k f L (a::ts) m j i:=Cq.go Q t p x
theorem n3.ret(Q:h_ B prog w A ρ h n k m f e g)(t:eV B prog w A ρ h n k g L H (.ret r)):n3 B prog w A ρ h n k f L (e::ts) m H (.ret r):=Cq.out Q t .ret
inductive PJ(B:br O)(prog:bZ)(w:bR)(A:cI)(ρ:Mk)(env:cG)(xs:Y ai)(k:aa)(gv:bW)(body:Y b9)(hB:HB)(wr:Y ay)(St:aa->cu->Prop)(ts:Y T)(c4:Y (AV O))(fl:fg)(s₁:aT)(g7:Fz)(n:aa)(s₂:aT):Prop
 |mk(i:aa)(lv':Y (AV O))(rI:Fz)(m₂:ai->aY aD)(C0:aa->Y ay)(hn:n+i=ts.length+1)(YX:bS s₁ s₂)(l₂:Le g7 rI)(zu:aQ B ρ (hB.add wr s₂.heap) rI env xs k lv' m₂ C0 s₂.heap)(aas:St i s₂.heap)(hi:i<=ts.length)
  (F:n3 B prog w A ρ env xs k gv body (ts.drop i) lv' c4 fl)
theorem SO(ef:nf c9 B prog w A ρ h n k dN bQ bh ts)(fq:n3 B prog w A ρ h n k f L ts bh bB cf)(di:∀s,foldedSetIterable bQ h s=pure s)
  (fP:(∃s p,f=.Name s p)\/c9=ae/\∃aM aO p,f=.Tuple aM aO p):gB B prog w A ρ h n k dN (.For f bQ L [] p) bB cf:=by
 intro l eF eT mW kF bF gZ b8;refine wpAny_For (ef l eF eT _ _ gZ λa_ aG dm nR E lq aW eL eM aX bj aK bw aH iC eY aN iT mV iE cY=>?_) di;have bK:=λb t=>(aN b t).1.hb;have b7:=bw.Dx;refine codeAny_forLoop_any (PJ B prog w A ρ h n k f L l E aW ts bB cf a_ aG) ?_ _ ⟨0,bh,aG,eL,eM,J,bS.refl _,Le.refl _,bw.enter (λb t=>(aN b t).1) (λb t=>(aN b t).2),eY,iY _,fq⟩;rintro dG x⟨i,dW,O,cA,cz,cC,aP,z,bf,bu,dU,F⟩
 by_cases m:i<ts.length
 .refine aH.item i x _ _ m bu λv T aq gy au az=>aA (iC i v gy) λjk cM cN=>?_;have F:=by
   rw [uC m,bg ((cP m).symm.trans cM)]at F;exact F
  have aB:=bf.turn (λb t o e=>az b o t e) (iE _ _ au);have aS:∀(S:Flow->aT->Prop)(q:aD->aT->Prop)(aj:Y _)(aI:fg)(ao:Y _),h_ B prog w A ρ h n k dW f jk ao->eV B prog w A ρ h n k ao L aj aI->
    (∀P R a G X,bS a_ P->Le aG R->aQ B ρ (l.add E P.heap) R h n k aj a G P.heap->aW (i+1) P.heap->FD ρ R X aI->S X P)->
    wpAny (model prog w) A (letOwnedTupleGo f (.ref dm) v) (λy e_=>wpAny (model prog w) A (assign f h v) (λy x=>wpAny (model prog w) A (execs L h) S q x) q e_) q {x with heap:=T,toks:=aq}:=by
   intro S q aj aI ao Q t fD;have bV:wpAny (model prog w) A (assign f h v) (λy x=>wpAny (model prog w) A (execs L h) S q x) q {x with heap:=T,toks:=aq}:=by
    refine Q (l.add E T) O _ v _ _ bF ⟨aK,cA,cz,aB⟩ (cN.mono z) λgx dz gz=>t (l.add E T) O gx _ _ bF gz λP R X j u r g=>?_;obtain⟨_,a,G,r⟩:=r;refine fD P R a G X (((aP.trans (b_ _ _ J)).trans dz).trans j) (z.trans u) (r.turn (λy y y e=>e) r.alive) (aH.frame _ T _ au λb t o cy=>?_) g;have bX:∀{H},T.get? b=U H->P.heap.get? b=U H->P.heap.get? b=U o:=λe gA=>gA.trans (e.symm.trans cy);rcases iT b t with d|d|d
    .exact r.kept b o ((gn d).trans cy)
    .exact bC (fc.mp d) λH c=>bX (aB.bI b H (z b H c)) (r.bI b H (u _ _ (z _ _ c)))
    .exact bC (fc.mp d) λH c=>bX (aB.base b H c) (r.base b H c)
   rcases fP with⟨s,p,rfl⟩|⟨rfl,aM,aO,p,rfl⟩
   .exact bD bV
   .exact cY J _ _ aM aO p v _ _ au bV
  cases F with
  |go Q t iU iD=>
   refine aS _ _ _ _ _ Q t λP R a G X j u r cH g=>?_;apply g.go iU<;>exact⟨dG-1,(vE cC m).1,i+1,_,R,a,G,(vE cC m).2,j,u,r,cH,m,iD⟩
  |out Q t o=>
   refine aS _ _ _ _ _ Q t λP R a G X j u r cH g=>?_;apply o.fin g ?_ ?_ (λi6=>b8 P R i6 (aX.trans j) (bj.trans u) ⟨aK,a,G,r.leave (λy y y e=>e) bK b7⟩)
   .exact id
   .exactλy=>id
 .have:=lz dU (oY m);subst this;refine aH.done x _ _ bu λT aq az=>bM ((ac8▸F)) λjU cK=>?_;subst jU cK;exact q4 (b8 _ O .next ((aX.trans aP).trans (b_ _ _ J)) (bj.trans z) ⟨aK,cA,cz,bf.leave (λb t o e=>az b o t e) bK b7⟩ trivial)
end
structure pe(scope:g6)(xs:Y ai):Prop where
 kind:scope.kind=.function
 co:scope.isCoroutine=ak
 gen:scope.isGenerator=ak
 names:∀x∈xs,scope.names.lookup x=U .local\/scope.names.lookup x=U .cell
 nodup:xs.Nodup
section
theorem u_(l:Y _):∀(g:aa)(o:Y _),l.lookup x=U .cell\/(o.lookup x).isSome=ae->((cellsFrom g l o).lookup x).isSome=ae:=by
 induction l with
 |nil=>exactλg o h=>h.elim ((aU J)) id
 |cons p l f=>
  obtain⟨O,c⟩:=p;intro g o h;rw [sO]at h;unfold cellsFrom;cases e:x==O with
  |true=>
   rw [e]at h
   split
   .exact f _ _ (.inr (by simp only [sO,e];rfl))
   .rename_i v;refine f _ _ (.inr ?_);rcases h with h|h
    .obtain rfl:=bg h;exact bE J v
    .exact h
  |false=>
   rw [e]at h
   split
   .refine f _ _ (h.imp id λh=>?_);simp only [sO,e];exact h
   .exact f _ _ h
theorem pP{T:Type}:∀{l:Y T},l.Nodup->∀{i u:aa}{x:T},l[i]?=U x->l[u]?=U x->i=u:=@λh=>h.rec
 (@λy i u x A y=>by simp at A)
 (@λO l f e i u x A d=>by
  have c:=lu.mp e;cases i with
  |zero=>cases u with
   |zero=>rfl
   |succ u=>simp at A d;subst A;exact bE (cL d) c.1
  |succ i=>cases u with
   |zero=>simp at A d;subst d;exact bE (cL A) c.1
   |succ u=>exact aL _ (f c.2 A d))
theorem pO{T:Type}{l:Y T}(g:l.Nodup)(i u:aa){a b:T}(h:l[i]?=U a)(x:l[u]?=U b)(q:qb i u=ak):a≠b:=λe=>adN q (pP g h (e▸x))
theorem yx{T H:Type}:∀(n:Y T)(G:Y H),(n.zip G).map (·.1)=n.take G.length
 |[],_=>by simp
 |_::_,[]=>J
 |x::n,O::G=>by simp [yx n G]
theorem QE(a:ai->aY fe)(x:ai):∀(r:Y _)(E:ai->aY aD),x∉r.map (·.1)->bindL a r E x=E x:=λi=>i.rec
 (λE y=>J)
 (λ(j,v)r h E f=>by
  have R:x≠j:=λe=>f (by simp [e]);refine aZ (h _ (λq=>f (fF _ q))) ?_
  split<;>simp [R])
theorem QD(a:ai->aY fe)(x:ai):∀(r:Y _)(E:ai->aY aD),x∉r.map (·.1)->bindC a r E x=E x:=λi=>i.rec
 (λE y=>J)
 (λ(j,v)r h E f=>by
  have R:x≠j:=λe=>f (by simp [e]);refine aZ (h _ (λq=>f (fF _ q))) ?_
  split<;>simp [R])
noncomputable def fh(n:Y ai)(z:Y aD):Y (ai×aD):=n.zip z
noncomputable def rS(n:Y ai)(o:Y T):Y (AV q):=o.map .t++dF (n.length-o.length) .un
theorem HO(a:ai->aY fe)(l:Y _):∀(E:ai->aY aD)(x:ai)(v:aD),(l.map (·.1)).Nodup->(x,v)∈l->a x=U .local->bindL a l E x=U v:=by
 induction l with
 |nil=>exactλE x v y e=>bE (e) dP
 |cons p r f=>
  obtain⟨O,B⟩:=p;intro E x v c z h;have n:=lu.mp c;rcases cQ.mp z with i|z
  .refine bM (l_ i) λu j=>?_;subst u j;exact(QE a _ _ _ n.1).trans ((congrFun (bx h) x).trans (bx J))
  .exact f _ x v n.2 z h
theorem HN(a:ai->aY fe)(l:Y _):∀(E:ai->aY aD)(x:ai)(v:aD),(l.map (·.1)).Nodup->(x,v)∈l->a x=U .cell->bindC a l E x=U v:=by
 induction l with
 |nil=>exactλE x v y e=>bE (e) dP
 |cons p r f=>
  obtain⟨O,B⟩:=p;intro E x v c z h;have n:=lu.mp c;rcases cQ.mp z with i|z
  .refine bM (l_ i) λu j=>?_;subst u j;exact(QD a _ _ _ n.1).trans ((congrFun (bA λq=>nc lA (bg (h.symm.trans q)) J) x).trans (bx J))
  .exact f _ x v n.2 z h
theorem E5{s s₁:aT}(g:pe fd.scope xs)(L:fd.globals=mainGlobals)(t:fd.builtins=builtinsNs)(r:Ready B fz s)(d:bq ρ fz vs wc)(aB:wc.length<=xs.length)
  (T:InCallC s (callEnvC fd s.heap.objs.size a).locals (bindL (callEnvC fd s.heap.objs.size a).kindOf (fh xs vs) λy=>af) (callEnvC fd s.heap.objs.size a).cells (bindC (callEnvC fd s.heap.objs.size a).kindOf (fh xs vs) λy=>af) s₁):
  SR B ρ ⟨λb=>if b∈B.tabs then af else s.heap.get? b,[],fz,[]⟩ fz (callEnvC fd s.heap.objs.size a) xs xs.length (rS xs wc) s₁.heap:=by
 have S:=T.toInCall.keep;have k:=λaI c h=>T.above aI c (mem_of_lookup h);have E:∀c,s.heap.objs.size<=c->s.heap.get? c=af:=λc h=>by
  cases q:s.heap.get? c with
  |none=>rfl
  |some o=>exact bE (fQ q) (fJ.mpr h)
 have p:∀c,s.heap.objs.size<=c->fz c=af:=λc h=>by
  cases q:fz c with
  |none=>rfl
  |some o=>have:=r.bI c o q;exact aU (E c h) this
 have H:=λP G=>bC (fc.mp (B.live r.inv P G)) λo aG=>fQ aG;have n:((fh xs vs).map (·.1)).Nodup:=by
  have:(fh xs vs).map (·.1)=xs.take vs.length:=by
   delta fh;rw [yx]
  simp only [this];exact g.nodup.sublist (adz _ _)
 refine⟨⟨g.kind,L,t⟩,(bindL (callEnvC fd s.heap.objs.size a).kindOf _ λy=>af),λy=>[],({
  len:=by delta rS;simp;exact lz (dg 0 (.a (.v 0) (.v 2)) (.v 1) (.a (.v 2) (.v 0)) (.v 1) J [_,_,_] ((vD aB))) (dg 0 (.v 1) (.a (.v 0) (.v 2)) (.v 1) (.a (.v 2) (.v 0)) J [_,_,_] x8)
  base:=λb o e=>S b o (r.base b o e)
  kept:=λb o e=>?_
  bI:=λb o e=>S b o (r.bI b o e)
  ns:=T.toInCall.ns
  nL:=⟨?_,p _ (ek _)⟩
  fT:=λb o e=>?_
  vars:=λi x aN j w=>?_
  own:=λi x c A j m h=>?_
  jt:=λi x c A j y y=>bE (ck.mp j).1 (fJ.mpr A)
  cell:=λi x c j m h=>⟨q1 (k x c h),p c (gm (k x c h))⟩
  qf:=λi x A j=>bE (ck.mp j).1 (fJ.mpr A)
  inj:=λi u x aP c j O y y Q aj=>?_
  nodup:=λi u x A ao=>pP g.nodup A ao
  fp:=λi y b t=>bE (t) dP
  inv:=br.gO r.inv λP y o e=>S P o e
  tab:=λP G=>(kW (bx ‹_›) (r.mT P G) (fW (H P G)) (λu x j m h=>bE (k x P h) (fJ.mpr (gm (H P G)))) (λy y aq=>nomatch aq))
  apart:=λi u y y y b t=>nomatch t
  c3:=λb t=>bE (t) dP
  new:=λb o e=>.inl e
  lock:=λaO au=>bE au dP})⟩
 .by_cases q:b∈B.tabs
  .simp [q]at e
  .simp [q]at e;exact S b o e
 .show(if s.heap.objs.size∈B.tabs then af else s.heap.get? s.heap.objs.size)=af
  split<;>first|rfl|exact(fM s)
 .have:b∉B.tabs:=λq=>aU (r.ji b q) e;simp [this,r.base b o e]
 .have l:=g.names x (cL j);have X:∃F,eA (callEnvC fd s.heap.objs.size a) (bindL (callEnvC fd s.heap.objs.size a).kindOf (fh xs vs) λy=>af) s₁.heap x F/\∀v,(x,v)∈fh xs vs->F=U v:=by
   rcases l with l|l
   .exact(aR _ (.inl ⟨l,J⟩) (λv z=>HO _ _ _ x v n z l))
   .exact bC (fc.mp (u_ fd.scope.names (s.heap.objs.size+1) [] (.inl l))) λc h=>(aR _ (.inr ⟨.inl l,c,h,T.cell x c h⟩) (λv z=>HN _ _ _ x v n z l))
  refine aA X λF aH az=>⟨F,aH,?_⟩;unfold rS at w
  by_cases R:i<wc.length
  .rw [j9 (by simpa using R)]at w;have f:=cP R;simp only [hU,f,BZ]at w;obtain rfl:=bg w;refine aA (d.get f) λv aM aK=>⟨J,v,az v ?_,aK⟩;have:(fh xs vs)[i]?=U (x,v):=by
    delta fh
    rw [OE];exact⟨j,aM⟩
   exact cL this
  .rw [jV (by simpa using R)]at w;have:=by
    rw [wh]at w
    split at w
    .exact(bg w).symm
    .exact aU J w
   subst this
   rfl
 .show(if c∈B.tabs then af else s.heap.get? c)=af
  split<;>first|rfl|exact E c (gm (k x c h))
 .have:=Pe T.apart (mem_of_lookup Q) (mem_of_lookup aj);subst this;exact pP g.nodup j O
theorem HS(G:fy H bf aP)(y:∀{h},bG H.bO h->h.get? i=U o)(O:o.data=.func k)(aH:∀{h},bG H.bO h->h.CodeRec k.code k.qualname)
  (aK:k.body=.stmts L)(B:k.closure=[])(g:pe k.scope n)(A:k.globals=mainGlobals)(t:k.builtins=builtinsNs)(Q:E.length<=n.length)
  (aq:∀z,z.length=E.length->bindArgs k ⟨z,[]⟩=pure (fh n z))
  (v:∀m F X,dB F l->∃S,eV H j u F X (callEnvC k m i) n n.length (rS n E) L S (.ret r)):Cc H j u (l+1) (.ref i) E r:=by
 intro F X p z aM c x w s P;refine Pb x.d (y w.base) O (G.nolimit w.base) (aH w.base) aK (aq z s.length) B ?_ ?_ g.co g.gen g.kind
 .intro R aj;have ao:=by
   have:R.1∈(fh n z).map (·.1):=fG aj
   delta fh at this
   rw [yx]at this;exact GI this
  rcases g.names _ ao with h|h
  .exact .inl h
  .exact .inr ⟨h,u_ k.scope.names _ [] (.inl h)⟩
 .intro f T;obtain⟨S,v⟩:=v c.heap.objs.size _ X x.deeper;refine v _ p f _ _ J (E5 g A t w s Q T) λau az aX q aB a d=>?_;obtain⟨_,aN,aO,a⟩:=a;obtain⟨aG,rfl,d⟩:=d.rt;refine dS (T.done) λaS aW aI a_=>?_;refine P au az aG ⟨(bS.trans (bS.of aI) q),λb t o e=>a.kept b o (by simp [t,e]),a.inv,aB,a.bI,λb o e=>?_⟩ d;rcases a.new b o e with q|q
  .exact .inl q
  .right
   dsimp only at q
   split at q
   .rename_i t;exact aU ((a.tab b t).2.1) e
   .exact q
end
theorem zD:∀(n:Y _)(g:aa)(o:Y _),cellsFrom g n o=cellsFrom g n []++o:=λi=>i.rec
 (λy y=>J)
 (λ(x,u)r f g o=>by
  unfold cellsFrom
  split
  .refine aZ (f (g+1) _) ?_;simp only [f (g+1) [(x,g)]];simp
  .exact f g o)
theorem HY:∀(n:Y _)(g:aa),(∀p∈n,p.1=O->p.2≠.cell)->(cellsFrom g n []).lookup O=af
 |[],_,_=>J
 |(x,u)::r,g,h=>by
  unfold cellsFrom;have f:=λg=>HY r g λp e=>h p (fF _ e)
  split
  .rename_i v;rw [zD,GF,f];have:x≠O:=λa=>h (x,u) gj a (of_decide_eq_true v);have t:(O==x)=ak:=by simpa using iZ this
   simp [sO,t]
  .exact f g
noncomputable def nj(a:Y (ai×ay)):Y (ai×fe)->Y (ai×ay)->Y (ai×ay)
 |[],o=>o
 |(g,u)::r,o=>if u==.free then nj a r ((g,(a.lookup g).getD 0)::o)else nj a r o
theorem CB:nj a ((g,u)::r) o=if u==.free then nj a r ((g,(a.lookup g).getD 0)::o)else nj a r o:=J
theorem CC(h:∀p∈d.names,p.2=.free->(B.cells.lookup p.1).isSome=ae):closureFor d B=pure (nj B.cells d.names []):=by
 delta closureFor
 suffices∀(n:Y _)(o:Y _),(∀p∈n,p.2=.free->(B.cells.lookup p.1).isSome=ae)->
   (forIn n o λx r=>if(x.2==.free)=ae then(do let c<-cellOf B x.1;pure (qW ((x.1,c)::r)):Sem _)else pure (qW r))=pure (nj B.cells n o)by
  have:=this d.names [] h
  first|exact this|simpa using this
 intro n
 induction n with
 |nil=>intro o _;rfl
 |cons p r f=>
  intro o h;obtain⟨g,u⟩:=p;simp only [adf];simp only [CB]
  by_cases l:(u==BU)=ae
  .have:=h (g,u) gj (of_decide_eq_true l);refine bC (fc.mp this) λc v=>?_;simp only [l,cellOf,v,bind_assoc];exact f _ λp O=>h p (fF _ O)
  .simp only [l,pure_bind];exact f _ λp O=>h p (fF _ O)
theorem Rh(v:x.lookup O=U a):∀(n:Y _)(o:Y _),((O,BU)∈n\/o.lookup O=U a)->(∀d,o.lookup O=U d->d=a)->(nj x n o).lookup O=U a:=λi=>i.rec
 (λo h y=>h.elim (λh=>bE (h) dP) id)
 (λ(g,u)r f o h E=>by
  simp only [CB]
  by_cases l:(u==BU)=ae
  .rw [bx l]
   by_cases c:O=g
   .subst c;refine f _ (.inr ?_) λd q=>?_
    .simp [v]
    .simp [v]at q;exact q.symm
   .have t:(O==g)=ak:=by simpa using c
    refine f _ ?_ λd q=>?_
    .rcases h with h|h
     .rcases cQ.mp h with e|h
      .exact bE (l_ e).1 c
      .exact .inl h
     .right;refine aZ (sO) ?_;exact(t)▸(h)
    .simp only [sO,t]at q;exact E d q
  .rw [bA l];refine f o ?_ E;rcases h with h|h
   .rcases cQ.mp h with e|h
    .have:=(l_ e).2;subst this;exact bE J l
    .exact .inl h
   .exact .inr h)
noncomputable def gK(scope:g6)(a:ay)(B:cG):cG:=
 {scope:=relabel scope B,locals:=a,globals:=B.globals,cells:=cellsFrom (a+1) scope.names (nj B.cells scope.names []),qual:=B.qual,func:=af,code:=B.code,frame:=B.frame,builtins:=B.builtins}
section
theorem KJ(l:scope.kind=.function)
  (G:Q {scope,locals:=s.heap.objs.size,globals:=B.globals,cells:=cellsFrom (s.heap.objs.size+1) scope.names h,qual:=B.qual,func:=af,code:=B.code,frame:=B.frame,builtins:=B.builtins}
   {s with heap:=pushCells (s.heap.push {cls:=.type "dict",data:=.dict #[]}) scope.names}):
  wpAny g F (newFunctionEnv scope B.globals h [] B.qual af .none (U B)) Q P s:=by
 exact aE (wpAny_alloc (aE (wpAny_layCells _ (λa e cells=>J) _ _ _ _ ((l0 ..)▸(aE (bD (bD G)))))))
end
theorem DR{T:Type}{X:ai×T->ai×T}(e:∀p,(X p).1=p.1){k:T}:∀{l:Y _},l.lookup x=U k->(l.map X).lookup x=U (X (x,k)).2
 |(g,i)::r,h=>by
  rw [sO]at h;have a:X (g,i)=(g,(X (g,i)).2):=B0 (e (g,i)) J;rw [iW,a,sO];cases t:x==g with
  |true=>
   rw [t]at h;have h:=bg h;subst h;have:=of_decide_eq_true t;subst this
   rfl
  |false=>
   rw [t]at h;exact DR e h
theorem Mi(d:g6)(B:cG):(relabel d B).names=d.names.map λp=>(if(p.2==.free&&B.scope.kind==.function&&B.kindOf p.1==U .cell)then(p.1,.cell)else(p.1,p.2)):=J
theorem yf(l:u≠.free)(h:d.names.lookup x=U u):(relabel d B).names.lookup x=U u:=by
 rw [Mi,DR (λp=>by split<;>rfl) h];have:(u==BU)=ak:=by simpa using l
 simp [this]
theorem Mh(h:d.names.lookup x=U .free):(relabel d B).names.lookup x=U .free\/(relabel d B).names.lookup x=U .cell:=by
 rw [Mi,DR (λp=>by split<;>rfl) h]
 split
 .exact .inr J
 .exact .inl J
structure m_(scope:g6)(os cs:Y ai):Prop where
 kind:scope.kind=.function
 own:∀x∈os,scope.names.lookup x=U .local\/scope.names.lookup x=U .cell
 jt:∀y∈cs,scope.names.lookup y=U .free/\(∀p∈scope.names,p.1=y->p.2=.free)/\(y==("__classdict__":ai))=ak
 free:∀p∈scope.names,p.2=.free->p.1∈cs
 nodup:(os++cs).Nodup
 names:∀x∈scope.names,x.2=.local->scope.names.lookup x.1=U .local
structure i8(env:cG)(xs:Y ai)(cs:Y ai)(ci:Y aa):Prop where
 len:ci.length=cs.length
 at_:∀(j i:aa)(y:ai),ci[j]?=U i->cs[j]?=U y->xs[i]?=U y
 nl:∀y∈cs,env.kindOf y≠U .local
noncomputable def ou(os:Y ai)(P:Y aa)(m:Y (AV q)):Y (AV q):=dF os.length .un++P.map λi=>(m[i]?).getD .un
noncomputable def tL(os:Y ai)(P:Y aa)(R:aa->Y ay):aa->Y ay:=λi=>if i<os.length then []else((P[i-os.length]?).map R).getD []
noncomputable def rN(n k:Y ay)(P:Y aa)(R:aa->Y ay)(h:cu)(f:Fz):HB:=
 ⟨λb=>if b∈n\/b∈k\/(∃i∈P,b∈R i)then af else h.get? b,[],f,[]⟩
noncomputable def oF(os:Y ai)(P:Y aa)(m A:Y (AV q)):Y (AV q):=m.mapIdx λi y=>if i∈P then(A[os.length+P.idxOf i]?).getD .un else y
noncomputable def nE(os:Y ai)(P:Y aa)(R O:aa->Y ay):aa->Y ay:=λi=>if i∈P then O (os.length+P.idxOf i)else R i
open Classical in
theorem Ae{b:ay}(t:b∈n\/b∈k\/∃i∈P,b∈R i):(rN n k P R h f).b b=af:=bx ‹_›
theorem Dq(t:h.get? b=af):(rN n k P R h f).b b=af:=by
 delta rN;simp only;split<;>first|rfl|exact t
theorem Af{b:ay}(e:b∉n)(w:b∉k)(t:∀i∈P,b∉R i):(rN n k P R h f).b b=h.get? b:=by
 delta rN;simp only
 rw [bA];rintro(q|q|⟨i,A,q⟩)
 .exact e q
 .exact w q
 .exact t i A q
theorem xy{l:Y aa}(h:i∈l):l[l.idxOf i]?=U i:=by
 refine aZ (cP (List.idxOf_lt_length_iff.mpr h)) ?_;simp
section
variable{env:cG}{xs os cs:Y ai}{ci:Y aa}{dY:aa->Y ay}
theorem Cz(Q:m_ d os cs)(s:O∈cs)(v:env.cells.lookup O=U c):(gK d a env).cells.lookup O=U c:=by
 show(cellsFrom _ d.names _).lookup O=U c;refine gg (Q.jt O s) λR w y=>?_;rw [zD,GF,HY _ _ λp h e=>by rw [w p h e];decide];have z:=by
  have:=mem_of_lookup R;exact this
 refine aZ (Rh v d.names [] (.inl z) λi q=>aU J q) ?_
 rfl
theorem Yi(Q:m_ d os cs){a:ay}(j:d.names.lookup x=U .cell):∃c,(cellsFrom (a+1) d.names []).lookup x=U c/\(gK d a env).cells.lookup x=U c:=by
 refine bC (fc.mp (u_ d.names (a+1) [] (.inl j))) λc v=>⟨c,v,?_⟩;show(cellsFrom _ d.names _).lookup x=U c;rw [zD,GF,v];rfl
inductive Py(B:br O)(ρ:Mk)(fz:Fz)(env:cG)(xs:Y ai)(ci:Y aa)(lv:Y (AV O))(dY:aa->Y ay)(h:cu)(j:aa)(y:ai):Prop
 |mk(i:aa)(c:ay)(ov:aY aD)(av:AV O)(hi:ci[j]?=U i)(hm:i∈ci)(hx:xs[i]?=U y)(hl:lv[i]?=U av)(hc:env.cells.lookup y=U c)(cell:h.IsCell c ov)(hh:Holds B ρ fz h av ov (dY i))(UB:env.kindOf y≠U .local)
inductive G8(env:cG)(xs os cs:Y ai)(ci:Y aa)(scope:g6)(C:aa)(h:cu)(i:aa)(x:ai)(c:aa):Prop
 |inl(hi:i<os.length)(hm:(x,c)∈cellsFrom (C+1) scope.names [])(hc:C+1<=c)
 |inr(hi:os.length<=i)(i':aa)(hx:cs[i-os.length]?=U x)(Up:ci[i-os.length]?=U i')(hm:i'∈ci)(hxi:xs[i']?=U x)(hcl:env.cells.lookup x=U c)(Js:(h.get? c).isSome=ae)(UB:env.kindOf x≠U .local)
theorem Jm{h:cu}(v:h.objs.size<=c):h.get? c=af:=iO λy q=>bE (fQ q) (fJ.mpr v)
theorem HA{h:cu}(e:(h.get? b).isSome=ae):b<h.objs.size:=(fc.mp e).elim λy L=>fQ L
theorem aQ.Hz(S:aQ H X L f env xs k m E dY h)(R:i<xs.length):∀b∈dY i,(h.get? b).isSome=ae:=
 match S.vars i _ _ (cP R) (cP (S.len▸R))with|⟨_,_,g⟩=>g.live
theorem i8.ix(w:i8 env xs cs ci){u i:aa}(h:ci[u]?=U i):∃O,cs[u]?=U O/\xs[i]?=U O:=
 ⟨_,cP _,w.at_ u i _ h (cP (w.len▸jz h))⟩
theorem i8.lt(w:i8 env xs cs ci)(A:i∈ci):i<xs.length:=bC (qa A) λy e=>aA (w.ix e) λy y h=>jz h
theorem i8.inj(w:i8 env xs cs ci)(h:cs.Nodup){u r:aa}(e:ci[u]?=U i)(T:ci[r]?=U i):u=r:=match w.ix e,w.ix T with
 |⟨_,a,b⟩,⟨_,L,Q⟩=>pP h a (L.trans (Q.symm.trans b))
theorem Ri(j:x∉cs):∀(n:Y _)(o:Y _),(∀p∈n,p.2=.free->p.1∈cs)->o.lookup x=af->(nj env.cells n o).lookup x=af:=λi=>i.rec
 (λy y a=>a)
 (λ(v,u)r f o h Q=>by
  have k:=λp O=>h p (fF _ O);simp only [CB]
  split
  .rename_i l;have:(x==v)=ak:=beq_false_of_ne λe=>j (e▸h (v,u) (.head _) (of_decide_eq_true l));exact f _ k (by refine aZ (sO) ?_;exact(this)▸(Q))
  .exact f _ k Q)
theorem HX(w:i8 env xs cs ci)(S:aQ h X L f env xs k m E dY e)(s:cs[u]?=U O):Py h X f env xs ci m dY e u O:=by
 have A:=cP (w.len.symm▸jz s);have j:=w.at_ u _ O A s;have H:=cP (S.len.symm▸jz j);obtain⟨F,Q,g⟩:=S.vars _ O _ j H;have d:=w.nl O (cL s);rcases Q with⟨q,_⟩|⟨_,c,v,b⟩
 .exact bE q d
 .exact⟨_,c,F,_,A,cL A,j,H,v,b,g,d⟩
theorem QZ(Q:m_ d os cs)(w:i8 env xs cs ci)(S:aQ H X L f env xs r m E dY h)(z:∀{g c},(g,c)∈cellsFrom (a+1) d.names []->a+1<=c){c:aa}(j:(os++cs)[i]?=U x)(v:(gK d a env).cells.lookup x=U c):
  G8 env xs os cs ci d a h i x c:=by
 by_cases A:i<os.length
 .have v:(cellsFrom (a+1) d.names _).lookup x=U c:=v;rw [zD,GF,Ri (λq=>(f9.mp Q.nodup).2.2 x (cL ((j9 A).symm.trans j)) x q J) d.names [] Q.free J,Option.or_none]at v;have o:=mem_of_lookup v;exact .inl A o (z o)
 .have A:=oY A;have j:=(jV A).symm.trans j;obtain⟨B,O,F,y,R,b,t,k,T,n,u,s⟩:=HX w S j;have e:=bg (v.symm.trans (Cz Q (cL j) T));exact aA n λp P l=>.inr A B j R b t (e.symm▸T) (e.symm▸dc P) s
inductive PK(os:Y ai)(ci:Y aa)(dY:aa->Y ay)(i:aa)(b:ay):Prop
 |mk(i':aa)(hle:os.length<=i)(Up:ci[i-os.length]?=U i')(hm:i'∈ci)(hb:b∈dY i')
theorem zZ(t:b∈tL os ci dY i):PK os ci dY i b:=by
 delta tL at t
 split at t
 .exact bE (t) dP
 .cases q:ci[i-os.length]? with
  |none=>exact bE ((q▸t)) dP
  |some B=>exact⟨B,oY ‹_›,q,cL q,(q▸t:b∈((U B).map dY).getD [])⟩
theorem Wh(A:i<os.length):(ou os ci m)[i]?=U .un:=by
 refine aZ (j9 (iG.symm▸A)) ?_;refine aZ (wh) ?_;rw [bx A]
theorem Wg(A:os.length<=i)(R:ci[i-os.length]?=U B)(w:m[B]?=U y):(ou os ci m)[i]?=U y:=by
 refine aZ (jV (iG.symm▸A)) ?_;simp only [iG,hU,R,BZ,w];rfl
theorem TU(A:i<os.length):tL os ci dY i=[]:=bx A
theorem TT(A:os.length<=i)(R:ci[i-os.length]?=U B):tL os ci dY i=dY B:=(bA (fJ.mpr A)).trans (R▸J)
theorem MI(Q:m_ d os cs)(w:i8 env xs cs ci){s:aT}(bQ:gb env)(S:aQ H bK dz au env xs jk bw iD dY s.heap)(aH:∀b∈aW,eW H dz au env xs dY b/\(s.heap.get? b).isSome=ae)
  (iE:∀i∈ci,∀dG,bw[i]?≠U (.own dG))(fP:ol.isFreed=ak)(cY:cN={cls:=.type "dict",data:=.dict #[]}){a:aa}(aM:a=(s.heap.push ol).objs.size){R:cu}(az:R=pushCells ((s.heap.push ol).push cN) d.names):
  gb (gK d a env)/\aQ H bK ((rN H.tabs aW ci dY s.heap au).add (s.heap.objs.size::aW) R) au (gK d a env) (os++cs) os.length (ou os ci bw) (λao=>af) (tL os ci dY) R:=by
 have f:=eU (eH _) (f_ (by refine aZ (aM) ?_;simp only [l0]:a=s.heap.objs.size+1).symm);have bj:∀{c:aa},a+1<=c->s.heap.objs.size<=c:=(aJ (gm (oZ f)));have b8:∀{c:aa}{P:Prop},a+1<=c->c<s.heap.objs.size->P:=λq h=>bE h (fJ.mpr (bj q));have O:bG s.heap R:=λb o e=>az.symm▸wC _ _ b o (eg _ (eg _ e));have aS:∀c:aa,s.heap.objs.size<=c->s.heap.get? c=af:=λc v=>Jm v;have fresh:=λc v=>S.free (aS c v);have aI:=cellsFrom_ok d.names ((s.heap.push ol).push cN) _ [] ⟨λao ao z=>(bE (z) dP),List.Pairwise.nil⟩ (by simp only [l0,<-aM];exact ek _);simp only [l0,<-aM,<-az]at aI;have m:∀(i:aa)(x:ai)(c:aa),(os++cs)[i]?=U x->(gK d a env).cells.lookup x=U c->G8 env xs os cs ci d a s.heap i x c:=λi x c j v=>QZ Q w S (λh=>(aI.empty _ _ h).2) j v;have cz:∀(i:aa)(x:ai),os.length<=i->(os++cs)[i]?=U x->(gK d a env).kindOf x=U .free\/(gK d a env).kindOf x=U .cell:=λi x A j=>by
  rw [jV A]at j;exact Mh (Q.jt x (cL j)).1
 have y:∀i∈ci,i<xs.length:=λi A=>w.lt A;have E:∀{b:aa},(s.heap.get? b).isSome=ae->b<s.heap.objs.size:=HA;have aB:∀{b:aa},b<s.heap.objs.size->b<a:=λh=>kI h f;have aq:∀{b:aa},b<a->(∀i x,xs[i]?=U x->env.kindOf x≠U .local->env.cells.lookup x≠U b)->∀(i:aa)(x:ai),(os++cs)[i]?=U x->(gK d a env).kindOf x≠U .local->(gK d a env).cells.lookup x≠U b:=λt aP i x j ao v=>by
  rcases m i x _ j v with⟨_,_,q⟩|⟨_,aK,bB,iT,bF,l,n,r,k⟩
  .exact fJ.mpr q (oZ t)
  .exact aP aK x l k n
 have bu:∀{b:aa},(∀i,i<xs.length->b∉dY i)->∀u,u<(os++cs).length->b∉tL os ci dY u:=λaP u ao z=>match zZ z with|⟨B,_,_,z,X⟩=>aP B (w.lt z) X
 refine⟨⟨Q.kind,bQ.globals,bQ.builtins⟩,?_⟩
 have base:aQ H bK _ au (gK d a env) _ os.length (ou os ci bw) _ (tL os ci dY) R:={
  lock:=λjU eF=>(dP eF).elim
  len:=by delta ou;simp [w.len]
  base:=λb o e=>O b o (S.base b o e)
  kept:=λb o e=>by
   by_cases q:b∈H.tabs\/b∈aW\/∃i∈ci,b∈dY i
   .exact aU (Ae q) e
   .rw [Af (λh=>q (.inl h)) (λh=>q (.inr (.inl h))) (λi A h=>q (.inr (.inr ⟨i,A,h⟩)))]at e
    exact O b o e
  bI:=λb o e=>O b o (S.bI b o e)
  ns:=by
   have:=by exact(aM)▸(cY)▸(Heap.Ns.new _ _)
   exact az.symm▸this.keeps (wC _ _)
  nL:=⟨Dq (aS a (gm f)),(fresh a (gm f)).fz⟩
  fT:=λb o e=>(Af (S.ji (S.fT b o e)) (λq=>aU (aH b q).1.hb (S.fT b o e)) λi A q=>aU (S.fp i (y i A) b q).1 (S.fT b o e)).trans (S.base b o e)
  vars:=λi x iU j b7=>by
   by_cases A:i<os.length
   .rw [j9 A]at j
    obtain rfl:=bg ((Wh A).symm.trans b7)
    rw [TU A]
    rcases Q.own x (cL j)with q|q
    .exact⟨af,.inl ⟨yf (nofun) q,J⟩,J⟩
    .exact aA (Yi Q q) λc aG cy=>⟨af,.inr ⟨.inl (yf (nofun) q),c,cy,(aI.empty x c (mem_of_lookup aG)).1⟩,J⟩
   .have A:=oY A
    have g:=cz i x A j
    rw [jV A]at j
    obtain⟨B,c,eY,kF,aG,cy,lq,e_,fq,ef,gx,i6⟩:=HX w S j
    cases bg ((Wg A aG e_).symm.trans b7)
    rw [TT A aG]
    refine aA ef λc9 di dm=>⟨eY,.inr ⟨?_,c,Cz Q (cL j) fq,c9,O _ _ di,dm⟩,gx.mono (Le.refl _) (λb o e=>O b o (S.base b o e)) λb ao o e=>O b o e⟩
    rcases g with g|g
    .exact .inr ⟨g,(Q.jt x (cL j)).2.2⟩
    .exact .inl g
  own:=λi x c A j cK v=>by
   rcases m i x c j v with⟨_,_,q⟩|⟨q,_⟩
   .exact Dq (aS c (bj q))
   .exact bE A (fJ.mpr q)
  jt:=λi x c A j v cK=>by
   rcases m i x c j v with⟨q,_⟩|⟨_,B,bB,G,z,l,n,r,k⟩
   .exact bE q (fJ.mpr A)
   .exact bC (fc.mp r) λo aX=>⟨o,(Af (λq=>(S.tab c q).2.2.2.1 B x l k n) (λq=>(aH c q).1.cell B x l k n) (λaK dU q=>(S.fp aK (y aK dU) c q).2.2.2 B x l k n)).trans aX⟩
  cell:=λi x c j cK v=>by
   rcases m i x c j v with⟨_,_,q⟩|⟨_,B,bB,G,z,l,n,r,k⟩
   .exact⟨q1 q,(fresh c (bj q)).fz⟩
   .exact⟨fW (kI (E r) f),(S.cell B x c l k n).2⟩
  qf:=λi x A j=>by
   rcases cz i x A j with q|q<;>rw [q]<;>decide
  inj:=λi u x a_ c j bf gZ iC eL bX=>by
   rcases m i x c j eL with⟨_,bh,eM⟩|⟨bh,B,bB,G,z,l,n,r,k⟩
   .rcases m u a_ c bf bX with⟨_,L,cf⟩|⟨L,aj,eT,aN,dW,bV,cC,cH,cA⟩
    .have:=Pe aI.apart bh L
     subst this
     exact pP Q.nodup j bf
    .exact b8 eM (E cH)
   .rcases m u a_ c bf bX with⟨_,L,cf⟩|⟨L,aj,eT,aN,dW,bV,cC,cH,cA⟩
    .exact b8 cf (E r)
    .have e:=S.inj B aj x a_ c l bV k cA n cC
     subst e
     exact(sP bh).symm.trans ((aL (·+os.length) (w.inj (f9.mp Q.nodup).2.1 G aN)).trans (sP L))
  nodup:=λi u x A cM=>pP Q.nodup A cM
  fp:=λi A b t=>by
   obtain⟨B,_,_,z,X⟩:=zZ t
   have F:=S.fp B (y B z) b X
   have p:=aB (E (S.Hz (w.lt z) b X))
   exact⟨Ae (.inr (.inr ⟨B,z,X⟩)),F.2.1,fW p,aq p F.2.2.2⟩
  inv:=br.gO S.inv λP aO o e=>O P o e
  tab:=λP aO=>by
   have T:=S.tab P aO
   have p:=aB (E (H.live S.inv P aO))
   exact⟨Ae (.inl aO),T.2.1,fW p,aq p T.2.2.2.1,bu T.2.2.2.2⟩
  apart:=λi u A cM fD b t gz=>by
   obtain⟨B,gy,G,z,X⟩:=zZ t
   obtain⟨aj,gA,aN,bF,dN⟩:=zZ gz
   refine S.apart B aj (y B z) (y aj bF) (λe=>?_) b X dN
   subst e
   exact fD ((sP gy).symm.trans ((aL (·+os.length) (w.inj (f9.mp Q.nodup).2.1 G aN)).trans (sP gA)))
  c3:=λb t=>(dP t).elim
  new:=λb o e=>.inl e}
 refine base.enter (λb t=>?_) (λb t=>?_)
 .rcases cQ.mp t with rfl|t
  .have F:=fresh _ (ek _);exact⟨Dq (fM s),F.fz,fW f,aq f F.cell,bu F.fp,F.tab,F.h0⟩
  .exact bM (aH b t) λF p=>⟨Ae (.inr (.inl t)),F.fz,fW (aB (E p)),aq (aB (E p)) F.cell,bu F.fp,F.tab,F.h0⟩
 .rcases cQ.mp t with rfl|t
  .rw [az,wC _ _ _ _ (eg _ (eN _ fP))];rfl
  .exact bC (fc.mp (aH b t).2) λo aX=>dc (O b o aX)
end
section
variable{B:br O}{os:Y ai}
theorem qx{T:Type}{o:aY T}{P:Prop}(h:o=af)(e:o.isSome=ae):P:=cW J ((h▸e:(af).isSome=ae))
structure Off(tabs wr:Y ay)(ci:Y aa)(dY:aa->Y ay)(b:ay):Prop where
 t:b∉tabs
 w:b∉wr
 f:∀i∈ci,b∉dY i
theorem Off.b{b:ay}(r:Off B.tabs k P R b)(e:(h.get? b).isSome=ae):((rN B.tabs k P R h fz).add (h.objs.size::k) p).b b=h.get? b:=
 (fS λq=>(cQ.mp q).elim (λq=>bE (q▸HA e) (m5 _)) r.w).trans (Af r.t r.w r.f)
theorem Yd(h:m[i]?=U a):(oF os P m A)[i]?=U (if i∈P then(A[os.length+P.idxOf i]?).getD .un else a):=adh.trans (aL _ h)
theorem Ye(h:i∈P):nE os P R jZ i=jZ (os.length+P.idxOf i):=bx h
theorem Yh(h:i∉P):nE os P R jZ i=R i:=bA h
theorem t4(h:i∈P)(t:b∈nE os P R jZ i):b∈jZ (os.length+P.idxOf i):=(bx h:nE os P R jZ i=_)▸t
theorem t5(h:i∉P)(t:b∈nE os P R jZ i):b∈R i:=(bA h:nE os P R jZ i=_)▸t
theorem i8.Dt(w:i8 env n h P)(A:i∈P):(os++h)[os.length+P.idxOf i]?=n[i]?:=aA (w.ix (xy A)) λy a b=>((jV (fH _ _)).trans ((aL _ (nX _ _)).trans a)).trans b.symm
theorem i8.rM(w:i8 env n h P)(A:i∈P):os.length+P.idxOf i<(os++h).length:=match cP (w.lt A)with
 |e=>jz ((w.Dt A).trans e)
theorem aQ.Hy{i:aa}(S:aQ B X L f h n k b E R e)(j:n[i]?=U x)(m:h.kindOf x≠U .local)(v:h.cells.lookup x=U c):(e.get? c).isSome=ae:=by
 obtain⟨F,Q,_⟩:=S.vars i x _ j (cP (S.len▸jz j));rcases Q with⟨a,_⟩|⟨_,l,H,s,P,_⟩
 .exact bE a m
 .exact bg (H.symm.trans v)▸dc P
theorem MH(b8:m_ cy os bK)(w:i8 h n bK ci){s:aT}(S:aQ B aH L f h n bV aI aW R s.heap)(g:∀b∈wr,eW B L f h n R b/\(s.heap.get? b).isSome=ae)
  (eL:∀i∈ci,∀dG,aI[i]?≠U (.own dG))(cM:s.heap.objs.size<bF)(di:Le f X)
  (G:aQ B aH ((rN B.tabs wr ci R s.heap f).add (s.heap.objs.size::wr) eT) X (gK cy bF h) (os++bK) os.length aK eM jZ aO):
  aQ B aH L X h n bV (oF os ci aI aK) aW (nE os ci R jZ) aO/\eW B L X h n (nE os ci R jZ) s.heap.objs.size/\eW B L X h n (nE os ci R jZ) bF/\(∀b,b∈wr->eW B L X h n (nE os ci R jZ) b):=by
 have az:=λ{i}dz=>S.Hz (i:=i) dz;have k:∀{b o},s.heap.get? b=U o->Off B.tabs wr ci R b->aO.get? b=U o:=λe aG=>G.kept _ _ ((aG.b (dc e)).trans e);have aj:∀{b},(s.heap.get? b).isSome=ae->Off B.tabs wr ci R b->f b=af->X b=af:=λr aG aq=>iO λo e=>by
  rcases G.new _ o e with q|q
  .exact aU aq q
  .exact qx ((aG.b r).symm.trans q) r
 have O:∀{b},(L.b b).isSome=ae->Off B.tabs wr ci R b:=λt=>⟨λq=>qx (S.tab _ q).1 t,λq=>qx (g _ q).1.hb t,λi A q=>qx (S.fp i (w.lt A) _ q).1 t⟩;have aN:Off B.tabs wr ci R h.locals:=⟨λq=>(S.tab _ q).2.2.1 J,λq=>(g _ q).1.loc J,λi A q=>(S.fp i (w.lt A) _ q).2.2.1 J⟩;have Q:∀{i x c},n[i]?=U x->h.kindOf x≠U .local->h.cells.lookup x=U c->Off B.tabs wr ci R c:=λhx m v=>
  ⟨λq=>(S.tab _ q).2.2.2.1 _ _ hx m v,λq=>(g _ q).1.cell _ _ hx m v,λu d q=>(S.fp u (w.lt d) _ q).2.2.2 _ _ hx m v⟩
 have bX:=iL S.ns λao ao ao y ao=>dc y;have P:∀{i b},i<n.length->i∉ci->b∈R i->Off B.tabs wr ci R b:=λA au t=>
  ⟨λq=>(S.tab _ q).2.2.2.2 _ A t,λq=>(g _ q).1.fp _ A t,λu d q=>S.apart _ u A (w.lt d) (λe=>au (e▸d)) _ t q⟩
 have l:∀{i b},i∈ci->b∈jZ _->(s.heap.get? b).isSome=ae->¬Off B.tabs wr ci R b:=λA t r q=>qx ((q.b r).symm.trans (G.fp _ (w.rM A) _ t).1) r
 have cH:aQ B aH L X h n bV (oF os ci aI aK) aW (nE os ci R jZ) aO:={
  len:=List.length_mapIdx.trans S.len
  base:=G.base
  kept:=λb o e=>k (S.kept b o e) (O (dc e))
  bI:=G.bI
  ns:=iL S.ns λo dm cA y dN=>(kq o dm cA (k y aN) dN)
  nL:=⟨S.nL.1,aj bX aN S.nL.2⟩
  fT:=S.fT
  lock:=λcN dU x hx=>(S.lock cN dU x hx).keep λc aB v o e=>k e (Q hx aB v)
  vars:=λi x eF hx a=>by
   have aX:=S.len▸jz hx
   obtain⟨dW,a_,cf⟩:=S.vars i x _ hx (cP aX)
   have a:=bg (a.symm.trans (Yd (cP aX)))
   by_cases v:i∈ci
   .have bf:os.length+ci.idxOf i<aK.length:=G.len▸w.rM v
    rw [bx v,cP bf]at a
    subst a
    obtain⟨cz,b7,cC⟩:=G.vars _ x _ ((w.Dt v).trans hx) (cP bf)
    have bh:=(w.ix (xy v)).elim λao q=>bg (q.2.symm.trans hx)▸dH _ q.1
    rcases a_ with⟨q,_⟩|⟨cK,c,j,_⟩
    .exact bE q (w.nl x bh)
    .rcases b7 with⟨q,_⟩|⟨_,ef,cY,c9⟩
     .exact bE q (G.qf _ x (fH _ _) ((w.Dt v).trans hx))
     .exact⟨cz,.inr ⟨cK,c,j,bg ((Cz b8 bh j).symm.trans cY)▸c9⟩,Ye v▸cC⟩
   .rw [bA v]at a
    subst a
    exact⟨dW,a_.keep λc aB v o e=>k e (Q hx aB v),Yh v▸cf.mono di G.base λb t o e=>k e (P (jz hx) v t)⟩
  own:=S.own
  jt:=S.jt
  cell:=λi x c hx m v=>by
   have F:=S.cell i x c hx m v
   exact⟨F.1,aj (S.Hy hx m v) (Q hx m v) F.2⟩
  qf:=S.qf
  inj:=S.inj
  nodup:=S.nodup
  fp:=λi A b t=>by
   by_cases v:i∈ci
   .replace t:=t4 v t
    refine(kU (iO λo e=>l v t (dc (S.kept b o e)) (O (dc e))) (G.fp _ (w.rM v) b t).2.1 (λe=>l v (e▸t) bX aN) (λu x hx m j=>l v t (S.Hy hx m j) (Q hx m j)))
   .replace t:=t5 v t
    have F:=S.fp i A b t
    exact(c_ F.1 (aj (az A b t) (P A v t) F.2.1) F.2.2)
  inv:=G.inv
  tab:=λbj bu=>by
   have T:=S.tab bj bu
   have aS:=G.tab bj bu
   refine(kW T.1 aS.2.1 T.2.2.1 T.2.2.2.1 (λi A t=>?_))
   by_cases v:i∈ci
   .exact aS.2.2.2.2 _ (w.rM v) (t4 v t)
   .exact T.2.2.2.2 i A (t5 v t)
  apart:=λi u A d bB b t H=>by
   by_cases v:i∈ci<;>by_cases E:u∈ci
   .exact G.apart _ _ (w.rM v) (w.rM E) (λe=>bB (bg ((xy v).symm.trans ((aL _ (adC e)).trans (xy E))))) b (t4 v t) (t4 E H)
   .replace H:=t5 E H
    exact l v (t4 v t) (az d b H) (P d E H)
   .replace t:=t5 v t
    exact l E (t4 E H) (az A b t) (P A v t)
   .exact S.apart i u A d bB b (t5 v t) (t5 E H)
  c3:=λb t=>by
   have p:=S.c3 b t
   exact bC (fc.mp p.1) λo y=>(c_ p.1 (aj (dc (S.kept b o y)) (O p.1) p.2.1) p.2.2)
  new:=λb o e=>(G.new b o e).elim (S.new b o) λq=>.inr (iO λbw aM=>aU q (((O (dc aM)).b (dc (S.kept b bw aM))).trans (S.kept b bw aM)))}
 have bQ:∀{b},eW B L f h n R b->X b=af->(∀i∈ci,b∉jZ (os.length+ci.idxOf i))->eW B L X h n (nE os ci R jZ) b:=λF aq au=>⟨F.hb,aq,F.loc,F.cell,λi A z=>by
  by_cases v:i∈ci
  .exact au i v (t4 v z)
  .exact F.fp i A (t5 v z),F.tab,F.h0⟩
 have c3:=λ{b}t=>G.c3 b (fV _ t);have aP:=λ{b}t F=>bQ (b:=b) F (c3 t).2.1 λi v z=>qx (G.fp _ (w.rM v) _ z).1 (c3 t).1;exact(kU cH (aP gj (S.free (fM s))) (bQ (S.free (Jm (gm cM))) G.nL.2 λi v z=>(G.fp _ (w.rM v) _ z).2.2.1 J) (λb t=>aP (fF _ t) (g b t).1))
theorem aQ.iu{l T:cu}(S:aQ B z L f s n H t m R l)(F:eW B L f s n R a)(r:gI a l T):aQ B z L f s n H t m R T:=by
 have p:∀{X:Fz}{b o},X a=af->X b=U o->b≠a:=λE O e=>aU ((aL _ e).trans E) O;have u:=λb o e=>(r.2 b (λq=>aU ((aL _ q).trans F.h0) e)).trans (S.base b o e)
 exact{S with
  base:=u
  kept:=λb o e=>(r.2 b (p F.hb e)).trans (S.kept b o e)
  bI:=λb o e=>(r.2 b (p F.fz e)).trans (S.bI b o e)
  ns:=S.ns.sameBut r (iZ F.loc)
  vars:=λi x y j w=>by
   obtain⟨g,Q,d⟩:=S.vars i x y j w
   refine⟨g,Q.keep λc h v o e=>(r.2 c (λq=>F.cell i x j h (q▸v))).trans e,d.mono (Le.refl _) u λb A o e=>(r.2 b (λq=>F.fp i (ck.mp j).1 (q▸A))).trans e⟩
  lock:=λk P x j=>(S.lock k P x j).keep λc h v o e=>(r.2 c (λq=>F.cell k.1 x j h (q▸v))).trans e
  inv:=br.gO S.inv λaj G o e=>(r.2 aj (λq=>F.tab (q▸G))).trans e}
theorem aQ.TZ(S:aQ B X L f l n k d E R h)(F:eW B L f l n R a)(H:h.get? a=U (lo z v)):
  Le f (kT f a (lo z v))/\aQ B X L (kT f a (lo z v)) l n k d E R h:=
 have T:=xx F.fz
 ⟨T,{S with
  bI:=λb o e=>qn e (λp u=>p▸u▸H) (S.bI b o)
  nL:=⟨S.nL.1,qo (iZ F.loc) S.nL.2⟩
  vars:=λi x r j O=>match S.vars i x r j O with|⟨q,Q,g⟩=>⟨q,Q,g.mono T S.base λy y y e=>e⟩
  cell:=λi x c j m s=>have w:=S.cell i x c j m s;⟨w.1,qo (λe=>F.cell i x j m (e▸s)) w.2⟩
  fp:=λi A b t=>have w:=S.fp i A b t;(c_ w.1 (qo (λe=>F.fp i A (e▸t)) w.2.1) w.2.2)
  tab:=λP G=>have w:=S.tab P G;(c_ w.1 (qo (λe=>F.tab (e▸G)) w.2.1) w.2.2)
  c3:=λb t=>have w:=S.c3 b t;(c_ w.1 (qo (λe=>qx F.hb (e▸w.1)) w.2.1) w.2.2)
  inv:=br.vp T S.inv λP y o e=>e
  new:=λb o e=>qn e (λp y=>p▸.inr F.hb) (S.new b o)}⟩
end
noncomputable def uU(H:br q)(i:bZ)(u:bR)(F:cI)(X:Mk)(B:cG)(n:Y ai)(k:aa)(m:Y (AV q))(e:bW)(S:Y (AV q))(o:Y T):Prop:=
 ∀(L:HB)(f:Fz)(s:aT)(Q:aD->aT->Prop)(P:aD->aT->Prop),SR H X L f B n k m s.heap->
  (∀O j a z v E R,bS s O->Le f j->gb B->aQ H X L j B n k S E R O.heap->eW H L j B n R a->O.heap.get? a=U (lo z v)->bq X j z o->Q (.ref a) O)->
  wpAny (model i u) F (eval e B) Q P s
noncomputable def uV(H:br q)(i:bZ)(u:bR)(F:cI)(X:Mk)(B:cG)(n:Y ai)(k:aa)(m:Y (AV q))(T:Y bW)(S:Y (AV q))(b:bl):Prop:=
 ∀(L:HB)(f:Fz)(s:aT)(Q:bl->aT->Prop)(P:aD->aT->Prop),SR H X L f B n k m s.heap->
  (∀O j,bS s O->Le f j->SR H X L j B n k S O.heap->Q b O)->
  wpAny (model i u) F (forIn T ae λc r=>if r=ae then do let z<-isTrue c B (eval c B);pure (qW z)else pure (qW r)) Q P s
noncomputable def CO(b:bW)(o:aD)(B:cG):Sem Unit:=do let _<-call (.builtin "list.append") [o,<-eval b B]
noncomputable abbrev u0(i:bZ)(u:bR)(F:cI)(n:Result->aT->Prop)(P:aD->aT->Prop)(code:Code)(f:bW)(T:Y bW)(H:Sem Unit)(a:aD)(B:cG):Prop:=
 ∀(e:aa->aT->Prop),(∀g s,e g s->wpAny (model i u) F (pyNext a) (λr t=>match r with
   |af=>n (.ok .next) t
   |U v=>wpAny (model i u) F (letOwnedTupleGo f a v) (λy z=>wpAny (model i u) F (assign f B v) (λy x=>
     wpAny (model i u) F (forIn T ae λc r=>if r=ae then do let ok<-isTrue c B (eval c B);pure (qW ok)else pure (qW r)) (λok w=>
      if ok=ae then wpAny (model i u) F H (λy o=>∃E,E<g/\e E o) P w
      else∃E,E<g/\e E w) P x) P z) P t) P s)->∀g s,e g s->codeAny (model i u) F code n s
noncomputable abbrev wK(H:br q)(i:bZ)(u:bR)(F:cI)(X:Mk)(B:cG)(n:Y ai)(k:aa)(b:bW)(m:Y (AV q))(r:Y T)(S:Y (AV q)):Prop:=∃O,r=[O]/\cF H i u F X B n k m b S O
inductive Ce(B:br O)(prog:bZ)(w:bR)(A:cI)(ρ:Mk)(env:cG)(xs:Y ai)(k:aa)(ifs:Y bW)(Em:Y (AV O)->Y T->Y (AV O)->Prop)(EA:Y (AV O)->Y (AV O)->Prop)(lv:Y (AV O))(ys:Y T)(X:Y (AV O)->Y T->Prop):Prop
 |go{zs Nf:Y T}{aV c4 DV:Y (AV O)}(ha:EA lv aV)(ht:uV B prog w A ρ env xs k aV ifs c4 ae)(he:Em c4 zs DV)(h:X DV Nf)(e:ys=zs++Nf)
 |skip{aV c4:Y (AV O)}(ha:EA lv aV)(ht:uV B prog w A ρ env xs k aV ifs c4 ak)(h:X c4 ys)
noncomputable def mh(H:br q)(i:bZ)(u:bR)(F:cI)(X:Mk)(B:cG)(n:Y ai)(k:aa)(h:Y bW)(t:Y (AV q)->Y T->Y (AV q)->Prop){y:Type}(g:Y (AV q)->y->Y (AV q)->Prop):Y y->Y (AV q)->Y T->Y (AV q)->Prop
 |[],m,G,S=>G=[]/\m=S
 |w::o,m,G,S=>Ce H i u F X B n k h t (λl=>g l w) m G λl G=>mh H i u F X B n k h t g o l G S
noncomputable def zh(H:br q)(i:bZ)(u:bR)(F:cI)(X:Mk)(B:cG)(n:Y ai)(e:aa)(c:HB)(E:ay)(k:Y ay)(x:Sem Unit)(P:aD->aT->Prop)(g:aa)(m:Y (AV q))(r:Y T)(S:Y (AV q)):Prop:=
 ∀(h:cu)(s:aT)(f:Fz)(z:Y aD)(v:aa)(G:Y T)(Q:Unit->aT->Prop),SR H X (c.add (E::k) h) f B n e m s.heap->(∀b∈E::k,(h.get? b).isSome=ae)->s.heap.get? E=U (lo z v)->bq X f z G->G.length+r.length<=g->
  (∀O j a l,bS s O->Le f j->SR H X (c.add (E::k) O.heap) j B n e S O.heap->O.heap.get? E=U (lo a l)->bq X j a (G++r)->(∀b∈k,∀o,s.heap.get? b=U o->O.heap.get? b=U o)->Q () O)->wpAny (model i u) F x Q P s
inductive PC(B:br O)(ρ:Mk)(env:cG)(xs:Y ai)(k:aa)(hI:HB)(D:ay)(wr:Y ay)(St:aa->cu->Prop)(ys:Y T)(s:aT)(fz:Fz){τ:Type}(Cm:Y τ->Y (AV O)->Y T->Prop)(ts:Y τ)(n:aa)(s₂:aT):Prop
 |mk(i:aa)(lv':Y (AV O))(rI:Fz)(m₂:ai->aY aD)(C0:aa->Y ay)(vs:Y aD)(nn:aa)(Ng Nh:Y T)(hn:n+i=ts.length+1)(YX:bS s s₂)(l₂:Le fz rI)(zu:aQ B ρ (hI.add (D::wr) s₂.heap) rI env xs k lv' m₂ C0 s₂.heap)(aas:St i s₂.heap)(hi:i<=ts.length)
  (aer:s₂.heap.get? D=U (lo vs nn))(dv:bq ρ rI vs Ng)(hy:ys=Ng++Nh)(C:Cm (ts.drop i) lv' Nh)
noncomputable def m9(H:br q)(i:bZ)(u:bR)(F:cI)(X:Mk)(B:cG)(n:Y ai)(k:aa)(h:Y bW)(b:bW){y:Type}(g:Y (AV q)->y->Y (AV q)->Prop):Y y->Y (AV q)->Y T->Y (AV q)->Prop:=mh H i u F X B n k h (wK H i u F X B n k b) g
noncomputable def wJ(H:br q)(i:bZ)(u:bR)(F:cI)(X:Mk)(B:cG)(n:Y ai)(k:aa)(f:bW)(h:Y bW)(b:bW)(o:Y T)(m:Y (AV q))(G:Y T)(S:Y (AV q)):Prop:=
 m9 H i u F X B n k h b (λm w S=>h_ H i u F X B n k m f w S) o m G S
section
variable{B:br O}{prog:bZ}{w:bR}{A:cI}{ρ:Mk}{env:cG}{xs:Y ai}{k:aa}{lv aV:Y (AV O)}{wr:Y ay}{gv:bW}{ifs:Y bW}
theorem m9.nil:m9 B prog w A ρ env xs k ifs b g [] lv [] lv:=⟨J,J⟩
theorem m9.go(Q:g lv h aV)(e:uV B prog w A ρ env xs k aV ifs H ae)(X:cF B prog w A ρ env xs k H b j y)(a:m9 B prog w A ρ env xs k ifs b g o j G Km):m9 B prog w A ρ env xs k ifs b g (h::o) lv (y::G) Km:=Ce.go Q e ⟨y,J,X⟩ a J
theorem m9.skip(Q:g lv e aV)(a:uV B prog w A ρ env xs k aV ifs H ak)(i:m9 B prog w A ρ env xs k ifs b g o H G h):m9 B prog w A ρ env xs k ifs b g (e::o) lv G h:=Ce.skip Q a i
theorem m9.len(o:Y x):∀(lv:Y _)(G:Y T),m9 B prog w A ρ env xs k ifs s g o lv G i->G.length<=o.length:=o.rec
 (λlv G h=>by rw [h.1];exact ek _)
 (λb o f lv G h=>by
  cases h with
  |go Q a X h e=>exact aA X λO q y=>by subst e q;exact jH (f _ _ h)
  |skip Q a h=>exact yO (f _ _ h))
theorem uU.ev(h:uU B prog w A ρ env xs k lv e aV o):cF B prog w A ρ env xs k lv e aV (.list o):=by
 intro L f s Q P S G;exact h L f s Q P S λO j i z v E R q l y a F X d=>bM (a.TZ F X) λT p=>G O _ _ q (l.trans T) ⟨y,E,R,p⟩ (.list (bx J) (d.mono T))
theorem zS:uV B prog w A ρ env xs k lv [] lv ae:=λL f s Q P S G=>wpAny_tests_nil (G s f (bS.refl s) (Le.refl _) S)
theorem zT(h:fX B prog w A ρ env xs k lv c aV b):uV B prog w A ρ env xs k lv [c] aV b:=λL f s Q P S G=>wpAny_tests_one (h L f s Q P S G)
theorem DS(f:P=notedBy (model prog w) A env λe O=>n (.error e) O)
  (k:compTurn e d a o env=standAt G>>=λy=>pyNext a>>=λr=>match r with
   |af=>pure (.done .next)
   |U v=>letOwnedTupleGo gv a v>>=λy=>assign gv env v>>=λy=>(forIn ifs ae λc r=>if r=ae then do let z<-isTrue c env (eval c env);pure (qW z)else pure (qW r))>>=λz=>if z=ae then L else again (.compLoop e d a o env))
  (t:L=H>>=λy=>again (.compLoop e d a o env))(h:A.under (.compLoop e d a o env)=A)(E:(model prog w).den (.compLoop e d a o env)=(compTurn e d a o env).onRaise λx=>do noteFrame x env;theTreesLotGoes x):u0 prog w A n P (.compLoop e d a o env) gv ifs H a env:=by
 intro i S g s b;refine codeAny_loop J i (λg s q=>?_) g b;rw [h,E];refine wpAny_noted ?_;rw [<-f,k];refine aE (kK (aE (i0 (S g s q) (λr u p=>?_) λy y T=>T)));cases r with
 |none=>exact bD p
 |some v=>
  refine aE (i0 p (λy B j=>aE (i0 j (λy X m=>aE (i0 m (λz F l=>?_) λy y T=>T)) λy y T=>T)) λy y T=>T);cases z with
  |false=>exact bD ⟨J,l⟩
  |true=>exact t▸aE (i0 l (λy R Q=>bD ⟨J,Q⟩) λy y T=>T)
theorem V4(v:P=notedBy (model prog w) A env λe O=>n (.error e) O):u0 prog w A n P (.compLoop (.ListComp b [⟨gv,s,ifs,0⟩] d h) 0 a o env) gv ifs (CO b o env) a env:=
 DS v (compTurn_list ..) J J J
noncomputable abbrev sZ(wr:Y ay)(h T:cu):Prop:=∀b o,b∉wr->h.get? b=U o->T.get? b=U o
end
section
variable{B:br O}{prog:bZ}{w:bR}{A:cI}{ρ:Mk}{env:cG}{xs:Y ai}{k:aa}{gv:bW}{ifs:Y bW}{τ:Type}{EA:Y (AV O)->τ->Y (AV O)->Prop}{Em:Y (AV O)->Y T->Y (AV O)->Prop}
theorem Rw{aS h:Y ay}{d:aa->cu->Prop}{code:Code}(fq:gb env)
  (iE:u0 prog w A dG bh code gv ifs qS (.ref bB) env)
  (sI:∀{m cH S},Em m cH S->zh B prog w A ρ env xs k c E h qS bh eL m cH S)
  (cA:∀i a T,d i a->(∀b∈aS,∀o,a.get? b=U o->T.get? b=U o)->d i T)
  (fD:∀(s:aT)(dm:aY aD->aT->Prop)(bh:aD->aT->Prop),d aj.length s.heap->(∀T aB,sZ h s.heap T->dm af {s with heap:=T,toks:=aB})->wpAny (model prog w) A (pyNext (.ref bB)) dm bh s)
  (ef:∀{i:aa}{eM:τ}(x:aT)(F:Fz)(S cy:Y _)(p9:aT->Prop)(cK:Unit->aT->Prop)(aX:aD->aT->Prop),aj[i]?=U eM->d i x.heap->Le p F->EA S eM cy->(∀T,sZ h x.heap T->d (i+1) T->SR B ρ (c.add (E::h) T) F env xs k S T)->
   (∀T v,sZ h x.heap T->d (i+1) T->bS x v->SR B ρ (c.add (E::h) T) F env xs k cy v.heap->cK () v)->
   wpAny (model prog w) A (pyNext (.ref bB)) (λgx c9=>match gx with|af=>p9 c9|U di=>wpAny (model prog w) A (letOwnedTupleGo gv (.ref bB) di) (λaW iC=>wpAny (model prog w) A (assign gv env di) cK aX iC) aX c9) aX x)
  (iD:d 0 s.heap)(dz:∀b∈aS,b∈h\/(p b).isSome=ae\/(B.bO.get? b).isSome=ae)(v_:E∉aS)(bQ:E∉h)(qR:∀i a,d i a->∀b∈h,(a.get? b).isSome=ae)(iT:aP.length+G.length<=eL)
  (qU:aQ B ρ (c.add (E::h) s.heap) p env xs k m fP mV s.heap)(mW:s.heap.get? E=U (lo eF iU))(i6:bq ρ p eF aP)
  (f:mh B prog w A ρ env xs k ifs Em EA aj m G dW)
  (qP:∀L a_ gy gz n Q T aB,bS s L->Le p a_->aQ B ρ (c.add (E::h) L.heap) a_ env xs k dW gy gz L.heap->L.heap.get? E=U (lo n Q)->bq ρ a_ n (aP++G)->sZ h L.heap T->dG (.ok .next) {L with heap:=T,toks:=aB}):
  codeAny (model prog w) A code dG s:=by
 refine iE (PC B ρ env xs k c E h d (aP++G) s p (λaj m G=>mh B prog w A ρ env xs k ifs Em EA aj m G dW) aj) ?_ _ _
  ⟨0,m,p,fP,mV,eF,iU,aP,G,J,bS.refl _,Le.refl _,qU,iD,iY _,mW,i6,J,f⟩
 rintro eT x⟨i,S,F,cz,cN,n,Q,ao,uy,aM,bf,z,aN,bj,gA,aH,bu,aK,f⟩;have bw:∀{a:cu}{o jk},a.get? E=U o->d jk a->∀b∈E::h,(a.get? b).isSome=ae:=λjU kF=>bL (dc jU) (qR _ _ kF)
 by_cases e:i<aj.length
 .have cC:∀T,sZ h x.heap T->d (i+1) T->SR B ρ (c.add (E::h) T) F env xs k S T:=λT l t=>⟨fq,cz,cN,aN.turn (λb az o g=>l b o (λq=>az (fF _ q)) g) (bw (l E _ bQ aH) t)⟩;have cM:∀{T:cu}{P:aT}{R:Fz}{cY:Y (AV O)}{y X},sZ h x.heap T->d (i+1) T->Le F R->aQ B ρ (c.add (E::h) T) R env xs k cY y X P.heap->d (i+1) P.heap/\P.heap.get? E=U (lo n Q):=λ{T P R cY y X}l t u r=>by
   refine⟨cA _ T _ t λb az o aq=>?_,r.kept E _ ((gn (.head _)).trans (l E _ bQ aH))⟩
   by_cases q:b∈h
   .exact r.kept b o ((gn (fF _ q)).trans aq)
   .have au:∀{H},x.heap.get? b=U H->P.heap.get? b=U H->P.heap.get? b=U o:=λg bK=>bK.trans ((l b _ q g).symm.trans aq);rcases(dz b az).resolve_left q with q|q
    .obtain⟨H,j⟩:=fc.mp q;exact au (aN.bI b H (z b H j)) (r.bI b H (u _ _ (z _ _ j)))
    .obtain⟨H,j⟩:=fc.mp q;exact au (aN.base b H j) (r.base b H j)
  have f:=by
   rw [uC e]at f;exact f
  have dU:=cP e;cases f with
  |go bV bF lq b7 dN=>
   refine ef x F S _ _ _ _ dU bj z bV cC λT v l t bX b8=>bF _ F v _ _ b8 λP R cf u r=>?_;rw [bx J];obtain⟨qQ,y,X,r⟩:=r;obtain⟨aI,aO⟩:=cM l t u r;have qT:ao.length+_<=eL:=aJ (by have:=aL BN (aK.trans (aL (ao++·) dN));rw [dM,dM,dM]at this;rw [this];exact ly (fH _ _) _) iT;refine sI lq T P R n Q ao _ ⟨qQ,y,X,r⟩ (bw (l E _ bQ aH) t) aO (bu.mono u) qT λeY sD nR sF sG e_ aG sE sH sJ=>?_;obtain⟨_,sN,sM,aG⟩:=aG;have gZ:=cA _ _ _ aI λb az o aq=>by
    by_cases q:b∈h
    .exact sJ b q o aq
    .have au:∀{H},P.heap.get? b=U H->eY.heap.get? b=U H->eY.heap.get? b=U o:=λg bK=>bK.trans (g.symm.trans aq);rcases(dz b az).resolve_left q with q|q
     .obtain⟨H,j⟩:=fc.mp q;exact au (r.bI b H (u _ _ (z _ _ j))) (aG.bI b H (e_ _ _ (u _ _ (z _ _ j))))
     .obtain⟨H,j⟩:=fc.mp q;exact au (r.base b H j) (aG.base b H j)
   exact⟨eT-1,(vE aM e).1,i+1,_,sD,sN,sM,nR,sF,ao++_,_,(vE aM e).2,((bf.trans bX).trans cf).trans sG,(z.trans u).trans e_,aG,gZ,e,sE,sH,(aK.trans (aL _ dN)).trans (kG _ _ _).symm,b7⟩
  |skip bV bF b7=>
   refine ef x F S _ _ _ _ dU bj z bV cC λT v l t bX b8=>bF _ F v _ _ b8 λP R cf u r=>?_;rw [bA BF];obtain⟨_,y,X,r⟩:=r;obtain⟨aI,aO⟩:=cM l t u r;exact⟨eT-1,(vE aM e).1,i+1,_,R,y,X,n,Q,ao,_,(vE aM e).2,(bf.trans bX).trans cf,z.trans u,r.turn (λaW aW aW g=>g) (bw aO aI),aI,e,aO,bu.mono u,aK,b7⟩
 .refine fD x _ _ ((lz gA (oY e))▸bj) λT aB l=>?_;obtain⟨rfl,rfl⟩:=(ac7 (oY e)▸f);exact qP x F cz cN n Q T aB bf z aN aH ((aK.trans (nV _)).symm▸bu) l
end
section
variable{B:br O}{prog:bZ}{w:bR}{A:cI}{ρ:Mk}{env:cG}{xs:Y ai}{k:aa}{elt:bW}
theorem IL(v:g<=sizeLine)(L:E∉h)(n:cF B prog w A ρ env xs k u elt aH au):zh B prog w A ρ env xs k aW E h (CO elt (.ref E) env) P g u [au] aH:=by
 intro m s p aj ao aX a_ S r aK d aI aM;have f:∀b∈E::h,∀o,s.heap.get? b=U o->m.get? b=U o:=λb t o e=>by
  obtain⟨_,aO,aP,S⟩:=S;obtain⟨H,j⟩:=fc.mp (r b t);exact j.trans ((S.kept b H ((gn t).trans j)).symm.trans e)
 refine aE (i0 (n _ p s _ P S λaS z Q G c T aq=>?_) (λy y x=>x) λy y x=>x);refine cps λbf F=>?_;obtain⟨az,aB,aG,T⟩:=T;have O:=λb t o e=>T.kept b o ((gn t).trans (f b t o e));refine F ?_;refine aE (G0 (hsz:=(nW).trans d.length▸aJ (aJ (fH _ _) aI) v) ⟨ao,O E (.head _) _ aK⟩ λl a R=>?_);refine bC (a) λX a=>?_;have i:l.get? E=U (lo (aj++[Q]) X):=by refine aZ (a) ?_;simp [lo]
 have aN:∀b∈E::h,(l.get? b).isSome=ae:=bL (dc i) λb t=>by
  refine bC (fc.mp (r b (.tail _ t))) λH j=>?_;exact dc ((R.2 b λq=>L (q▸t)).trans (T.kept b H ((gn (.tail _ t)).trans j)))
 exact bD (aM _ z _ X (G.trans (b_ _ _ J)) c ⟨az,aB,aG,T.turn (λb t o e=>(R.2 b λq=>t (q▸.head _)).trans e) aN⟩ i ((d.mono c).append (.one aq)) (λb t o e=>(R.2 b λq=>L (q▸t)).trans (O b (.tail _ t) o e)))
end
section
variable{B:br O}{prog:bZ}{w:bR}{A:cI}{ρ:Mk}{env:cG}{xs:Y ai}{k:aa}{lv aV:Y (AV O)}{wr:Y ay}{gv:bW}{ifs:Y bW}
end
section
variable{B:br O}{prog:bZ}{w:bR}{A:cI}{ρ:Mk}{env:cG}{xs:Y ai}{k:aa}{elt gv:bW}{ifs:Y bW}
theorem CE{code:Code}(ao:gb env)
  (cC:u0 prog w A g P code gv ifs cM (.ref c) env)(aX:∀{m r S},au m r S->zh B prog w A ρ env xs k hI E h cM P M m r S)
  (F:Walks prog w A c y h q.length aG d)(bB:∀i v,aG i v->∃e,q[i]?=U e/\Den ρ f v e)(az:d 0 s.heap)
  (aH:∀b∈y,b∈h\/(f b).isSome=ae\/(B.bO.get? b).isSome=ae)(a_:E∉y)(bj:E∉h)(bw:∀i n,d i n->∀b∈h,(n.get? b).isSome=ae)
  (aI:bX=ae->∀i(s:aT)(cA:Y bW)(H:aa)(p:fR)(v:aD)(Q:Unit->aT->Prop)(P:aD->aT->Prop),d i s.heap->Q () s->wpAny (model prog w) A (letOwnedTupleGo (.Tuple cA H p) (.ref c) v) Q P s)
  (aq:(∃o p,gv=.Name o p)\/bX=ae/\∃x H p,gv=.Tuple x H p)(aB:FE.length+G.length<=M)
  (l:aQ B ρ (hI.add (E::h) s.heap) f env xs k m di cY s.heap)(aM:s.heap.get? E=U (lo aN n0))(aO:bq ρ f aN FE)
  (aP:mh B prog w A ρ env xs k ifs au (λm e S=>h_ B prog w A ρ env xs k m gv e S) q m G aS)
  (aW:∀O j bf bh z bu T a,bS s O->Le f j->aQ B ρ (hI.add (E::h) O.heap) j env xs k aS bf bh O.heap->O.heap.get? E=U (lo z bu)->bq ρ j z (FE++G)->sZ h O.heap T->g (.ok .next) {O with heap:=T,toks:=a})(bF:hI.lk=[]):
  codeAny (model prog w) A code g s:=
 Rw ao cC aX F.frame F.done (λ{i e}u aK S dz c9 bQ bV X b7 b8 cf l cy=>F.item i u _ _ (ck.mp X).1 b7 λv T a bK t L=>by
  refine aA (bB i v bK) λdm cH cz=>?_;have R:=cf (hI.add _ T) aK {u with heap:=T,toks:=a} v bQ bV bF (l T L t) (bg (X.symm.trans cH).symm▸cz.mono b8) λcK cN aj=>cy T cK L t (bS.trans (b_ T a J) cN) aj;rcases aq with⟨o,p,rfl⟩|⟨rfl,x,H,p,rfl⟩
  .exact bD R
  .exact aI J _ _ x H p v _ _ t R) az aH a_ bj bw aB l aM aO aP aW
end
section
variable{B:br O}{prog:bZ}{w:bR}{A:cI}{ρ:Mk}{env:cG}{xs:Y ai}{k:aa}{lv aV:Y (AV O)}{wr:Y ay}{gv:bW}{ifs:Y bW}
theorem Rx{c:HB}{e E:ay}(aH:gb env)
  (F:Walks prog w A e l wr o.length aq d)(aN:∀i v,aq i v->∃a,o[i]?=U a/\Den ρ f v a)(R:d 0 s.heap)
  (m:∀b∈l,b∈wr\/(f b).isSome=ae\/(B.bO.get? b).isSome=ae)(aG:E∉l)(L:E∉wr)(aM:∀i h,d i h->∀b∈wr,(h.get? b).isSome=ae)
  (aP:t=ae->∀i(s:aT)(u:Y bW)(H:aa)(p:fR)(v:aD)(Q:Unit->aT->Prop)(P:aD->aT->Prop),d i s.heap->Q () s->wpAny (model prog w) A (letOwnedTupleGo (.Tuple u H p) (.ref e) v) Q P s)
  (g:(∃r p,gv=.Name r p)\/t=ae/\∃y H p,gv=.Tuple y H p)(X:d_ o.length=ae)
  (S:aQ B ρ (c.add (E::wr) s.heap) f env xs k lv aX aW s.heap)(ao:s.heap.get? E=U (lo [] 0))
  (x:wJ B prog w A ρ env xs k gv ifs au o lv az aV)
  (aB:∀O j G aK z aj T aI,bS s O->Le f j->aQ B ρ (c.add (E::wr) O.heap) j env xs k aV G aK O.heap->O.heap.get? E=U (lo z aj)->bq ρ j z az->
   (∀b n,b∉wr->O.heap.get? b=U n->T.get? b=U n)->aO (.ok .next) {O with heap:=T,toks:=aI})(aS:c.lk=[]):
  codeAny (model prog w) A (.compLoop (.ListComp au [⟨gv,a_,ifs,0⟩] bf bh) 0 (.ref e) (.ref E) env) aO s:=
 CE aH (V4 J) (λ{lv bj bu}h=>aA h λbw q h=>q.symm▸IL (aJ (m9.len _ _ _ x) (kB X)) L h) F aN R m aG L aM aP g (f_ (l7 _)) S ao .nil x aB aS
theorem aQ.JU(S:aQ B ρ L f env xs k lv E R l)(F:∀b∈wr,eW B L f env xs R b)(r:∀b o,b∉wr->l.get? b=U o->h.get? b=U o):aQ B ρ L f env xs k lv E R h:=by
 have T:∀{b},(∀q,False)->b∉wr:=λX t=>X (F _ t);have u:bG B.bO h:=λb o e=>r b o (T λq=>aU q.h0 e) (S.base b o e)
 exact{S with
  base:=u
  kept:=λb o e=>r b o ((λe=>T λq=>aU q.hb e) e) (S.kept b o e)
  bI:=λb o e=>r b o ((λe=>T λq=>aU q.fz e) e) (S.bI b o e)
  ns:=Ed S.ns λo=>r _ o (T λq=>q.loc J)
  vars:=λi x y j w=>by
   obtain⟨s,Q,g⟩:=S.vars i x y j w
   refine⟨s,Q.keep λc a v o e=>r c o (T λq=>q.cell i x j a v) e,g.mono (Le.refl _) u λb t o e=>r b o (T λq=>q.fp i (ck.mp j).1 t) e⟩
  lock:=λp O x j=>(S.lock p O x j).keep λc a v o e=>r c o (T λq=>q.cell p.1 x j a v) e
  inv:=br.gO S.inv λP G o e=>r P o (T λq=>q.tab G) e}
end
section
variable{os:Y ai}
theorem Ia(Q:m_ d os aK)(w:i8 B n aK P)
  (eF:nf eL H i u F X B n ao aW s g aq)(aB:∀e_∈P,∀l,g[e_]?≠U (.own l))
  (bQ:∀a,wJ H i u F X (gK d a B) (os++aK) os.length f aH aM aq (ou os P g) cz c9)
  (dz:∀x,foldedSetIterable s B x=pure x)(cK:(∃x p,f=.Name x p)\/(eL=ae/\∃A bB p,f=.Tuple A bB p))(bF:d_ aq.length=ae)
  (S:SR H X L aS B n ao aW h.heap)
  (ef:∀O j(E a:ay)z v m R b8,bS h O->Le aS j->gb B->aQ H X L j B n ao (oF os P g c9) m R O.heap->eW H L j B n R E->eW H L j B n R a->E≠a->
   O.heap.get? E=U (lo z v)->bq X j z cz->O.heap.Ns a b8->compPost (model i u) F aX a_ aP (.ref E) a (.ok .next) O):
  wpAny (model i u) F (comprehension (.ListComp aM [⟨f,s,aH,0⟩] d dN) d B kF (newList []) ak (eval s B) a_) aP aX h:=by
 have cA:∀p∈d.names,p.2=.free->(B.cells.lookup p.1).isSome=ae:=by
  intro p cH cM;refine cps λbu r=>?_;obtain⟨y,m,R,S⟩:=S;have az:=Q.free p cH cM;obtain⟨k,aG,e⟩:=yL az;have bK:k<P.length:=by simp only [w.len];exact aG
  have aI:=w.at_ k _ p.1 (cP bK) (by refine aZ (cP aG) ?_;rw [e]);have bV:P[k]<aW.length:=by simp only [S.len];exact(ck.mp aI).1
  obtain⟨iD,b7,_⟩:=S.vars _ _ _ aI (cP bV);refine r ?_;rcases b7 with⟨q,_⟩|⟨_,iT,cy,_⟩
  .exact bE q (w.nl _ az)
  .exact dc cy
 refine ael J dz (CC cA) Q.kind Q.names (eF L aS h _ _ S λt i6 cC jk jU iC iE m R cN cY y aN W di dm aO dG au dU own=>(G4 (KJ Q.kind ?_)));have c:t.heap.objs.size<(t.heap.push (lo [] 0)).objs.size:=by simp only [l0];exact eH _
 obtain⟨bX,dW⟩:=MI (ol:=lo [] 0) Q w y aN aO aB J J J J;have cf:bG t.heap (pushCells ((t.heap.push (lo [] 0)).push {cls:=.type "dict",data:=.dict #[]}) d.names):=λb o e=>wC _ _ b o (eg _ (eg _ e));have G:=λb T=>au b (W.sub b T);have bh:=W.frame 0 _ _ dm λb bu o e=>cf b o e;have bf:codeAny (model i u) F (.compLoop (.ListComp aM [⟨f,s,aH,0⟩] d dN) 0 (.ref cC) (.ref t.heap.objs.size) (gK d (t.heap.push (lo [] 0)).objs.size B))
   (compPost (model i u) F aX a_ aP (.ref t.heap.objs.size) (t.heap.push (lo [] 0)).objs.size) {t with heap:=pushCells ((t.heap.push (lo [] 0)).push {cls:=.type "dict",data:=.dict #[]}) d.names}:=by
  refine Rx bX W di bh dG (λq=>(λb T=>fW (au b T)) _ q J) (λq=>m5 _ (G _ q)) dU own cK bF dW ?_ (bQ _) ?_ J
  .exact wC _ _ _ _ (eg _ (eN _ J))
  .intro O j eM iU z v eT eY q l bj fq fD aj;refine ve (MH Q w aN aO aB c l bj) λgx gy fP gA=>?_;refine ef _ j _ _ z v _ _ eM ((cN.trans q).trans (b_ eT eY J)) (cY.trans l) y (gx.JU gA aj) gy fP (fW c) (aj _ _ (λq=>m5 _ (G _ q)) fq) fD (cps λbu r=>?_);refine iL (bj.ns) λo A gz gZ bw=>?_;exact r ((kq o A gz (aj _ o (λq=>m5 _ (kI c (G _ q))) gZ) bw))
 exact aef bf (W.self 0 _ _ _ bh bf)
theorem Sa(Q:m_ d os h)(w:i8 B n h P)
  (c:nf j H i u F X B n k m s g o)(aq:∀b∈P,∀l,g[b]?≠U (.own l))
  (hC:∀a,wJ H i u F X (gK d a B) (os++h) os.length f ifs t o (ou os P g) G A)
  (r:∀x,foldedSetIterable s B x=pure x)(q:(∃x p,f=.Name x p)\/(j=ae/\∃v y p,f=.Tuple v y p))(z:d_ o.length=ae)(L:oF os P g A=O):
  uU H i u F X B n k m (.ListComp t [⟨f,s,ifs,0⟩] d bw) O G:=by
 intro aX bj bu bf bh R aj;refine Ia Q w c aq hC r q z R λa_ ao E a au az T aB aG S l aI aK aM aN aH aP aO aS=>(aR aG aS (λaW rJ=>?_));have e:=aK.iu aN rJ;rw [L]at e;exact aj _ ao E au az T aB (S.trans (b_ aW _ J)) l aI e aM ((rJ.2 E aH).trans aP) aO
end
section
variable{B:br O}{prog:bZ}{w:bR}{A:cI}{ρ:Mk}{env:cG}{xs os:Y ai}{k n:aa}{lv c4:Y (AV O)}{hB:HB}
theorem eA.det(a:eA env E h x F)(L:eA env E h x b):F=b:=by
 rcases a with⟨R,w⟩|⟨R,c,w,t⟩
 .rcases L with⟨p,g⟩|⟨p,d,g,e⟩
  .refine aZ (w) ?_;rw [g]
  .rw [R]at p;rcases p with A|⟨A,_⟩<;>exact nc lA (bg A) J
 .rcases L with⟨p,g⟩|⟨p,d,g,e⟩
  .rw [p]at R;rcases R with A|⟨A,_⟩<;>exact nc lA (bg A) J
  .rw [w]at g;obtain rfl:=bg g;refine aA t λo f T=>aA e λH i s=>?_;rw [f]at i;obtain rfl:=bg i;rw [T]at s;exact acP s
noncomputable def HB.lock(hB:HB)(i:aa)(v:aD):HB:={hB with lk:=(i,v)::hB.lk}
theorem aQ.rQ(S:aQ B ρ hB f env xs k lv E R h)(j:xs[i]?=U x)(Q:eA env E h x (U v)):aQ B ρ (hB.lock i v) f env xs k lv E R h:=by
 have H:∀p∈(hB.lock i v).lk,∀O,xs[p.1]?=U O->eA env E h O (U p.2):=λp e O s=>by
  rcases cQ.mp e with rfl|e
  .rw [j]at s;exact bg s▸Q
  .exact S.lock p e O s
 exact{S with lock:=H}
theorem aQ.unlock(S:aQ B ρ (hB.lock i v) f env xs k lv E R h):aQ B ρ hB f env xs k lv E R h:=
 {S with lock:=λp O e s=>S.lock p (fF _ O) e s}
theorem aQ.locked(S:aQ B ρ (hB.lock i v) f env xs k lv E R h)(j:xs[i]?=U x):eA env E h x (U v):=S.lock (i,v) gj x j
theorem aQ.A2(S:aQ B ρ hB f env xs k lv E R h)(j:xs[i]?=U x)(Q:eA env E h x (U (.ref a)))(p:R i=[a])
  (r:gI a h h')(u:h'.get? a=U (lo z v))(d:bq ρ f z l):aQ B ρ hB f env xs k (lv.set i (.own l)) E (bT R i [a]) h':=by
 refine S.M0 j (λb t o e=>?_) Q ⟨a,z,v,J,u,d,J⟩ λb t=>.inl (by rw [p];exact t);rw [p]at t;exact(r.2 b λq=>t (by simp [q])).trans e
theorem ng.oE{a:ay}(F:eW B hB f env xs R a):ng B hB f env xs R i [a]where
 a:=λb t=>(cD.mp t).symm▸((kU F.hb F.fz F.loc F.cell))
 b:=λu y d b t=>by exact(cD.mp t)▸(F.fp u d)
 c:=λP G q=>F.tab ((cD.mp q)▸G)
theorem IU(j:xs[i]?=U x)(E:i<k)(t:env.kindOf x=U .local\/env.kindOf x=U .cell)(n:cF B prog w A ρ env xs k lv e g y)
  (r:swapsWith e (U (.Name x b)) p.line env=pure ak):gB B prog w A ρ env xs k lv (.Assign [.Name x b] e p) (g.set i (.t y)) .next:=by
 intro hB f s Q P l S G;refine lC (n hB f s _ _ S λz u v q c T d=>?_) r;obtain⟨h,H,R,T⟩:=T;exact gu (av:=.t y) h l T j E t ⟨J,v,J,d⟩ .nil λO o m a=>G O u .next (q.trans m) c ⟨h,o,_,a⟩ trivial
theorem SU(j:xs[i]?=U x)(E:i<k)(t:env.kindOf x=U .local\/env.kindOf x=U .cell)(h:uU B prog w A ρ env xs k lv e g o)
  (r:swapsWith e (U (.Name x b)) p.line env=pure ak):gB B prog w A ρ env xs k lv (.Assign [.Name x b] e p) (g.set i (.own o)) .next:=by
 intro hB f s Q P l S G;exact lC (h hB f s _ _ S λaj u n z v L R q c y T F X d=>(gu (av:=.own o) y l T j E t ⟨n,z,v,J,X,d,J⟩ (.oE F) λO m H a=>G O u .next (q.trans H) c ⟨y,m,_,a⟩ trivial)) r
theorem IV(bj:m_ d os j)(aX:i8 env xs j P)
  (aG:nf aP B prog w A ρ env xs k lv s g ts)(az:∀i∈P,∀l,g[i]?≠U (.own l))
  (aW:∀a,wJ B prog w A ρ (gK d a env) (os++j) os.length f ifs m ts (ou os P g) G aK)
  (aO:∀x,foldedSetIterable s env x=pure x)(aS:(∃x p,f=.Name x p)\/(aP=ae/\∃b a_ p,f=.Tuple b a_ p))(F:d_ ts.length=ae)(L:oF os P g aK=bu)
  (bw:xs[i]?=U x)(bB:i<k)(b8:env.kindOf x=U .local)
  (bV:swapsWith (.ListComp m [⟨f,s,ifs,0⟩] d H) (U (.Name x S)) p.line env=pure ae):
  gB B prog w A ρ env xs k lv (.Assign [.Name x S] (.ListComp m [⟨f,s,ifs,0⟩] d H) p) (bu.set i (.own G)) .next:=by
 intro hB cN cY cH cK ao aq au;refine lX (aeg _ _ _ _ bV) ?_;refine aE (kK (aE ?_));refine aE (i0 (Ia bj aX aG az aW aO aS F aq λO aB E a aH aI cM R aM aN l n h X v t T aj c=>?_) (λy O bh=>bD (bD bh)) λy y e=>e);rw [L]at h;have Q:(O.heap.get? a).isSome=ae:=by refine iL c λo y y L y=>?_;rw [L];rfl
 refine m8 (gu (hB:=hB.add [a] O.heap) (av:=.own G) n ao (h.enter (λq hb=>by exact(cD.mp hb)▸(v)) (λq hb=>(cD.mp hb).symm▸Q)) bw bB (.inl b8) ⟨E,aH,aI,J,T,aj,J⟩ (.oE ({X with hb:=by refine aZ (fS (by simpa using t)) ?_;exact X.hb})) λbF bK bQ zu=>?_);have bf:bF.heap.get? a=O.heap.get? a:=by
  refine bC (fc.mp Q) λo L=>?_;exact(L)▸(zu.kept a o (by refine aZ (gn (.head _)) ?_;exact L))
 have bX:=zu.leave (λy y y e=>e) (λq hb=>(aL _ (cD.mp hb)).trans v.hb) h.Dx;have b7:∀u,u<xs.length->a∉bT R i [E] u:=λu cf z=>by
  by_cases cz:u=i
  .subst cz;rw [show bT R u [E] u=[E]from bx J]at z;exact t (cD.mp z).symm
  .rw [show bT R i [E] u=R u from bA ‹_›]at z;exact v.fp u cf z
 refine(aR aM ?_ (λcy cA=>?_))
 .exact iL c λo b cC L r=>(kq o b cC (bf.trans L) r)
 .exact au _ aB .next ((aN.trans bQ).trans (b_ cy _ J)) l ⟨n,bK,_,bX.iu ({v with fp:=b7}) cA⟩ trivial
theorem SQ(R:fX B prog w A ρ env xs k lv c g b)(h:eV B prog w A ρ env xs k g (if b then L else a) c4 e):gB B prog w A ρ env xs k lv (.If c L a p) c4 e:=by
 intro hB f s Q P l S G;refine yZ (R hB f s _ _ S λt u q i T=>?_);have:=h hB u t Q P l T λx F X n z j d=>G x F X (q.trans n) (i.trans z) j d;cases b
 .exact this
 .exact this
theorem SV(h:cF B prog w A ρ env xs k lv e g y):gB B prog w A ρ env xs k lv (.Return (U e) p) g (.ret y):=by
 intro hB f s Q P l S G;exact Ph (h hB f s _ _ S λt u v q c T d=>G t u _ q c T d)
theorem SH(h:fX B prog w A ρ env xs k lv c g ae):gB B prog w A ρ env xs k lv (.Assert c a p) g .next:=by
 intro hB f s Q P l S G;exact wpAny_Assert_holds (h hB f s _ _ S λt u q e T=>⟨J,G t u .next q e T trivial⟩)
theorem SM:gB B prog w A ρ env xs k lv (.Break p) lv .brk:=λhB f s Q P l S G=>wpAny_Break (G s f .brk (bS.refl s) (Le.refl _) S trivial)
theorem SN:gB B prog w A ρ env xs k lv (.Continue p) lv .cont:=λhB f s Q P l S G=>wpAny_Continue (G s f .cont (bS.refl s) (Le.refl _) S trivial)
inductive kM(B:br O)(prog:bZ)(w:bR)(A:cI)(ρ:Mk)(env:cG)(xs:Y ai)(k:aa)(c:bW)(body orelse:Y b9)(lv lv':Y (AV O))(zW:fg)(X:Y (AV O)->Prop):Prop
 |stop{aV:Y (AV O)}(hc:fX B prog w A ρ env xs k lv c aV ak)(ho:eV B prog w A ρ env xs k aV orelse lv' zW)
 |go{aV c4:Y (AV O)}{fl:fg}(hc:fX B prog w A ρ env xs k lv c aV ae)(hb:eV B prog w A ρ env xs k aV body c4 fl)(hf:fl=.next\/fl=.cont)(h:X c4)
 |out{aV:Y (AV O)}{fl:fg}(hc:fX B prog w A ρ env xs k lv c aV ae)(hb:eV B prog w A ρ env xs k aV body lv' fl)(o:Out fl zW)
noncomputable def ki(B:br O)(prog:bZ)(w:bR)(A:cI)(ρ:Mk)(env:cG)(xs:Y ai)(k:aa)(c:bW)(L a:Y b9):aa->Y (AV O)->Y (AV O)->fg->Prop
 |0,lv,S,h=>kM B prog w A ρ env xs k c L a lv S h λy=>False
 |n+1,lv,S,h=>kM B prog w A ρ env xs k c L a lv S h λl=>ki B prog w A ρ env xs k c L a n l S h
theorem ki.stop(v:fX B prog w A ρ env xs k lv c g ak)(L:eV B prog w A ρ env xs k g a c4 h):ki B prog w A ρ env xs k c e a n lv c4 h:=match n with|0=>kM.stop v L|n+1=>kM.stop v L
theorem ki.go(v:fX B prog w A ρ env xs k lv c aV ae)(t:eV B prog w A ρ env xs k aV L c4 h)(p:h=.next\/h=.cont)(e:ki B prog w A ρ env xs k c L a n c4 j i):ki B prog w A ρ env xs k c L a (n+1) lv j i:=kM.go v t p e
theorem ki.brk(v:fX B prog w A ρ env xs k lv c g ae)(t:eV B prog w A ρ env xs k g L c4 .brk):ki B prog w A ρ env xs k c L a n lv c4 .next:=match n with|0=>kM.out v t .brk|n+1=>kM.out v t .brk
theorem ki.ret(v:fX B prog w A ρ env xs k lv c g ae)(t:eV B prog w A ρ env xs k g L c4 (.ret r)):ki B prog w A ρ env xs k c L a n lv c4 (.ret r):=match n with|0=>kM.out v t .ret|n+1=>kM.out v t .ret
theorem I0(l:hB.lk=[])(S:SR B ρ hB f env xs k lv s.heap)(v:fX B prog w A ρ env xs k lv c g ae)(t:eV B prog w A ρ env xs k g L c4 h)
  (e:∀s,wpAny (model prog w) A (execs L env) Q u s->a ae s)(i:∀O j X,bS s O->Le f j->SR B ρ hB j env xs k c4 O.heap->FD ρ j X h->Q X O):wpAny (model prog w) A (PySem.isTrue c env (eval c env)) a P s:=
 v hB f s _ _ S λb F o z x=>e _ (t hB F b _ _ l x λn H X q p m d=>i n H X (o.trans q) (z.trans p) m d)
inductive Hp(B:br O)(prog:bZ)(w:bR)(A:cI)(ρ:Mk)(env:cG)(xs:Y ai)(k:aa)(c:bW)(body orelse:Y b9)(c4:Y (AV O))(fl:fg)(hB:HB)(fz:Fz)(s:aT)(n:aa)(s₁:aT):Prop
 |mk(lv':Y (AV O))(g7:Fz)(q:bS s s₁)(l:Le fz g7)(S:SR B ρ hB g7 env xs k lv' s₁.heap)(W:ki B prog w A ρ env xs k c body orelse n lv' c4 fl)
theorem kM.imp(h:kM B prog w A ρ env xs k c L x lv c4 e X)(i:∀l,X l->g l):kM B prog w A ρ env xs k c L x lv c4 e g:=by
 cases h with
 |stop a b=>exact .stop a b
 |go a b s h=>exact .go a b s (i _ h)
 |out a b o=>exact .out a b o
theorem ki.inv(e:ki B prog w A ρ env xs k c L a n lv c4 h):kM B prog w A ρ env xs k c L a lv c4 h λl=>∃E,E<n/\ki B prog w A ρ env xs k c L a E l c4 h:=by
 cases n with
 |zero=>exact kM.imp e λy=>False.elim
 |succ n=>exact kM.imp e λy q=>(aR n (eH _) q)
theorem SY(h:ki B prog w A ρ env xs k i L x n lv c4 s):gB B prog w A ρ env xs k lv (.While i L x aq) c4 s:=by
 intro hB f u az ao l R G;refine wpAny_While (codeAny_whileLoop (Hp B prog w A ρ env xs k i L x c4 s hB f u) ?_ n ⟨lv,f,bS.refl _,Le.refl _,R,h⟩);rintro n r⟨au,S,q,c,T,E⟩;cases E.inv with
 |stop v Q=>
  exact v hB S r _ _ T λo F m z g=>Q hB F o _ _ l g λe H X b p O d=>G e H X ((q.trans m).trans b) ((c.trans z).trans p) O d
 |go v t P a=>
  refine I0 l T v t (λy h=>h) λe H X b p O d=>?_;apply d.go P<;>exact(a.imp λy a=>a.imp_right (Hp.mk _ H (q.trans b) (c.trans p) O))
 |out v t aj=>
  refine I0 l T v t (λy h=>h) λe H X b p O d=>?_;apply aj.fin d ?_ ?_ (λj=>G e H j (q.trans b) (c.trans p) O)
  .exact id
  .exactλy=>id
end
section
set_option tactic.hygienic true
section
variable{prog:bZ}{w:bR}
theorem VX(z:Y aD)(g u:aa)(v:aD):∃S,m6 (·.setIfInBounds u v) (lo z g)=lo (z.set u v) S:=⟨_,by simp [m6];rfl⟩
theorem set_list(H:s.heap.get? l=U (lo z g))(R:-(2^62)<i)(h:i<2^62)(d:seqIndex? i z.length=U u)
  (G:∀T S,T.get? l=U (lo (z.set u v) S)->gI l s.heap T->Q () {s with heap:=T}):wpAny (model prog w) F (setItem (.ref l) (.int i x) v) Q P s:=by
 refine bC (VX z g u v) λS n=>?_;have k:s.heap.IsList l z.toArray:=(i12 _ H J ⟨g,J⟩);have E:(lo z g).data=.seq z.toArray g:=J;have j:=G (s.heap.update l (m6 (·.setIfInBounds u v))) S (by refine aZ (oV _ H (J)) ?_;rw [n]) (nU ..);unfold setItem
 try with_reducible refine e9 ?_
 refine aE (wpAny_sequenceKey k.typeIs (J) (aE (aek k.typeIs slot_list_setitem
  (wpAny_call_entry slot_list_setitem k.typeIs entry_list_setitem ?_ (args_list_setitem _ _ _)))))
 show wpAny _ _ (Builtin.List.listSubscript? (.int i x)>>=_) _ _ s;rcases Mz d with⟨e,rfl,a⟩|⟨e,b,rfl,a⟩
 .refine aE (aen (fitsIndex_of e (qX h (by decide))) ?_);clear R h;obtain⟨u,rfl⟩:=acX e;have X:z.toArray[u]?=U z[u]:=by simp
  refine aE (aE (wpAny_seqItemAt H E (bD (X▸(aE (wpAny_setSeqItemAt H E ?_))))))
  first
   |exact aE (bD (bD (aR (.none) J (bD j))))
   |exact bD ⟨.none,J,bD j⟩
 .refine aE (aen (fitsIndex_neg e (uB (by decide) (BI R))) ?_);clear R h;obtain⟨u,rfl⟩:∃u:aa,i=Oj u:=by
   cases i with
   |ofNat g=>exact bE e (oW.mpr (jl g))
   |negSucc g=>exact⟨g,J⟩
  refine aE (aE (aE (wG H E (bD (bD ?_)))));have o:=by simpa using d
  have X:z.toArray[(Oj u+↑z.length).toNat]?=U z[(Oj u+↑z.length).toNat]:=by simp
  refine o▸?_;simp only [yS,X,BZ];refine aE (wpAny_setSeqItemAt H E ?_)
  first
   |exact aE (bD (bD (aR (.none) J (bD j))))
   |exact bD ⟨.none,J,bD j⟩
theorem US:typeLookup (.type "list") (dunderI "add")=pure (U (.builtin "list.__iadd__")):=F.slot_list_iadd.lookup
theorem UR{z A:Y aD}{n E:aa}(H:s.heap.get? l=U (lo z n))(e:s.heap.get? b=U (lo A E))(t:z.length+A.length<=2000000)
  (G:∀T S,T.get? l=U (lo (z++A) S)->gI l s.heap T->k (.ref l) {s with heap:=T}):wpAny (model prog w) q (inplaceOp .Add (.ref l) (.ref b)) k P s:=by
 refine e9 ?_;have i:=by
  show(typeLookup (.type "list") (dunderI "add")>>=λg=>pure (g.isSome&&!isSeqSlot g))=pure ak;show(pure (ae&&!isSeqSlot (U (.builtin "list.__iadd__"))):Sem bl)=_;exact(show isSeqSlot (U (.builtin "list.__iadd__"))=ae from by decide)▸J
 have m:s.TypeIs (.ref l) "list":=(aR _ H J);refine aE (Pu m (aE (g5 i (aE (wpAny_binaryOp1_none m ((aR _ e J)) noFill_list_add (aE (g5 (PySem.seqSlot_of US (J)) ?_)))))));have h:(2000000:aa)<=sizeLine:=by decide
 have Q:z.toArray.size=z.length:=by simp
 have a:A.toArray.size=A.length:=by simp
 have o:¬(!z.toArray.isEmpty&&BG (z.toArray.size+A.toArray.size))=ae:=by
  have:BG (z.toArray.size+A.toArray.size)=ak:=by
   unfold BG;simp only [decide_eq_false_iff_not];exactλB=>oB (rW 0 (.n 1) (.n 0) (.a (.v 0) (.v 1)) (.n 2000000) (.n 2000000) (.v 2) (.a (.v 2) (.n 1)) (.a (.v 0) (.v 1)) J [_,_,_] t h B)
  refine this▸?_;simp
 have j:m6 (λx=>x++A.toArray) (lo z n)=lo (z++A) (if(z.toArray++A.toArray).size==z.toArray.size then n else n+1):=by simp [m6,lo]
 refine aE (wF (wA F.slot_list_iadd m F.entry_list_iadd (F.args_list_iadd_2 _ _) (AutoSeq1.list___iadd___list_list_0 l z.toArray n b A.toArray E o (by exact(Q)▸(g_ 0 (.v 0) (.v 2) (.a (.v 0) (.v 1)) (.n 2000000) (.n 2000000) (.v 2) J [_,_,_] t h)) (by exact Q.symm▸a.symm▸(g_ 0 (.a (.v 0) (.v 1)) (.a (.v 2) (.n 1)) (.a (.v 0) (.v 1)) (.n 2000000) (.n 2000000) (.v 2) J [_,_,_] t h))) (c_ H e (G _ (if(z.toArray++A.toArray).size==z.toArray.size then n else n+1) ?_ (nU ..)))));refine aZ (oV _ H (by exact J)) ?_;rw [j]
end
noncomputable def HK:T->T->aY T
 |.int a,.int b=>U (.int (a+b))
 |.str a,.str b=>if d_ (a.length+b.length)then U (.str (a++b))else af
 |_,_=>af
noncomputable def qd(v:Operator)(x O:T):aY T:=match v with
 |.Add=>HK x O
 |.Sub=>rO (λa b=>U (.int (a-b))) x O
 |.Mult=>rO (λa b=>if i_ a&&i_ b then U (.int (a*b))else af) x O
 |_=>af
section
variable{prog:bZ}{w:bR}
theorem Qu(o:Den X f t m)(E:Den X f g n)(h:HK m n=U y):PO H (model prog w) F X (inplaceOp .Add t g) f y:=by
 cases m with
 |int a=>cases n with
  |int b=>
   obtain rfl:=bg h;exact o.gG (P:=λv=>PO H _ F X (inplaceOp .Add v g) f _) λe=>E.gG (P:=λv=>PO H (model prog w) F X _ f _) λL=>PO.give λs Q i r G=>P.iadd_int (G _ _ (.int _ _))
  |_=>exact aU J h
 |str a=>cases n with
  |str b=>
   refine bM (pS h) λx j=>?_;subst j;exact o.i5 (P:=λv=>PO H _ F X (inplaceOp .Add v g) f _) λe=>E.i5 (P:=λv=>PO H (model prog w) F X _ f _) λL=>
    PO.give λs Q i r G=>SB.iadd (λL l=>Bh a b▸G _ _ (.str _ _)) ((str_len a).symm▸(str_len b).symm▸kB x)
  |_=>exact aU J h
 |_=>exact aU J h
theorem zB(o:Den X f t m)(E:Den X f g n)(h:qd v m n=U y):PO H (model prog w) F X (inplaceOp v t g) f y:=by
 cases v with
 |Add=>exact Qu o E h
 |Sub=>exact tM o E h λa b e L h=>by obtain rfl:=bg h;exact PO.give λs Q x i G=>P.isub_int (G _ _ (.int _ _))
 |Mult=>
  exact tM o E h λa b e L h=>by
   refine bM (pS h) λr j=>?_;subst j;have r:=cU.mp r;exact PO.give λs Q x i G=>P.imul_int (G _ _ (.int _ _)) (KC r.1 r.2)
 |_=>exact aU J h
theorem SI(j:n[i]?=U x)(E:i<k)(r:B.kindOf x=U .local\/B.kindOf x=U .cell)(H:m[i]?=U (.t p))(T:cF az prog w F b B n k m s g l)
  (d:qd v p l=U e):gB az prog w F b B n k m (.AugAssign (.Name x aI) v s aN) (g.set i (.t e)) .next:=by
 intro L f t a_ bB o S G;have R:=S;refine cps λaS u=>?_;obtain⟨y,aK,aM,X⟩:=S;obtain⟨aP,Q,aW,aX,rfl,z⟩:=X.vars i x _ j H;refine u ?_;refine aej (ew y X.ns Q (T L f t _ _ R λbf bu bw q c O P=>(cF.vJ q c O (zB (z.mono c) P d) λaO aj ao A au h aq=>?_)));obtain⟨_,bh,bj,h⟩:=h;exact gu (av:=.t e) y o h j E r ⟨J,ao,J,aq⟩ .nil λaG aB aH a=>G aG aj .next (A.trans aH) au ⟨y,aB,_,a⟩ trivial
theorem ng.self(S:aQ H X L f B n e lv E R h)(A:i<n.length)(p:R i=fp):ng H L f B n R i fp where
 a:=λb t=>S.fp i A b (by rw [p];exact t)
 b:=λu k d b t z=>S.apart i u A d (iZ k) b (by rw [p];exact t) z
 c:=λP G q=>(S.tab P G).2.2.2.2 i A (by rw [p];exact q)
theorem SJ(j:n[i]?=U x)(au:i<k)(l:B.kindOf x=U .local\/B.kindOf x=U .cell)(H:m[i]?=U (.own bB))(aN:cF p prog w O aj B n k m ao g (.list o))
  (aI:g[i]?=U (.own A))(aM:d_ A.length=ae)(t:d_ o.length=ae):gB p prog w O aj B n k m (.AugAssign (.Name x cy) .Add ao cz) (g.set i (.own (A++o))) .next:=by
 intro L f v cC aX u S G;refine cps λd F=>?_;obtain⟨y,P,R,X⟩:=S;obtain⟨b8,Q,a,cA,bf,rfl,bw,bF,bX⟩:=X.vars i x _ j H;refine F ?_;refine aej (ew y X.ns Q (aN (L.lock i _) f v _ _ ⟨y,P,R,X.rQ j Q⟩ λb7 aq cf q c T z=>?_));refine cps λd F=>?_;obtain⟨_,cH,cK,T⟩:=T;obtain⟨a_,r,bh,bj,bu,rfl,aB,s,aG⟩:=T.vars i x _ j aI;obtain rfl:=jn (bg ((T.locked j).det r));have T:=T.unlock;obtain⟨bK,bQ,bV,aH,E,rfl⟩:=z.inv;refine F ?_;refine UR aB (T.bI _ _ aH) (D9 0 (.a (.v 0) (.v 2)) (.n 2000000) (.v 0) (.v 1) (.v 2) (.v 3) (.v 1) (.n 1000000) (.v 3) (.n 1000000) J [_,_,_,_] ((mC (s.length))) ((mC (E.length))) (of_decide_eq_true aM) (of_decide_eq_true t)) λaK az e aO=>?_;have b:=T.A2 j r aG aO e (s.append E);refine gu (av:=.own _) y u b j au l ⟨a,_,az,J,e,s.append E,J⟩ (ng.self b ((ck.mp j).1) (by simp [bT])) λaS aP aW h=>?_;rw [yN]at h;exact G aS aq .next ((q.trans (b_ aK _ J)).trans aW) c ⟨y,aP,_,h⟩ trivial
end
end
section
variable{B:br O}{prog:bZ}{w:bR}{A:cI}{ρ:Mk}{env:cG}{xs:Y ai}{lv c4:Y (AV O)}{e:bW}{l':Y T}{i:aa}{τ ta:T}
theorem SE(j:xs[i]?=U x)(aM:lv[i]?=U (.own cM))(L:(x==("__debug__"))=ak)(aq:cF B prog w A ρ env xs au lv e g τ)(z:g[i]?=U (.own l'))(R:∀x p,e≠.Starred x p)
  (ao:(t.endLine==s.line)=ae)(aB:attributeBase (.Name x a) "append" env (eval (.Name x a) env)=eval (.Name x a) env)(aN:d_ l'.length=ae)
  (aP:swapsWith (.Call (.Attribute (.Name x a) "append" t) [e] [] s) af aS.line env=pure ak):
  gB B prog w A ρ env xs au lv (.Expr (.Call (.Attribute (.Name x a) "append" t) [e] [] s) aS) (g.set i (.own (l'++[τ]))) .next:=by
 intro b8 cy cH cK bw cA S G;refine cps λ_ d=>?_;refine cps λcC c=>?_;obtain⟨y,E,H,X⟩:=S;obtain⟨bV,Q,P,aj,cN,rfl,l,b7,cz⟩:=X.vars i x _ j aM;refine c ?_;refine d ?_;have k:∀f∈[e],∀x p,f≠.Starred x p:=λf az=>by exact(cD.mp az)▸(R)
 have n:=kA (pos:=s) (env:=env) [e] k;refine sU (lE aB ?_ ao Oa Oc Gm (ez (ew y X.ns Q ?_) L)) (by delta interactive;exact y.kind.symm▸J) aP
 .simp only [yE,yE];refine⟨⟨?_,J⟩,J⟩;simpa using n
 refine(c_ (aR _ l J) (λbK aG=>by obtain rfl:=jn aG;exact(aR _ l J)) (j_ n (jY k (pH aq kS R) ⟨y,E,H,X.rQ j Q⟩ λbX u cf aI aK T b=>?_)));obtain⟨_,aO,bB,T⟩:=T;obtain⟨bF,r,bQ,h,aH,rfl,aX,o,a_⟩:=T.vars i x _ j z;obtain rfl:=jn (bg ((T.locked j).det r));have T:=T.unlock;obtain⟨v,aj,rfl,bf,b⟩:=b.ju (P:=λaW=>∃v h,aW=v::h/\Den _ _ v _/\bq _ _ h _) λv h x bj=>⟨v,h,J,x,bj⟩;cases b;refine G0 (hsz:=(by simpa [o.length]using kB aN)) ⟨aH,aX⟩ λq O bh=>bC O λbu O=>?_;have m:q.get? P=U (lo (h++[v]) bu):=by refine aZ (O) ?_;simp [lo]
 exact G _ u .next (aI.trans (b_ q _ J)) aK ⟨y,aO,_,(T.A2 j r a_ bh m (o.append (.one bf)))⟩ trivial
theorem EN(S:aQ B ρ L f env xs o lv E R s.heap)(j:xs[i]?=U n)(Q:eA env E s.heap n (U (.ref a)))(y:R i=[a])
  (P:s.heap.get? a=U (lo h ao))(c:bq ρ f h l)(x:iq t=ae)(k:seqIndex? t l.length=U u)(H:Den ρ f v τ)
  (G:∀O q X,bS s O->aQ B ρ L f env xs o (lv.set i (.own (l.set u τ))) q X O.heap->g () O):wpAny (model prog w) A (setItem (.ref a) (.int t aj) v) g au s:=by
 refine bM (cU.mp x) λr p=>set_list P (of_decide_eq_true r) (of_decide_eq_true p) (by exact(c.length)▸(k)) λm aq F z=>G _ E _ (b_ m _ J) (S.A2 j Q y z F ?_);have:∀{h:Y aD}{l:Y T}(u:aa),bq ρ f h l->bq ρ f (h.set u v) (l.set u τ):=by
  intro h l u d
  induction u generalizing h l with
  |zero=>cases d with
   |nil=>exact .nil
   |cons d b=>exact .cons H b
  |succ u e=>cases d with
   |nil=>exact .nil
   |cons d b=>exact .cons d (e b)
 exact this u c
theorem SW(j:xs[i]?=U x)(E:(x==("__debug__"))=ak)(az:cF B prog w A ρ env xs k lv e g τ)(m:g[i]?=U (.own bh))(O:cF B prog w A ρ env xs k g P c4 (.int t))(aB:c4[i]?=U (.own l'))
  (aH:iq t=ae)(d:seqIndex? t l'.length=U u)(b:swapsWith e (U (.Subscript (.Name x s) P L)) p.line env=pure ak):
  gB B prog w A ρ env xs k lv (.Assign [.Subscript (.Name x s) P L] e p) (c4.set i (.own (l'.set u τ))) .next:=by
 intro l f n aS aX a_ S G;refine aeh (az l f n _ _ S λo q cA v c T H=>?_) b;refine cps λX F=>?_;obtain⟨y,R,aj,T⟩:=T;obtain⟨bf,Q,bB,bV,bX,rfl,b7,cf,cy⟩:=T.vars i x _ j m;refine F ?_;refine ez (ew y T.ns Q (O _ q o _ _ ⟨y,R,aj,T.rQ j Q⟩ λcz aq aW au z h aG=>?_)) E;refine cps λX F=>?_;obtain⟨_,bj,bu,h⟩:=h;obtain⟨bw,r,bF,bK,bQ,rfl,ao,aK,aM⟩:=h.vars i x _ j aB;obtain rfl:=jn (bg ((h.locked j).det r));obtain⟨b8,rfl⟩:=aG.inv;refine F ?_;exact EN (h.unlock) j r aM ao aK aH d (H.mono z) λaI aO aN aP a=>G aI aq .next ((v.trans au).trans aP) (c.trans z) ⟨y,aO,aN,a⟩ trivial
theorem Jf
  (X:s.heap.get? a=U (lo ws nn))(c:bq ρ fz ws l)(h:pK (.list l) (.int ii)=U τ)
  (G:∀v,Den ρ fz v τ->Q v s):wpAny (model prog w) A (getItem (.ref a) (.int ii t)) Q P s:=
 list_item c h (i12 _ X J ⟨nn,J⟩) G
theorem SK(j:xs[i]?=U x)(E:(x==("__debug__"))=ak)(aG:lv[i]?=U (.own b8))(R:cF B prog w A ρ env xs k lv P g (.int t))(q:g[i]?=U (.own c))(p:pK (.list c) (.int t)=U ta)
  (H:cF B prog w A ρ env xs k g e c4 ao)(aq:c4[i]?=U (.own z))(aM:qd bB ta ao=U τ)(l:iq t=ae)(d:seqIndex? t z.length=U u)
  (o:∀F b m,augStore P F b m=(do holding [m,F,b] (setItem F b m);release [m,F,b] [];pure .next)):
  gB B prog w A ρ env xs k lv (.AugAssign (.Subscript (.Name x cY) P di) bB e dW) (c4.set i (.own (z.set u τ))) .next:=by
 intro eM f v dG dN dU S G;refine cps λn h=>?_;obtain⟨y,L,aj,X⟩:=S;obtain⟨F,Q,fD,gz,gA,rfl,cA,cM,cN⟩:=X.vars i x _ j aG;refine h ?_;refine PyProof.Rows.wpAny_AugAssign_Subscript_any (ez (ew y X.ns Q (R _ f v _ _ ⟨y,L,aj,X.rQ j Q⟩ λau az dz aB c T aH=>?_)) E) o;refine cps λn h=>?_;obtain⟨_,aI,aK,T⟩:=T;obtain⟨fq,r,fP,gx,gy,rfl,aN,aO,cf⟩:=T.vars i x _ j q;obtain rfl:=jn (bg ((T.locked j).det r));obtain⟨cy,rfl⟩:=aH.inv;refine h ?_;refine Jf aN aO p λcz aP=>H _ az au _ _ ⟨y,aI,aK,T⟩ λcC cH cK aS z aW aX=>cF.vJ (aB.trans aS) (c.trans z) aW (zB (aP.mono z) aX aM) λc9 a_ dm bf bh O bu=>cps λ_ bw=>?_;refine cps λn h=>?_;obtain⟨_,ef,eF,O⟩:=O;obtain⟨eL,a,eT,eY,e_,rfl,bF,bj,bQ⟩:=O.vars i x _ j aq;refine h ?_;refine bw ?_;obtain rfl:=jn (bg ((O.locked j).det a));exact EN (O.unlock) j a bQ bF bj l d bu λbV bK bX b7 s=>G bV a_ .next (bf.trans b7) bh ⟨y,bK,bX,s⟩ trivial
inductive wW(prog:bZ)(w:bR)(A:cI)(env:cG)(xs:Y ai)(k:aa):Y (aD->Sem Unit)->Y aa->Prop
 |nil:wW prog w A env xs k [] []
 |cons{f:aD->Sem Unit}{x:ai}{i:aa}{fs is}:(∀(v:aD)(Q:Unit->aT->Prop)(E:aD->aT->Prop)(s:aT),wpAny (model prog w) A (storeName env x v) Q E s->wpAny (model prog w) A (f v) Q E s)->
   xs[i]?=U x->i<k->(env.kindOf x=U .local\/env.kindOf x=U .cell)->wW prog w A env xs k fs is->wW prog w A env xs k (f::fs) (i::is)
noncomputable def EM(lv:Y (AV O)):Y aa->Y T->Y (AV O)
 |i::h,t::o=>EM (lv.set i (.t t)) h o
 |_,_=>lv
set_option tactic.hygienic true in
theorem Qs(y:gb env)(l:L.lk=[]){x:Y _}{i:Y aa}(c:wW prog w A env xs k x i):∀{z:Y aD}{o:Y T}{lv:Y _}{E:ai->aY aD}{R:aa->Y ay}{s:aT}{Q:Unit->aT->Prop},i.length=o.length->bq ρ f z o->
  aQ B ρ L f env xs k lv E R s.heap->(∀O,bS s O->SR B ρ L f env xs k (EM lv i o) O.heap->Q () O)->wpAny (model prog w) A (assignInOrder x z) Q P s:=by
 induction c with
 |nil=>
  intro z o lv E R s Q H b S G;cases b with
  |nil=>exact bD (G s (bS.refl s) ⟨y,E,R,S⟩)
  |cons d b=>exact nc OL H J
 |cons p j h e r n=>
  intro z o lv E R s Q H b S G;cases b with
  |nil=>exact nc OL H J
  |cons d b=>
   rename_i z t o;exact aE (e9 (p _ _ _ _ (gu (av:=.t t) y l S j h e ⟨J,_,J,d⟩ .nil λg u q v=>(n (by simpa using H) b v λO m a=>G O (q.trans m) a))))
theorem CR(b:cF B prog w A ρ env xs k lv e n τ)(Q:h_ B prog w A ρ env xs k n (.Tuple u r h) τ c4)
  (x:swapsWithSole [.Tuple u r h] e p.line env=pure ak)(g:swappedStores [.Tuple u r h] e env=pure af):gB B prog w A ρ env xs k lv (.Assign [.Tuple u r h] e p) c4 .next:=by
 intro L f s m P l S G;exact O1 (b L f s _ _ S λt a v q c T d=>(Q L a t v _ _ l T d λj o i=>G j a .next (q.trans o) c i trivial)) x g
set_option tactic.hygienic true in
theorem SX(q:A.handled=af)(s:cF B prog w A ρ env xs k lv e E (.tup o))(c:wW prog w A env xs k (n.reverse.map λv=>bindName env v) is)(H:is.length=o.length)(X:n.length=o.length)
  (O:swapsWithSole [.Tuple h r px] e p.line env=pure ak)(g:swappedStores [.Tuple h r px] e env=pure (U n)):gB B prog w A ρ env xs k lv (.Assign [.Tuple h r px] e p) (EM E is o.reverse) .next:=by
 intro L f j aB aO UA S G;refine PyProof.Rows.Assign_Tuple_swapped (s L f j _ _ S λt u aH m d T y=>?_) O g;refine cps λaN F=>?_;obtain⟨aG,z,aI,l,b,rfl⟩:=y.inv;have a:=T.ready;have Q:n.length=z.toArray.size:=by simp [X,b.length]
 refine F ?_;refine Q▸(wpAny_unpackItems_tuple q (vq a.bI l) λP R=>?_);have i:cg B u t u {t with heap:=P}:=cg.keeps a λao aq e=>R ao aq (fW (fQ e)) e;obtain⟨aj,aK,aM,S⟩:=T.step i;exact Qs aj UA c (by simpa using H) (b.reverse) S λau az x=>G au u .next ((m.trans i.same).trans az) d x trivial
theorem MM(v:aD)(Q:Unit->aT->Prop)(P:aD->aT->Prop)(s:aT)(h:wpAny (model prog w) A (storeName env x v) Q P s):wpAny (model prog w) A (bindName env x v) Q P s:=wpAny_bindName h
end
section
open PySem.Builtin.Str
section
variable{B:br O}{prog:bZ}{w:bR}{A:cI}{fz:Fz}{vb:aD}
theorem SR.newList{Q:aD->aT->Prop}{m:fK}(q:bS s t)(c:Le fz j)(S:SR B X L j h n k g t.heap)(b:bq X j z o)
  (G:∀O j a z v E R,bS s O->Le fz j->gb h->aQ B X L j h n k g E R O.heap->eW B L j h n R a->O.heap.get? a=U (lo z v)->bq X j z o->Q (.ref a) O):
  Q (.ref t.heap.objs.size) {t with heap:=t.heap.push (lo z v),toks:=m}:=by
 have A:=cg.iu S.ready (lo z v) m;obtain⟨y,E,R,e⟩:=S;exact G _ j _ z v E R (q.trans A.same) c y (e.step A) (e.free (fM t)) (eN _ J) b
theorem IK(h:lG B prog w A X e n k m a i g o)(r:d_ o.length=ae):uU B prog w A X e n k m (.List i a) g o:=by
 intro L fz s Q P S G;refine Pg (h L fz s _ _ S λt u z q c T b=>⟨?_,?_⟩)
 .exact(b.length)▸(kB r)
 .exact SR.newList q c T b G
theorem ja{l:Y aa}(d:Den X fz v (.str l)):∃w,v=.str ⟨l.toArray⟩ w:=by obtain⟨w,rfl⟩:=d.inv;exact⟨_,J⟩
theorem nq{i:aF}(d:Den X fz v (.int i)):∃w,v=.int i w:=by obtain⟨w,rfl⟩:=d.inv;exact⟨_,J⟩
theorem qj(d:Den X fz v (.list l)):∃a z g,v=.ref a/\fz a=U (lo z g)/\bq X fz z l:=by cases d;exact(Aa _ _ _ J (by assumption) (by assumption))
theorem YF{l:Y aa}(d:Den X fz t (.str l))(r:d_ l.length=ae):PO B (model prog w) A X (call (.builtin "len") [t]) fz (.int l.length):=by
 refine bC (ja d) λh j=>?_;subst j;refine PO.give λs Q e a G=>P.len_str ?_ ?_
 .simp only [str_len];have:=yk r;omega
 .exact G _ _ (.int _ _)
theorem L6(d:Den X fz t (.list l))(r:d_ l.length=ae):PO B (model prog w) A X (call (.builtin "len") [t]) fz (.int l.length):=by
 refine jb (qj d) λi z g p h b=>?_;subst p;refine PO.give λs Q P a G=>Calls.call_len_list (gP a.bI h) ?_ ?_
 .have:=yk r;simpa [b.length]using this
 .have e:z.toArray.size=l.length:=by simp [b.length]
  exact e.symm▸(G _ _ (.int _ _))
theorem YJ{c:aa}(d:Den X fz t (.str [c])):PO B (model prog w) A X (call (.builtin "ord") [t]) fz (.int c):=by
 refine bC (ja d) λh j=>?_;subst j;exact PO.give λs Q e r G=>P.ord_of_char (G _ _ (.int _ _))
noncomputable def Bj:Y T->aY (Y (Y aa))
 |[]=>U []
 |.str x::r=>(Bj r).map (x::·)
 |_::_=>af
set_option tactic.hygienic true in
theorem MO:∀{o:Y T}{G:Y _}{z:Y aD},Bj o=U G->bq X fz z o->PyProof.Rows.StrsAre z (G.map λl=>(⟨l.toArray⟩))
 |[],G,z,h,d=>by obtain rfl:=bg h;obtain rfl:=d.jg J;exact .nil
 |w::r,G,z,h,d=>by
  cases d with
  |cons d b=>
   cases d<;>first|exact aU J h|skip
   refine aA (uJ.mp h) λa R i=>?_;subst i;exact .cons _ _ (MO R b)
theorem YE(a:Den X fz t (.str n))(E:Den X fz vb (.list o))(h:Bj o=U i)(x:(i.map (·.length)).sum+i.length*n.length<=16777216){r:Y aa}
  (T:GV ⟨n.toArray⟩ (i.map λl=>(⟨l.toArray⟩))=⟨r.toArray⟩):PO B (model prog w) A X (call (.builtin "str.join") [t,vb]) fz (.str r):=by
 refine bC (ja a) λf j=>?_;subst j;refine jb (qj E) λq z g p s b=>?_;subst p;refine PO.give λv Q P k G=>O3 (gP k.bI s) ((MO h b)) ?_ λL m=>?_
 .have e:(i.map λl=>(⟨l.toArray⟩:ai)).map (·.length)=i.map (·.length):=by
   refine aZ (d5) ?_;exact J
  simp only [e,b5];exact x
 .exact T.symm▸(G _ _ (.str _ _))
end
end
section
open PySem.Builtin.Str
noncomputable def t_{h:Type}(w:T)(X:aF->aY h):aY h:=match w with
 |.int i=>X i
 |_=>af
theorem vQ(h:t_ w X=U O):∃i,w=.int i/\X i=U O:=by
 cases w with
 |int i=>exact(aR i J h)
 |_=>exact aU J h
noncomputable def Ex:Y T->aY (aF×aF×aF)
 |[w]=>t_ w λb=>U (0,b,1)
 |[w,B]=>t_ w λa=>t_ B λb=>U (a,b,1)
 |[w,B,v]=>t_ w λa=>t_ B λb=>t_ v λc=>if c==0 then af else U (a,b,c)
 |_=>af
noncomputable def pV:aF×aF×aF->bl
 |(a,b,c)=>decide (a.natAbs<2^40)&&decide (b.natAbs<2^40)&&decide (c.natAbs<2^29)
noncomputable def pW:aF×aF×aF->Y T
 |(a,b,c)=>(ej (p_ a b c).toNat).map λ(i:aa)=>.int (a+(i:aF)*c)
theorem xP{a:aF}(h:a.natAbs<g):-(g)<a/\a<g:=⟨ac2 (Go (Int.natAbs_neg a▸Int.le_natAbs) (jF.mpr h)),Go Int.le_natAbs (jF.mpr h)⟩
theorem Ip{a b c:aF}(Q:a.natAbs<1099511627776)(t:b.natAbs<1099511627776)(h:0<c)(e:a<b):0<=(b-a-1)/c+1/\(b-a-1)/c+1<4398046511104:=by
 have v:=Int.sub_nonneg_of_le (Int.le_sub_left_of_add_le e);exact⟨Int.add_nonneg (Int.ediv_nonneg v (BI h)) (by decide),Go (Int.add_le_add_right (uB (Int.ediv_le_self _ v) (Int.sub_le_self _ (by decide))) 1) (qX (Int.add_lt_add_right (Oi (xP t).2 (ac2 (xP Q).1)) 1) (by decide))⟩
theorem Mf(Q:a.natAbs<2^40)(t:b.natAbs<2^40)(v:c≠0):0<=p_ a b c/\p_ a b c<4398046511104:=by
 have s:(0:aF)<=0/\(0:aF)<4398046511104:=⟨by decide,by decide⟩
 by_cases h:c>0
 .by_cases q:a<b
  .rw [p_,bx h,bx q];exact Ip Q t h q
  .rw [p_,bx h,bA q];exact s
 .by_cases q:a>b
  .rw [p_,bA h,bx q];exact Ip t Q (Int.neg_pos_of_neg (Int.lt_iff_le_and_ne.mpr ⟨oW.mp h,v⟩)) q
  .rw [p_,bA h,bA q];exact s
theorem CU(h:-4398046511104<i/\i<4398046511104):N7 i=ae:=
 cU.mpr ⟨decide_eq_true (uB (by decide) (BI h.1)),decide_eq_true (qX h.2 (by decide))⟩
theorem CV(h:-1099511627776<i/\i<1099511627776):N7 i=ae:=CU ⟨qX (by decide) h.1,qX h.2 (by decide)⟩
theorem Hu(h:-1099511627776<b/\b<1099511627776)(A:-536870912<c/\c<536870912)(k:-1<=d/\d<=1):N7 (b+(c+d))=ae:=
 CU ⟨qX (by decide) (Oi h.1 (acW A.1 k.1)),qX (Oi h.2 (acW A.2 k.2)) (by decide)⟩
theorem A4(h:pV (a,b,c)=ae):a.natAbs<2^40/\b.natAbs<2^40/\c.natAbs<2^29:=
 have R:=cU.mp h;have w:=cU.mp R.1
 (c_ (of_decide_eq_true w.1) (of_decide_eq_true w.2) (of_decide_eq_true R.2))
theorem Z8(h:pV (a,b,c)=ae)(v:c≠0):acM a b c=ae:=by
 refine cps λn F=>?_;refine gg (A4 h) λR w t=>?_;have f:=Mf R w v;have A:=xP (t);have X:=xP (w);refine F ?_;delta acM;rw [CV (xP (R)),CV X,CV ⟨qX (by decide) A.1,qX A.2 (by decide)⟩,CU ⟨ac0 (by decide) f.1,f.2⟩,show c-1=c+-1 from J,Hu X A ⟨by decide,by decide⟩,Hu X A ⟨by decide,by decide⟩,ite_self,Bool.or_true];rfl
section
variable{w:bR}
set_option tactic.hygienic true in
theorem Sf(u:j.handled=af)(n:cF E i w j L aM g y H e S (.tup o)):nf ak E i w j L aM g y H e S o:=by
 intro Q ao p aW aP aB aG;refine n Q ao p _ _ aB λh aN v m c T d=>?_;obtain⟨a,z,aO,B,x,rfl⟩:=d.inv;have r:=T.ready;have k:=vq r.bI B;have O:=x.length;refine wpAny_pyIter_tuple k ?_;have A:=cg.iu r {cls:=.type "tuple_iterator",data:=.fields #[.ref a,.int 0 0]} h.toks;obtain⟨G,R,aj,X⟩:=T;have s:=fQ (r.bI _ _ B);have F:=Walks.tuple (prog:=i) (w:=w) u h.heap.objs.size a (fW s) z.toArray;simp only [show z.toArray.size=o.length from by assumption]at F;refine aG _ aN _ _ _ _ _ R aj (m.trans A.same) c G (X.step A) F (λau v l=>?_) ⟨(i12 _ (eN _ J) J J),k.at λaz e=>eg _ e⟩ (λb t=>?_) (λb t=>?_) (λb t=>?_) (λau n aq b t=>by rw [cD.mp t];refine bM aq λaI aK=>?_;refine aA (aI) λaz aH aK=>?_;rw [aH];rfl) ((cW J))
 .have l:=by simpa using l
  have q:=O▸(ck.mp l).1;refine aA (x.get (cP q)) λaS f P=>?_;simp only [l]at f;exact bg f▸((aR _ (cP q) P))
 .exact(cD.mp t)▸(⟨X.free (fM h),aL _ (eN _ J)⟩)
 .rcases cQ.mp t with rfl|t
  .exact .inl (.head _)
  .refine(cD.mp t)▸?_;right;left;exact dc B
 .simp only [l0];rcases cQ.mp t with rfl|t
  .exact eH _
  .exact(cD.mp t)▸(oZ s)
theorem Walks.bound{g:aa}(W:Walks h w F x p k g P e):Walks h w F x p k g (λi v=>i<g/\P i v) e where
 sub:=W.sub
 frame:=W.frame
 item:=λi s Q a A b G=>W.item i s Q a A b λv T m O=>G v T m ⟨A,O⟩
 done:=W.done
 self:=W.self
theorem QX(b:bq X f z n)(h:Ex n=U y)(L:pV y=ae)
  (G:∀e B a r,y.2.2≠0->Q (.ref s.heap.objs.size) {s with heap:=s.heap.push {cls:=.type "range",data:=.fields #[.int y.1 e,.int y.2.1 B,.int y.2.2 a]},toks:=r}):wpAny (model x w) F (call (.type "range") z) Q P s:=by
 cases n with
 |nil=>exact aU J h
 |cons q n=>
  obtain⟨t,A,rfl,o,c⟩:∃t A,z=t::A/\Den X f t q/\bq X f A n:=b.ju (P:=λz=>∃t A,z=t::A/\Den X f t q/\bq X f A n) λa A d b=>(g8 a A J d b);cases n with
  |nil=>
   refine aA (vQ h) λi j h=>?_;subst j;obtain rfl:=bg h;exact c.jg (P:=λA=>wpAny _ F (call _ _) Q P s) (o.gG (P:=λt=>wpAny (model x w) F (call (.type "range") [t]) Q P s) λe=>call_range_1 (G _ _ _ _ (nofun)))
  |cons aj n=>cases n with
   |nil=>
    refine cps λO S=>?_;refine aA (vQ h) λi j h=>?_;subst j;refine aA (vQ h) λu j h=>?_;subst j;obtain rfl:=bg h;refine aA c.jS λg j E=>?_;subst j;refine S ?_;exact o.gG (P:=λt=>wpAny _ F (call _ [t,g]) Q P s) λe=>E.gG (P:=λg=>wpAny _ F (call _ [.int i e,g]) Q P s) λB=>call_range_2 (G _ _ _ _ (nofun))
   |cons k n=>cases n with
    |nil=>
     refine cps λ_ p=>aA (vQ h) λi j h=>?_;subst j;refine aA (vQ h) λu j h=>?_;subst j;refine aA (vQ h) λk j T=>?_;subst j;refine jw c.Bs λg l m E R=>?_;subst m;refine p ?_;cases v:k==0 with
     |true=>
      rw [v]at T;exact aU J T
     |false=>
      rw [v]at T;obtain rfl:=bg T;have v:k≠(0:aF):=λH=>by subst H;exact cW J v.symm
      exact o.gG (P:=λt=>wpAny (model x w) F (call (.type "range") [t,g,l]) Q P s) λe=>E.gG (P:=λg=>wpAny (model x w) F (call (.type "range") [.int i e,g,l]) Q P s) λB=>
       R.gG (P:=λl=>wpAny (model x w) F (call (.type "range") [.int i e,.int u B,l]) Q P s) λa=>call_range_3 v (G _ _ _ _ v) (.inl (PyProof.noPylong_small (kI (A4 L).2.2 (cE _ _))))
    |cons d n=>exact aU J h
theorem Se(u:fy n d r)(g:e.handled=af)(X:k.kindOf "range"=U .globalImplicit)(aj:d "range"=af)(l:r "range"=U (.type "range"))
  (R:∀o∈A,∀E p,o≠.Starred E p)(i:lG n s w e ao k aq au O aB A aG aI)(Q:Ex aI=U y)(L:pV y=ae):
  nf ak n s w e ao k aq au O (.Call (.Name "range" p) A [] aB) aG (pW y):=by
 intro aW aX aM aP aS S G;refine lD (nA u S.1 S.ready.base X aj l (J) (PyProof.Rows.callWith_type (kA A R) (jY R i S λq aN aO f m T z=>(QX z Q L λh B v P x=>?_))));obtain⟨a,b,c⟩:=y;have j:=cg.iu (T.ready) {cls:=.type "range",data:=.fields #[.int a h,.int b B,.int c v]} P;refine wpAny_pyIter_range (IsRange.new _ a b c h B v) (Z8 L x) ?_;have H:(pW (a,b,c)).length=(p_ a b c).toNat:=by simp [pW]
 have F:=Walks.range (prog:=s) (w:=w) g (q.heap.push {cls:=.type "range",data:=.fields #[.int a h,.int b B,.int c v]}).objs.size a c (p_ a b c).toNat;have F:=Walks.bound F;rw [<-H]at F;refine Sd (I:=0) (f.trans j.same) m (T.step j) J F (λaz v l=>?_) ?_ (λaz i aH=>?_) G
 .obtain⟨t,aK,rfl⟩:=l;simp only [H]at t;refine(aR _ ?_ (.int _ _));refine aZ (hU) ?_;rw [List.getElem?_range t];rfl
 .refine aZ (eN _ J) ?_;simp [(by exact(H)▸(Gu ((Mf (A4 L).1 (A4 L).2.1 x).1)))]
 .exact aL _ (aH)
end
end
section
open PySem.Builtin.Str
noncomputable def PF(H:br q)(e:bZ)(u:bR)(F:cI)(X:Mk)(B:cG)(n:Y ai)(l:aa)(m:Y (AV q))(r:bW)(S:Y (AV q))(o:Y (Y T)):Prop:=
 ∀(L:HB)(f:Fz)(s:aT)(Q:aD->aT->Prop)(P:aD->aT->Prop),SR H X L f B n l m s.heap->
  (∀(O:aT)(j:Fz)(a:ay)(p k y:Y ay)g d x E R,bS s O->Le f j->gb B->aQ H X L j B n l S E R O.heap->WalksT e u F a p k o.length g d x->(∀i v,g i v->∃w,o[i]?=U w/\bq X j v.toList w)->
   d 0 O.heap->(∀b∈k,b∈y)->(∀b∈y,eW H L j B n R b/\(O.heap.get? b).isSome=ae)->(∀b∈p,b∈y\/(j b).isSome=ae)->(∀b∈p,b<O.heap.objs.size)->(∀b∈y,b∈p)->
   (∀i h,d i h->∀b∈y,(h.get? b).isSome=ae)->(∀i T h,x i T h->∀b∈y,(h.get? b).isSome=ae)->Q (.ref a) O)->
  wpAny (model e u) F (eval r B) (λc t=>wpAny (model e u) F (pyIter c) Q P t) P s
section
variable{prog:bZ}{w:bR}{os:Y ai}
end
end
section
open PySem.Builtin.Str
theorem E2:Slot "method_descriptor" "__get__" "method_descriptor.__get__":=
 .of (owner:="method_descriptor") (n:="__get__") (by kernel_rfl) (J) (J) (J)
  (by first|exact .inl (J)|exact .inr _) (by exact J)
theorem Wt:typeLookup (.type "method_descriptor") "__set__"=pure af:=by kernel_rfl
theorem Ws:typeLookup (.type "method_descriptor") "__delete__"=pure af:=by kernel_rfl
theorem Sm:entryFor table "method_descriptor.__get__"=U Builtin.«method_descriptor.__get__»:=yX (J)
theorem Qo(a b c:aD):argsOk "method_descriptor.__get__" ⟨[a,b,c],[]⟩:=by kernel_rfl
theorem sub_list_self:isSubtype (.type "list") (.type (".".intercalate ("list.append".cutAt '.').dropLast))=pure ae:=by
 exact J
section
variable{E:aD->aT->Prop}{os:OsState}
theorem Ql(j:h.get? a=U o)(v:o.cls=.type "list")(S:n (.ok (.ret (.ref h.objs.size))) ⟨h.push (pA a),A,d,w,os⟩):
  codeAny (model i u) e (.call (.builtin "method_descriptor.__get__") ⟨[.builtin "list.append",.ref a,.type "list"],[]⟩) n ⟨h,A,d,w,os⟩:=by
 have R:(⟨h,A,d,w,os⟩:aT).TypeIs (.ref a) "list":=(aR _ j v);have t:=sub_list_self;refine o5 E2.plain Sm (E2.check _ _ _ _ _ _ _ _ (Gm) (Qo _ _ _) ?_)
 repeat(any_goals(first|assumption|wp_step))
theorem Qj(j:h.get? a=U {cls:=.type "list",dict:=af,data:=.seq q g,slots:=#[]})(S:Q (.done (.ret (.ref h.objs.size))) ⟨h.push (pA a),A,d,w,os⟩):
  wpAny (model i u) e (Builtin.«object.__getattribute__» ⟨[.ref a,.str "append" m],[]⟩) Q E ⟨h,A,d,w,os⟩:=by
 have R:(⟨h,A,d,w,os⟩:aT).TypeIs (.ref a) "list":=(aR _ j J);have b:(⟨h,A,d,w,os⟩:aT).TypeIs (.builtin "list.append") "method_descriptor":=Gm;have f:typeLookup (.type "list") "append"=pure (U (.builtin "list.append")):=Oc.lookup;have r:=E2.lookup;have p:=Wt;have x:=Ws
 repeat(any_goals(first|assumption|wp_step))
 refine Ql j J ?_
 repeat(any_goals(first|assumption|wp_step))
theorem Qi(j:h.get? a=U {cls:=.type "list",dict:=af,data:=.seq q g,slots:=#[]})(S:n (.ok (.ret (.ref h.objs.size))) ⟨h.push (pA a),A,d,w,os⟩):
  codeAny (model i u) e (.call (.builtin "list.__getattribute__") ⟨[.ref a,.str "append" m],[]⟩) n ⟨h,A,d,w,os⟩:=
 o5 Gl.plain F.entry_list_ga (Gl.check _ _ _ _ _ _ _ _ ((aR _ j J)) (F.args_list_getattribute_2 _ _) (Qj j S))
theorem Qh(j:h.get? a=U {cls:=.type "list",dict:=af,data:=.seq q g,slots:=#[]})(S:Q (.ref h.objs.size) ⟨h.push (pA a),A,d,w,os⟩):
  wpAny (model i u) e (getAttrBy (.ref a) (.str "append" m) ae ae) Q E ⟨h,A,d,w,os⟩:=by
 have R:(⟨h,A,d,w,os⟩:aT).TypeIs (.ref a) "list":=(aR _ j J);have G:=Gl.lookup;have H:=Gl.bind (.ref a)
 repeat(any_goals(first|assumption|wp_step))
 refine Qi j ?_
 repeat(any_goals(first|assumption|wp_step))
theorem Qg(j:h.get? a=U {cls:=.type "list",dict:=af,data:=.seq q g,slots:=#[]})(S:Q (.ref h.objs.size) ⟨h.push (pA a),A,d,w+1,os⟩):
  wpAny (model i u) F (getAttr (.ref a) "append" ae) Q E ⟨h,A,d,w,os⟩:=by
 repeat(any_goals(first|assumption|with_reducible apply Qh j|wp_step))
theorem Qk(d:attributeBase e "append" B (eval e B)=eval e B)
  (h:wpAny (model i u) F (eval e B) (λv t=>v=.ref a/\t.heap.get? a=U {cls:=.type "list",dict:=af,data:=.seq q g,slots:=#[]}/\Q (.ref t.heap.objs.size) {t with heap:=t.heap.push (pA a),toks:=t.toks+1}) E s)
  (c:∀o r,letTemporaryGo e o r=pure ()):
  wpAny (model i u) F (eval (.Attribute e "append" l) B) Q E s:=by
 simp only [arm_eval_Attribute,d];refine aE (i0 h (λv t p=>(gg p λb j S=>?_)) λy y x=>x);subst b;refine aE (kK (aE (e9 (Qg j ?_))));rw [c];exact aE (bD (bD S))
end
end
section
open PySem.Builtin.Str
section
variable{prog:bZ}{w:bR}
theorem aax:isSubtype (.type "list") (.type "module")=pure ak:=by exact J
theorem QO(e:R.any (·.1)=ak)
  (i:wpAny (model prog w) F (evalArgs (.ref b) ae R []) (λx t=>t.heap.get? b=U (pA a)/\wpAny (model prog w) F (call (.ref b) x.pos x.kw) Q P t) P s):wpAny (model prog w) F (callWith l (.ref b) [] R []) Q P s:=by
 refine aE (e9 (i0 i (λx t p=>aE (kK (bM p λL h=>?_))) λy y x=>x));rw [e];exact aE (aE (G1 L (bD (aE (i0 h (λr k T=>aE (e9 (wpAny_point (bD T)))) λy y x=>x)))))
theorem QT(L:s.heap.get? b=U (pA a))(H:s.heap.get? a=U (lo z g))(t:z.length<=1000000)
  (G:∀T S,T.get? a=U (lo (z++[v]) S)->gI a s.heap T->Q .none {s with heap:=T}):wpAny (model prog w) e (call (.ref b) [v]) Q P s:=by
 have R:s.TypeIs (.ref a) "list":=(aR _ H J);have h:m6 (·.push v) (lo z g)=lo (z++[v]) (g+1):=by simp [m6,lo]
 refine i7 (Pd (aE (G1 L ?_)));have O:(m7 "builtin_function_or_method"!=m7 "method")=ae:=by decide
 show wpAny _ _ (if(m7 "builtin_function_or_method"!=m7 "method")=ae then(do checkBoundCall "list.append" ⟨[.ref a,v],[]⟩;return<-again (.builtin "list.append" ⟨[.ref a,v],[]⟩))else _) _ _ s;refine aE (m:=checkBoundCall "list.append" ⟨[.ref a,v],[]⟩) ?_;have l:∀{E:Unit->aT->Prop}{q:aD->aT->Prop},E () s->wpAny (model prog w) e.in1 (checkBoundCall "list.append" ⟨[.ref a,v],[]⟩) E q s:=by
  intro E q x;have k:=aax
  repeat(any_goals(first|assumption|wp_step))
 refine l (aE (bD (bD (⟨yH _ (by decide+kernel),yW F.entry_list_append ?_⟩))));show wpAny _ _ (updateSeq a (·.push v)>>=λy=>ret .none) _ _ s;have i:(1000000:aa)<=sizeLine:=by decide
 refine aE (wpAny_updateSeq H J (bD (G _ (g+1) ?_ (nU ..))) (hz:=by exact aJ ‹_› ‹_›) (_hz':=by simp;exact aJ ‹_› ‹_›));refine aZ (oV _ H (by exact J)) ?_;rw [h]
end
theorem Den.qB(a:ay)(d:Den X f v w):Den ⟨X.star,a⟩ f v w:=d.re (ρ:=X) (ρ':=⟨X.star,a⟩) J (Le.refl _)
theorem bq.qB(a:ay)(d:bq X f z o):bq ⟨X.star,a⟩ f z o:=d.re (ρ:=X) (ρ':=⟨X.star,a⟩) J (Le.refl _)
noncomputable def vG:AV q->bl
 |.fN _=>ak
 |.jf=>ak
 |_=>ae
section
variable{B:br O}{xs:Y ai}{i j:aa}
theorem Holds.qB(a:ay)(t:Holds B X f h y F p)(z:vG y=ae):Holds B ⟨X.star,a⟩ f h y F p:=by
 cases y with
 |un=>exact t
 |t n=>obtain⟨e,v,s,d⟩:=t;exact⟨e,v,s,d.qB a⟩
 |own l=>obtain⟨b,i,g,O,x,d,k⟩:=t;exact⟨b,i,g,O,x,d.qB a,k⟩
 |obj o=>exact t
 |fN l=>exact cW J z
 |jf=>exact cW J z
theorem aQ.qB(a:ay)(S:aQ B X L f h xs k m E R e)(z:m.all vG=ae):aQ B ⟨X.star,a⟩ L f h xs k m E R e:=
 {S with
  vars:=λi x y j w=>by
   obtain⟨F,Q,t⟩:=S.vars i x y j w
   exact⟨F,Q,t.qB a (e7.mp z y (cL w))⟩}
theorem aa_(S:aQ B X L f b xs n m E R h)(l:∀x F,xs[i]?=U x->eA b E h x F->∀s,m[i]?=U s->Holds B X f h s F (R i)->Holds B X f h y F p):
  ∀(j:aa)(x:ai)(e:AV O),xs[j]?=U x->(m.set i y)[j]?=U e->Ho B X f h b E x e (bT R i p j):=by
 intro j x e a w
 by_cases k:j=i
 .subst k;have d:=by
   have:=(ck.mp w).1;simpa using this
  obtain rfl:=bg ((iF d)▸w);obtain⟨F,Q,t⟩:=S.vars j x _ a (cP d);refine⟨F,Q,?_⟩;simp only [show bT R j p j=p from bx J];exact l x F a Q _ (cP d) t
 .rw [iV (iZ k)]at w;obtain⟨F,Q,t⟩:=S.vars j x e a w;exact⟨F,Q,((show bT R i p j=R j from bA ‹_›)▸(t))⟩
theorem aQ.Ew{fp:Y ay}(S:aQ B X L f a xs o m E R e)(p:∀b∈fp,b∈R i)(n:∀x F,xs[i]?=U x->eA a E e x F->∀l,m[i]?=U l->Holds B X f e l F (R i)->Holds B X f e y F fp):
  aQ B X L f a xs o (m.set i y) E (bT R i fp) e:=by
 have h:∀j b,b∈bT R i fp j->b∈R j:=λj b t=>by
  by_cases k:j=i
  .subst k;rw [show bT R j fp j=fp from bx J]at t;exact p b t
  .rw [show bT R i fp j=R j from bA ‹_›]at t;exact t
 exact{S with
  len:=by simp [S.len]
  vars:=aa_ S n
  fp:=λj d b t=>S.fp j d b (h j b t)
  tab:=λP G=>(kW ((S.tab P G).1) ((S.tab P G).2.1) ((S.tab P G).2.2.1) ((S.tab P G).2.2.2.1) (λj d t=>(S.tab P G).2.2.2.2 j d (h j P t)))
  apart:=λs b Q t A c v g=>S.apart s b Q t A c (h s c v) (h b c g)}
theorem aQ.unmark(S:aQ B X L f a xs k m E R h)(H:m[i]?=U (.fN l)):aQ B X L f a xs k (m.set i (.own l)) E (bT R i (R i)) h:=
 S.Ew (λy h=>h) λn F j Q s v t=>by
  obtain rfl:=bg (H▸v);obtain⟨z,x,O,b,d,e⟩:=t;exact⟨X.mark,z,x,O,b,d,e⟩
theorem aQ.mark(S:aQ B X L f e xs k m E R h)(j:xs[i]?=U x)(H:m[i]?=U (.own l))(Q:eA e E h x (U (.ref X.mark))):aQ B X L f e xs k (m.set i (.fN l)) E (bT R i (R i)) h:=
 S.Ew (λy h=>h) λo F b q u v t=>by
  obtain rfl:=bg (j▸b);obtain rfl:=bg (H▸v);cases Q.det q;obtain⟨g,z,s,O,n,d,a⟩:=t;obtain rfl:=jn (bg O);exact⟨z,s,J,n,d,a⟩
theorem aQ.forget(S:aQ B X L f e xs k m E R h):aQ B X L f e xs k (m.set i .un) E (bT R i []) h:=
 S.Ew (λy h=>fV _ ‹_›) λy y y y y y y=>J
theorem Tl(h:eV B e u F X a xs k (m.set i .un) b g A):eV B e u F X a xs k m b g A:=by
 rintro L f s Q P l⟨y,E,R,S⟩G;exact h L f s Q P l ⟨y,E,_,S.forget⟩ G
theorem Tq(H:m[i]?=U (.fN l))(h:eV B e u F X a xs k (m.set i (.own l)) b g A):eV B e u F X a xs k m b g A:=by
 rintro L f s Q P x⟨y,E,R,S⟩G;exact h L f s Q P x ⟨y,E,_,S.unmark H⟩ G
theorem R6(j:xs[i]?=U x)(H:m[i]?=U (.fN l))(n:fX B t d F X h xs k (m.set i (.own l)) e g b)(o:g[i]?=U (.own A)):fX B t d F X h xs k m e (g.set i (.fN A)) b:=by
 rintro L f s Q P⟨y,E,aj,S⟩G;obtain⟨c,v,w,R,rfl,_⟩:=S.vars i x _ j H;refine n _ f s Q P ⟨y,E,_,(S.unmark H).rQ j v⟩ λO u q l a=>cps λT r=>?_;obtain⟨_,p,z,a⟩:=a;exact r (G O u q l ⟨y,p,_,a.unlock.mark j o (a.locked j)⟩)
theorem To(j:xs[i]?=U x)(E:i<k)(aI:h.kindOf x=U .local\/h.kindOf x=U .cell)(e:∀a,eV B n t H ⟨X.star,a⟩ h xs k (m.set i (.fN [])) b g A)
  (z:m.all vG=ae)(o:g.all vG=ae):eV B n t H X h xs k m (.Assign [.Name x aN] (.List [] aM) aX::b) g A:=by
 intro L f s Q P l S G;refine g4 (lC (IK kS J L f s _ _ S λaP u a aO v aS aW q c y T F p d=>?_));obtain rfl:=d.jg J;refine gu (av:=.fN []) (fp:=[a]) y l (T.qB a z) j E aI ⟨[],v,J,p,.nil,J⟩ (.oE F) λR aj ao aq=>e a L u R Q P l ⟨y,aj,_,aq⟩ λw az aB aG au O aH=>?_;obtain⟨_,aK,r,O⟩:=O;exact G w az aB ((q.trans ao).trans aG) (c.trans au) ⟨y,aK,r,O.qB X.mark o⟩ (aH.map λd=>d.qB X.mark)
theorem SS(hx:xs[i]?=U x)(H:m[i]?=U (.fN aj))(hd:(x==("__debug__"))=ak)(k:xs[j]?=U y)(g:j<t)(Uz:h.kindOf y=U .local\/h.kindOf y=U .cell)
  (Uo:attributeBase (.Name x e) "append" h (eval (.Name x e) h)=eval (.Name x e) h):gB B d w au X h xs t m (.Assign [.Name y py] (.Attribute (.Name x e) "append" c) p) (m.set j .jf) .next:=by
 rintro L f s aq P n⟨a,T,ao,S⟩G;refine cps λb r=>?_;obtain⟨F,Q,z,E,rfl,o,O,R⟩:=S.vars i x _ hx H;refine r (lC (Qk Uo (ez (ew a S.ns Q (c_ J o ?_)) hd) (λb b=>J)));have A:=cg.iu S.ready (pA X.mark) (s.toks+1);exact gu (av:=.jf) a n (S.step A) k g Uz ⟨_,J,eN _ J,J⟩ (.oE (S.free (fM s))) λv q u l=>G v f .next (A.same.trans u) (Le.refl _) ⟨a,q,_,l⟩ trivial
theorem SD(hx:xs[i]?=U x)(hy:xs[j]?=U y)(n:m[j]?=U .jf)(hd:(y==("__debug__"))=ak)(az:cF B q aj ao X k xs aX m e g τ)(u:g[j]?=U .jf)(z:g[i]?=U (.fN l))
  (R:∀x p,e≠.Starred x p)(aG:d_ l.length=ae)(aI:swapsWith (.Call (.Name y aK) [e] [] pos) af au.line k=pure ak):
  gB B q aj ao X k xs aX m (.Expr (.Call (.Name y aK) [e] [] pos) au) (g.set i (.fN (l++[τ]))) .next:=by
 rintro a_ b8 bF bV cf cA⟨eo,E,o,S⟩G;obtain⟨bu,Q,b,rfl,bK,bQ⟩:=S.vars j y _ hy n;have a:∀f∈[e],∀x p,f≠.Starred x p:=λf P=>by exact(cD.mp P)▸(R)
 refine sU (lD (ez (ew eo S.ns Q (QO (a:=X.mark) (kA [e] a) (jY a (pH az kS R) ⟨eo,E,o,S.rQ hy Q⟩ λbf w bw L O T h=>?_))) hd)) (by delta interactive;exact eo.kind.symm▸J) aI;refine cps λb7 F=>?_;obtain⟨_,aq,cy,T⟩:=T;obtain⟨cz,r,cC,rfl,s,bh⟩:=T.vars j y _ hy u;obtain rfl:=jn (bg ((T.locked hy).det r));have T:=T.unlock;obtain⟨bj,aB,A,bB,rfl,aH,H,c⟩:=T.vars i x _ hx z;obtain⟨v,bX,rfl,aN,h⟩:=h.ju (P:=λaO=>∃v A,aO=v::A/\Den _ _ v _/\bq _ _ A _) λv A x y=>⟨v,A,J,x,y⟩;obtain rfl:=h.jg J;refine F ?_;refine⟨s,QT s aH (by exact(H.length)▸(of_decide_eq_true aG)) λaP aM aW aS=>(G _ w .next (L.trans (b_ aP _ J)) O ⟨eo,aq,_,T.M0 hx (λb t cH e=>?_) aB ⟨_,aM,J,aW,H.append (.one aN),J⟩ λb t=>.inl (by rw [c];exact t)⟩ trivial)⟩;rw [c]at t;exact(aS.2 b λd=>t (by simp [d])).trans e
end
end
section
open PySem.Builtin.Str
noncomputable def wL(H:br q)(i:bZ)(u:bR)(F:cI)(X:Mk)(B:cG)(n:Y ai)(k:aa)(m:Y (AV q))(A:Y bW)(o:Y aa)(S:Y (AV q))(y:Y aa):Prop:=
 ∀(L:HB)(f:Fz)(s:aT)(Q:ai->aT->Prop)(P:aD->aT->Prop),SR H X L f B n k m s.heap->
  (∀O j,bS s O->Le f j->SR H X L j B n k S O.heap->Q ⟨y.toArray⟩ O)->Joins (model i u) F P (evalEach A B) ⟨o.toArray⟩ Q s
noncomputable def xH(x:T):Y T->aY aa
 |[]=>af
 |w::r=>(fb 6 w x).bind λb=>if b then U 0 else(xH x r).map (·+1)
noncomputable def qq:Y T->aY (Y aF)
 |[]=>U []
 |.int i::r=>(qq r).map (i::·)
 |_::_=>af
section
theorem Sh:wL H i u F X B n k m [] o m o:=λL f s Q P S G=>G s f (bS.refl s) (Le.refl _) S
theorem Sg(x:cF H i u F X B n k m e g (.str c))(r:d_ (o++c).length=ae)(w:wL H i u F X B n k g A (o++c) a y):wL H i u F X B n k m (e::A) o a y:=by
 intro L f s Q P S G;refine x L f s _ _ S λt b O q v T d=>?_;obtain⟨l,rfl⟩:=ja d;refine(g8 _ l J ?_ ?_)
 .rw [<-Bh,str_len];exact kB r
 .rw [<-Bh];exact w L b t Q P T λp j z E h=>G p j (q.trans z) (v.trans E) h
theorem S7(h:wL H i u F X B n k m (P::O::A) [] g y)(r:d_ y.length=ae):cF H i u F X B n k m (.JoinedStr (P::O::A) p) g (.str y):=by
 intro L f s Q a S G;refine wpAny_JoinedStr (h L f s _ _ S λt e q c T=>⟨?_,?_⟩)
 .exact kB r
 .exact G _ e _ (q.trans (b_ _ _ J)) c (T.step (cg.tok T.ready _)) (.str y _)
theorem S5(h:cF H i u F X B n k m e g (.str c))(r:d_ c.length=ae):cF H i u F X B n k m (.FormattedValue e (-1) af p) g (.str c):=by
 intro L f s Q P S G;refine wpAny_FormattedValue_plain (h L f s _ _ S λt a b q v T d=>(bC (ja d) λw j=>?_));subst j;exact SB.field_str (λl x=>(G _ a _ (q.trans (b_ _ _ J)) v (T.step (cg.tok T.ready _)) (.str _ _))) (by exact kB r)
theorem Jz{x:T}:∀{o:Y T}{u:aa},xH x o=U u->u<o.length/\(∃w,o[u]?=U w/\fb 6 w x=U ae)/\∀i,i<u->∃w,o[i]?=U w/\fb 6 w x=U ak
 |w::r,u,h=>by
  refine aA (adS.mp h) λb q h=>?_;cases b with
  |true=>exact bg h▸((c_ (cS _) (aR w J q) (λi A=>bE A (OV _))))
  |false=>
   refine aA (uJ.mp h) λs R e=>?_;subst e;refine gg (Jz R) λa b c=>(c_ (GN a) (b) (λi A=>?_));cases i with
   |zero=>exact(aR w J q)
   |succ i=>exact(c i (adI A))
open Classical in
theorem YH(m:dB aj n)(T:uc h=ae)(k:Den X f az (.list o))(E:Den X f g h)(j:jc h o=U aO)(t:xH h o=U u)(ao:d_ o.length=ae):PO aS (model aN aP) aj X (call (.builtin "list.index") [az,g]) f (.int u):=by
 refine jb (qj k) λa z s p B b=>?_;subst p;refine PO.give λaX aK aM r G=>bM (JB b j) λS a_=>gg (Jz t) λy H A=>?_;refine aA (H) λw Q F=>?_
 let i:=λv=>decide (∃w,Den X f v w/\fb 6 w h=U ae)
 have e:∀v w c,Den X f v w->fb 6 w h=U c->i v=c:=λv w c d q=>by
  cases c with
  |true=>exact decide_eq_true (aR w d q)
  |false=>exact decide_eq_false λaq=>aA aq λL au P=>cW J (MS T d au q P)
 have aB:u<z.toArray.size:=by simpa [(b.length)]using y
 refine wA ad7 (aR _ (r.bI _ _ B) J) PySem.F.entry_list_index (PySem.F.args_list_index_2 _ _)
  (list_indexAt a z.toArray s af #[] g i u aB ?_ ?_ ?_) (c_ (r.bI _ _ B) (λO aG=>?_) (G _ _ (.int _ _)))
 .have:=of_decide_eq_true ao;omega
 .refine aA (b.get Q) λv l d=>?_;have:z.toArray[u]=v:=by simpa [N3]using(ck.mp l).2
  exact(aL _ this).trans (e v w ae d F)
 .intro x aW aH;refine aA (A x aH) λL aI R=>aA (b.get aI) λv l d=>?_;have:z.toArray[x]=v:=by simpa [N3]using(ck.mp l).2
  exact this▸(e v L ak d R)
 .exact dS (S O (by simpa using aG)) λL c d q=>(e O L c d q)▸(xo r.bI (by exact dg 0 (.a (.a (.a (.v 0) (.n 1)) (.n 6)) (.n 1)) (.v 2) (.a (.a (.a (.v 0) (.m 8 (.v 1))) (.n 64)) (.n 1)) (.v 2) J [_,_,_] (m.units)) d E q)
end
end
section
open PySem.Builtin.Str
variable{O:Type}
theorem mro_object:mroOf (.type "object")=pure [.type "object"]:=by exact J
theorem So:entryFor table "object.__new__"=U Builtin.«object.__new__»:=yX (J)
section
variable{prog:bZ}{w:bR}{A:cI}{E:aD->aT->Prop}{s:aT}{Q:aD->aT->Prop}
theorem Kg:typeLookup (.type "object") "__new__"=pure (U (.builtin "object.__new__")):=by kernel_rfl
theorem Z6:Slot "object" "__init__" "object.__init__":=
 .of (owner:="object") (n:="__init__") (by kernel_rfl) (J) (J) (J)
  (by first|exact .inl (J)|exact .inr _) (by exact J)
theorem QY:TypeCalled "object" "object.__new__" "object.__init__":=
 ⟨J,J,(b_ _ _ mro_object),madeBy_type mro_object Kg (by decide+kernel),by decide+kernel,by exact J,Z6⟩
theorem aa7:checkTypeCall "object" ⟨[],[]⟩=pure ():=J
theorem WY:checkBuiltinCall "object.__new__" ⟨[.type "object"],[]⟩=pure ():=by kernel_rfl
theorem args_object_init_1(a:aD):argsOk "object.__init__" ⟨[a],[]⟩:=by
 delta argsOk;kernel_rfl
set_option maxHeartbeats 2000000 in
theorem XH:Meets (Builtin.«object.__new__» ⟨[.type "object"],[]⟩) (λy n s=>n (.ok (.ret (.ref s.heap.objs.size))) {s with heap:=s.heap.push {cls:=.type "object",data:=.plain}}):=
 .of_wp λprog w A n s h=>by
  have G:=Kg
  wp_walk
  refine o7 (by decide+kernel) ?_
  wp_walk
  refine o7 (by decide+kernel) ?_
  iterate 3(first|assumption|wp_step)
  refine o7 (by decide+kernel) (bD (o7 J ?_));refine o7 (c:=typeHasDict (.type "object")=ae) (by decide+kernel) (aE (bD (aE (q6 ?_))));exact o7 (c:=diesByItsTypesDel "object"=ae) (by decide+kernel) (bD (aR _ J h))
theorem QW(h:Q (.ref s.heap.objs.size) {s with heap:=s.heap.push {cls:=.type "object",data:=.plain}}):wpAny (model prog w) A (call (.type "object") []) Q E s:=by
 refine callType_meets (Q₁:=λe t=>t.TypeIs e "object"/\Q e t) QY aa7 WY So F.entry_object_init XH ?_ λe t S=>?_
 .exact⟨(aR _ (eN _ J) J),h⟩
 .refine(c_ S.1 (args_object_init_1 e) ⟨λy n s=>n (.ok (.ret .none)) s,?_,?_⟩)
  .exact .of_wp λprog w A n s r=>bD (aR _ J r)
  .exact⟨J,S.2⟩
end
section
variable{B:br O}{prog:bZ}{w:bR}{A:cI}{ρ:Mk}{env:cG}{xs os cs:Y ai}{ci:Y aa}{k n:aa}{lv aV c4 DV Km Kn:Y (AV O)}{fz jx fzn:Fz}{hB:HB}{m mn:ai->aY aD}{dY jZ:aa->Y ay}{scope:g6}{wr:Y ay}{e pI dR gv elt iter c:bW}{ifs es:Y bW}{ts ys l l':Y T}{pos p px py aes apos:fR}{bb:bl}{i j:aa}{x y:ai}{τ ta tb tx:T}{wc:Y T}{h h':cu}{body rest orelse:Y b9}{fl:fg}{st:b9}{va vb vc:aD}{vs:Y aD}{acc out l₁ l₂ Ko:Y aa}{mg mb:ai->aY aD}
theorem JI(d:bq ρ fz vs ts):∀{o:Y aF},qq ts=U o->∃l:Y (aF×fK),vs=l.map (λp=>.int p.1 p.2)/\l.map (·.1)=o:=
 d.ind (P:=λvs ts=>∀{o:Y aF},qq ts=U o->∃l:Y (aF×fK),vs=l.map _/\l.map _=o) (λh=>(aR ([]) J (bg h))) λ{v vs w ts}d y f=>@λo h=>by
  cases w<;>first|(exact aU J h;done)|skip
  refine bC d.inv λw j=>?_;subst j;refine aA (uJ.mp h) λe R i=>?_;subst i;refine aA (f R) λl j i=>?_;subst j i;exact(aR ((_,w)::l) J J)
theorem YL(g:A.handled=af)(d:Den ρ fz va (.list ts))(h:qq ts=U o):PO B (model prog w) A ρ (call (.builtin "sum") [va]) fz (.int o.sum):=by
 refine jb (qj d) λa vs v p x b=>?_;subst p;refine aA (JI b h) λl j i=>?_;subst j i;intro s Q P r G;have k:s.heap.IsList a (intItems l.toArray):=by
  have:=gP r.bI x;simpa [intItems]using this
 refine sum_intListG g k λh' m L e=>?_;rw [preSum_eq,List.take_of_length_le (by simp)];exact G _ _ _ (cg.keeps r e) (.int _ _)
theorem YK(o:Den ρ fz va (.str l₁))(E:Den ρ fz vb (.str l₂))(R:Den ρ fz vc (.str Ko))(h:(occurrences ⟨l₁.toArray⟩ ⟨l₂.toArray⟩ 0 l₁.length (l₁.length+1)).isEmpty=ae):
  PO B (model prog w) A ρ (call (.builtin "str.replace") [va,vb,vc]) fz (.str l₁):=by
 refine bC (ja o) λe j=>?_;subst j;refine bC (ja E) λa j=>?_;subst j;refine bC (ja R) λi j=>?_;subst j;have v:((occurrences (⟨l₁.toArray⟩) ⟨l₂.toArray⟩ 0 (⟨l₁.toArray⟩:ai).length ((⟨l₁.toArray⟩:ai).length+1)).isEmpty||((⟨l₂.toArray⟩:ai).length==0&&(⟨Ko.toArray⟩:ai).length==0))=ae:=by
  simp only [str_len,h];rfl
 exact PO.give λs Q P r G=>Pa acU (sT _ _ _) acS (acR _ _ _) (gives_str_replace _ _ _ e a i λq=>cW q v) ((bx v).symm▸(G _ s.toks (.str _ _)))
theorem YD(o:Den ρ fz va (.str l₁)):PO B (model prog w) A ρ (call (.builtin "isinstance") [va,.type "str"]) fz (.bool ae):=by
 refine bC (ja o) λh j=>?_;subst j;exact PO.give λs Q P r G=>IsiPair.str_str (G _ s.toks (.bool _))
end
end
section
open PySem.Builtin.Str
mutual
noncomputable def AH:T->bl
 |.atom=>ak
 |.list l=>rX l
 |.tup l=>rX l
 |_=>ae
noncomputable def rX:Y T->bl
 |[]=>ae
 |t::r=>AH t&&rX r
end
theorem Den.oG(a:ay){w:T}(d:Den X f v w):AH w=ae->Den ⟨a,X.mark⟩ f v w:=
 Den.rec (motive_2:=λz o y=>rX o=ae->bq _ f z o) (λy=>.none) (λb y=>.bool b) (λi w y=>.int i w) (λl w y=>.str l w) ((cW J)) (λv y=>.bY v) (λe y i h=>.list e (i h)) (λe y i h=>.tup e (i h)) (λy=>.nil)
  (λy y i u h=>.cons (i (cU.mp h).1) (u (cU.mp h).2)) d
theorem bq.oG(a:ay)(d:bq X f z o):rX o=ae->bq ⟨a,X.mark⟩ f z o:=
 d.ind (P:=λz o=>rX o=ae->bq ⟨a,X.mark⟩ f z o) (λy=>.nil) λa y i h=>.cons (a.oG _ (cU.mp h).1) (i (cU.mp h).2)
noncomputable def vF:AV q->bl
 |.t x=>AH x
 |.own l=>rX l
 |.fN l=>rX l
 |_=>ae
noncomputable def KU:fg->bl
 |.ret w=>AH w
 |_=>ae
section
variable{B:br O}
theorem Holds.oG(a:ay)(t:Holds B X f x y F p)(h:vF y=ae):Holds B ⟨a,X.mark⟩ f x y F p:=by
 cases y with
 |un=>exact t
 |t n=>obtain⟨e,v,s,d⟩:=t;exact⟨e,v,s,d.oG a h⟩
 |own l=>obtain⟨k,z,g,O,b,d,i⟩:=t;exact⟨k,z,g,O,b,d.oG a h,i⟩
 |obj o=>exact t
 |fN l=>obtain⟨z,g,O,b,d,i⟩:=t;exact⟨z,g,O,b,d.oG a h,i⟩
 |jf=>exact t
theorem aQ.oG(a:ay)(S:aQ B X L f h n k m E R e)(z:m.all vF=ae):aQ B ⟨a,X.mark⟩ L f h n k m E R e:=
 {S with
  vars:=λi x y j w=>by
   obtain⟨F,Q,t⟩:=S.vars i x y j w
   exact⟨F,Q,t.oG a (e7.mp z y (cL w))⟩}
theorem Tn(x:aa)(h:eV B i u F X e n k m b g A):eV B i u F X e n k m b (g.set x .un) A:=by
 intro L f s Q P l S G;refine h L f s Q P l S λt a j q c T d=>?_;obtain⟨y,o,v,T⟩:=T;exact G t a j q c ⟨y,o,_,T.forget⟩ d
theorem Tp(c:fy B d b)(t:n[i]?=U x)(E:i<k)(p:h.kindOf x=U .local\/h.kindOf x=U .cell)(z:h.kindOf "object"=U .globalImplicit)(H:d "object"=af)(T:b "object"=U (.type "object"))
  (ao:∀aG,eV B aK u F ⟨aG,X.mark⟩ h n k (m.set i (.t .atom)) j g A)(v:m.all vF=ae)(R:g.all vF=ae)(w:KU A=ae):
  eV B aK u F X h n k m (.Assign [.Name x aP] (.Call (.Name "object" aN) [] [] aS) aO::j) g A:=by
 rintro L f s Q P l⟨y,aW,aX,S⟩G;refine g4 (lC (lD (nA c y S.base z H T (J) (PyProof.Rows.callWith_type0 (QW ?_)))));have e:=cg.iu S.ready {cls:=.type "object",data:=.plain} s.toks;refine gu (av:=.t .atom) y l ((S.oG _ v).step e) t E p ⟨J,_,J,.atom (ρ:=⟨s.heap.objs.size,X.mark⟩)⟩ .nil λaj q aq au=>ao s.heap.objs.size L f aj Q P l ⟨y,q,_,au⟩ λaz aB a aH aI O o=>?_;obtain⟨_,aM,r,O⟩:=O;refine G az aB a ((e.same.trans aq).trans aH) aI ⟨y,aM,r,O.oG X.star R⟩ ?_;cases a<;>cases A<;>first|exact o|exact o.oG X.star w
end
end
noncomputable def o9(H:br q)(d:ai->aY aD)(X:ai)(g:aa):Prop:=
 ∃a o u code x,d X=U (.ref a)/\(∀{h},bG H.bO h->h.get? a=U o)/\o.data=.func (docDef X (ik (bz g)) (cZ (bz g)) (eK (bz g)) u code x)/\(∀{h},bG H.bO h->h.CodeRec code X)
noncomputable def zd(H:br q)(i:bZ)(u:bR)(d:ai->aY aD)(g:aa)(X:ai)(R:Y T)(r:T):Prop:=
 ∃a o k,d X=U (.ref a)/\(∀{h},bG H.bO h->h.get? a=U o)/\o.data=.func k/\Cc H i u g (.ref a) R r
section
variable{env:cG}{e:bW}
noncomputable def RB(X:ai)(i:aa)(u code x:aD)(m a:ay):cG:=callEnvC (docDef X (ik (bz i)) (cZ (bz i)) (eK (bz i)) u code x) m a
theorem QJ(G:fy H d q)(j:o9 H d X i)(k:pe (eK (bz i)) n)(Q:E.length<=n.length)
  (b:∀u code x(z:Y aD),z.length=E.length->bindArgs (docDef X (ik (bz i)) (cZ (bz i)) (eK (bz i)) u code x) ⟨z,[]⟩=pure (fh n z))
  (v:∀F h u code x m a,dB F g->∃S,eV H s l F h (RB X i u code x m a) n n.length (rS n E) (cZ (bz i)) S (.ret r)):zd H s l d (g+1) X E r:=IH j λa o u code x R w t f=>(nu a o _ R w t (HS G w t f J J k J J Q (b u code x) λm F h e=>v F h u code x m a e))
theorem S6(G:fy H d r)(n:dB F g)(j:env.kindOf x=U .globalImplicit)(E:(x==("__debug__"))=ak)
  (R:∀e∈A,∀x p,e≠.Starred x p)(h:lG H i u F X env a k m w A b s)(v:zd H i u d g x s y):
  cF H i u F X env a k m (.Call (.Name x p) A [] w) b y:=pG v λq c z l t o f=>S3 G n j l E t o R h f
noncomputable def dX(e:bW):bl:=!(swappedStores.match_5 (λy=>bl) e (λy v=>ae) λy=>ak)
theorem mH{A:Y bW}(h:A.all dX=ae):∀e∈A,∀x p,e≠.Starred x p:=by
 intro e X x p q;have:=e7.mp h e X;subst q;exact cW J this
theorem fY(h:dX e=ae):∀x p,e≠.Starred x p:=by
 intro x p q;subst q;exact cW J h
end
noncomputable abbrev u9:Y (ai×aD):=[("len",.builtin "len"),("range",.type "range"),("ord",.builtin "ord"),("chr",.builtin "chr"),("sum",.builtin "sum"),("max",.builtin "max"),("sorted",.builtin "sorted"),
 ("zip",.type "zip"),("bytes",.type "bytes"),("isinstance",.builtin "isinstance"),("str",.type "str"),("object",.type "object"),("list",.type "list"),("tuple",.type "tuple"),("bool",.type "bool"),("set",.type "set"),("iter",.builtin "iter"),("StopIteration",.type "StopIteration"),("min",.builtin "min")]
structure Cx(O:Type)where
 B:br O
 prog:bZ
 w:bR
 A:cI
 ρ:Mk
 env:cG
 mg:ai->aY aD
 mb:ai->aY aD
 n:aa
 G:fy B mg mb
 R:dB A n
 bi:∀(i:aa)(x:ai)(v:aD),u9[i]?=U (x,v)->mg x=af/\mb x=U v
section
structure EE(c:Cx O)(xs:Y ai)(k:aa)(lv:Y (AV O))(e:bW)(lv':Y (AV O))(τ:T):Prop where
 ev:cF c.B c.prog c.w c.A c.ρ c.env xs k lv e lv' τ
structure EC(c:Cx O)(xs:Y ai)(k:aa)(lv:Y (AV O))(e:bW)(lv':Y (AV O))(b:bl):Prop where
 ev:fX c.B c.prog c.w c.A c.ρ c.env xs k lv e lv' b
structure EF(c:Cx O)(xs:Y ai)(k:aa)(lv:Y (AV O))(e:bW)(lv':Y (AV O))(ts:Y T):Prop where
 ev:uU c.B c.prog c.w c.A c.ρ c.env xs k lv e lv' ts
structure ER(c:Cx O)(xs:Y ai)(k:aa)(lv:Y (AV O))(pos:fR)(es:Y bW)(lv':Y (AV O))(ts:Y T):Prop where
 ev:lG c.B c.prog c.w c.A c.ρ c.env xs k lv pos es lv' ts
structure EI(tup:bl)(c:Cx O)(xs:Y ai)(k:aa)(lv:Y (AV O))(e:bW)(lv':Y (AV O))(ts:Y T):Prop where
 ev:nf tup c.B c.prog c.w c.A c.ρ c.env xs k lv e lv' ts
structure EZ(c:Cx O)(xs:Y ai)(k:aa)(lv:Y (AV O))(e:bW)(lv':Y (AV O))(ts:Y (Y T)):Prop where
 ev:PF c.B c.prog c.w c.A c.ρ c.env xs k lv e lv' ts
structure EA(c:Cx O)(xs:Y ai)(k:aa)(lv:Y (AV O))(e:bW)(τ:T)(lv':Y (AV O)):Prop where
 ev:h_ c.B c.prog c.w c.A c.ρ c.env xs k lv e τ lv'
structure ES(c:Cx O)(xs:Y ai)(k:aa)(lv:Y (AV O))(st:b9)(lv':Y (AV O))(fl:fg):Prop where
 ev:gB c.B c.prog c.w c.A c.ρ c.env xs k lv st lv' fl
structure EX(c:Cx O)(xs:Y ai)(k:aa)(lv:Y (AV O))(st:Y b9)(lv':Y (AV O))(fl:fg):Prop where
 ev:eV c.B c.prog c.w c.A c.ρ c.env xs k lv st lv' fl
noncomputable abbrev EW(c:Cx q)(n:Y ai)(k:aa)(w:bW)(L a:Y b9)(g:aa)(m S:Y (AV q))(A:fg):Prop:=ki c.B c.prog c.w c.A c.ρ c.env n k w L a g m S A
noncomputable abbrev i9(c:Cx q)(n:Y ai)(k:aa)(f:bW)(L:Y b9)(o:Y T)(m S:Y (AV q))(A:fg):Prop:=n3 c.B c.prog c.w c.A c.ρ c.env n k f L o m S A
noncomputable abbrev Cg(c:Cx q)(n:Y ai)(k:aa)(f:bW)(h:Y bW)(b:bW)(o:Y T)(m:Y (AV q))(G:Y T)(S:Y (AV q)):Prop:=wJ c.B c.prog c.w c.A c.ρ c.env n k f h b o m G S
structure EO(c:Cx O)(xs:Y ai)(k:aa)(lv:Y (AV O))(e:aY bW)(lv':Y (AV O))(i:aY aF):Prop where
 ev:wM c.B c.prog c.w c.A c.ρ c.env xs k lv e lv' i
noncomputable abbrev CN(c:Cx q)(X:ai)(R:Y T)(r:T):Prop:=zd c.B c.prog c.w c.mg c.n X R r
structure Fm(env:cG)(xs:Y ai)(k:aa)(ns:Y (ai×fe)):Prop where
 loc:∀{i:aa}{x:ai},xs[i]?=U x->i<k->env.kindOf x=U .local\/env.kindOf x=U .cell
 eJ:∀{i:aa}{x:ai},xs[i]?=U x->(x==("__debug__":ai))=ak
 kn:∀(i:aa){x:ai}{kd:fe},ns[i]?=U (x,kd)->kd≠.free->env.kindOf x=U kd
 kf:∀(i:aa){x:ai},ns[i]?=U (x,.free)->env.kindOf x=U .free\/env.kindOf x=U .cell
 kg:∀(i:aa){x:ai}{kd:fe},ns[i]?=U (x,kd)->(x==("__debug__":ai))=ak
noncomputable abbrev PI(o:Y (ai×fe))(n:Y ai)(k:aa):Prop:=(∀x∈n.take k,o.lookup x=U .local\/o.lookup x=U .cell)/\(∀x∈n,(x==("__debug__":ai))=ak)/\∀p∈o,o.lookup p.1=U p.2/\(p.1==("__debug__":ai))=ak
noncomputable def oh(o:Y (ai×fe))(n:Y ai)(k:aa):bl:=decide (PI o n k)
theorem Ky{n:Y ai}(j:n[i]?=U x)(A:i<k):x∈n.take k:=cL ((List.getElem?_take.trans (bx A)).trans j)
theorem ko(h:oh o n k=ae)(X:B.scope.names=o):Fm B n k o:=X▸gg (of_decide_eq_true (X.symm▸h)) λR w t=>
 ⟨λ{_ x}j A=>R x (Ky j A),λ{_ x}j=>w x (cL j),λ_{_ _}j _=>(t _ (cL j)).1,λ_{_}j=>.inl (t _ (cL j)).1,λ_{_ _}j=>(t _ (cL j)).2⟩
theorem mq(h:oh Q.names n k=ae):Fm (gK Q a B) n k Q.names:=gg (of_decide_eq_true h) λR w t=>
 ⟨λ{_ x}j A=>(R x (Ky j A)).imp (yf (nofun)) (yf (nofun)),λ{_ x}j=>w x (cL j),λ_{_ _}j l=>yf l (t _ (cL j)).1,λ_{_}j=>Mh (t _ (cL j)).1,λ_{_ _}j=>(t _ (cL j)).2⟩
noncomputable abbrev PW(Q:g6)(n:Y ai):Prop:=Q.kind=.function/\Q.isCoroutine=ak/\Q.isGenerator=ak/\(∀x∈n,Q.names.lookup x=U .local\/Q.names.lookup x=U .cell)/\n.Nodup
noncomputable def yh(Q:g6)(n:Y ai):bl:=decide (PW Q n)
theorem lU(h:yh Q n=ae):pe Q n:=tE (of_decide_eq_true h) pe.mk
noncomputable abbrev PD(Q:g6)(os h:Y ai):Prop:=Q.kind=.function/\(∀x∈os,Q.names.lookup x=U .local\/Q.names.lookup x=U .cell)/\(∀O∈h,Q.names.lookup O=U .free/\(∀p∈Q.names,p.1=O->p.2=.free)/\(O==("__classdict__":ai))=ak)/\
 (∀p∈Q.names,p.2=.free->p.1∈h)/\(os++h).Nodup/\∀x∈Q.names,x.2=.local->Q.names.lookup x.1=U .local
noncomputable def rB(Q:g6)(os h:Y ai):bl:=decide (PD Q os h)
theorem xe{os h:Y ai}(e:rB Q os h=ae):m_ Q os h:=Iz (of_decide_eq_true e) m_.mk
noncomputable abbrev Pz(o:Y (ai×fe))(n h:Y ai)(P:Y aa):Prop:=P.map (n[·]?)=h.map U/\∀O∈h,(o.lookup O).isSome=ae/\o.lookup O≠U .local
noncomputable def rz(o:Y (ai×fe))(n h:Y ai)(P:Y aa):bl:=decide (Pz o n h P)
theorem w6(F:Fm B n j o)(k:rz o n a P=ae):i8 B n a P:=bM (of_decide_eq_true k) λR w=>
 ⟨(b5 _).symm.trans ((aL BN R).trans (b5 _)),λu _ _ d s=>bg ((aL (l9 (n[·]?)) d).symm.trans (hU.symm.trans ((aL (·[u]?) R).trans (hU.trans (aL (l9 U) s))))),
  λO s q=>bM (w O s) λx b=>bC (fc.mp x) λl e=>bC (qa (PySem.mem_of_lookup e)) λi h=>by
   by_cases p:l=.free
   .exact(F.kf i (p▸h)).elim (λA=>nc lA (bg (A.symm.trans q)) J) λA=>nc lA (bg (A.symm.trans q)) J
   .exact b (e.trans ((F.kn i h p).symm.trans q))⟩
end
section
variable{c:Cx O}{xs os:Y ai}{k:aa}{ns:Y (ai×fe)}{lv aV:Y (AV O)}{ts l:Y T}{st:b9}
noncomputable def oC(e:bW):bl:=!qb (xV e).2.2 3
noncomputable def tY(e:bW):bl:=!qb (xV e).2.2 2
noncomputable def Fe(B:bl)(e:bW):bl:=qb (xV e).2.2 4||(qb (xV e).2.2 5&&B)
theorem zv(F:Fm c.env xs k ns)(i:aa)(j:xs[i]?=U x)(H:lv[i]?=U (.t y)):EE c xs k lv (.Name x p) lv y:=⟨Td j H (F.eJ j)⟩
theorem kD(F:Fm c.env xs k ns)(i:aa)(j:xs[i]?=U x)(H:lv[i]?=U (.own l)):EE c xs k lv (.Name x p) (lv.set i (.t (.list l))) (.list l):=⟨Te j H (F.eJ j)⟩
theorem zi(a:aF):EE c xs k lv (.Constant (.int a) r p) lv (.int a):=⟨xr J⟩
theorem zs(s:Y aa)(h:s'=⟨s.toArray⟩):EE c xs k lv (.Constant (.str s') kk p) lv (.str s):=⟨xr (aL Const.str h)⟩
theorem zb(a:bl):EE c xs k lv (.Constant (.bool a) r p) lv (.bool a):=⟨xr J⟩
theorem zn:EE c xs k lv (.Constant .none r p) lv .none:=⟨xr J⟩
theorem dw(R:EE c xs k lv P aV m)(w:EE c xs k aV dR H n)(h:kN v m n=U y):EE c xs k lv (.BinOp P v dR p) H y:=⟨S2 c.R R.1 w.1 h⟩
theorem sy(R:EE c xs k lv P aV m)(w:EE c xs k aV dR H n)(h:gp op m n=U b)(z:behindInMarks op dR=ak):EE c xs k lv (.Compare P [op] [dR] p) H (.bool b):=⟨S4 c.R R.1 w.1 h z⟩
theorem qM(R:EC c xs k lv P aV b)(w:EE c xs k aV (if b then dR else e) H y):EE c xs k lv (.IfExp P dR e p) H y:=⟨S_ R.1 w.1⟩
theorem yC(R:EE c xs k lv e aV (.int i)):EE c xs k lv (.UnaryOp .USub e p) aV (.int (-i)):=⟨Tf R.1⟩
theorem cR:ER c xs k lv w [] lv []:=⟨kS⟩
theorem zr(R:EE c xs k lv e aV y)(w:ER c xs k aV h A H E)(r:dX e=ae):ER c xs k lv h (e::A) H (y::E):=⟨pH R.1 w.1 (fY r)⟩
theorem oQ(h:ER c xs k lv w A aV E)(r:d_ E.length=ae):EE c xs k lv (.List A w) aV (.list E):=⟨Tc h.1 r⟩
theorem FZ(h:ER c xs k lv w A aV E)(r:d_ E.length=ae):EE c xs k lv (.Tuple A e w) aV (.tup E):=⟨xt h.1 r⟩
theorem ee(R:EE c xs k lv P aV m)(w:EE c xs k aV dR H n)(h:pK m n=U y)(r:tY dR=ae):EE c xs k lv (.Subscript P dR p) H y:=⟨S8 R.1 w.1 h λa b d p q=>by subst q;contradiction⟩
theorem j8{lo A:aY bW}(R:EE c xs k lv P aV m)(w:EO c xs k aV lo H d)(t:EO c xs k H A j S)(h:Bb m d S=U y):EE c xs k lv (.Subscript P (.Slice lo A af n) p) j y:=⟨Ti R.1 w.1 t.1 h⟩
theorem oR:EO c xs k lv af lv af:=⟨Sq⟩
theorem iB(h:EE c xs k lv e aV (.int i)):EO c xs k lv (U e) aV (U i):=⟨Ss h.1⟩
theorem zf(h:EF c xs k lv e aV ts):EE c xs k lv e aV (.list ts):=⟨h.1.ev⟩
theorem p7(h:ER c xs k lv w A aV ts)(r:d_ ts.length=ae):EF c xs k lv (.List A w) aV ts:=⟨IK h.1 r⟩
theorem zC(R:EE c xs k lv P aV m)(w:EE c xs k aV dR H n)(h:gp v m n=U b)(z:behindInMarks v dR=ak):EC c xs k lv (.Compare P [v] [dR] p) H b:=⟨R4 c.R R.1 w.1 h z⟩
theorem zCo(F:Fm c.env xs k ns)(i:aa)(R:EE c xs k lv P aV m)(j:xs[i]?=U x)(H:aV[i]?=U (.own l))(h:gp v m (.list l)=U b):EC c xs k lv (.Compare P [v] [.Name x e] p) aV b:=⟨R5 c.R R.1 j H (F.eJ j) h⟩
theorem sj(R:EC c xs k lv e aV b):EC c xs k lv (.UnaryOp .Not e p) aV (!b):=⟨R7 R.1⟩
theorem j6(R:EE c xs k lv e aV ta)(h:qH ta=U b)(X:∀i,isTrue e c.env i=do let v<-i;standAt e.pos;holding [v] (truthy v)):EC c xs k lv e aV b:=⟨R_ c.R R.1 h X⟩
theorem nQ:EC c xs k lv (.BoolOp .And [] p) lv ae:=⟨R3⟩
theorem Nj:EC c xs k lv (.BoolOp .Or [] p) lv ak:=⟨R8⟩
theorem FF(h:EC c xs k lv e aV ak):EC c xs k lv (.BoolOp .And (e::r) p) aV ak:=⟨zR h.1 ⟨J,J⟩⟩
theorem abE(h:EC c xs k lv e aV ae)(w:EC c xs k aV (.BoolOp .And r p) H b):EC c xs k lv (.BoolOp .And (e::r) p) H b:=⟨zR h.1 w.1⟩
theorem gX(h:EC c xs k lv e lv a)(w:a=ae->EC c xs k lv (.BoolOp .And r p) lv b₂):EC c xs k lv (.BoolOp .And (e::r) p) lv (a&&b₂):=by
 cases a with
 |true=>exact⟨zR h.1 (w J).1⟩
 |false=>exact⟨zR h.1 (Gg J J)⟩
theorem ur(h:EC c xs k lv e lv a)(w:a=ak->EC c xs k lv (.BoolOp .Or r p) lv i):EC c xs k lv (.BoolOp .Or (e::r) p) lv (a||i):=by
 cases a with
 |true=>exact⟨IJ h.1 (Gg J J)⟩
 |false=>exact⟨IJ h.1 (w J).1⟩
theorem eS:EX c xs k lv [] lv .next:=⟨i3⟩
theorem zx(R:ES c xs k lv o aV .next)(w:EX c xs k aV b H A):EX c xs k lv (o::b) H A:=⟨Tj R.1 w.1⟩
theorem fU(R:ES c xs k lv o aV (.ret r)):EX c xs k lv (o::b) aV (.ret r):=⟨tH R.1 nofun⟩
theorem ux(R:ES c xs k lv o aV .brk):EX c xs k lv (o::b) aV .brk:=⟨tH R.1 nofun⟩
theorem NV(R:ES c xs k lv o aV .cont):EX c xs k lv (o::b) aV .cont:=⟨tH R.1 nofun⟩
theorem dD(F:Fm c.env xs k ns)(i:aa)(j:xs[i]?=U x)(E:i<k)(h:EE c xs k lv e aV y)(r:swapsWith e (U (.Name x a)) p.line c.env=pure ak):ES c xs k lv (.Assign [.Name x a] e p) (aV.set i (.t y)) .next:=⟨IU j E (F.loc j E) h.1 r⟩
theorem oS(F:Fm c.env xs k ns)(i:aa)(j:xs[i]?=U x)(E:i<k)(h:EF c xs k lv e aV ts)(r:swapsWith e (U (.Name x a)) p.line c.env=pure ak):ES c xs k lv (.Assign [.Name x a] e p) (aV.set i (.own ts)) .next:=⟨SU j E (F.loc j E) h.1 r⟩
theorem cJ(R:EC c xs k lv e aV b)(w:EX c xs k aV (if b then L else a) H A):ES c xs k lv (.If e L a p) H A:=⟨SQ R.1 w.1⟩
theorem iS(h:EE c xs k lv e aV y):ES c xs k lv (.Return (U e) p) aV (.ret y):=⟨SV h.1⟩
theorem yu(h:EC c xs k lv e aV ae):ES c xs k lv (.Assert e a p) aV .next:=⟨SH h.1⟩
theorem FI:ES c xs k lv (.Break p) lv .brk:=⟨SM⟩
theorem abN:ES c xs k lv (.Continue p) lv .cont:=⟨SN⟩
theorem jT(h:EW c xs k e L a n lv H A):ES c xs k lv (.While e L a p) H A:=⟨SY h⟩
theorem jj(F:Fm c.env xs k ns)(i:aa)(j:xs[i]?=U x)(E:i<k):EA c xs k lv (.Name x p) τ (lv.set i (.t τ)):=⟨R1 j E (F.loc j E)⟩
theorem rY(h:oC e=ae):∀v,foldedSetIterable e B v=pure v:=λv=>by cases e<;>first|rfl|exact cW J h
theorem MX(h:Fe B f=ae):(∃x p,f=.Name x p)\/B=ae/\∃A H p,f=.Tuple A H p:=by cases f<;>first|exact .inl ⟨_,_,J⟩|exact .inr ⟨h,_,_,_,J⟩|exact cW J h
theorem kC(h:EI B c xs k lv s aV ts)(Q:i9 c xs k f L ts aV H A)(r:oC s=ae)(e:Fe B f=ae):ES c xs k lv (.For f s L [] p) H A:=⟨SO h.1 Q (rY r) (MX e)⟩
theorem p6(F:Fm c.env xs k ns)(i:aa)(j:xs[i]?=U x)(E:i<k)(H:lv[i]?=U (.t m))(h:EE c xs k lv e aV n)(d:qd v m n=U τ):ES c xs k lv (.AugAssign (.Name x a) v e p) (aV.set i (.t τ)) .next:=⟨SI j E (F.loc j E) H h.1 d⟩
theorem FH(F:Fm c.env xs k ns)(i:aa)(j:xs[i]?=U x)(E:i<k)(H:lv[i]?=U (.own l))(h:EE c xs k lv e aV (.list ts))(o:aV[i]?=U (.own A))(v:d_ A.length=ae)(w:d_ ts.length=ae):ES c xs k lv (.AugAssign (.Name x a) .Add e p) (aV.set i (.own (A++ts))) .next:=⟨SJ j E (F.loc j E) H h.1 o v w⟩
theorem uu(F:Fm c.env xs k ns)(i:aa)(j:xs[i]?=U x)(H:lv[i]?=U (.own l))(h:EE c xs k lv e aV y)(o:aV[i]?=U (.own A))(R:dX e=ae)(T:(b.endLine==w.line)=ae)(t:d_ A.length=ae):
  ES c xs k lv (.Expr (.Call (.Attribute (.Name x a) "append" b) [e] [] w) z) (aV.set i (.own (A++[y]))) .next:=⟨SE j H (F.eJ j) h.1 o (fY R) T J t J⟩
theorem oO(F:Fm c.env xs k ns)(u:aa)(d:ns[u]?=U (x,.globalImplicit))(h:ER c xs k lv w A aV E)(v:CN c x E y)(R:A.all dX=ae):EE c xs k lv (.Call (.Name x p) A [] w) aV y:=⟨S6 c.G c.R (F.kn u d nofun) (F.kg u d) (mH R) h.1 v⟩
theorem sx(F:Fm c.env xs k ns)(u i:aa){id:String}(d:ns[u]?=U (x,.globalImplicit))(t:u9[i]?=U (x,.builtin id))(h:ER c xs k lv w A aV E)(R:A.all dX=ae)(O:∀f z,bq c.ρ f z E->PO c.B (model c.prog c.w) c.A c.ρ (call (.builtin id) z) f y):
  EE c xs k lv (.Call (.Name x p) A [] w) aV y:=⟨IY c.G (F.kn u d nofun) (c.bi i _ _ t).1 (c.bi i _ _ t).2 (F.kg u d) (mH R) h.1 O⟩
theorem Nx(F:Fm c.env xs k ns)(u:aa)(d:ns[u]?=U (("len":ai),.globalImplicit))(h:EE c xs k lv e aV (.str s))(r:d_ s.length=ae)(R:dX e=ae):EE c xs k lv (.Call (.Name "len" p) [e] [] w) aV (.int s.length):=
 sx F u 0 d J (zr h cR R) (by simp [R]) λf z a=>by refine aA a.jS λv j q=>?_;subst j;exact YF q r
theorem v9(F:Fm c.env xs k ns)(u:aa)(a:ns[u]?=U (("len":ai),.globalImplicit))(h:EE c xs k lv e aV (.list l))(r:d_ l.length=ae)(R:dX e=ae):EE c xs k lv (.Call (.Name "len" p) [e] [] w) aV (.int l.length):=
 sx F u 0 a J (zr h cR R) (by simp [R]) λf z d=>by refine aA d.jS λv j q=>?_;subst j;exact L6 q r
theorem BC(F:Fm c.env xs k ns)(u:aa)(a:ns[u]?=U (("ord":ai),.globalImplicit))(h:EE c xs k lv e aV (.str [s]))(R:dX e=ae):EE c xs k lv (.Call (.Name "ord" p) [e] [] w) aV (.int s):=
 sx F u 2 a J (zr h cR R) (by simp [R]) λf z d=>by refine aA d.jS λv j q=>?_;subst j;exact YJ q
theorem aco(F:Fm c.env xs k ns)(u:aa)(d:ns[u]?=U (("sum":ai),.globalImplicit))(h:EE c xs k lv e aV (.list l))(A:qq l=U i)(R:dX e=ae):EE c xs k lv (.Call (.Name "sum" p) [e] [] w) aV (.int i.sum):=
 sx F u 4 d J (zr h cR R) (by simp [R]) λf z a=>by refine aA a.jS λv j q=>?_;subst j;exact YL c.R.handled q A
theorem qO(F:Fm c.env xs k ns)(u:aa)(d:ns[u]?=U (("range":ai),.globalImplicit))(h:ER c xs k lv w A aV E)(Q:Ex E=U y)(L:pV y=ae)(R:A.all dX=ae):EI ak c xs k lv (.Call (.Name "range" p) A [] w) aV (pW y):=⟨Se c.G c.R.handled (F.kn u d nofun) (c.bi 1 _ _ J).1 (c.bi 1 _ _ J).2 (mH R) h.1 Q L⟩
theorem lg(h:EE c xs k lv e aV (.list ts)):EI ae c xs k lv e aV ts:=⟨Sb c.R.handled h.1⟩
theorem yy(h:EE c xs k lv e aV (.tup ts)):EI ak c xs k lv e aV ts:=⟨Sf c.R.handled h.1⟩
noncomputable abbrev Cx.fB(c:Cx O)(Q:g6)(a:ay):Cx O:={c with env:=gK Q a c.env}
noncomputable def D6:aY (AV O)->bl|U (.own _)=>ak|_=>ae
noncomputable def noOwn(lv:Y (AV O))(P:Y aa):bl:=P.all λi=>D6 lv[i]?
theorem AI{lv:Y (AV O)}(h:lv[i]?=U (.t a))(T:noOwn lv P=ae):noOwn lv (i::P)=ae:=cU.mpr ⟨aL D6 h,T⟩
theorem ya(h:noOwn lv P=ae):∀i∈P,∀l,lv[i]?≠U (.own l):=λi A l e=>cW J ((aL D6 e).symm.trans (e7.mp h i A))
theorem Nm(os h:Y ai)(P:Y aa)(F:Fm c.env xs k ns)(Q:rB d os h=ae)(w:rz ns xs h P=ae)(l:oh d.names (os++h) os.length=ae)(i:EI B c xs k lv s aV ts)
  (e:noOwn aV P=ae)
  (n:∀a,Fm (c.fB d a).env (os++h) os.length d.names->Cg (c.fB d a) (os++h) os.length f ifs b ts (ou os P aV) G A)
  (r:oC s=ae)(x:Fe B f=ae)(t:d_ ts.length=ae)(L:oF os P aV A=Kn):
  EF c xs k lv (.ListComp b [⟨f,s,ifs,0⟩] d z) Kn G:=⟨Sa (xe Q) (w6 F w) i.1 (ya e) (λa=>n a (mq l)) (rY r) (MX x) t L⟩
noncomputable def qs(v:AV O):Y T->AV O
 |[]=>v
 |t::ts=>qs (.t t) ts
theorem Nz{h:Type}(F:Fm c.env (x::xs) (k+1) ns)(A X:h->T):∀(j:Y h)(v:AV O),(∀B∈j,EE c (x::xs) (k+1) (.t (A B)::a) b (.t (A B)::a) (X B))->
  Cg c (x::xs) (k+1) (.Name x p) [] b (j.map A) (v::a) (j.map X) (qs v (j.map A)::a):=λi=>i.rec
 (λv y=>.nil)
 (λt j f v e=>.go (jj F 0 J (cS k)).1 zS (e t gj).1 (f _ λB d=>e B (fF _ d)))
theorem NB{e:Type}(F:Fm c.env (x::xs) (k+1) ns)(A X:e->T)(q:e->bl):∀(j:Y e)(v:AV O),(∀B∈j,EC c (x::xs) (k+1) (.t (A B)::a) i (.t (A B)::a) (q B))->
  (∀B∈j,q B=ae->EE c (x::xs) (k+1) (.t (A B)::a) b (.t (A B)::a) (X B))->
  Cg c (x::xs) (k+1) (.Name x p) [i] b (j.map A) (v::a) ((j.filter q).map X) (qs v (j.map A)::a):=λs=>s.rec
 (λv y y=>.nil)
 (λt j f v R w=>by
  have r:=f (.t (A t)) (λB d=>R B (fF _ d)) λB d=>w B (fF _ d);have h:=R t gj;cases u:q t with
  |true=>
   rw [u]at h;exact(uE u).symm▸.go (jj F 0 J (cS k)).1 (zT h.1) (w t gj u).1 r
  |false=>
   rw [u]at h;rw [uD (by simp [u])]
   exact .skip (jj F 0 J (cS k)).1 (zT h.1) r)
theorem vM(O:pre.length=os.length):oF os P lv (pre++P.map λi=>(lv[i]?).getD .un)=lv:=by
 delta oF
 apply ac_;intro i;refine aZ (adh) ?_;cases h:lv[i]? with
 |none=>rfl
 |some y=>
  simp only [BZ]
  split
  .rename_i A;rw [jV (by exact dg 0 (.v 0) (.a (.v 1) (.v 2)) (.v 0) (.v 1) J [_,_,_] (mC O)),O,nX,hU,xy A];simp [h]
  .rfl
theorem zcm{e:Type}{j:Y e}{A:e->T}(x:ai)(h:Y ai)(P:Y aa)(X:e->T)(F:Fm c.env xs k ns)(Q:rB d [x] h=ae)(w:rz ns xs h P=ae)(l:oh d.names (x::h) 1=ae)(b:EI q c xs k lv s aV (j.map A))(n:noOwn aV P=ae)
  (v:∀a,Fm (c.fB d a).env (x::h) 1 d.names->∀B∈j,EE (c.fB d a) (x::h) 1 (.t (A B)::P.map λi=>aV[i]?.getD .un) o (.t (A B)::P.map λi=>aV[i]?.getD .un) (X B))
  (r:oC s=ae)(t:j.length<=1000000):EF c xs k lv (.ListComp o [⟨.Name x p,s,[],0⟩] d z) aV (j.map X):=
 Nm [x] h P F Q w l b n (λa S=>Nz S A X j .un (v a S)) r J (decide_eq_true (by rw [b5];exact t)) (vM (pre:=[qs .un _]) J)
theorem uv{e:Type}{us:Y e}{g:e->T}(x:ai)(h:Y ai)(P:Y aa)(X:e->T)(q:e->bl)(F:Fm c.env xs k ns)(Q:rB d [x] h=ae)(w:rz ns xs h P=ae)(j:oh d.names (x::h) 1=ae)(l:EI f c xs k lv s aV (us.map g))(n:noOwn aV P=ae)
  (y:∀a,Fm (c.fB d a).env (x::h) 1 d.names->∀B∈us,EC (c.fB d a) (x::h) 1 (.t (g B)::P.map λi=>aV[i]?.getD .un) b (.t (g B)::P.map λi=>aV[i]?.getD .un) (q B))
  (v:∀a,Fm (c.fB d a).env (x::h) 1 d.names->∀B∈us,q B=ae->EE (c.fB d a) (x::h) 1 (.t (g B)::P.map λi=>aV[i]?.getD .un) o (.t (g B)::P.map λi=>aV[i]?.getD .un) (X B))
  (r:oC s=ae)(t:us.length<=1000000):EF c xs k lv (.ListComp o [⟨.Name x p,s,[b],0⟩] d z) aV ((us.filter q).map X):=
 Nm [x] h P F Q w j l n (λa S=>NB S g X q us .un (y a S) (v a S)) r J (decide_eq_true (by rw [b5];exact t)) (vM (pre:=[qs .un _]) J)
end
section
theorem BB{id:String}(j:Slot "str" G id)(e:typeOf (.builtin id)=pure (.type "method_descriptor"))(L:EE c n k m o g (.str s))(h:ER c n k g w A H E)
  (t:attributeBase o G c.env (eval o c.env)=eval o c.env)(R:A.all dX=ae)(Q:A.length<30)(T:(b.endLine==w.line)=ae)
  (O:∀f v z,Den c.ρ f v (.str s)->bq c.ρ f z E->PO c.B (model c.prog c.w) c.A c.ρ (call (.builtin id) (v::z)) f y):EE c n k m (.Call (.Attribute o G b) A [] w) H y:=
 ⟨CS t (mH R) Q T B3 j e L.1 h.1 (λf v s r d=>by cases d;exact⟨J,λa q=>nc yU q J⟩) O⟩
theorem ab'{id:String}(j:Slot "list" G id)(e:typeOf (.builtin id)=pure (.type "method_descriptor"))(L:EE c n k m o g (.list l))(h:ER c n k g w A H E)
  (t:attributeBase o G c.env (eval o c.env)=eval o c.env)(R:A.all dX=ae)(Q:A.length<30)(T:(b.endLine==w.line)=ae)
  (O:∀f v z,Den c.ρ f v (.list l)->bq c.ρ f z E->PO c.B (model c.prog c.w) c.A c.ρ (call (.builtin id) (v::z)) f y):EE c n k m (.Call (.Attribute o G b) A [] w) H y:=
 ⟨CS t (mH R) Q T GP j e L.1 h.1 (λf v s r d=>by
  obtain⟨a,z,i,B,x,rfl⟩:=d.inv
  exact⟨(gP r.bI B).typeIs,λa q=>by obtain rfl:=jn q;exact(aR _ (r.bI _ _ B) J)⟩) O⟩
theorem JT:∀(l:Y _),Str.join ⟨([]).toArray⟩ (l.map λl=>(⟨l.toArray⟩))=⟨l.flatten.toArray⟩
 |[]=>J
 |[x]=>by simp [Str.join]
 |x::O::r=>by
  have f:=JT (O::r);show(⟨x.toArray++#[]++_⟩:ai)=_;rw [f];simp
theorem join_nil(l:Y _):GV ⟨([]).toArray⟩ (l.map λl=>(⟨l.toArray⟩))=⟨l.flatten.toArray⟩:=by
 show Builtin.Str.glued _ _=_;rw [PySem.StrLaws.glued_eq_join];exact JT l
theorem strs_map:∀(l:Y _),Bj (l.map .str)=U l:=λi=>i.rec
 (J)
 (λx r f=>(aL _ f))
theorem FT{i:Y _}(L:EE c n k m o g (.str []))(h:EE c n k g e H (.list (i.map .str)))(t:attributeBase o "join" c.env (eval o c.env)=eval o c.env)(R:dX e=ae)(T:(b.endLine==w.line)=ae)
  (x:i.flatten.length<=16777216):EE c n k m (.Call (.Attribute o "join" b) [e] [] w) H (.str i.flatten):=
 BB ad8 ad' L (zr h cR R) t (by simp [R]) (cE _ _) T λf v z d a=>by
  refine aA a.jS λu j q=>?_;subst j;refine YE d q (strs_map i) ?_ (join_nil i);rw [adl]at x;exact x
end
theorem cB(l:Y Char):Str.ofString (String.ofList l)=⟨(l.map Char.toNat).toArray⟩:=PySem.W.Fast.ofString_ofList l
theorem eE(h:g<=1000000):d_ g=ae:=decide_eq_true h
theorem ua(h:a.length+b.length<=1000000):kN .Add (.str a) (.str b)=U (.str (a++b)):=by
 exact(bx (eE h))
theorem yi(h:a.length+b.length<=1000000):kN .Add (.list a) (.list b)=U (.list (a++b)):=by
 exact(bx (eE h))
theorem ZS(h:i_ a=ae)(T:b≠0):kN .FloorDiv (.int a) (.int b)=U (.int (a.fdiv b)):=by
 have:(b !=0)=ae:=by simpa using T
 show(if(b !=0&&i_ a)=ae then _ else af)=_;rw [h,this];rfl
theorem ZT(h:i_ a=ae)(T:b≠0):kN .Mod (.int a) (.int b)=U (.int (a.fmod b)):=by
 have:(b !=0)=ae:=by simpa using T
 show(if(b !=0&&i_ a)=ae then _ else af)=_;rw [h,this];rfl
theorem ZU(h:i_ a=ae)(T:0<=b)(z:b<=1000):kN .Pow (.int a) (.int b)=U (.int (a^b.toNat)):=by
 show(if(decide _&&i_ a&&decide _)=ae then _ else af)=_;simp only [h,decide_eq_true T,decide_eq_true z];rfl
theorem Qz(h:a.natAbs<2^64):i_ a=ae:=decide_eq_true (kI h (by decide+kernel))
theorem A9{i g:aa}(h:i<g):seqIndex? (i) g=U i:=by
 exact bx (cU.mpr ⟨decide_eq_true (jl i),decide_eq_true (jF.mpr h)⟩)
theorem xJ{i:aa}(h:i<2^60):iq (i)=ae:=by
 delta iq;simp;omega
theorem iP{i:aa}(A:i<2^60)(h:s[i]?=U a):pK (.str s) (.int i)=U (.str [a]):=by
 show(if iq (i)then((seqIndex? (i) s.length).bind (s[·]?)).map λc=>T.str [c]else af)=_;refine aZ (bx (xJ A)) ?_;rw [A9 ((ck.mp h).1)];simp [h]
theorem iA{i:aa}(A:i<2^60)(h:s[i]?=U a):pK (.list s) (.int i)=U a:=by
 show(if iq (i)then(seqIndex? (i) s.length).bind (s[·]?)else af)=_;refine aZ (bx (xJ A)) ?_;rw [A9 ((ck.mp h).1)];assumption
theorem mO(h:decide (a<b)=d):gp .Lt (.int a) (.int b)=U d:=aL U h
theorem nG(h:(a==b)=d):gp .Eq (.str a) (.str b)=U d:=aL U h
theorem qD(h:(!(a==b))=d):gp .NotEq (.str a) (.str b)=U d:=aL U h
theorem EH(h:decide (a∈b)=d):gp .In (.str [a]) (.str b)=U d:=aL U h
theorem A7{d:bl}(r:a.length<=1000000)(h:(!a.isEmpty)=d):qH (.list a)=U d:=by
 refine aZ (bx (eE r)) ?_;rw [h]
section
structure Ly(O:Type)where
 B:br O
 prog:bZ
 w:bR
 mg:ai->aY aD
 mb:ai->aY aD
 G:fy B mg mb
 bi:∀(i:aa)(x:ai)(v:aD),u9[i]?=U (x,v)->mg x=af/\mb x=U v
noncomputable abbrev Ly.c(O:Ly q)(F:cI)(X:Mk)(B:cG)(g:aa)(n:dB F g):Cx q:=⟨O.B,O.prog,O.w,F,X,B,O.mg,O.mb,g,O.G,n,O.bi⟩
noncomputable abbrev Ly.D(O:Ly q)(X:ai)(i:aa):Prop:=o9 O.B O.mg X i
noncomputable abbrev Ly.F(O:Ly q)(g:aa)(X:ai)(R:Y T)(r:T):Prop:=zd O.B O.prog O.w O.mg g X R r
theorem Ly.fn(O:Ly q)(i:aa)(n:Y ai)(o:Y _)(D:O.D e i)(c:(eK (bz i)).names=o)(b:yh (eK (bz i)) n=ae)(p:oh o n n.length=ae)
  (Q:E.length<=n.length)(a:∀u code x(z:Y aD),z.length=E.length->bindArgs (docDef e (ik (bz i)) (cZ (bz i)) (eK (bz i)) u code x) ⟨z,[]⟩=pure (fh n z))
  (v:∀F X B(h:dB F g),Fm B n n.length o->∃S,EX (O.c F X B g h) n n.length (rS n E) (cZ (bz i)) S (.ret r)):O.F (g+1) e E r:=
 QJ O.G D (lU b) Q a λF X u code x m l h=>(v F X _ h (ko p c)).imp λy s=>s.1
end
section
variable{y:Ly O}
theorem VP{T:Type}{z:Y T}{P:Y T->Prop}(h:z.length=0)(k:P []):P z:=(wg h).symm▸k
theorem vz{T:Type}{z:Y T}{P:Y T->Prop}(h:z.length=g+1)(k:∀a r,r.length=g->P (a::r)):P z:=match z,h with
 |a::r,h=>k a r (BY h)
section
variable{α:Type}{P:Y α->Prop}
theorem DO(h:∀a,P [a])(l:Y α)(H:l.length=1):P l:=vz H λa y R=>VP (P:=λr=>P _) R (h a)
theorem Ar(h:∀a b,P [a,b])(l:Y α)(H:l.length=2):P l:=vz H λa r R=>DO (P:=λr=>P _) (h a) r R
theorem DP(h:∀a b c,P [a,b,c])(l:Y α)(H:l.length=3):P l:=vz H λa r R=>Ar (P:=λr=>P _) (h a) r R
theorem As(h:∀a b c d,P [a,b,c,d])(l:Y α)(H:l.length=4):P l:=vz H λa r R=>DP (P:=λr=>P _) (h a) r R
theorem VQ(h:∀a b c d e,P [a,b,c,d,e])(l:Y α)(H:l.length=5):P l:=vz H λa r R=>As (P:=λr=>P _) (h a) r R
end
theorem Kh{P:aa->Prop}(v:P 0)(R:P 1)(w:P 2):∀i,i<3->P i:=λi=>i.rec (λy=>v) λi y=>i.rec (λy=>R) λi y=>i.rec (λy=>w) λi y h=>bE h (OU (cE 3 i))
section
noncomputable abbrev q8(k:q7)(n:Y ai)(z:Y aD):Prop:=bindArgs k ⟨z,[]⟩=pure (fh n z)
theorem bind1(h:∀a,q8 k n [a]):∀z,z.length=1->q8 k n z:=DO h
theorem tB(h:∀a b,q8 k n [a,b]):∀z,z.length=2->q8 k n z:=Ar h
theorem QB(h:∀a b d,q8 k n [a,b,d]):∀z,z.length=3->q8 k n z:=DP h
theorem QC(h:∀a b d e,q8 k n [a,b,d,e]):∀z,z.length=4->q8 k n z:=As h
end
noncomputable def pU(a:aa):Y aa:=if a∈[42,63,91]then [91,a,93]else [a]
theorem Yo(a:aa):(pU a).length<=3:=by delta pU;split<;>simp
theorem I4{T H:Type}(X:T->Y H)(E:aa):∀(s:Y T),(∀a∈s,(X a).length<=E)->(s.map X).flatten.length<=E*s.length:=λi=>i.rec
 (λy=>ek _)
 (λa r f h=>by
  simp only [iW,BL,dM,m4,OT]
  exact g_ 0 (.a (.v 0) (.v 2)) (.a (.v 3) (.r (.v 1) 1)) (.v 0) (.v 1) (.v 2) (.v 3) J [_,_,_,_] (h a gj) (f λb t=>h b (fF _ t)))
end
theorem Qt{l:Y aa}:aeb ⟨l.toArray⟩ ⟨[o].toArray⟩ l.length i<->l[i]?=U o:=by
 delta aeb Builtin.Str.subAt
 have x:(⟨[o].toArray⟩:ai).length=1:=J;refine x▸?_;have b:(l.toArray.extract i (i+1)).toList=(l.drop i).take 1:=by simp
 have e:((l.toArray.extract i (i+1))==[o].toArray)=ae<->(l.drop i).take 1=[o]:=by
  rw [beq_iff_eq,<-Array.toList_inj,b]
 simp only [e];cases E:l.drop i with
 |nil=>
  have:=List.drop_eq_nil_iff.mp E;exact⟨λh=>bE h.2 (by simp),λh=>bE (ck.mp h).1 (λB=>oB (g_ 0 (.n 1) (.n 0) (.v 0) (.v 1) (.a (.v 1) (.n 1)) (.v 0) J [_,_] this B))⟩
 |cons a r=>
  have A:l[i]?=U a:=by refine aZ (List.head?_drop).symm ?_;rw [E];rfl
  have H:=(ck.mp A).1;simp only [A];simp;omega
section
variable{st:b9}
theorem tO{T:Type}{p:Prop} [Decidable p]{x O:T}(h:O=x):(if p then x else O)=x:=h▸ite_self O
theorem aaF{a b:bW}{A:Y bW}(h:A.all (foldedForSure 8)=ae):swappedStores [.Tuple [a,b] S E] (.Tuple A Q t7) B=pure af:=
 tO (tO (tO (bx h)))
theorem z2c(F:Fm c.env n k o)(i u:aa)(j:n[i]?=U x)(A:i<k)(s:n[u]?=U O)(d:u<k)(e:ER c n k m p h g [q,f])(a:h.all (foldedForSure 8)=ae):
  ES c n k m (.Assign [.Tuple [.Name x b,.Name O L] S z] (.Tuple h Q p) w) ((g.set i (.t q)).set u (.t f)) .next:=
 ⟨CR (xt e.1 J) (CL c.R.handled j A (F.loc j A) s d (F.loc s d)) J (aaF a)⟩
theorem aaj(h:swappedStores.match_5 _ e (λy v=>ae) (λy=>ak)=ae):dX e=ak:=aL _ h
theorem aaG{a b:bW}(l:B.blockKind=.function)(j:B.kindOf x=U .local)(s:B.kindOf O=U .local)(H:e.line=L.line)(n:(O==x)=ak)
  (p:[a,b].all (foldedForSure 8)=ak)(v:[a,b].all (constantsAlone 8)=ak)(R:dX a=ae)(w:dX b=ae):swappedStores [.Tuple [.Name x e,.Name O L] S E] (.Tuple [a,b] Q t7) B=pure (U [x,O]):=by
 refine(bA (λq=>?_)).trans ((bA λq=>?_).trans ?_)
 .rw [l]at q;exact cW J q
 .refine aA (qY.mp q) λh X q=>?_;have:dX h=ae:=by rcases cQ.mp X with rfl|X;exact R;exact cD.mp X▸w
  exact cW (aaj q) this
 have c:=(Ot (l:=[yI O L]) (a:=yI x e) (f:=λh=>match h with|.Name id k=>if B.kindOf id==U .local&&k.line==e.line then U id else af|_=>af) (bx (cU.mpr ⟨beq_iff_eq.mpr j,beq_self_eq_true _⟩))).trans (aL _ (Ot (bx (cU.mpr ⟨beq_iff_eq.mpr s,beq_iff_eq.mpr H.symm⟩))));have X:[x,O].eraseDups=[x,O]:=by
  refine aZ (List.eraseDups_cons) ?_;show x::((match !(O==x)with|ae=>[O]|ak=>[]).eraseDups)=_;exact n▸J
 exact(bA λq=>(cW (aL (λi:Y ai=>i.length !=2) X) ((aL (λr:Y ai=>(r.length !=2||r.eraseDups.length !=r.length)) c).symm.trans q))).trans ((bA (cW p)).trans ((bA (cW v)).trans (aL (λg=>pure (U g)) c)))
theorem z2(F:Fm c.env n k o)(i u B r:aa){a b:bW}(j:n[i]?=U x)(A:i<k)(h:n[u]?=U O)(d:u<k)(X:o[B]?=U (x,.local))(m:o[r]?=U (O,.local))(z:ER c n k G ao [a,b] g [q,f])(H:e.line=L.line)(l:(O==x)=ak)
  (p:[a,b].all (foldedForSure 8)=ak)(t:[a,b].all (constantsAlone 8)=ak)(R:dX a=ae)(w:dX b=ae):
  ES c n k G (.Assign [.Tuple [.Name x e,.Name O L] aG az] (.Tuple [a,b] au ao) aB) ((g.set u (.t f)).set i (.t q)) .next:=by
 refine⟨λE T s Q P y S aj=>?_⟩;have aq:c.env.blockKind=.function:=by
  have:=S.1.kind
  first|exact this|(delta BH;simp [this])|trace_state
 exact SX c.R.handled (xt z.1 J) (.cons (λv Q P s=>MM v Q P s) h d (F.loc h d) (.cons (λv Q P s=>MM v Q P s) j A (F.loc j A) .nil)) J J J (aaG aq (F.kn B X nofun) (F.kn r m nofun) H l p t R w) E T s Q P y S aj
theorem cX(h:ES c n k m o g .next)(q:g=H):EX c n k m [o] H .next:=q▸zx h eS
theorem gY(h:EC c n k m e g b)(q:b=Q):EC c n k m e g Q:=q▸h
theorem sq(h:EE c n k m e g w)(q:w=y):EE c n k m e g y:=q▸h
theorem FN(h:EC c n k m e g b)(d:aF)(q:(if b then i else u)=d):EE c n k m (.IfExp e (.Constant (.int i) S a) (.Constant (.int u) Q L) p) g (.int d):=by
 subst q;cases b with
 |true=>exact qM h (zi i)
 |false=>exact qM h (zi u)
theorem acr(h:EE c n k m P g (.bool ae))(w:EE c n k g O H y):EE c n k m (.BoolOp .And [P,O] p) H y:=⟨S0 c.R h.1 J (IX w.1)⟩
theorem acu(h:EE c n k m P g (.bool ak)):EE c n k m (.BoolOp .And [P,O] p) g (.bool ak):=⟨S1 c.R h.1 J⟩
theorem NR(h:EE c n k m P g (.bool ak))(w:EE c n k g O H y):EE c n k m (.BoolOp .Or [P,O] p) H y:=⟨Tg c.R h.1 J (IX w.1)⟩
theorem NS(h:EE c n k m P g (.bool ae)):EE c n k m (.BoolOp .Or [P,O] p) g (.bool ae):=⟨Th c.R h.1 J⟩
theorem qE{l r:Y aa}{lo A:aY aF}(e:l.length<=1000000)(h:cut lo A l=r):Bb (.str l) lo A=U (.str r):=by
 refine aZ (bx (eE e)) ?_;rw [h]
theorem r8{lo A:aY aF}(r:l.length<=1000000)(e:cut lo A l=h):Bb (.list l) lo A=U (.list h):=by
 refine aZ (bx (eE r)) ?_;rw [e]
theorem Rg{g E:aa}{i:aF}(e:(if i<0 then i+g else i)=(E))(h:E<=g):clipAt g i=E:=
 (aL (λu:aF=>(max 0 (min u (g))).toNat) e).trans ((aL (λu:aF=>(max 0 u).toNat) (Int.min_eq_left (mZ.mpr h))).trans (aL we (Gp (jl E))))
theorem Rd{g E:aa}{i:aF}(e:(if i<0 then i+g else i)=(E))(h:g<=E):clipAt g i=g:=
 (aL (λu:aF=>(max 0 (min u (g))).toNat) e).trans ((aL (λu:aF=>(max 0 u).toNat) (Int.min_eq_right (mZ.mpr h))).trans (aL we (Gp (jl g))))
theorem H8(g E:aa):(if(E:aF)<0 then(E:aF)+g else E)=(E):=bA (oW.mpr (jl E))
theorem zF(g E:aa):clipAt g (E)=min E g:=
 (ON E g).elim (λh=>(Rg (H8 g E) h).trans (BW h).symm) λh=>(Rd (H8 g E) h).trans (OQ h).symm
theorem xh(l:Y α)(g:aa):cut af (U (g)) l=l.take g:=by
 show l.take (clipAt l.length (g))=_;rw [zF];exact ady.symm
theorem xg(l:Y α)(g:aa):cut (U (g)) af l=l.drop g:=by
 show(l.drop (clipAt l.length (g))).take (l.length-clipAt l.length (g))=_;rw [zF,<-GC,List.take_length];exact(ON g l.length).elim (λh=>(BW h).symm▸J) λh=>(OQ h).symm▸(ac8.trans (Oq h).symm)
theorem CF(l:Y α)(g E:aa):cut (U (g)) (U (E)) l=(l.take E).drop g:=by
 show(l.drop (clipAt l.length (g))).take (clipAt l.length (E)-clipAt l.length (g))=_;rw [zF,zF,<-Gw,<-ady];rcases ON g l.length with h|h
 .rw [BW h]
 .rw [OQ h,Oq (ado E l),Oq (aJ (ado E l) h)]
theorem ab6(L:EE c n k m o g (.list h))(a:EE c n k g e H y)(t:attributeBase o "index" c.env (eval o c.env)=eval o c.env)(R:dX e=ae)(T:(b.endLine==w.line)=ae)(j:uc y=ae)(i:jc y h=U f)(d:xH y h=U u)(r:h.length<=1000000):
  EE c n k m (.Call (.Attribute o "index" b) [e] [] w) H (.int u):=
 ab' ad7 PySem.F.type_list_index L (zr a cR R) t (by simp [R]) (cE _ _) T λv p E s x=>by
  refine aA x.jS λz l q=>?_;subst l;exact YH c.R j s q i d (eE r)
end
theorem HM{a:aa}(h:a<2^2000):i_ (a)=ae:=decide_eq_true (kI (h) (by decide+kernel))
theorem A6{a b:aa}(h:a<2^2000)(T:0<b):kN .FloorDiv (.int a) (.int b)=U (.int ((a/b:aa))):=by
 refine aZ (ZS (HM h) (by exactλB=>oB (g_ 0 (.n 1) (.n 0) (.a (.n 0) (.n 1)) (.v 0) (.v 0) (.n 0) J [_] T ((mC (BJ B)))))) ?_;rw [Int.fdiv_eq_ediv_of_nonneg _ (by exact mZ.mpr (lO (.n 0) (.v 0) J [_]))];rfl
theorem nH{a b:aa}(h:a<2^2000)(T:0<b):kN .Mod (.int a) (.int b)=U (.int ((a%b:aa))):=by
 refine aZ (ZT (HM h) (by exactλB=>oB (g_ 0 (.n 1) (.n 0) (.a (.n 0) (.n 1)) (.v 0) (.v 0) (.n 0) J [_] T ((mC (BJ B)))))) ?_;rw [Gn _ (by exact mZ.mpr (lO (.n 0) (.v 0) J [_]))];rfl
noncomputable def jD(s:aY b9):bW:=(mQ s).1
noncomputable def mu(s:aY b9):bW:=(mQ s).1
noncomputable def zy(s:aY b9):bW:=(mQ s).1
noncomputable def oj(s:aY b9):bW:=(mQ s).1
noncomputable def k9(s:aY b9):Y b9:=(mQ s).2.2.1
noncomputable def i4(s:aY b9):Y b9:=(mQ s).2.2.1
noncomputable def vo(s:aY b9):Y b9:=(mQ s).2.2.1
noncomputable def kr(s:aY b9):Y b9:=(mQ s).2.2.2.1
theorem pX(h:a+b=d):qd .Add (.int a) (.int b)=U (.int d):=by subst h;rfl
theorem lT(h:a+b=d):kN .Add (.int a) (.int b)=U (.int d):=by subst h;rfl
theorem ZV(h:a-b=d):kN .Sub (.int a) (.int b)=U (.int d):=by subst h;rfl
section
theorem kE(a:EC c h k m e g ak)(w:EX c h k g i H A):EW c h k e L i n m H A:=.stop a.1 w.1
theorem lj(a:EC c h k m e g ae)(w:EX c h k g L H .next)(t:EW c h k e L i n H j A):EW c h k e L i (n+1) m j A:=.go a.1 w.1 (.inl J) t
theorem lZ:i9 c n k f L [] m m .next:=.nil
theorem mU(R:EA c n k m f w g)(h:EX c n k g L c4 .next)(t:i9 c n k f L o c4 j A):i9 c n k f L (w::o) m j A:=.go R.1 h.1 (.inl J) t
noncomputable def lV:Y aa:=[40,41,91,93,123,125,63,42,43,45,124,94,36,92,46,38,126,35,32,9,10,13,11,12]
noncomputable def ie(a:aa):Y aa:=if a∈lV then [92,a]else [a]
noncomputable def kR(a:aa):Y aa:=if a∈[42,63,91]then(if a=91 then [91,92,91,93]else [91,a,93])else ie a
noncomputable def z6:Y aa:=[40,63,115,58]
noncomputable def aaC:Y aa:=[41,92,90]
theorem eX{T:Type}{l m E n:Y T}(u:aa)(h:l=m++(E++n))(d:u<E.length):l[m.length+u]?=E[u]?:=by
 subst h;refine aZ (jV (fH _ _)) ?_;simp only [nX,j9 d]
end
theorem bq.rep(d:bq X f z o):∀g,bq X f (dF g z).flatten (dF g o).flatten
 |0=>.nil
 |g+1=>by exact d.append (d.rep g)
theorem TB(v:0<=g)(h:g<=1000000):¬(!acL g)=ae:=by simp [acL];omega
theorem TF(h:s<=1000000):¬s>(2^63-1)/8:=by omega
theorem TG(h:s<=1000000):¬BG s=ae:=by simp only [BG,sizeLine];simp;exact aJ h (aC J)
section
theorem abV(p:EE c n k X au g (.list l))(w:EE c n k g H A (.int x))(aj:0<=x)(ao:x<=1000000)(aq:l.length*x.toNat<=1000000):EF c n k X (.BinOp au .Mult H aH) A (dF x.toNat l).flatten:=by
 refine⟨λs f j aI az S G=>(B_ (p.1 s f j _ _ S λo u a q d T r=>w.1 s u o _ _ T λe aB aG t h i E=>(jb (qj (r.mono h)) λa z v Q y b=>?_)))⟩;subst Q;refine bC (nq E) λB P=>?_;subst P;have L:=i.ready.bI _ _ y;have m:z.toArray.size*x.toNat<=1000000:=by simpa [b.length]using aq
 have R:e.TypeIs (.ref a) "list":=(aR _ L J);refine wpAny_binaryOp_repeat_ref (J) R (λO=>typeIs_int O x B) noFill_list_mul F.fills_int_mul F.slot_int_rmul repeat_list F.slot_int_index.lookup (wA F.slot_int_rmul (typeIs_int e x B) F.entry_int_rmul (F.args_int_rmul_2 _ _) (lm_int_rmul_list_any x B a z.toArray v af #[]) ((kU L J R (wA F.slot_list_mul R F.entry_list_mul (F.args_list_mul_2 _ _) (lm_list_mul_any a z.toArray v af #[] x B (TB aj ao) (TF m) (TG m)) (⟨L,?_⟩)))));rw [listMul_foldl_if];exact SR.newList (q.trans t) (d.trans h) i (b.rep _) G
theorem abU{n:aa}(R:EE c h k m P g (.list l))(w:EE c h k g O H (.int n))(e:n<=1000000)(r:l.length*n<=1000000):EF c h k m (.BinOp P .Mult O p) H (dF n l).flatten:=
 abV R w (mZ.mpr (lO (.n 0) (.v 0) J [_])) (mZ.mpr (e)) r
end
section
structure EP(c:Cx O)(xs:Y ai)(k:aa)(lv:Y (AV O))(e:bW)(τ:T):Prop where
 ev:nZ c.B c.prog c.w c.A c.ρ c.env xs k lv e τ
theorem sA(a:aF):EP c n k m (.Constant (.int a) r p) (.int a):=⟨Su⟩
theorem sC(F:Fm c.env n k o)(i:aa)(j:n[i]?=U x)(H:m[i]?=U (.t y)):EP c n k m (.Name x p) y:=⟨CQ j H (F.eJ j)⟩
theorem FY(h:EP c n k m e (.int i)):EP c n k m (.UnaryOp .USub e p) (.int (-i)):=⟨Sv h.1⟩
theorem qL(F:Fm c.env n k o)(u:aa)(j:n[u]?=U x)(H:m[u]?=U (.own l))(w:EP c n k m O (.int i))(h:pK (.list l) (.int i)=U y)(r:tY O=ae):EE c n k m (.Subscript (.Name x e) O p) m y:=
 ⟨S9 j H (F.eJ j) w.1 h λa b d p q=>by subst q;contradiction⟩
theorem ack(F:Fm c.env n k l)(i:aa)(j:n[i]?=U x)(h:EE c n k m e g y)(o:g[i]?=U (.own q))(w:EE c n k g P H (.int t))(Q:H[i]?=U (.own A))(a:iq t=ae)(d:seqIndex? t A.length=U u)
  (b:swapsWith e (U (.Subscript (.Name x s) P L)) p.line c.env=pure ak):ES c n k m (.Assign [.Subscript (.Name x s) P L] e p) (H.set i (.own (A.set u y))) .next:=⟨SW j (F.eJ j) h.1 o w.1 Q a d b⟩
theorem abF(l:Fm c.env n k X)(i:aa)(j:n[i]?=U y)(a:h[i]?=U (.own B))(R:EE c n k h P g (.int t))(o:g[i]?=U (.own x))(u:pK (.list x) (.int t)=U e)
  (w:EE c n k g s H q)(Q:H[i]?=U (.own z))(d:qd v e q=U τ)(A:iq t=ae)(r:seqIndex? t z.length=U p)
  (f:∀F b m,augStore P F b m=(do holding [m,F,b] (setItem F b m);release [m,F,b] [];pure .next)):
  ES c n k h (.AugAssign (.Subscript (.Name y S) P L) v s E) (H.set i (.own (z.set p τ))) .next:=⟨SK j (l.eJ j) a R.1 o u w.1 Q d A r f⟩
theorem Nl{e:Type}{us:Y e}{A:e->T}(x:ai)(h:Y ai)(P:Y aa)(X:e->T){i i':aa}(F:Fm c.env n k o)(G:rB d [x] h=ae)(w:rz o n h P=ae)(t:oh d.names (x::h) 1=ae)(q:EI aK c n k aG j g (us.map A))(L:noOwn g P=ae)
  (Q:∀a,Fm (c.fB d a).env (x::h) 1 d.names->∀B∈us,EE (c.fB d a) (x::h) 1 (.t (A B)::P.map λi=>(g[i]?).getD .un) f (.t (A B)::P.map λi=>(g[i]?).getD .un) (X B))
  (r:oC j=ae)(v:us.length<=1000000)(m:n[i]?=U s)(E:i<k)(p:o[i']?=U (s,.local))(H:R.line=z.line)(O:(d.names.any λ(b,u)=>b==s&&(u==.local||u==.cell))=ak):
  ES c n k aG (.Assign [.Name s R] (.ListComp f [⟨.Name x aM,j,[],0⟩] d z) aI) (g.set i (.own (us.map X))) .next:=by
 refine⟨λaq y az aj ao au S aB=>?_⟩;have aH:c.env.blockKind=.function:=by
  have:=S.1.kind
  delta BH;simp [this,GU]
 have l:=F.kn i' p nofun;refine IV (xe G) (w6 F w) q.1 (ya L) (λa=>Nz (mq t) A X us .un (Q a (mq t))) (rY r) (.inl (b_ _ _ J)) (decide_eq_true (by rw [b5];exact v)) (vM (pre:=[qs .un _]) J) m E l ?_ aq y az aj ao au S aB
 .show(pure (c.env.blockKind==.function&&c.env.kindOf s==U .local&&R.line==z.line&&!(d.names.any λ(b,k)=>b==s&&(k==.local||k==.cell))))=pure ae;refine aH▸l▸H▸O▸?_;simp
end
theorem aaO(g:aa)(a b:Y aa):fb (g+1) (.str a) (.str b)=U (a==b):=J
theorem Ad(h:Y aa):∀r:Y _,jc (.str h) (r.map .str)=U (decide (h∈r))
 |[]=>J
 |a::e=>by
  show(match fb 6 _ _,jc _ _ with|U a,U b=>U _|_,_=>af)=_;simp only [(Ad h e),aaO 5];simp only [cQ,Option.some.injEq];rw [oU];simp only [N6,beq_iff_eq,decide_eq_true_eq];exact or_congr_left ⟨Gj,Gj⟩
theorem ints_map:∀l,qq (l.map .int)=U l:=λi=>i.rec
 (J)
 (λx r f=>aL (l9 (List.cons x)) f)
section
variable{c:Cx O}{st:b9}
noncomputable abbrev Cx.re(c:Cx O)(a:ay):Cx O:={c with ρ:=⟨c.ρ.star,a⟩}
noncomputable abbrev Cx.sr(c:Cx O)(a:ay):Cx O:={c with ρ:=⟨a,c.ρ.mark⟩}
theorem ND(F:Fm c.env n k e)(i:aa)(j:n[i]?=U x)(E:i<k)(h:∀a,EX (c.re a) n k (m.set i (.fN [])) b g A)(z:m.all vG=ae)(o:g.all vG=ae):EX c n k m (.Assign [.Name x s] (.List [] L) p::b) g A:=
 ⟨To j E (F.loc j E) (λa=>(h a).1) z o⟩
theorem Np(i:aa)(h:EX c n k (m.set i .un) b g A):EX c n k m b g A:=⟨Tl h.1⟩
theorem qN(i:aa)(h:EX c n k m b aV A):EX c n k m b (aV.set i .un) A:=⟨Tn i h.1⟩
theorem NQ(i:aa)(H:m[i]?=U (.fN l))(h:EX c n k (m.set i (.own l)) b g A):EX c n k m b g A:=⟨Tq H h.1⟩
theorem NG(F:Fm c.env n k o)(i u:aa)(j:n[i]?=U x)(H:m[i]?=U (.fN l))(s:n[u]?=U y)(g:u<k):ES c n k m (.Assign [.Name y L] (.Attribute (.Name x e) "append" b) p) (m.set u .jf) .next:=
 ⟨SS j H (F.eJ j) s g (F.loc s g) J⟩
theorem oN(F:Fm c.env n k a)(i u:aa)(j:n[i]?=U x)(s:n[u]?=U y)(H:m[u]?=U .jf)(h:EE c n k m e g τ)(o:g[u]?=U .jf)(d:g[i]?=U (.fN l))(R:dX e=ae)(t:d_ l.length=ae):
  ES c n k m (.Expr (.Call (.Name y L) [e] [] w) z) (g.set i (.fN (l++[τ]))) .next:=⟨SD j s H (F.eJ s) h.1 o d (fY R) t J⟩
theorem Ni(i:aa)(j:n[i]?=U x)(H:m[i]?=U (.fN l))(h:EC c n k (m.set i (.own l)) e g b)(o:g[i]?=U (.own A)):EC c n k m e (g.set i (.fN A)) b:=⟨R6 j H h.1 o⟩
theorem acn(F:Fm c.env n k o)(i u:aa)(j:n[i]?=U x)(E:i<k)(d:o[u]?=U (("object":ai),.globalImplicit))(h:∀a,EX (c.sr a) n k (m.set i (.t .atom)) b g A)(v:m.all vF=ae)(R:g.all vF=ae)(w:KU A=ae):
  EX c n k m (.Assign [.Name x e] (.Call (.Name "object" L) [] [] s) p::b) g A:=⟨Tp c.G j E (F.loc j E) (F.kn u d nofun) (c.bi 11 _ _ J).1 (c.bi 11 _ _ J).2 (λa=>(h a).1) v R w⟩
structure EJ(c:Cx O)(xs:Y ai)(k:aa)(lv:Y (AV O))(es:Y bW)(acc:Y aa)(lv':Y (AV O))(out:Y aa):Prop where
 ev:wL c.B c.prog c.w c.A c.ρ c.env xs k lv es acc lv' out
theorem yz:EJ c n k m [] o m o:=⟨Sh⟩
theorem zj(h:EE c n k m e g (.str t))(r:(o++t).length<=1000000)(w:EJ c n k g A (o++t) H y):EJ c n k m (e::A) o H y:=⟨Sg h.1 (eE r) w.1⟩
theorem yw(h:EJ c n k m (P::dR::A) [] g out)(r:out.length<=1000000):EE c n k m (.JoinedStr (P::dR::A) p) g (.str out):=⟨S7 h.1 (eE r)⟩
theorem yv(h:EE c n k m e g (.str t))(r:t.length<=1000000):EE c n k m (.FormattedValue e (-1) af p) g (.str t):=⟨S5 h.1 (eE r)⟩
theorem BD(a:EC c h k m e g ae)(w:EX c h k g L H .brk):EW c h k e L i n m H .next:=.brk a.1 w.1
theorem NW(h:ES c n k m o g .next)(q:g=H)(w:EX c n k H b j A):EX c n k m (o::b) j A:=zx h (q▸w)
theorem qK(h:EX c n k m b g A)(q:g=H):EX c n k m b H A:=q▸h
theorem By(F:Fm c.env n k o)(i:aa)(j:n[i]?=U x)(H:m[i]?=U (.own l))(h:qH (.list l)=U b):EC c n k m (.Name x p) m b:=by
 refine⟨?_⟩;rintro L f s t P⟨y,E,X,S⟩G;exact rE (S.lend j H) λv g Q r T dl e=>adY (ez (ew y S.ns Q (vY c.R dl h s _ _ r λO q A=>aA (e _ _ A) λa z B=>G O a A.same z ⟨y,E,X,B⟩)) (F.eJ j)) J
end
noncomputable def e5(l:Y b9)(g:aa):b9:=(dZ g l).getD (.Pass default)
noncomputable abbrev tS(l:Y (Y aa)):Y T:=l.map .str
theorem ZY{g:aa}(h:0<g):seqIndex? (-1) g=U (g-1):=by
 cases g with
 |zero=>exact bE h (m5 0)
 |succ E=>exact MA E
theorem Mv(h:l[l.length-1]?=U t):pK (.list l) (.int (-1))=U t:=by
 show(if iq (-1)then(seqIndex? (-1) l.length).bind _ else af)=_;rw [ZY (by exact dg 0 (.a (.n 0) (.n 1)) (.v 0) (.a (.v 1) (.n 1)) (.v 0) J [_,_] ((ck.mp h).1))];assumption
theorem Zf{T:Type}(x:T):∀g,(dF g [x]).flatten=dF g x:=λi=>i.rec
 (J)
 (λg f=>by simp only [adv,BL,f];rfl)
section
noncomputable def xU:Y (ai×fe):=[("inp",.local),("STAR",.local),("res",.local),("add",.local),("i",.local),("n",.local),("fixed",.local),("len",.globalImplicit)]
noncomputable def k_:Y ai:=["inp","STAR","res","add","i","n","fixed"]
noncomputable abbrev uY(g:aa):aY b9:=dZ g (cZ (bz 16))
noncomputable def jQ(A:Y (Y aa)):Y T:=.atom::tS A
theorem tw{T:Type}(d l:Y T):(d++l)[d.length]?=l[0]?:=by refine aZ (jV (ek _)) ?_;rw [Nat.sub_self]
theorem Ai(F:Fm c.env k_ 7 xU){i:aa}(H:s.length<=100000)(A:i<=s.length)(X:(match s[i]? with|U (.str _)=>ae|U .atom=>ak|af=>ak|_=>!e)=e):
  EC c k_ 7 [.t (.list s),.t .atom,d,m,.t (.int i),.t (.int s.length),u] (.BoolOp .And [.Compare (.Name "i" E) [.Lt] [.Name "n" t7] o,.Compare (.Subscript (.Name "inp" x) (.Name "i" b) l) [.IsNot] [.Name "STAR" k] n] t) [.t (.list s),.t .atom,d,m,.t (.int i),.t (.int s.length),u] e:=by
 by_cases h:i<s.length
 .rw [cP h]at X;cases j:s[i]with
  |str a=>
   simp only [j]at X;refine gY (b:=ae&&(ae&&ae)) (gX (zC (zv F 4 J J) (zv F 5 J J) (mO (decide_eq_true (jF.mpr (h)))) J) λy=>gX (zC (ee (zv F 0 J J) (zv F 4 J J) (iA (by omega) (by refine aZ (cP h) ?_;rw [j])) J) (zv F 1 J J) J J) λy=>nQ) X
  |atom=>
   rw [j]at X;refine gY (b:=ae&&(ak&&ae)) (gX (zC (zv F 4 J J) (zv F 5 J J) (mO (decide_eq_true (jF.mpr (h)))) J) λy=>gX (zC (ee (zv F 0 J J) (zv F 4 J J) (iA (by omega) (by refine aZ (cP h) ?_;exact aL _ (j))) J) (zv F 1 J J) J J) λy=>nQ) X
  |_=>simp only [j]at X;cases e<;>exact nomatch X
 .rw [adg ((oY h))]at X;exact gY (gX (b₂:=ak) (zC (zv F 4 J J) (zv F 5 J J) (mO (decide_eq_false (λB=>oB (g_ 0 (.n 1) (.n 0) (.v 1) (.v 0) (.a (.v 0) (.n 1)) (.v 1) J [_,_] ((oY h)) ((jF.mp B)))))) J) nofun) X
theorem Vg(F:Fm c.env k_ 7 xU)(H:s.length<=100000)(i:b=[]\/∃r,b=.atom::r):∀(p:Y _)(l:Y T)(o:Y T),s=l++(tS p++b)->o.length+p.length<=100000->
  EW c k_ 7 (jD (uY 3)) (k9 (uY 3)) [] p.length [.t (.list s),.t .atom,.fN o,.jf,.t (.int l.length),.t (.int s.length),a6] [.t (.list s),.t .atom,.fN (o++tS p),.jf,.t (.int (l.length+p.length:aa)),.t (.int s.length),a6] .next:=λx=>x.rec
 (λl o h y=>by
  have k:o++tS []=o:=nV _;rw [k]
  exact kE (Ai F H (by rw [h];simp) (by rw [(by exact(h)▸(tw _ _):s[l.length]?=b[0]?)];rcases i with rfl|⟨r,rfl⟩<;>rfl)) eS)
 (λa p f l o h e=>by
  simp only [m4]at e;have A:s[l.length]?=U (.str a):=by rw [h];exact tw _ _
  have t:EX c k_ 7 [.t (.list s),.t .atom,.fN o,.jf,.t (.int l.length),.t (.int s.length),a6] (k9 (uY 3)) [.t (.list s),.t .atom,.fN (o++[.str a]),.jf,.t (.int (l++[T.str a]).length),.t (.int s.length),a6] .next:=zx (oN F 2 3 J J J (ee (zv F 0 J J) (zv F 4 J J) (iA (by have:=(ck.mp A).1;omega) A) J) J J J (eE (dg 0 (.v 0) (.n 1000000) (.a (.v 0) (.a (.v 1) (.n 1))) (.n 100000) J [_,_] e))) (cX (p6 F 4 J (cE _ _) J (zi 1) (pX (by simp))) J)
  exact lj (Ai F H (by have:=(ck.mp A).1;exact gm ‹_›) (A.symm▸J)) t ((by simp;exact lz (lO (.a (.a (.v 0) (.n 1)) (.v 1)) (.a (.v 0) (.a (.v 1) (.n 1))) J [_,_]) (lO (.a (.v 0) (.a (.v 1) (.n 1))) (.a (.a (.v 0) (.n 1)) (.v 1)) J [_,_]):(l++[T.str a]).length+p.length=l.length+(a::p).length)▸(by simp:(o++[T.str a])++tS p=o++tS (a::p))▸(f (l++[.str a]) (o++[.str a]) (by refine aZ (h) ?_;simp) (by simp;exact dg 0 (.a (.a (.v 0) (.n 1)) (.v 1)) (.n 100000) (.a (.v 0) (.a (.v 1) (.n 1))) (.n 100000) J [_,_] e))))
noncomputable abbrev s4:Y b9:=k9 (uY 4)
theorem Vf(F:Fm i.env k_ 7 xU)(H:s.length<=100000)(e:b=[]\/∃r,b=.atom::r):∀(p:Y _)(l:Y T)(o:Y T),s=l++(tS p++b)->o.length+p.length<=100000->
  EW i k_ 7 (jD (dZ 5 s4)) (k9 (dZ 5 s4)) [] p.length [.t (.list s),.t .atom,a2,a3,.t (.int l.length),.t (.int s.length),.own o] [.t (.list s),.t .atom,a2,a3,.t (.int (l.length+p.length:aa)),.t (.int s.length),.own (o++tS p)] .next:=λk=>k.rec
 (λl o h y=>by
  have x:o++tS []=o:=nV _;rw [x]
  exact kE (Ai F H (by rw [h];simp) (by rw [(by exact(h)▸(tw _ _):s[l.length]?=b[0]?)];rcases e with rfl|⟨r,rfl⟩<;>rfl)) eS)
 (λa p f l o h c=>by
  simp only [m4]at c;have A:s[l.length]?=U (.str a):=by exact(h)▸(tw _ _)
  have r:=f (l++[.str a]) (o++[.str a]) (by refine aZ (h) ?_;simp) (by simp;exact dg 0 (.a (.a (.v 0) (.n 1)) (.v 1)) (.n 100000) (.a (.v 0) (.a (.v 1) (.n 1))) (.n 100000) J [_,_] c);simp only [(by simp:(o++[T.str a])++tS p=o++tS (a::p)),(by simp;exact lz (lO (.a (.a (.v 0) (.n 1)) (.v 1)) (.a (.v 0) (.a (.v 1) (.n 1))) J [_,_]) (lO (.a (.v 0) (.a (.v 1) (.n 1))) (.a (.a (.v 0) (.n 1)) (.v 1)) J [_,_]):(l++[T.str a]).length+p.length=l.length+(a::p).length)]at r
  exact lj (Ai F H (by have:=(ck.mp A).1;exact gm ‹_›) (A.symm▸J)) (zx (uu F 6 J J (ee (zv F 0 J J) (zv F 4 J J) (iA (by have:=(ck.mp A).1;omega) A) J) J J J (eE (dg 0 (.v 0) (.n 1000000) (.a (.v 0) (.a (.v 1) (.n 1))) (.n 100000) J [_,_] c))) (cX (p6 F 4 J (cE _ _) J (zi 1) (pX (by simp))) J)) r)
noncomputable def outF:Y (Y (Y aa))->Y (Y aa)
 |[]=>[]
 |[A]=>if A=[]then [[46,42]]else [[46,42],A.flatten]
 |A::r=>([40,63,62,46,42,63]++A.flatten++[41])::outF r
theorem LZ:outF [A]=if A=[]then [[46,42]]else [[46,42],A.flatten]:=J
theorem Yc:outF (A::b::r)=([40,63,62,46,42,63]++A.flatten++[41])::outF (b::r):=J
noncomputable def Cn:Y (Y (Y aa))->Prop
 |[]=>True
 |[_]=>True
 |A::r=>A≠[]/\Cn r
noncomputable abbrev rT(s o:Y T)(i:aF)(u:AV q):Y (AV q):=[.t (.list s),.t .atom,.fN o,.jf,.t (.int i),.t (.int s.length),u]
theorem Vh(F:Fm c.env k_ 7 xU){s:Y T}(H:s.length<=1000):∀(i:Y _)(l o:Y T)(u:AV j),s=l++(i.map jQ).flatten->Cn i->(∀A∈i,A.flatten.length<=100000)->o.length+2*i.length<=100000->
  ∃t,EW c k_ 7 (jD (uY 4)) s4 [] (i.length) (rT s o l.length u) (rT s (o++tS (outF i)) s.length t) .next:=λz=>z.rec
 (λl o u k y y y=>by
  have e:o++tS (outF [])=o:=nV _;rw [e,(by rw [k];simp:l.length=s.length)]
  exact⟨u,kE (zC (zv F 4 J J) (zv F 5 J J) (mO (decide_eq_false (λB=>oB (dg 0 (.n 1) (.n 0) (.a (.v 0) (.n 1)) (.v 0) J [_] ((jF.mp B)))))) J) eS⟩)
 (λA r aq l o u k L p h=>by
  simp only [m4]at h;have R:s=l++(T.atom::(tS A++(r.map jQ).flatten)):=by refine aZ (k) ?_;rfl
  have Q:s.length=l.length+1+A.length+(r.map jQ).flatten.length:=by rw [R];simp [tS];exact lz (lO (.a (.v 0) (.a (.a (.v 1) (.v 2)) (.n 1))) (.a (.a (.a (.v 0) (.n 1)) (.v 1)) (.v 2)) J [_,_,_]) (lO (.a (.a (.a (.v 0) (.n 1)) (.v 1)) (.v 2)) (.a (.v 0) (.a (.a (.v 1) (.v 2)) (.n 1))) J [_,_,_])
  have aj:s[l.length]?=U .atom:=by exact(R)▸(tw _ _)
  have w:s=(l++[T.atom])++(tS A++(r.map jQ).flatten):=by refine aZ (R) ?_;simp
  have g:EC c k_ 7 (rT s o l.length u) (jD (uY 4)) (rT s o l.length u) ae:=
   zC (zv F 4 J J) (zv F 5 J J) (mO (decide_eq_true (jF.mpr (dg 0 (.a (.v 1) (.n 1)) (.v 0) (.a (.a (.a (.v 1) (.n 1)) (.v 2)) (.v 3)) (.v 0) J [_,_,_,_] ((qv Q)))))) J
  have v:∀{S:Y (AV j)}{x:fg},EX c k_ 7 (rT s o (l++[T.atom]).length u) (s4.drop 2) S x->
    EX c k_ 7 (rT s o l.length u) s4 S x:=λP=>
   zx (yu (zC (ee (zv F 0 J J) (zv F 4 J J) (iA (by omega) aj) J) (zv F 1 J J) J J)) (NW (p6 F 4 J (cE _ _) J (zi 1) (pX (by simp))) J P)
  have E:(l++[T.atom]).length=l.length+1:=by simp
  cases A with
  |nil=>
   have ao:r=[]:=by
    cases r with
    |nil=>rfl
    |cons _ _=>exact bE J L.1
   subst ao;have X:s.length=(l++[T.atom]).length:=by simp at Q⊢;exact lz ((mC Q)) ((qv Q))
   refine⟨u,BD g (v ?_)⟩;rw [X];have e:o++tS (outF [[]])=o++[.str [46,42]]:=J;exact ux (cJ (b:=ae) (zC (zv F 4 J J) (zv F 5 J J) (aL U (by exact(X)▸(beq_self_eq_true _))) J) (zx (oN F 2 3 J J J (zs [46,42] (cB ['.','*'])) J J J (eE (dg 0 (.v 0) (.n 1000000) (.a (.v 0) (.m 2 (.a (.n 0) (.n 1)))) (.n 100000) J [_] h))) (ux FI)))
  |cons a A=>
   have d:(((l++[T.atom]).length:aF)==(s.length:aF))=ak:=by
    have:(a::A).length=A.length+1:=J;rw [beq_eq_false_iff_ne];exactλB=>oB (rW 0 (.n 1) (.n 0) (.v 0) (.a (.v 1) (.n 1)) (.a (.a (.a (.v 1) (.n 1)) (.a (.v 3) (.n 1))) (.v 4)) (.v 2) (.v 2) (.v 0) J [_,_,_,_,_] ((mC E)) ((qv Q)) ((qv (BJ B))))
   have O:(r.map jQ).flatten=[]\/∃q,(r.map jQ).flatten=.atom::q:=by
    cases r with
    |nil=>exact .inl J
    |cons b r=>exact .inr ⟨_,J⟩
   have n:=p (a::A) gj;have G:=Vf F (a2:=.fN o) (a3:=.jf) (by exact aJ H (aC J)) O (a::A) (l++[T.atom]) [] w (by have:(a::A).length=A.length+1:=J;simp;exact g_ 0 (.v 2) (.n 99999) (.v 0) (.n 1000) (.a (.a (.a (.v 1) (.n 1)) (.a (.v 2) (.n 1))) (.v 3)) (.v 0) J [_,_,_,_] H ((qv Q)));simp only [yM]at G;have m:∀{S:Y (AV j)}{x:fg},EX c k_ 7 (rT s o ((l++[T.atom]).length+(a::A).length:aa) (.t (.str (a::A).flatten))) (s4.drop 7) S x->
     EX c k_ 7 (rT s o (l++[T.atom]).length u) (s4.drop 2) S x:=λau=>
    zx (cJ (b:=ak) (zC (zv F 4 J J) (zv F 5 J J) (aL U d) J) eS) (zx (yu (zC (ee (zv F 0 J J) (zv F 4 J J) (iA (by omega) (by exact(w)▸(tw _ _):s[(l++[T.atom]).length]?=U (.str a))) J) (zv F 1 J J) J J))
     (zx (oS F 6 J (by exact eH _) (p7 cR J) J) (zx (jT G) (zx (dD F 6 J (by exact eH _) (FT (zs [] (cB [])) (kD F 6 J J) J J J (by exact aJ n (aC J))) J) au))))
   have aH:(a::A).length=A.length+1:=J;cases r with
   |nil=>
    have X:((l++[T.atom]).length+(a::A).length:aa)=s.length:=by simp at Q⊢;exact lz ((qv Q)) ((mC Q))
    rw [X]at m;refine⟨.t (.str (a::A).flatten),lj g (v (m ?_)) (kE (zC (zv F 4 J J) (zv F 5 J J) (mO (decide_eq_false (by exactλB=>oB (dg 0 (.n 1) (.n 0) (.a (.v 0) (.n 1)) (.v 0) J [_] ((jF.mp B)))))) J) eS)⟩;have e:o++tS (outF [a::A])=(o++[.str [46,42]])++[.str (a::A).flatten]:=by simp [LZ,tS]
    exact(e)▸(cX (cJ (b:=ae) (zC (zv F 4 J J) (zv F 5 J J) (aL U (beq_self_eq_true _)) J) (zx (oN F 2 3 J J J (zs [46,42] (cB ['.','*'])) J J J (eE (by exact dg 0 (.v 0) (.n 1000000) (.a (.v 0) (.m 2 (.a (.n 0) (.n 1)))) (.n 100000) J [_] h))) (zx (oN F 2 3 J J J (zv F 6 J J) J J J (eE (by simp;exact dg 0 (.v 0) (.n 999999) (.a (.v 0) (.m 2 (.a (.n 0) (.n 1)))) (.n 100000) J [_] h))) eS))) J)
   |cons b r=>
    have aB:((((l++[T.atom]).length+(a::A).length:aa):aF)==(s.length:aF))=ak:=by
     rw [beq_eq_false_iff_ne];have:0<((eO jQ (b::r)).flatten).length:=by simp [jQ]
     exactλB=>oB (D9 0 (.n 1) (.n 0) (.v 0) (.a (.v 1) (.n 1)) (.a (.a (.a (.v 1) (.n 1)) (.a (.v 2) (.n 1))) (.v 4)) (.v 3) (.a (.n 0) (.n 1)) (.v 4) (.v 3) (.a (.v 0) (.a (.v 2) (.n 1))) J [_,_,_,_,_] ((mC E)) ((qv Q)) this ((qv (BJ B))))
    have az:(l++jQ (a::A)).length=(l++[T.atom]).length+(a::A).length:=by simp [jQ];exact lz (lO (.a (.v 0) (.a (.a (.v 1) (.n 1)) (.n 1))) (.a (.a (.v 0) (.n 1)) (.a (.v 1) (.n 1))) J [_,_]) (lO (.a (.a (.v 0) (.n 1)) (.a (.v 1) (.n 1))) (.a (.v 0) (.a (.a (.v 1) (.n 1)) (.n 1))) J [_,_])
    refine bC (aq (l++jQ (a::A)) (o++[.str ([40,63,62,46,42,63]++(a::A).flatten++[41])]) (.t (.str (a::A).flatten)) (by refine aZ (k) ?_;exact(kG _ _ _).symm) L.2 (λaG f=>p aG (fF _ f)) (by simp at h⊢;exact dg 0 (.a (.a (.v 0) (.n 1)) (.m 2 (.a (.v 1) (.n 1)))) (.n 100000) (.a (.v 0) (.m 2 (.a (.a (.v 1) (.n 1)) (.n 1)))) (.n 100000) J [_,_] h)) λt q=>?_;rw [az]at q;refine⟨t,?_⟩;have e:o++tS (outF ((a::A)::b::r))=(o++[.str ([40,63,62,46,42,63]++(a::A).flatten++[41])])++tS (outF (b::r)):=by simp [Yc,tS]
    rw [e]
    exact lj g (v (m (cX (cJ (b:=ak) (zC (zv F 4 J J) (zv F 5 J J) (aL U aB) J) (zx (oN F 2 3 J J J (yw (zj (zs [40,63,62,46,42,63] (cB ['(','?','>','.','*','?'])) (by exact cE _ _) (zj (yv (zv F 6 J J) (by exact aJ n (aC J))) (by simp;simp at n;exact aJ n (aC J)) (zj (zs [41] (cB [')'])) (by simp;simp at n;exact dg 0 (.a (.v 0) (.a (.v 1) (.n 1))) (.n 999994) (.a (.v 0) (.v 1)) (.n 100000) J [_,_] n) yz))) (by simp;simp at n;exact dg 0 (.a (.v 0) (.a (.v 1) (.n 1))) (.n 999994) (.a (.v 0) (.v 1)) (.n 100000) J [_,_] n)) J J J (eE (by exact dg 0 (.v 0) (.n 1000000) (.a (.v 0) (.m 2 (.a (.a (.v 1) (.n 1)) (.n 1)))) (.n 100000) J [_,_] h))) eS)) J))) q)
end
section
variable{y:Ly O}
noncomputable def vv(m:Y (Y aa))(a:Y (Y (Y aa))):Y aa:=z6++(m++outF a).flatten++aaC
theorem abg(E:y.D "_join_translated_parts" 16)(m:Y _)(h:Y _)(L:Cn h)(p:∀j∈h,j.flatten.length<=100000)(H:(tS m++(h.map jQ).flatten).length<=1000)(d:(vv m h).length<=100000):
  y.F (n+1) "_join_translated_parts" [.list (tS m++(h.map jQ).flatten),.atom] (.str (vv m h)):=by
 refine y.fn 16 k_ xU E J (J) (J) (dQ J) (λv code t=>tB λk k=>J) λb X B x F=>?_;generalize A:tS m++(h.map jQ).flatten=s at H;have i:m.length+2*h.length<=100000:=by
  have:h.length<=(h.map jQ).flatten.length:=by
   clear A L p d
   induction h with
   |nil=>simp
   |cons a r f=>simp [jQ]at f⊢;exact dg 0 (.v 0) (.a (.v 2) (.v 1)) (.v 0) (.v 1) J [_,_,_] f
  rw [<-A]at H;simp at H this;exact D9 0 (.a (.v 0) (.m 2 (.v 2))) (.n 100000) (.a (.v 0) (.v 1)) (.n 1000) (.a (.v 0) (.v 1)) (.n 1000) (.v 2) (.v 1) (.v 2) (.v 1) J [_,_,_] H H this this
 have O:(h.map jQ).flatten=[]\/∃q,(h.map jQ).flatten=.atom::q:=by
  cases h with
  |nil=>exact .inl J
  |cons o r=>exact .inr ⟨_,J⟩
 have e:(m++outF h).flatten.length<=100000:=by unfold vv at d;simp at d⊢;exact dg 0 (.a (.v 1) (.v 2)) (.n 100000) (.a (.v 0) (.a (.v 1) (.a (.v 2) (.v 3)))) (.n 100000) J [_,_,_,_] d
 refine⟨[.t (.list s),.t .atom,.t (.str (m++outF h).flatten),.un,.t (.int s.length),.t (.int s.length),.un],ND F 2 J (dQ J) (λa=>?_) J J⟩;have T:=Vg (c:=(y.c b X B n x).re a) F (a6:=.un) (aJ H (aC J)) O m [] [] (by(symm;assumption)) (by simp;exact dg 0 (.v 0) (.n 100000) (.a (.v 0) (.m 2 (.v 1))) (.n 100000) J [_,_] i);refine bC (Vh (c:=(y.c b X B n x).re a) F (H) h (tS m) (tS m) .un A.symm L p (by rw [b5];exact i)) λu l=>?_;rw [yM,OF,l7,<-b5]at T;refine qK (qN (aV:=[.t (.list s),.t .atom,.t (.str (m++outF h).flatten),.un,.t (.int s.length),.t (.int s.length),u]) 6 (zx (NG F 2 3 J J J (dQ J)) (zx (z2 F 4 5 4 5 J (dQ J) J (fH _ _) J J (zr (zi 0) (zr (v9 F 7 J (zv F 0 J J) (eE (aJ H (aC J))) J) cR J) J) J (J) J J J J) (zx (jT T) (zx (jT l) (zx (yu (zC (zv F 4 J J) (zv F 5 J J) (aL U (beq_self_eq_true _)) J)) ?_)))))) J;rw [(dO.symm:tS m++tS (outF h)=tS (m++outF h))];exact NQ 2 J (Np 3 (zx (dD F 2 J (dQ J) (FT (zs [] (cB [])) (kD F 2 J J) J J J (aJ e (aC J))) J) (fU (iS (yw (out:=vv m h) (zj (zs [40,63,115,58] (cB ['(','?','s',':'])) (cE _ _) (zj (yv (zv F 2 J J) (aJ e (aC J))) (by simp only [dM,m4,OF,yM];exact dg 0 (.a (.a (.a (.a (.a (.n 0) (.n 1)) (.n 1)) (.n 1)) (.n 1)) (.v 0)) (.n 1000000) (.v 0) (.n 100000) J [_] e) (zj (zs [41,92,90] (cB [')','\\','Z'])) (by simp only [dM,m4,OF,yM];exact dg 0 (.a (.a (.a (.a (.a (.a (.n 0) (.n 1)) (.n 1)) (.n 1)) (.n 1)) (.v 0)) (.a (.a (.a (.n 0) (.n 1)) (.n 1)) (.n 1))) (.n 1000000) (.v 0) (.n 100000) J [_] e) yz))) (by exact aJ d (aC J)))))))
end
section
variable{c:Cx O}
theorem FU{o P O:bW}{x w:Y aa}(L:EE c n k m o g (.str t))(p:EE c n k g P H (.str x))(h:EE c n k H O j (.str w))(e:attributeBase o "replace" c.env (eval o c.env)=eval o c.env)
  (R:dX P=ae)(a:dX O=ae)(T:(b.endLine==i.line)=ae)(s:(N8 ⟨t.toArray⟩ ⟨x.toArray⟩ 0 t.length (t.length+1)).isEmpty=ae):EE c n k m (.Call (.Attribute o "replace" b) [P,O] [] i) j (.str t):=
 BB GQ GR L (zr p (zr h cR a) R) e (by simp [R,a]) (cE _ _) T λr v z d q=>by
  refine jw q.Bs λu B l f E=>?_;subst l;exact YK d f E s
noncomputable def n9:Y (ai×fe):=[("pat",.local),("STAR",.local),("QUESTION_MARK",.local),("res",.local),("add",.local),("i",.local),("n",.local),("c",.local),("j",.local),("stuff",.local),("chunks",.local),("k",.local),("chunk",.local),("len",.globalImplicit),("range",.globalImplicit),("_twin_re_1",.globalImplicit),("escape",.globalImplicit)]
noncomputable def x9:Y ai:=["pat","STAR","QUESTION_MARK","res","add","i","n","c","j","stuff","chunks","k","chunk"]
noncomputable abbrev B9:Y b9:=k9 (dZ 3 (cZ (bz 15)))
noncomputable abbrev L9(f:Y aa)(o:Y T)(i:aa)(e c L A P r:AV O):Y (AV O):=[.t (.str f),.t .atom,.t (.str [46]),.fN o,.jf,.t (.int i),.t (.int f.length),e,c,L,A,P,r]
theorem yo(F:Fm c.env x9 13 n9)(O:f.length<=1000)(h:f[i]?=U a)(k:EX c x9 13 (L9 f o (i+1) (.t (.str [a])) e L A P r) (B9.drop 2) m x):EX c x9 13 (L9 f o i b e L A P r) B9 m x:=by
 have H:=(ck.mp h).1;exact zx (dD F 7 J (cE _ _) (ee (zv F 0 J J) (zv F 5 J J) (iP (by omega) h) J) J) (NW (dD F 5 J (cE _ _) (dw (zv F 5 J J) (zi 1) (lT (J))) J) J k)
theorem oJ(h:decide (a=b)=d):gp .Eq (.str [a]) (.str [b])=U d:=by
 refine nG ?_;rw [<-h,oU];simp
theorem aa4(F:Fm c.env x9 13 n9)(O:f.length<=1000)(h:f[i]?=U 42)(T:o=[]\/∃q s,o=q++[.str s])(H:o.length<=100000):
  EX c x9 13 (L9 f o i a7 a8 a9 iJ jr ru) B9 (L9 f (o++[.atom]) (i+1) (.t (.str [42])) a8 a9 iJ jr ru) .next:=by
 have v:EC c x9 13 (L9 f o (i+1) (.t (.str [42])) a8 a9 iJ jr ru) (oj (dZ 0 (vo (dZ 2 B9)))) (L9 f o (i+1) (.t (.str [42])) a8 a9 iJ jr ru) ae:=by
  rcases T with rfl|⟨q,s,rfl⟩
  .exact Ni 3 J J (gY (b:=ae||ak) (ur (sj (b:=ak) (By F 3 J J J)) nofun) J) J
  .exact Ni 3 J J (gY (b:=ak||(ae||ak)) (ur (sj (By (b:=ae) F 3 J J (A7 (aJ H (aC J)) (by simp)))) λy=>ur (zC (qL F 3 J J (FY (sA 1)) (Mv (t:=.str s) (by simp)) J) (zv F 1 J J) J J) nofun) J) J
 exact yo F O h (cX (cJ (b:=ae) (zC (zv F 7 J J) (zs [42] (cB ['*'])) J J) (cX (cJ v (cX (oN F 3 4 J J J (zv F 1 J J) J J J (eE (aJ H (aC J)))) J)) J)) J)
theorem aa3(F:Fm c.env x9 13 n9)(O:f.length<=1000)(h:f[i]?=U 63)(H:o.length<=100000):
  EX c x9 13 (L9 f o i a e L A P r) B9 (L9 f (o++[.str [46]]) (i+1) (.t (.str [63])) e L A P r) .next:=
 yo F O h (cX (cJ (b:=ak) (zC (zv F 7 J J) (zs [42] (cB ['*'])) J J) (cX (cJ (b:=ae) (zC (zv F 7 J J) (zs [63] (cB ['?'])) J J) (cX (oN F 3 4 J J J (zv F 2 J J) J J J (eE (aJ H (aC J)))) J)) J)) J)
theorem aa0(F:Fm c.env x9 13 n9)(O:f.length<=1000)(h:f[i]?=U a)(Q:a∉[42,63,91])(X:CN c "escape" [.str [a]] (.str (ie a)))(H:o.length<=100000):
  EX c x9 13 (L9 f o i x e L A P r) B9 (L9 f (o++[.str (ie a)]) (i+1) (.t (.str [a])) e L A P r) .next:=by
 simp only [cQ,dP,or_false,not_or]at Q
 exact yo F O h (cX (cJ (zC (zv F 7 J J) (zs [42] (cB ['*'])) (oJ (decide_eq_false Q.1)) J) (cX (cJ (zC (zv F 7 J J) (zs [63] (cB ['?'])) (oJ (decide_eq_false Q.2.1)) J)
  (cX (cJ (zC (zv F 7 J J) (zs [91] (cB ['['])) (oJ (decide_eq_false Q.2.2)) J) (cX (oN F 3 4 J J J (oO F 16 J (zr (zv F 7 J J) cR J) X J) J J J (eE (aJ H (aC J)))) J)) J)) J)) J)
noncomputable abbrev R9:Y b9:=vo (dZ 0 (kr (dZ 0 (kr (dZ 2 B9)))))
theorem w5(d:aa)(Q:a∈[42,63,91])(h:([42,63,91].all λx=>!qb x d)=ae):a≠d:=λe=>by
 have:=e7.mp h a Q;rw [e,OK]at this;exact cW J this
theorem occ_none{s:Y aa}{d:aa}(h:d∉s)(g:aa)(c:1<=g):(N8 ⟨s.toArray⟩ ⟨[d].toArray⟩ 0 s.length g).isEmpty=ae:=by
 rcases PySem.StrLaws.occ_head _ _ g c with⟨e,_⟩|⟨i,r,e,Q,_⟩
 .exact aL _ (e)
 .exact bE (cL (Qt.mp Q)) h
theorem aaZ(F:Fm c.env x9 13 n9)(hp:pat.length<=1000)(h0:pat[i]?=U 91)(h1:pat[i+1]?=U a)(h2:pat[i+2]?=U 93)(ha:a∈[42,63,91])(hl:acc.length<=100000)
  (UI:∀lv,lv[9]?=U (.t (.str [a]))->EE c x9 13 lv (zy (dZ 2 (kr (dZ 4 R9)))) lv (.str [a])):
  EX c x9 13 (L9 pat acc i a7 a8 a9 iJ jr ru) B9 (L9 pat (acc++[.str (kR a)]) (i+3) (.t (.str [91])) (.t (.int (i+2:aa))) (.t (.str (if a=91 then [92,a]else [a]))) iJ jr ru) .next:=by
 have z_:=(ck.mp h2).1;have AB:=eq_false (w5 33 ha J);have KG:=eq_false (w5 93 ha J);have WT:45∉[a]:=λh=>w5 45 ha J (cD.mp h).symm;have Ah:∀{lv:Y (AV O)}{j:aa}{p p' q:fR},lv[8]?=U (.t (.int j))->lv[6]?=U (.t (.int pat.length))->j<pat.length->EC c x9 13 lv (.Compare (.Name "j" p) [.Lt] [.Name "n" p'] q) lv ae:=λh8 h6 hj=>
  zC (zv F 8 J h8) (zv F 6 J h6) (mO (decide_eq_true (jF.mpr (hj)))) J
 refine yo F hp h0 (cX (cJ (b:=ak) (zC (zv F 7 J J) (zs [42] (cB ['*'])) J J) (cX (cJ (b:=ak) (zC (zv F 7 J J) (zs [63] (cB ['?'])) J J) (cX (cJ (b:=ae) (zC (zv F 7 J J) (zs [91] (cB ['['])) J J) (zx (dD F 8 J (by exact cE _ _) (zv F 5 J J) J) (zx (cJ (b:=ak) (gY (b:=ae&&(ak&&ae)) (gX (Ah J J (by exact dg 0 (.a (.a (.v 0) (.n 1)) (.n 1)) (.v 1) (.a (.a (.v 0) (.n 2)) (.n 1)) (.v 1) J [_,_] z_)) λrq=>gX (zC (ee (zv F 0 J J) (zv F 8 J J) (iP (by omega) h1) J) (zs [33] (cB ['!'])) (oJ (by simp [AB])) J) λrq=>nQ) J) eS) (zx (cJ (b:=ak) (gY (b:=ae&&(ak&&ae)) (gX (Ah J J (by exact dg 0 (.a (.a (.v 0) (.n 1)) (.n 1)) (.v 1) (.a (.a (.v 0) (.n 2)) (.n 1)) (.v 1) J [_,_] z_)) λrq=>gX (zC (ee (zv F 0 J J) (zv F 8 J J) (iP (by omega) h1) J) (zs [93] (cB [']'])) (oJ (by simp [KG])) J) λrq=>nQ) J) eS) (zx (jT (lj (n:=0) (gY (b:=ae&&(ae&&ae)) (gX (Ah J J (by exact Nat.lt_of_succ_lt ‹_›)) λrq=>gX (zC (ee (zv F 0 J J) (zv F 8 J J) (iP (by omega) h1) J) (zs [93] (cB [']'])) (qD (by simp [KG])) J) λrq=>nQ) J)
  (cX (dD F 8 J (by exact cE _ _) (dw (zv F 8 J J) (zi 1) (lT (d:=(i+2:aa)) (by exact J))) J) J)
  (kE (gY (b:=ae&&(ak&&ae)) (gX (Ah J J (by exact z_)) λrq=>gX (zC (ee (zv F 0 J J) (zv F 8 J J) (iP (by omega) h2) J) (zs [93] (cB [']'])) (qD J) J) λrq=>nQ) J) eS))) ?_))))) J)) J)) J)
 have Uq:cut (U ((i+1:aa):aF)) (U ((i+2:aa):aF)) pat=[a]:=by
  simp only [CF,Gw,show i+2-(i+1)=1 by exact lz (dg 0 (.v 1) (.n 1) (.a (.v 1) (.a (.v 0) (.n 1))) (.a (.v 0) (.n 2)) J [_,_] ((vD (lO (.a (.v 0) (.n 1)) (.a (.v 0) (.n 2)) J [_])))) (dg 0 (.n 1) (.v 1) (.a (.v 0) (.n 2)) (.a (.v 1) (.a (.v 0) (.n 1))) J [_,_] x8)];have:=(ck.mp h1);simp only [uC this.1,this.2];rfl
 refine cX (cJ (b:=ak) (zC (zv F 8 J J) (zv F 6 J J) (aL U (decide_eq_false (by exactλUE=>oB (g_ 0 (.n 1) (.n 0) (.a (.a (.v 0) (.n 2)) (.n 1)) (.v 1) (.v 1) (.a (.v 0) (.n 2)) J [_,_] z_ ((mZ.mp UE)))))) J) (zx (dD F 9 J (by exact cE _ _) (j8 (zv F 0 J J) (iB (zv F 5 J J)) (iB (zv F 8 J J)) (qE (by exact aJ hp (aC J)) Uq)) J) (zx (cJ (b:=ae) (zC (zs [45] (cB ['-'])) (zv F 9 J J) (aL U (by simp [WT])) J) (cX (dD F 9 J (by exact cE _ _) (FU (zv F 9 J J) (zs [92] (cB ['\\'])) (zs [92,92] (cB ['\\','\\'])) J J J J (occ_none (λh=>w5 92 ha J (cD.mp h).symm) _ (by exact fH _ _))) J) J)) (zx (dD F 9 J (by exact cE _ _) (UI _ J) J) (zx (dD F 5 J (by exact cE _ _) (dw (zv F 8 J J) (zi 1) (lT (d:=(i+3:aa)) (by exact J))) J) (cX (cJ (b:=ak) (sj (b:=ae) (j6 (zv F 9 J J) J λrq=>J)) (cX (cJ (b:=ak) (zC (zv F 9 J J) (zs [33] (cB ['!'])) (oJ (by simp [AB])) J) ?_) J)) J)))))) J;have z8:gp .In (.str [a]) (.tup [.str [94],.str [91]])=U (decide (a=91)):=by
  show jc (.str [a]) ([[94],[91]].map .str)=_;simp only [Ad];simp [(eq_false (w5 94 ha J))]
 by_cases vj:a=91
 .rw [decide_eq_true vj]at z8;have e:kR a=[91]++[92,a]++[93]:=by subst vj;rfl
  rw [bx vj,e]
  exact zx (cJ (b:=ak) (zC (ee (zv F 9 J J) (zi 0) J J) (zs [33] (cB ['!'])) (oJ (by simp [AB])) J)
   (cX (cJ (b:=ae) (zC (ee (zv F 9 J J) (zi 0) J J) (FZ (zr (zs [94] (cB ['^'])) (zr (zs [91] (cB ['['])) cR J) J) J) z8 J)
    (cX (dD F 9 J (by exact cE _ _) (dw (zs [92] (cB ['\\'])) (zv F 9 J J) J) J) J)) J)) (cX (oN F 3 4 J J J (yw (zj (zs [91] (cB ['['])) (by exact cS _) (zj (yv (zv F 9 J J) (by exact cE _ _)) (by exact cE _ _) (zj (zs [93] (cB [']'])) (by exact cE _ _) yz))) (by exact cE _ _)) J J J (eE (by exact aJ hl (aC J)))) J)
 .rw [decide_eq_false vj]at z8;have e:kR a=[91]++[a]++[93]:=by unfold kR;refine aZ (bx ha) ?_;rw [bA vj];rfl
  rw [bA vj,e]
  refine zx (cJ (b:=ak) (zC (ee (zv F 9 J J) (zi 0) J J) (zs [33] (cB ['!'])) (oJ (by simp [AB])) J)
   (cX (cJ (b:=ak) (zC (ee (zv F 9 J J) (zi 0) J J) (FZ (zr (zs [94] (cB ['^'])) (zr (zs [91] (cB ['['])) cR J) J) J) z8 J) eS) J)) ?_
  exact cX (oN F 3 4 J J J (yw (zj (zs [91] (cB ['['])) (by exact cS _) (zj (yv (zv F 9 J J) (by exact cS _)) (by exact cE _ _) (zj (zs [93] (cB [']'])) (by exact cE _ _) yz))) (by exact cE _ _)) J J J (eE (by exact aJ hl (aC J)))) J
noncomputable abbrev pn:bW:=zy (dZ 2 (kr (dZ 4 R9)))
end
section
noncomputable def Ly.DC(O:Ly q)(X:ai)(i:aa)(k:aD):Prop:=∃a o u x,O.mg X=U (.ref a)/\(∀{h},bG O.B.bO h->h.get? a=U o)/\o.data=.func (docDef X (ik (bz i)) (cZ (bz i)) (eK (bz i)) u k x)/\(∀{h},bG O.B.bO h->h.CodeRec k X)
theorem Ly.TL(O:Ly q)(i:aa)(n:Y ai)(o:Y _)(D:O.DC h i k)(c:(eK (bz i)).names=o)(l:yh (eK (bz i)) n=ae)(p:oh o n n.length=ae)
  (Q:E.length<=n.length)(s:∀u code x(z:Y aD),z.length=E.length->bindArgs (docDef h (ik (bz i)) (cZ (bz i)) (eK (bz i)) u code x) ⟨z,[]⟩=pure (fh n z))
  (v:∀F X B(e:dB F g),Fm B n n.length o->B.code=k->B.qual=h++".<locals>."->∃S,EX (O.c F X B g e) n n.length (rS n E) (cZ (bz i)) S (.ret r)):O.F (g+1) h E r:=zQ D λj b u x R w t f=>(nu j b _ R w t (HS O.G w t f J J (lU l) J J Q (s u k x) λm F X e=>(v F X _ e (ko p c) J J).imp λy a=>a.1))
end
noncomputable abbrev nL(l:Y aa):T:=.list (l.map λ(x:aa)=>T.int x)
noncomputable abbrev rL(l:Y aF):Y T:=l.map .int
noncomputable def k6(P:aa)(b:Y aF):aa->aa->aa
 |0,p=>p
 |g+1,p=>if 0<=b.getD p (-1)then k6 P b g ((p+1)%P)else p
theorem AY:k6 P b (g+1) p=if 0<=b.getD p (-1)then k6 P b g ((p+1)%P)else p:=J
noncomputable def gN(P:aa)(b:Y aF)(i:aa):Y aF:=b.set (k6 P b P (i%P)) i
noncomputable def e0(P:aa)(b:Y aa):Y aF:=b.foldl (gN P) (dF P (-1))
noncomputable def lQ(P:aa):Y aa->Y aF->Prop
 |[],_=>True
 |k::r,b=>b.getD (k6 P b P (k%P)) (-1)<0/\lQ P r (gN P b k)
theorem YQ(G:0<P):∀g p,p<P->k6 P row g p<P:=λi=>i.rec
 (λp h=>h)
 (λg f p h=>by
  simp only [AY]
  split
  .exact f _ (er _ G)
  .exact h)
theorem Ag(P:aa)(b:Y aF)(k:aa):(gN P b k).length=b.length:=kH
theorem xA{p:aa}(h:p<b.length):(rL b)[p]?=U (.int (b.getD p (-1))):=by
 refine aZ (hU) ?_;rw [fE,cP h];rfl
section
variable{c:Cx O}{P:aa}{row:Y aF}
noncomputable def Az:Y (ai×fe):=[("order",.local),("places",.local),("row",.local),("key",.local),("place",.local)]
noncomputable def r_:Y ai:=["order","places","row","key","place"]
noncomputable abbrev xT:Y b9:=i4 (dZ 1 (cZ (bz 23)))
theorem yj(h:decide (b<=a)=d):gp .GtE (.int a) (.int b)=U d:=aL U h
theorem WK(F:Fm c.env r_ 5 Az)(G:0<P)(v:P<=100)(T:row.length=P):∀g p,p<P->row.getD (k6 P row g p) (-1)<0->
  EW c r_ 5 (jD (dZ 1 xT)) (k9 (dZ 1 xT)) [] g [t,.t (.int P),.own (rL row),m,.t (.int p)] [t,.t (.int P),.own (rL row),m,.t (.int (k6 P row g p))] .next:=by
 have e:∀p,p<P->∀b,decide _=b->EC c r_ 5 [t,.t _,.own _,m,.t _] (jD (dZ 1 xT)) [t,.t (.int P),.own _,m,.t _] b:=λp O b a=>
  zC (qL F 2 J J (sC F 4 J J) (iA (eU O (aJ v (aC J))) (xA (T.symm▸O))) J) (zi 0) (yj a) J
 intro g
 induction g with
 |zero=>intro p O h;exact kE (e p O ak (decide_eq_false (mY.mpr h))) eS
 |succ g f=>
  intro p O h;simp only [AY]at h⊢
  by_cases z:0<=row.getD p (-1)
  .rw [bx z]at h⊢;exact lj (e p O ae (decide_eq_true z)) (cX (dD F 4 J (eH _) (dw (dw (zv F 4 J J) (zi 1) (lT J)) (zv F 1 J J) (nH (a:=p+1) (iH O (iH v (by decide))) G)) J) J) (f _ (er _ G) h)
  .rw [bA z]at h⊢;exact kE (e p O ak (decide_eq_false z)) eS
theorem WH(F:Fm c.env r_ 5 Az)(l:i<1000)(G:0<P)(v:P<=100)(T:row.length=P)(h:row.getD (k6 P row P (i%P)) (-1)<0):
  EX c r_ 5 [t,.t (.int P),.own (rL row),.t (.int i),X] xT [t,.t (.int P),.own (rL (gN P row i)),.t (.int i),.t (.int (k6 P row P (i%P)))] .next:=by
 have z:=er i G;have S:=YQ (row:=row) G P _ z;exact zx (dD F 4 J (eH _) (dw (zv F 3 J J) (zv F 1 J J) (nH (kI l (by decide+kernel)) G)) J) (zx (jT (WK F G v T P _ z h)) ((show rL (gN P row i)=(rL row).set (k6 P row P (i%P)) (.int i)from GH)▸(cX (ack F 2 J (zv F 3 J J) J (zv F 4 J J) J (xJ (eU S (aJ v (aC J)))) (by rw [b5];exact A9 (T.symm▸S)) J) J)))
theorem WJ(F:Fm c.env r_ 5 Az)(G:0<P)(v:P<=100):∀(l:Y aa)(row:Y aF)(m X:AV O),row.length=P->(∀k∈l,k<1000)->lQ P l row->
  ∃p o,i9 c r_ 5 (mu (dZ 1 (cZ (bz 23)))) xT (l.map λ(x:aa)=>T.int x) [a0,.t (.int P),.own (rL row),m,X] [a0,.t (.int P),.own (rL (l.foldl (gN P) row)),p,o] .next:=λi=>i.rec
 (λrow m X h y y=>b_ m X lZ)
 (λk l f row m X h a e=>gD (f (gN P row k) _ _ ((Ag P row k).trans h) (λx j=>a x (.tail _ j)) e.2) λp o r=>
  b_ p o (mU (jj F 3 J (cE _ _)) (WH F (a k (.head _)) G v h e.1) r))
end
section
variable{y:Ly O}
theorem Fq(E:y.D "_law_made" 23)(G:0<P)(v:P<=100)(l:∀k∈b,k<1000)(h:lQ P b (dF P (-1))):
  y.F (n+1) "_law_made" [nL b,.int P] (.list (rL (e0 P b))):=by
 refine y.fn 23 r_ Az E J J J (dQ J) (λu code s=>tB λi i=>J) λx X B a F=>gD (WJ (c:=y.c x X B n a) (a0:=.t (nL b)) F G v b (dF P (-1)) .un .un iG l h) λp o r=>?_;have e:(dF P [T.int (-1)]).flatten=rL (dF P (-1)):=by rw [Zf];exact OG.symm
 refine⟨_,zx (e▸oS F 2 J (cE _ _) (abU (oQ (zr (yC (zi 1)) cR J) J) (zv F 1 J J) (aJ v (aC J)) (by simp;exact aJ v (aC J))) J) (zx (kC (lg (zv F 0 J J)) r J J) (fU (iS (kD F 2 J J))))⟩
end
theorem UY{h:Type} [DecidableEq h](A:h->T)(e:∀a b,fb 6 (A a) (A b)=U (decide (a=b)))(x:h):∀l:Y h,jc (A x) (l.map A)=U (decide (x∈l)):=λi=>i.rec
 J
 (λa r f=>by
  show(match fb 6 _ _,jc _ _ with|U a,U b=>U _|_,_=>af)=_;simp only [f,e];refine aL U ?_;rw [oU];simp only [N6,decide_eq_true_eq,cQ]
  exact or_congr_left ⟨Gj,Gj⟩)
theorem MT(a b:aa):fb 6 (.int a) (.int b)=U (decide (a=b)):=by
 refine aL U ?_;rw [oU,decide_eq_true_eq];exact beq_iff_eq.trans Ol
theorem Dk(x:aa)(l:Y aa):jc (.int x) (l.map λ(x:aa)=>T.int x)=U (decide (x∈l)):=UY _ MT x l
theorem Rn(x:aa)(l:Y aa):gp .In (.int x) (nL l)=U (decide (x∈l)):=Dk x l
theorem CD(x:aa)(l:Y aa):gp .NotIn (.int x) (nL l)=U (!decide (x∈l)):=(Rp x l).trans (by rw [Dk];rfl)
where Rp(x:aa)(l:Y aa):gp .NotIn (.int x) (nL l)=(jc _ _).map _:=J
section
variable{B:br O}{prog:bZ}{w:bR}{A:cI}
theorem YC{i:aa}(h:i<0x110000)(d:Den X f t (.int i)):PO B (model prog w) A X (call (.builtin "chr") [t]) f (.str [i]):=by
 refine bC (nq d) λe j=>?_;subst j;exact PO.give λs Q a r G=>P.chr_of_int (by rw [acI];exact⟨decide_eq_false (oW.mpr (jl _)),decide_eq_false (oW.mpr (mZ.mpr (BV h)))⟩) (G _ _ (.str _ _))
end
section
variable{c:Cx O}
theorem abK{s:aa}(F:Fm c.env n k o)(u:aa)(d:o[u]?=U (("chr":ai),.globalImplicit))(A:s<0x110000)(h:EE c n k m e g (.int s))(R:dX e=ae):EE c n k m (.Call (.Name "chr" p) [e] [] w) g (.str [s]):=
 sx F u 3 d J (zr h cR R) (by simp [R]) λf z a=>by refine aA a.jS λv j q=>?_;subst j;exact YC A q
end
noncomputable def kZ(A:aa)(F:Y aa):aa->aa->aa
 |0,p=>p
 |g+1,p=>if p∈F\/p=A then kZ A F g ((p+1)%256)else p
theorem Ep:kZ A F (g+1) p=if p∈F\/p=A then kZ A F g ((p+1)%256)else p:=J
noncomputable def tP(A:aa)(F:Y aa)(x:aa):Y aa:=F++[kZ A F 5 (x%256)]
noncomputable def nv(A:aa)(n:Y aa):Y aa:=n.foldl (tP A) []
noncomputable def vL(A:aa):Y aa->Y aa->Prop
 |[],_=>True
 |x::r,F=>¬(kZ A F 5 (x%256)∈F\/kZ A F 5 (x%256)=A)/\vL A r (tP A F x)
section
variable{c:Cx O}{g:aa}{ks:Y aa}
noncomputable def D5:Y (ai×fe):=[("numbers",.local),("gap",.local),("keys",.local),("x",.local),("key",.local),("chr",.globalImplicit)]
noncomputable def v5:Y ai:=["numbers","gap","keys","x","key"]
noncomputable abbrev An:Y b9:=i4 (dZ 1 (cZ (bz 22)))
theorem Vx(F:Fm c.env v5 5 D5):∀h p,p<256->¬(kZ g ks h p∈ks\/kZ g ks h p=g)->
  EW c v5 5 (jD (dZ 1 An)) (k9 (dZ 1 An)) [] h [t,.t (.str [g]),.own (ks.map λ(x:aa)=>T.int x),m,.t (.int p)] [t,.t (.str [g]),.own (ks.map λ(x:aa)=>T.int x),m,.t (.int (kZ g ks h p))] .next:=by
 have a:∀p,p<256->∀b,decide (p∈ks\/p=g)=b->EC c v5 5 [t,.t _,.own _,m,.t _] (jD (dZ 1 An)) [t,.t (.str [g]),.own _,m,.t _] b:=λp O b i=>
  gY (ur (zCo F 2 (zv F 4 J J) J J (Rn p ks)) λy=>ur (zC (abK F 5 J (kI O (aC J)) (zv F 4 J J) J) (zv F 1 J J) (nG (d:=decide (p=g)) (by rw [oU];simp)) J) λy=>Nj) (by simp only [<-i,Gi,Bool.decide_or])
 intro h
 induction h with
 |zero=>intro p O e;exact kE (a p O ak (decide_eq_false e)) eS
 |succ h f=>
  intro p O e;simp only [Ep]at e⊢
  by_cases z:p∈ks\/p=g
  .rw [bx z]at e⊢;exact lj (a p O ae (decide_eq_true z)) (cX (dD F 4 J (eH _) (dw (dw (zv F 4 J J) (zi 1) (lT J)) (zi _) (nH (a:=p+1) (iH O (by decide+kernel)) (by decide))) J) J) (f _ (er _ (by decide)) e)
  .rw [bA z]at e⊢;exact kE (a p O ak (decide_eq_false z)) eS
theorem Yv:∀e p,p<256->kZ g ks e p<256:=λi=>i.rec
 (λp h=>h)
 (λe f p h=>by
  simp only [Ep]
  split
  .exact f _ (er _ (aC J))
  .exact h)
theorem Vw(F:Fm c.env v5 5 D5):∀(l ks:Y aa)(m X:AV O),ks.length+l.length<=1000->(∀x∈l,x<1000000)->vL g l ks->
  ∃p o,i9 c v5 5 (mu (dZ 1 (cZ (bz 22)))) An (l.map λ(x:aa)=>T.int x) [a0,.t (.str [g]),.own (ks.map λ(x:aa)=>T.int x),m,X] [a0,.t (.str [g]),.own ((l.foldl (tP g) ks).map λ(x:aa)=>T.int x),p,o] .next:=λi=>i.rec
 (λks m X h y y=>b_ m X lZ)
 (λx l f ks m X h e a=>by
  refine gD (f (tP g ks x) (.t (.int x)) (.t (.int (kZ g ks 5 (x%256)))) (by delta tP;rw [dM];exact dg 0 (.a (.a (.v 0) (.n 1)) (.v 1)) (.n 1000) (.a (.v 0) (.a (.v 1) (.n 1))) (.n 1000) J [_,_] h) (λs b=>e s (.tail _ b)) a.2) λp o r=>
   b_ p o (mU (jj F 3 J (cE _ _)) (zx (dD F 4 J (eH _) (dw (zv F 3 J J) (zi _) (nH (b:=256) (kI (e x (.head _)) (by decide+kernel)) (by decide))) J) (zx (jT (Vx F 5 _ (er _ (by decide)) a.1)) (cX (uu F 2 J J (zv F 4 J J) J J J (eE (by rw [b5];exact dg 0 (.v 0) (.n 1000000) (.a (.v 0) (.a (.v 1) (.n 1))) (.n 1000) J [_,_] h))) J))) ?_)
  unfold tP at r;simp only [dO]at r
  exact r)
end
section
variable{y:Ly O}
theorem abi(E:y.D "_law_keys" 22)(H:l.length<=1000)(h:∀x∈l,x<1000000)(e:vL A l []):y.F (n+1) "_law_keys" [nL l,.str [A]] (nL (nv A l)):=by
 refine y.fn 22 v5 D5 E J J J (dQ J) (λu code s=>tB λa a=>J) λi X B b F=>gD (Vw (c:=y.c i X B n b) (a0:=.t (nL l)) F l [] .un .un (by simpa using H) h e) λp o r=>?_;exact⟨_,zx (oS F 2 J (cE _ _) (p7 cR J) J) (zx (kC (lg (zv F 0 J J)) r J J) (fU (iS (kD F 2 J J))))⟩
end
section
variable{B:br O}{prog:bZ}{w:bR}{A:cI}{ρ:Mk}{env:cG}{xs:Y ai}{k:aa}{lv:Y (AV O)}
theorem II{x:ai}(j:xs[i]?=U x)(o:(x=="__debug__")=ak)(H:lv[i]?=U (.own l))(e:nZ B prog w A ρ env xs k lv P (.int t))(h:iq t=ae)(d:seqIndex? t l.length=U u)(z:tY P=ae):
  h_ B prog w A ρ env xs k lv (.Subscript (.Name x px) P p) τ (lv.set i (.own (l.set u τ))):=by
 rintro L f s R aj az aH⟨y,E,X,S⟩b G;refine cps λao F=>?_;obtain⟨aG,Q,aI,aK,T,rfl,q,v,m⟩:=S.vars i x _ j H;refine F ?_;refine aE (e9 (ez (ew y S.ns Q (aE (e9 (e L f s _ _ ⟨y,E,X,S⟩ λaq au n=>aE (kK ?_))))) o));obtain⟨aB,rfl⟩:=n.inv;exact aE (e9 (EN S j Q m q v h d b λO g r c a=>wpAny_release (G O (bS.trans (b_ _ _ J) c) ⟨y,g,r,a⟩)))
set_option tactic.hygienic true in
theorem R2(m:A.handled=af)(R:h_ B prog w A ρ env xs k lv P q g)(h2:h_ B prog w A ρ env xs k g dR x H)(hs:assignEach [P,dR] env=[(ak,assign P env),(ak,assign dR env)]):
  h_ B prog w A ρ env xs k lv (.Tuple [P,dR] kk aq) (.tup [q,x]) H:=by
 rintro L f s E Q az l S d G;refine cps λau F=>?_;obtain⟨aB,O,aj,n,b,rfl⟩:=d.inv;refine F ?_;cases b with
 |cons z b=>cases b with
  |cons j b=>cases b with
   |nil=>
    rename_i c i;have r:=S.ready;refine GZ m (vq r.bI n) (by rw [hs];rfl) (by rw [hs];rfl) λT X=>?_;have h:cg B f s f {s with heap:=T}:=cg.keeps r λt o e=>X t o (fW (fQ e)) e;rw [hs];refine aE (e9 (R L f _ c _ _ l (S.step h) z λao u v=>?_));exact aE (e9 (h2 L f _ i _ _ l v j λp y a=>(bD (G p ((h.same.trans u).trans y) a))))
end
section
variable{c:Cx O}
theorem abT(F:Fm c.env n k j)(u:aa)(d:j[u]?=U (("list":ai),.globalImplicit))(h:EE c n k lv e Q (.list o))(l:o.length<=1000000)(R:dX e=ae):EF c n k lv (.Call (.Name "list" p) [e] [] aG) Q o:=by
 constructor;intro aP aK aH aI aO S G;have i:∀f∈[e],∀x p,f≠.Starred x p:=λf P=>cD.mp P▸fY R;refine bM (c.bi 12 "list" (.type "list") J) λB q=>lD (nA c.G S.1 S.ready.base (F.kn u d nofun) B q (F.kg u d) (B5 (kA [e] i) (jY i (pH h.1 kS (fY R)) S λt g7 z m g T b=>?_)));refine cps λaB w=>?_;obtain⟨v,z,rfl,E,b⟩:=b.ju (P:=λL=>∃v A,L=v::A/\Den _ _ v _/\bq _ _ A _) λv A x O=>⟨v,A,J,x,O⟩;obtain rfl:=b.jg J;obtain⟨s,z,aN,rfl,r,H⟩:=qj E;obtain⟨y,ao,aq,X⟩:=T;refine w ?_;refine PySem.call_list_seq s (.inl J) (X.ready.bI s _ r) J J (λaM aj au az=>?_) (by exact nW▸o6▸H.length▸aJ l (aC J));have a:=cg.keeps (t:=t.toks) X.ready au;exact G _ g7 _ z aj ao aq (m.trans a.same) g y (X.step a) (X.free (fM t)) az H
theorem aaH:swappedStores [.Tuple [.Subscript u y E,.Subscript i L t7] S e] (.Tuple [a,b] Q h) B=pure af:=tO (tO (bx J))
theorem zsw(F:Fm c.env n k X)(i:aa)(hx:n[i]?=U x)(v:ER c n k m p A g [q,f])(H:g[i]?=U (.own l))(R:EP c n k g P (.int t))(e:iq t=ae)(d:seqIndex? t l.length=U j)
  (w:EP c n k (g.set i (.own (l.set j q))) dR (.int b))(h:iq b=ae)(a:seqIndex? b l.length=U j')(s:tY P=ae)(u:tY dR=ae)(hw:swappedStores [.Tuple [.Subscript (.Name x o) P E,.Subscript (.Name x L) dR t7] S z] (.Tuple A Q p) c.env=pure af):
  ES c n k m (.Assign [.Tuple [.Subscript (.Name x o) P E,.Subscript (.Name x L) dR t7] S z] (.Tuple A Q p) pos) (g.set i (.own ((l.set j q).set j' f))) .next:=by
 have y:(g.set i _)[i]?=U (.own (l.set j q)):=iF ((ck.mp H).1);have r:=II (τ:=f) (p:=t7) (px:=L) hx (F.eJ hx) y w.1 h (kH▸a) u;simp only [yN]at r;exact⟨CR (xt v.1 J) (R2 c.R.handled (II hx (F.eJ hx) H R.1 e d s) r J) J hw⟩
end
noncomputable def qF(b:Y aF)(i u:aa):Y aF:=(b.set i (b.getD u (-1))).set u (b.getD i (-1))
noncomputable def rU(b:Y aF)(i u step:aa):Y aF:=(qF b i u).drop (b.length-step)++(qF b i u).take (b.length-step)
theorem ym(b:Y aF)(i u:aa):(qF b i u).length=b.length:=by refine aZ kH ?_;exact(kH)
section
variable{y:Ly O}
noncomputable def xW:Y (ai×fe):=[("made",.local),("here",.local),("there",.local),("step",.local),("row",.local),("list",.globalImplicit),("len",.globalImplicit)]
noncomputable def Fy:Y ai:=["made","here","there","step","row"]
theorem abj(E:y.D "_law_moved" 24){i u st:aa}(T:b.length<=1000)(A:i<b.length)(d:u<b.length)(r:st<=b.length):
  y.F (n+1) "_law_moved" [.list (rL b),.int i,.int u,.int st] (.list (rL (rU b i u st))):=by
 refine y.fn 24 Fy xW E J J J (dQ J) (λH code w=>QC λh h h h=>J) λx X B l F=>?_;have s:(rL b).length=b.length:=b5 _;have e:∀{k:aa},k<b.length->k<2^60:=λa=>eU a (aJ T (aC J));have t:rL (qF b i u)=((rL b).set i (.int (b.getD u (-1)))).set u (.int (b.getD i (-1))):=by delta qF rL;refine aZ (GH) ?_;rw [GH]
 have Q:∀{m:Y (AV O)}{p q f o c:fR},m[4]?=U (.t (.list (rL (qF b i u))))->m[3]?=U (.t (.int st))->EE (y.c x X B n l) Fy 5 m (.BinOp (.Call (.Name "len" p) [.Name "row" q] [] f) .Sub (.Name "step" o) c) m (.int (b.length-st:aa)):=λv z=>
  dw (v9 F 6 J (zv F 4 J v) (eE (by rw [b5,ym];exact aJ T (aC J))) J) (zv F 3 J z) (by rw [b5,ym];exact ZV ((Int.ofNat_sub r).symm))
 have j:∀{k:aa},k<b.length->seqIndex? (k:aF) (rL b).length=U k:=λa=>by rw [s];exact A9 a
 have g:ES (y.c x X B n l) Fy 5 [.t (.list (rL b)),.t (.int i),.t (.int u),.t (.int st),.own (rL b)] (e5 (cZ (bz 24)) 1) [.t (.list (rL b)),.t (.int i),.t (.int u),.t (.int st),.own (rL (qF b i u))] .next:=by
  rw [t];exact zsw (l:=rL b) (j:=i) (j':=u) F 4 J (zr (qL (i:=u) F 4 J J (sC F 2 J J) (iA (e d) (xA d)) J) (zr (qL (i:=i) F 4 J J (sC F 1 J J) (iA (e A) (xA A)) J) cR J) J) J (sC F 1 J J) (xJ (e A)) (j A) (sC F 2 J J) (xJ (e d)) (j d) J J aaH
 refine⟨_,zx (oS F 4 J (eH _) (abT F 5 J (zv F 0 J J) (by rw [s];exact aJ T (aC J)) J) J) (zx g
  (fU (iS (dw (j8 (kD F 4 J J) (iB (Q J J)) oR (r8 (by rw [b5,ym];exact aJ T (aC J)) (xg _ _))) (j8 (zv F 4 J J) oR (iB (Q J J)) (r8 (by rw [b5,ym];exact aJ T (aC J)) (xh _ _))) (aZ (yi (by rw [<-BQ,<-wm,b5,b5,GC,GD,ym];exact aJ (gk (yQ _ _) (adK _ _)) (aJ (gk T T) (aC J)))) ?_)))))⟩
 delta rU rL
 simp only [dO,BQ,wm]
end
section
theorem aQ.yn(S:aQ H aK m z env v a_ p E R n){fp:Y ay}(aq:v[i]?=U bB)
  (c:∀b,b∉R i->b∉H.tabs->b≠env.locals->∀o,n.get? b=U o->h'.get? b=U o)(cA:h'.Ns env.locals E)(b7:H.inv j h')(bV:Le z j)(bf:Le j h'.get?)(aI:∀b o,j b=U o->z b=U o\/n.get? b=af\/b∈R i)
  (bu:eA env E n bB ov)(cf:Holds H aK j h' y ov fp)(A:∀b∈fp,(b∈R i\/eW H m z env v R b)/\j b=af):
  aQ H aK m j env v a_ (p.set i y) E (bT R i fp) h':=by
 have B:=(ck.mp aq).1;have F:=S.fp i B;have aP:∀{b o},m.b b=U o->b∉R i:=λx e=>aU ((F _ e).1) x;have aN:∀{b o},m.b b=U o->b≠env.locals:=λx e=>aU ((aL _ e).trans S.nL.1) x;have aO:bG H.bO h':=λb o e=>c b (aP (S.fT b o e)) (S.ji (S.fT b o e)) (aN (S.fT b o e)) o (S.base b o e);have r:∀b,z b=af->(n.get? b).isSome=ae->b∉R i->j b=af:=λb bF x bK=>by
  cases e:j b with
  |none=>rfl
  |some o=>
   rcases aI b o e with f|f|f
   .exact aU bF f
   .rw [f]at x;exact cW J x
   .exact bE f bK
 have P:∀{u O ov},v[u]?=U O->eA env E n O ov->eA env E h' O ov:=λ{u O ov}s Q=>by
  rcases Q with⟨e,q⟩|⟨h,l,G,o,L,aX⟩
  .exact .inl ⟨e,q⟩
  .have au:env.kindOf O≠U .local:=λq=>by rw [q]at h;rcases h with h|⟨h,_⟩<;>exact nc lA (bg h) J
   exact .inr ⟨h,l,G,o,c l (λq=>(F l q).2.2.2 u O s au G) (λq=>(S.tab l q).2.2.2.1 u O s au G) (S.cell u O l s au G).1 o L,aX⟩
 have bh:∀{u O},v[u]?=U O->∃y,p[u]?=U y:=λ{u O}s=>by
  have:u<p.length:=by simp only [S.len];exact(ck.mp s).1
  exact⟨_,cP this⟩
 refine{S with len:=by simp [S.len],base:=aO,kept:=λb o e=>c b (aP e) (S.ji e) (aN e) o (S.kept b o e),bI:=bf,lock:=λbj bw O s=>P s (S.lock bj bw O s),ns:=cA,nL:=⟨S.nL.1,?_⟩,vars:=λu O bQ s w=>?_,cell:=λu O aM s az ao=>?_,fp:=λu d b t=>?_,inv:=b7,tab:=λaj aG=>?_,c3:=λb t=>?_,new:=λb o e=>?_,apart:=λa b Q t X l g=>?_}
 .exact iL S.ns λo aS aS L aS=>r _ S.nL.2 (dc L) λq=>(F _ q).2.2.1 J
 .by_cases k:u=i
  .subst k;obtain rfl:=bg (aq▸s);have d:=by
    have:=(ck.mp w).1;simpa using this
   obtain rfl:=bg ((iF d)▸w);simp only [show bT R u fp u=fp from bx J];exact⟨ov,P aq bu,cf⟩
  .have w:=(iV (iZ k))▸w;obtain⟨bX,Q,aB⟩:=S.vars u O bQ s w;have d:=(ck.mp s).1;exact(show bT R i fp u=R u from bA ‹_›)▸(⟨bX,P s Q,aB.mono bV aO λb t o e=>c b (S.apart u i d B k b t) (λq=>(S.tab b q).2.2.2.2 u d t) (S.fp u d b t).2.2.1 o e⟩)
 .have:=S.cell u O aM s az ao;refine⟨this.1,r _ this.2 (bC (bh s) λy w=>?_) λq=>(F aM q).2.2.2 u O s az ao⟩;obtain⟨ov,Q,_⟩:=S.vars u O y s w;rcases Q with⟨e,_⟩|⟨_,l,b8,cC,cy,_⟩
  .exact bE e az
  .obtain rfl:=bg (ao▸b8);exact dc cy
 .by_cases k:u=i
  .subst k;rw [show bT R u fp u=fp from bx J]at t;refine bM (A b t) λq aW=>?_;rcases q with q|q
   .have:=F b q;exact(c_ this.1 aW this.2.2)
   .exact(kU q.hb aW q.loc q.cell)
  .rw [show bT R i fp u=R u from bA ‹_›]at t;have:=S.fp u d b t;have cz:u<p.length:=by simp only [S.len];exact d
   obtain⟨ov,_,aB⟩:=S.vars u _ _ (cP d) (cP cz);exact(c_ this.1 (r _ this.2.1 (aB.live b t) (S.apart u i d B k b t)) this.2.2)
 .have:=S.tab aj aG;refine(kW this.1 (r _ this.2.1 (H.live S.inv aj aG) (this.2.2.2.2 i B)) this.2.2.1 this.2.2.2.1 (λu d t=>?_))
  by_cases k:u=i
  .subst k;rw [show bT R u fp u=fp from bx J]at t;rcases(A aj t).1 with q|q
   .exact this.2.2.2.2 u d q
   .exact q.tab aG
  .have t:=(show bT R i fp u=R u from bA ‹_›)▸t;exact this.2.2.2.2 u d t
 .have:=S.c3 b t;exact(c_ this.1 (r _ this.2.1 (bC (fc.mp this.1) λo L=>(dc (S.kept b o L))) (λq=>by rw [(F b q).1]at this;exact cW J this.1)) this.2.2)
 .rcases aI b o e with q|q|q
  .exact S.new b o q
  .exact .inr (S.fresh q).1
  .exact .inr (F b q).1
 .by_cases aH:a=i<;>by_cases T:b=i
  .exact bE (aH.trans T.symm) X
  .subst aH;have g:=(show bT R a fp a=fp from bx J)▸g;refine(show bT R a fp b=R b from bA ‹_›)▸?_;rcases(A l g).1 with q|q
   .exact S.apart a b Q t X l q
   .exact q.fp b t
  .subst T;rw [show bT R b fp a=R a from bA ‹_›]at g;rw [show bT R b fp b=fp from bx J];intro q;rcases(A l q).1 with q|q
   .exact S.apart a b Q t X l g q
   .exact q.fp a Q g
  .have g:=(show bT R i fp a=R a from by simp [bT,aH])▸g;exact(show bT R i fp b=R b from by simp [bT,T])▸(S.apart a b Q t X l g)
theorem aQ.vX(S:aQ H X L f B n k m E R h){fp:Y ay}(e:n[i]?=U x)
  (hs:∀b,b∉R i->b∉H.tabs->∀o,h.get? b=U o->h'.get? b=U o)(a:H.inv j h')(p:Le f j)(s:Le j h'.get?)(c:∀b o,j b=U o->f b=U o\/h.get? b=af\/b∈R i)
  (l:eA B E h x F)(t:Holds H X j h' av F fp)(z:∀b∈fp,(b∈R i\/eW H L f B n R b)/\j b=af):
  aQ H X L j B n k (m.set i av) E (bT R i fp) h':=
 S.yn e (λb v u y=>hs b v u) (iL S.ns λo A g d r=>(kq o A g (hs _ (λq=>(S.fp i (ck.mp e).1 _ q).2.2.1 J) (λq=>(S.tab _ q).2.2.1 J) o d) r)) a p s c l t z
theorem aQ.p5(S:aQ H X L f B n k m E R h){fp:Y ay}(e:n[i]?=U x)
  (r:∀b,b∉R i->b∉H.tabs->∀o,h.get? b=U o->h'.get? b=U o)(a:H.inv j h')(p:Le f j)(q:Le j h'.get?)(c:∀b o,j b=U o->f b=U o\/h.get? b=af\/b∈R i)
  (s:eA B E h x F)(l:Holds H X j h' y F fp)(z:∀b∈fp,(b∈R i\/h.get? b=af)/\j b=af):
  aQ H X L j B n k (m.set i y) E (bT R i fp) h':=S.vX e r a p q c s l λb t=>⟨(z b t).1.imp id S.free,(z b t).2⟩
end
section
variable{B:br O}
noncomputable def Cb(B:br O)(i:bZ)(u:bR)(g:aa)(a:aD)(o:O)(R:Y T)(r:T)(H:O):Prop:=
 ∀(F:cI)(X:Mk)(f:Fz)(e:aD)(z:Y aD)(n:Result->aT->Prop)(s:aT)(p:Y ay),dB F g->Ready B f s->B.ob.at_ o e s.heap p->(∀b∈p,f b=af/\B.bO.get? b=af/\b∉B.tabs)->bq X f z R->
  (∀h j v y,bS s h->Le f j->(∀b,b∉p->b∉B.tabs->∀x,s.heap.get? b=U x->h.heap.get? b=U x)->B.inv j h.heap->Le j h.heap.get?->(∀b x,j b=U x->f b=U x\/s.heap.get? b=af\/b∈p)->
   B.ob.at_ H e h.heap y->(∀b∈y,(b∈p\/s.heap.get? b=af)/\j b=af)->Den X j v r->n (.ok (.ret v)) h)->codeAny (model i u) F (.call a ⟨e::z,[]⟩) n s
noncomputable def lN(h:O)(n:Y ai)(o:Y T):Y (AV O):=.obj h::o.map .t++dF (n.length-(o.length+1)) .un
theorem Z_{s O:aT}(d:pe k.scope l)(bh:k.globals=mainGlobals)(t:k.builtins=builtinsNs)(r:Ready B g s)(L:B.ob.at_ o q s.heap fp)(E:∀b∈fp,g b=af/\B.bO.get? b=af/\b∉B.tabs)
  (bu:bq aO g z X)(aK:X.length+1<=l.length)
  (T:InCallC s (callEnvC k s.heap.objs.size a).locals (bindL (callEnvC k s.heap.objs.size a).kindOf (fh l (q::z)) λy=>af) (callEnvC k s.heap.objs.size a).cells (bindC (callEnvC k s.heap.objs.size a).kindOf (fh l (q::z)) λy=>af) O):
  SR B aO ⟨λb=>if b∈B.tabs\/b∈fp then af else s.heap.get? b,[],g,[]⟩ g (callEnvC k s.heap.objs.size a) l l.length (lN o l X) O.heap:=by
 have S:=T.toInCall.keep;have u:=λn c h=>T.above n c (mem_of_lookup h);have au:∀c,s.heap.objs.size<=c->s.heap.get? c=af:=λc h=>by
  cases f:s.heap.get? c with
  |none=>rfl
  |some o=>exact bE (fQ f) (fJ.mpr h)
 have aq:∀c,s.heap.objs.size<=c->g c=af:=λc h=>by
  cases f:g c with
  |none=>rfl
  |some o=>have:=r.bI c o f;exact aU (au c h) this
 have az:=λP G=>bC (fc.mp (B.live r.inv P G)) λo L=>fQ L;have ao:=λb t=>bC (fc.mp (B.ob.live L b t)) λo L=>fQ L;have aB:((fh l (q::z)).map (·.1)).Nodup:=by
  have:(fh l (q::z)).map (·.1)=l.take (q::z).length:=by
   delta fh;rw [yx]
  simp only [this];exact d.nodup.sublist (adz _ _)
 refine⟨⟨d.kind,bh,t⟩,(bindL (callEnvC k s.heap.objs.size a).kindOf _ λy=>af),λi=>if i=0 then fp else [],({
  len:=by delta lN;simp;exact lz (dg 0 (.a (.a (.v 0) (.v 2)) (.n 1)) (.v 1) (.a (.v 2) (.a (.v 0) (.n 1))) (.v 1) J [_,_,_] ((vD aK))) (dg 0 (.v 1) (.a (.a (.v 0) (.v 2)) (.n 1)) (.v 1) (.a (.v 2) (.a (.v 0) (.n 1))) J [_,_,_] x8)
  base:=λb o e=>S b o (r.base b o e)
  kept:=λb o e=>?_
  bI:=λb o e=>S b o (r.bI b o e)
  ns:=T.toInCall.ns
  nL:=⟨?_,aq _ (ek _)⟩
  fT:=λb o e=>?_
  vars:=λi x bV j w=>?_
  own:=λi x c A j R h=>?_
  jt:=λi x c A j y y=>bE (ck.mp j).1 (fJ.mpr A)
  cell:=λi x c j R h=>⟨q1 (u x c h),aq c (gm (u x c h))⟩
  qf:=λi x A j=>bE (ck.mp j).1 (fJ.mpr A)
  inj:=λi p x bQ c j bj y y bB aM=>?_
  nodup:=λi p x A aN=>pP d.nodup A aN
  fp:=λi y b t=>?_
  inv:=br.gO r.inv λP y o e=>S P o e
  tab:=λP G=>(kW (by simp [G]) (r.mT P G) (fW (az P G)) (λp x j R h=>bE (u x P h) (fJ.mpr (gm (az P G)))) (λi y H=>?_))
  apart:=λi p y y aP b t aG=>?_
  c3:=λb t=>bE (t) dP
  new:=λb o e=>.inl e
  lock:=λbK aX=>bE aX dP})⟩
 .dsimp only at e
  split at e
  .exact aU J e
  .exact S b o e
 .show(if s.heap.objs.size∈B.tabs\/s.heap.objs.size∈fp then af else s.heap.get? s.heap.objs.size)=af
  split<;>first|rfl|exact(fM s)
 .have a_:b∉B.tabs:=λf=>aU (r.ji b f) e;have bf:b∉fp:=λf=>aU ((E b f).2.1) e;simp [a_,bf,r.base b o e]
 .have A:=(ck.mp j).1;have m:(callEnvC k s.heap.objs.size a).kindOf x=U .local\/(callEnvC k s.heap.objs.size a).kindOf x=U .cell:=d.names x (cL j);have aS:∃F,eA (callEnvC k s.heap.objs.size a) (bindL (callEnvC k s.heap.objs.size a).kindOf (fh l (q::z)) λy=>af) O.heap x F/\∀v,(x,v)∈fh l (q::z)->F=U v:=by
   rcases m with m|m
   .exact(aR _ (.inl ⟨m,J⟩) (λv Q=>HO _ _ _ x v aB Q m))
   .exact bC (fc.mp (u_ k.scope.names (s.heap.objs.size+1) [] (.inl m))) λc h=>(aR _ (.inr ⟨.inl m,c,h,T.cell x c h⟩) (λv Q=>HN _ _ _ x v aB Q m))
  refine aA aS λF bw aH=>⟨F,bw,?_⟩;cases i with
  |zero=>
   obtain rfl:=bg w;have:(fh l (q::z))[0]?=U (x,q):=by
    unfold fh;rw [OE];exact⟨j,J⟩
   exact⟨q,aH q (cL this),(B.frame L (λb o e=>S b o (r.base b o e)) λb y o e=>S b o e)⟩
  |succ i=>
   rw [bA (yR i)];have w:=by simpa [lN]using w
   by_cases aj:i<X.length
   .rw [j9 (by simpa using aj)]at w;have aI:=cP aj;simp only [hU,aI,BZ]at w;obtain rfl:=bg w;refine aA (bu.get aI) λv bF aW=>⟨J,v,aH v ?_,aW⟩;have:(fh l (q::z))[i+1]?=U (x,v):=by
     unfold fh;rw [OE];exact⟨j,bF⟩
    exact cL this
   .rw [jV (by simpa using aj)]at w;have:=by
     rw [wh]at w
     split at w
     .exact(bg w).symm
     .exact aU J w
    subst this
    rfl
 .show(if c∈B.tabs\/c∈fp then af else s.heap.get? c)=af
  split<;>first|rfl|exact au c (gm (u x c h))
 .have:=Pe T.apart (mem_of_lookup bB) (mem_of_lookup aM);subst this;exact pP d.nodup j bj
 .by_cases A:i=0
  .have t:=(bx A)▸t;refine(kU (by simp [t]) ((E b t).1) (fW (ao b t)) (λp x j R h=>bE (u x b h) (fJ.mpr (gm (ao b t)))))
  .rw [bA A]at t;exact nomatch t
 .by_cases A:i=0
  .rw [bx A]at H;exact(E P H).2.2 G
  .rw [bA A]at H;exact nomatch H
 .by_cases A:i=0
  .rw [bA (λf=>aP (A.trans f.symm))]at aG;exact nomatch aG
  .rw [bA A]at t;exact nomatch t
theorem IZ(bw:fy B cK fD)(aX:dB F cC){X x:ai}(aB:t.kindOf X=U .globalImplicit)(a_:cK X=U (.ref f))(b7:(X==("__debug__"))=ak)
  (cA:∀{h},bG B.bO h->h.get? f=U Q)(cM:Q.data=.func eF)(j:v[i]?=U x)(aH:(x==("__debug__"))=ak)(aP:m[i]?=U (.obj o))(bh:∀e∈A,∀x p,e≠.Starred x p)
  (h:lG B u d F w t v cN m dm A g L)(G:g[i]?=U (.obj o))(R:Cb B u d cC (.ref f) o L aj ao)(aq:∀{a h az P aG n},B.ob.at_ o a h az->B.ob.at_ o P aG n->P=a):
  cF B u d F w t v cN m (.Call (.Name X p) (.Name x aI::A) [] dm) (g.set i (.obj ao)) aj:=by
 intro aK aM aO eL e_ S aS;have aW:∀e∈(yI x aI::A),∀x p,e≠.Starred x p:=λe s x p q=>by
  rcases cQ.mp s with rfl|s
  .contradiction
  .exact bh e s x p q
 refine lD (pN bw S.1 S.ready.base aB a_ b7 (B8 (fd:=eF) (o:=Q) ((lI (aW _ gj))▸(uO (nY (cps λeY bf=>?_))))));obtain⟨y,bj,bu,l⟩:=S;obtain⟨fP,bB,a,rfl,bF⟩:=l.vars i x _ j aP;refine bf (ez (ew y l.ns bB (h aK aM aO _ _ ⟨y,bj,bu,l⟩ λbK bQ bV au bX T b8=>⟨⟨cA T.ready.base,cM⟩,?_⟩)) aH);refine cps λfq cf=>?_;obtain⟨y,aN,eM,T⟩:=T;obtain⟨eT,cz,z,rfl,r⟩:=T.vars i x _ j G;have cH:=aq bF r;subst cH;have c:=(ck.mp j).1;refine cf ?_;refine i7 (R F w bQ z bV _ bK _ aX T.ready r (λb H=>?_) b8 λcY c9 cy n q E dz dG dN di dW dU ef=>?_)
 .have k:=T.fp i c b H;refine(c_ k.2.1 ?_ (λq=>(T.tab b q).2.2.2.2 i c H));cases e:B.bO.get? b with
  |none=>rfl
  |some O=>simp only [T.fT b O e]at k;exact aU J k.1.symm
 .exact aS cY c9 cy (au.trans q) (bX.trans E) ⟨y,aN,_,T.p5 j dz dG E dN di cz ⟨z,J,dW⟩ dU⟩ ef
end
open PySem.W
section
set_option backward.match.sparseCases true
section
variable{g:cu}
noncomputable def br.up(H:br q)(g:cu)(l:bG H.bO g):br q:={H with bO:=g,base:=λk=>H.base (l.trans k),frame:=λa k X=>H.frame a (l.trans k) X}
theorem fy.up(G:fy H d r)(l:bG H.bO g):fy (H.up g l) d r:=⟨λk=>G.g (l.trans k),λk=>G.b (l.trans k),λk=>G.nolimit (l.trans k)⟩
theorem o9.up(E:o9 H d X i)(l:bG H.bO g):o9 (H.up g l) d X i:=
 E.imp λy=>Gk λy=>Gk λy=>Gk λy=>Gk λy h=>(kU h.1 (λk=>h.2.1 (l.trans k)) h.2.2.1 (λk=>h.2.2.2 (l.trans k)))
theorem SR.up(S:SR H X L f B n k m h)(l:bG H.bO g)(u:bG g h)(t:∀b o,g.get? b=U o->L.b b=U o)(A:L.it=[]):SR (H.up g l) X L f B n k m h:=by
 obtain⟨a,E,R,S⟩:=S;refine⟨a,E,R,{len:=S.len,base:=u,kept:=S.kept,bI:=S.bI,ns:=S.ns,nL:=S.nL,fT:=t,vars:=λi x y j w=>?_,own:=S.own,jt:=S.jt,cell:=S.cell,qf:=S.qf,inj:=S.inj,nodup:=S.nodup,fp:=S.fp,inv:=S.inv,tab:=S.tab,c3:=λb t=>(by rw [A]at t;exact bE (t) dP),new:=S.new,lock:=S.lock,apart:=S.apart}⟩;obtain⟨F,Q,e⟩:=S.vars i x y j w;refine⟨F,Q,?_⟩;cases y<;>exact e
noncomputable def rest(h:cu)(l:Y ay):cu:=hideAll h l
theorem A3(e:(rest h l).get? b=U o):h.get? b=U o/\b∉l:=
 ⟨of_hideAll l e,λq=>by simp only [rest,sR l q]at e;exact aU J e⟩
theorem t9(l:Y ay):bG (rest h l) h:=λb o e=>(A3 e).1
theorem nF(e:h.get? b=U o)(q:b∉l):(rest h l).get? b=U o:=hideAll_get l e q
noncomputable def Binds(H:br q)(i:bZ)(u:bR)(k:q7)(n:Y ai)(R E:Y T):Prop:=
 ∀(F:cI)(X:Mk)(B:aD)(z:Y aD)(f:Fz)(s:aT)(Q:Y (ai×aD)->aT->Prop)(P:aD->aT->Prop),F.handled=af->Ready H f s->bq X f z R->
  (∀O j e,cg H f s j O->bq X j e E->bG s.heap O.heap->Q (fh n (B::e)) O)->wpAny (model i u) F (bindArgs k ⟨B::z,[]⟩) Q P s
theorem Binds.plain(e:∀z,z.length=R.length+1->bindArgs k ⟨z,[]⟩=pure (fh n z)):Binds H i u k n R R:=by
 intro F X B z f s Q P g w b G;exact(e (B::z) (by simp [b.length])).symm▸(bD (G s f z (cg.refl w) b (bG.refl _)))
theorem HR(cy:fy H dU dm){aB:bN}(aO:∀{h},bG H.bO h->h.get? a=U aB)(c9:aB.data=.func k)(aW:∀{h},bG H.bO h->h.CodeRec k.code k.qualname)
  (bh:k.body=.stmts bQ)(bV:k.closure=[])(v:pe k.scope n)(cz:k.globals=mainGlobals)(t:k.builtins=builtinsNs)(aN:R.length+1<=n.length)(aS:Binds H E O k n bw R)
  {s:aT}{fp:Y ay}(ao:dB F (dz+1))(w:Ready H d s)(aG:H.ob.at_ o B s.heap fp)(aj:∀b∈fp,d b=af/\H.bO.get? b=af/\b∉H.tabs)(bf:bq X d au bw)
  (bB:∀(f:bG H.bO (rest s.heap (H.tabs++fp)))m l c,bS s l->Le d c->(∀b x,c b=U x->d b=U x\/s.heap.get? b=af)->SR (H.up _ f) X ⟨(rest s.heap (H.tabs++fp)).get?,[],c,[]⟩ c (callEnvC k m a) n n.length (lN o n R) l.heap->(s.heap.get? m=af)->
   wpAny (model E O) (F.deeper (callEnvC k m a)) (execs bQ (callEnvC k m a)) (λcA Q=>z (.ok (.ret (match cA with|.ret cY=>cY|_=>.none))) Q)
    (λe Q=>wpAny (model E O) (F.deeper (callEnvC k m a)) (leaving (callEnvC k m a) e) (λy L=>z (.error e) L) (λaP L=>z (.error aP) L) Q) l):
  codeAny (model E O) F (.call (.ref a) ⟨B::au,[]⟩) z s:=by
 refine aee ao.d (aO w.base) c9 v.co v.gen bh (aW w.base) (aS F.in1 X B au d s _ _ ao.handled w bf λp u aX g a_ r=>?_);have G:=g.ready w;refine bV▸(wpAny_newFunctionEnv_cells v.kind ?_ λdi bu l T=>?_)
 .intro x j;have bF:=by
   have:x.1∈(fh n (B::aX)).map (·.1):=fG j;unfold fh at this;rw [yx]at this;exact GI this
  rcases v.names _ bF with h|h
  .exact .inl h
  .exact .inr ⟨h,u_ k.scope.names _ [] (.inl h)⟩
 .subst bu;refine⟨(cy.nolimit G.base).keeps T.toInCall.keep,codeAny_func ?_⟩;have bK:∀b∈fp,u b=af/\H.bO.get? b=af/\b∉H.tabs:=λb t=>by
   have:=aj b t;refine⟨?_,this.2⟩;cases e:u b with
   |none=>rfl
   |some x=>
    rcases g.new b x e with q|q
    .exact aU this.1 q
    .have aq:=H.ob.live aG b t;rw [q]at aq;exact cW J aq
  have S:=Z_ v cz t G (H.frame aG G.base λb y x e=>r b x e) bK a_ aN T;have b7:∀{b o},H.bO.get? b=U o->b∉H.tabs++fp:=λ{b o}e q=>by
   rcases e8.mp q with q|q
   .exact aU (w.ji b q) e
   .exact aU ((aj b q).2.1) e
  have f:bG H.bO (rest s.heap (H.tabs++fp)):=λb o e=>nF (w.base b o e) (b7 e);have az:=r.trans T.toInCall.keep;have cf:∀b,p.heap.objs.size<=b->s.heap.get? b=af:=λb t=>by
   cases q:s.heap.get? b with
   |none=>rfl
   |some o=>exact bE (fQ (r _ _ q)) (fJ.mpr t)
  refine bB f p.heap.objs.size l u (g.same.trans (dS T.done λdG dN bj y=>(bS.of bj))) g.le g.new ?_ (cf _ (ek _));have cC:SR H X ⟨(rest s.heap (H.tabs++fp)).get?,[],u,[]⟩ u (callEnvC k p.heap.objs.size a) n n.length (lN o n R) l.heap:=by
   obtain⟨cH,cK,bX,S⟩:=S;have sub:∀{b},(if b∈H.tabs\/b∈fp then af else p.heap.get? b)=af->(rest s.heap (H.tabs++fp)).get? b=af:=λ{b}e=>by
    cases q:(rest s.heap (H.tabs++fp)).get? b with
    |none=>rfl
    |some o=>
     refine bM (A3 q) λb8 P=>?_;have:=r _ _ b8;simp only [e8,not_or]at P;simp [P.1,P.2,this]at e
   refine⟨cH,cK,bX,{S with kept:=λb x e=>az b x (A3 e).1,nL:=⟨sub S.nL.1,S.nL.2⟩,fT:=λb x e=>f b x e,own:=λi x aH A j cN cM=>sub (S.own i x aH A j cN cM),jt:=λi x aH A j y y=>bE ((λi x j=>(ck.mp j).1) i x j) (fJ.mpr A),fp:=λi A b t=>⟨sub (S.fp i A b t).1,(S.fp i A b t).2⟩,tab:=λaI aK=>⟨sub (S.tab aI aK).1,(S.tab aI aK).2⟩,c3:=λb t=>(by cases t),new:=λb x e=>.inl e,lock:=λdW aM=>(by cases aM)}⟩
  exact cC.up f (λb x e=>az b x (A3 e).1) (λb x e=>e) J
end
end
section
variable{B:br O}{prog:bZ}{w:bR}{A:cI}{ρ:Mk}{env:cG}{xs:Y ai}{k:aa}{lv aV:Y (AV O)}
noncomputable def u6(A:fg)(r:T):Prop:=A=.ret r\/(A=.next/\r=.none)
structure kh(B:br O)(a:ay)(ob:bN)(fd:q7)(body:Y b9)(xs:Y ai):Prop where
 ho:∀{h},bG B.bO h->h.get? a=U ob
 hd:ob.data=.func fd
 z4:∀{h},bG B.bO h->h.CodeRec fd.code fd.qualname
 z3:fd.body=.stmts body
 z5:fd.closure=[]
 xE:pe fd.scope xs
 hg:fd.globals=mainGlobals
 hb:fd.builtins=builtinsNs
theorem kh.up(E:kh B a Q h L xs)(l:bG B.bO g):kh (B.up g l) a Q h L xs:=
 ⟨λk=>E.ho (l.trans k),E.hd,λk=>E.z4 (l.trans k),E.z3,E.z5,E.xE,E.hg,E.hb⟩
noncomputable def ff(B:br O)(prog:bZ)(w:bR)(g:aa)(X:aD)(o:O)(R:Y T)(a:O->T->Prop):Prop:=
 ∀(A:cI)(ρ:Mk)(f:Fz)(e:aD)(z:Y aD)(n:Result->aT->Prop)(s:aT)(p:Y ay),dB A g->Ready B f s->B.ob.at_ o e s.heap p->(∀b∈p,f b=af/\B.bO.get? b=af/\b∉B.tabs)->bq ρ f z R->
  (∀h j v y H r,a H r->bS s h->Le f j->(∀b,b∉p->b∉B.tabs->∀x,s.heap.get? b=U x->h.heap.get? b=U x)->B.inv j h.heap->Le j h.heap.get?->(∀b x,j b=U x->f b=U x\/s.heap.get? b=af\/b∈p)->
   B.ob.at_ H e h.heap y->(∀b∈y,(b∈p\/s.heap.get? b=af)/\j b=af)->Den ρ j v r->n (.ok (.ret v)) h)->codeAny (model prog w) A (.call X ⟨e::z,[]⟩) n s
theorem ff.ob(h:ff B prog w g X o R λu q=>u=H/\q=r):Cb B prog w g X o R r H:=
 λA ρ f e z n s p a b c d i k=>h A ρ f e z n s p a b c d i λO j v y u q x=>by refine cps λl F=>?_;obtain⟨rfl,rfl⟩:=x;refine F ?_;exact k O j v y
theorem ff.mono(e:ff B prog w g X o R h)(p:∀H r,h H r->i H r):ff B prog w g X o R i:=
 λA ρ f a z n s x b l c d j k=>e A ρ f a z n s x b l c d j λO t v y H r q=>k O t v y H r (p H r q)
noncomputable def jW(B:br O)(prog:bZ)(w:bR)(A:cI)(ρ:Mk)(env:cG)(xs:Y ai)(k:aa)(lv:Y (AV O))(st:Y b9)(y:Y (AV O)->fg->Prop):Prop:=
 ∀(L:HB)(f:Fz)(s:aT)(Q:Flow->aT->Prop)(P:aD->aT->Prop),L.lk=[]->SR B ρ L f env xs k lv s.heap->
  (∀h j X S e,y S e->bS s h->Le f j->SR B ρ L j env xs k S h.heap->FD ρ j X e->Q X h)->wpAny (model prog w) A (execs st env) Q P s
noncomputable def zl(B:br O)(prog:bZ)(w:bR)(A:cI)(ρ:Mk)(env:cG)(xs:Y ai)(k:aa)(lv:Y (AV O))(st:b9)(y:Y (AV O)->fg->Prop):Prop:=
 ∀(L:HB)(f:Fz)(s:aT)(Q:Flow->aT->Prop)(P:aD->aT->Prop),L.lk=[]->SR B ρ L f env xs k lv s.heap->
  (∀h j X S e,y S e->bS s h->Le f j->SR B ρ L j env xs k S h.heap->FD ρ j X e->Q X h)->wpAny (model prog w) A (exec st env) Q P s
section
variable{st:b9}{rest:Y b9}{Φ:Y (AV O)->fg->Prop}
theorem eV.p{st:Y b9}(h:eV B prog w A ρ env xs k lv st aV fl)(p:Φ aV fl):jW B prog w A ρ env xs k lv st Φ:=λL f s Q P a b c=>h L f s Q P a b λO j X=>c O j X _ _ p
theorem gB.p(h:gB B prog w A ρ env xs k lv o aV fl)(p:Φ aV fl):zl B prog w A ρ env xs k lv o Φ:=λL f s Q P a b c=>h L f s Q P a b λO j X=>c O j X _ _ p
theorem yt(R:zl B prog w A ρ env xs k lv o Ψ)(e:∀aV h,Ψ aV h->h=.next/\jW B prog w A ρ env xs k aV rest Φ\/h≠.next/\Φ aV h):jW B prog w A ρ env xs k lv (o::rest) Φ:=by
 intro L f s Q P l S G;refine g4 (R L f s _ _ l S λt u X aV h p q c T d=>?_);rcases e aV h p with⟨rfl,e⟩|⟨a,p⟩
 .obtain rfl:=d.nx;exact e L u t Q P l T λx F X H h p i z b d=>G x F X H h p (q.trans i) (c.trans z) b d
 .have j:=G t u X aV h p q c T d;cases X<;>first|exact bE J (d.ne a)|exact j
theorem Bw(R:gB B prog w A ρ env xs k lv o aV .next)(h:jW B prog w A ρ env xs k aV rest Φ):jW B prog w A ρ env xs k lv (o::rest) Φ:=
 yt (Ψ:=λl X=>l=aV/\X=.next) (R.p ⟨J,J⟩) λl X p=>by obtain⟨rfl,rfl⟩:=p;exact .inl ⟨J,h⟩
theorem abB(p:Φ lv .next):jW B prog w A ρ env xs k lv [] Φ:=i3.p p
noncomputable def Wk(B:br O)(y i:AV O):Prop:=∀ρ f h F p,Holds B ρ f h y F p->Holds B ρ f h i F p
noncomputable def pq(B:br O)(lv S:Y (AV O)):Prop:=lv.length=S.length/\∀(i:aa)(a b:AV O),lv[i]?=U a->S[i]?=U b->Wk B a b
theorem SR.wk(S:SR B ρ L f env xs k lv h)(q:pq B lv aV):SR B ρ L f env xs k aV h:=by
 obtain⟨y,E,R,S⟩:=S;refine⟨y,E,R,{S with len:=q.1▸S.len,vars:=λi x e j w=>?_}⟩;have A:=by exact(q.1)▸((ck.mp w).1)
 obtain⟨F,Q,g⟩:=S.vars i x _ j (cP A);exact⟨F,Q,q.2 i _ _ (cP A) w _ _ _ _ _ g⟩
theorem jW.x{st:Y b9}(h:jW B prog w A ρ env xs k lv st Φ)(p:∀S i,Φ S i->pq B S aV/\i=e):eV B prog w A ρ env xs k lv st aV e:=
 λL f s Q P a b c=>h L f s Q P a b λO x X S i q l G n d=>by refine bM (p S i q) λw j=>?_;subst j;exact c O x X l G (n.wk w) d
theorem jW.wk{st:Y b9}(h:jW B prog w A ρ env xs k lv st Φ)(p:∀S i,Φ S i->∃aV,pq B S aV/\e aV i):jW B prog w A ρ env xs k lv st e:=
 λL f s Q P a b c=>h L f s Q P a b λO j X S i q x G l d=>aA (p S i q) λaV w q=>c O j X aV i q x G (l.wk w) d
end
noncomputable def Cd(a:cI->Prop)(B:br O)(prog:bZ)(w:bR)(g:aa)(X:aD)(o:O)(R:Y T)(i:O->T->Prop):Prop:=
 ∀(A:cI)(ρ:Mk)(f:Fz)(e:aD)(z:Y aD)(n:Result->aT->Prop)(s:aT)(p:Y ay),a A->dB A g->Ready B f s->B.ob.at_ o e s.heap p->(∀b∈p,f b=af/\B.bO.get? b=af/\b∉B.tabs)->bq ρ f z R->
  (∀h j v y H r,i H r->bS s h->Le f j->(∀b,b∉p->b∉B.tabs->∀x,s.heap.get? b=U x->h.heap.get? b=U x)->B.inv j h.heap->Le j h.heap.get?->(∀b x,j b=U x->f b=U x\/s.heap.get? b=af\/b∈p)->
   B.ob.at_ H e h.heap y->(∀b∈y,(b∈p\/s.heap.get? b=af)/\j b=af)->Den ρ j v r->n (.ok (.ret v)) h)->codeAny (model prog w) A (.call X ⟨e::z,[]⟩) n s
theorem yg(e:h.get? b=U o)(i:b∉l)(u:b∉l'):(rest h (l++l')).get? b=U o:=nF e λq=>(e8.mp q).elim i u
inductive Hh(B:br O)(fz f':Fz)(h h':cu)(fp TV:Y ay)(L:ay)(u:aD)(PV:O->Prop):Prop
 |mk(o':O)(vf:Y ay)(PP:PV o')(kp:∀b,b∉TV->b∉B.tabs->∀x,h.get? b=U x->h'.get? b=U x)(nw:∀b x,f' b=U x->fz b=U x\/h.get? b=af\/b∈fp)(C7:B.ob.at_ o' u h' vf)
  (fr:∀b∈vf,(b∈fp\/h.get? b=af)/\f' b=af)(in1:∀b∈vf,b≠L/\b∉B.tabs)(nL:f' L=af)(nT:∀b∈B.tabs,f' b=af)(m:ai->aY aD)(ns:h'.Ns L m)
theorem L2{ρ:Mk}{d j:Fz}{env:cG}{R:aa->Y ay}{w:O->Prop}(s:B.ob.at_ aN i h p)(aG:B.ob.at_ aM i h z)(sub:∀b∈z,b∈p)(n:∀b∈p,f b=af/\b∉B.tabs)
  (aj:∀b x,d b=U x->f b=U x\/h.get? b=af)(Q:h.get? env.locals=af)(a:aQ (B.up aH aI) ρ ⟨(rest h (B.tabs++z)).get?,[],d,[]⟩ j env xs k aK E R h')(A:0<xs.length)(az:B.ob.at_ aB i h' (R 0))
  (X:(∀b∈p,b∉z->∀x,h.get? b=U x->h'.get? b=U x)->(∀b∈R 0,b∈z\/h.get? b=af)->∃H y,w H/\B.ob.at_ H i h' y/\∀b∈y,b∈R 0\/b∈p/\b∉z):Hh B f j h h' p z env.locals i w:=by
 have F:=a.fp 0 A;have v:∀b∈R 0,b∉B.tabs:=λb t q=>(a.tab b q).2.2.2.2 0 A t;have r:=λb t=>(uA _).imp id λS=>iO λx e=>aU (F b t).1 (yg e (v b t) S);have o:=λb aq u x e=>a.kept b x (yg e u aq);refine jw (X (λb t c x e=>o b c (n b t).2 x e) r) λH y L T m=>?_;have P:=λb x e=>(a.new b x e).imp (aj b x) λq=>(uA _).imp id λS=>iO λg G=>aU q (yg G (λao=>aU (a.tab b ao).2.1 e) S);refine⟨H,y,L,o,λb x e=>(P b x e).elim (λq=>q.imp id .inl) λq=>.inr (q.symm.imp id (sub b)),T,λb t=>?_,λb t=>?_,a.nL.2,λb t=>(a.tab b t).2.1,E,a.ns⟩
 .refine(m b t).elim (λt=>⟨(r b t).imp (sub b) id,(F b t).2.1⟩) λl=>bM l λt c=>⟨.inl t,iO λg e=>?_⟩;have lv:=B.ob.live s b t;exact(P b g e).elim (λq=>q.elim (aU (n b t).1) λq=>cW (aL l8 q) lv) λq=>q.elim c λq=>cW (aL l8 q) lv
 .exact(m b t).elim (λt=>⟨(F b t).2.2.1,v b t⟩) λl=>bM l λt au=>⟨λq=>cW (aL l8 Q) (q▸B.ob.live s b t),(n b t).2⟩
theorem HU(aK:fy B dW dz){o:O}{az L:O->T->Prop}(E:kh B a dU Q bV xs)(aB:aI.length+1<=xs.length)(aP:Binds B prog w Q xs aS aI)
  (bf:∀{h e p},B.ob.at_ o h e p->∃z,B.ob.at_ u h e z/\∀b∈z,b∈p)(a_:∀{h e p G s y f r},L f r->B.ob.at_ u h e p->B.ob.at_ f G s y->G=h)
  (aN:∀{h e p z j}(q:bG B.bO j),B.ob.at_ o h e p->B.ob.at_ u h e z->(∀b x,e.get? b=U x->b∉B.tabs->b∉z->j.get? b=U x)->(∀b∈p,b∉B.tabs)->∀m A ρ,PA A->dB A (n+1)->
   jW (B.up j q) prog w (A.deeper (callEnvC Q m a)) ρ (callEnvC Q m a) xs xs.length (lN u xs aI) bV λaq aH=>∃f r,aq[0]?=U (.obj f)/\u6 aH r/\L f r)
  (bX:∀{h e p z s g f r},L f r->B.ob.at_ o h e p->B.ob.at_ u h e z->B.ob.at_ f h s g->(∀b∈p,b∉z->∀x,e.get? b=U x->s.get? b=U x)->(∀b∈g,b∈z\/e.get? b=af)->∃H y,az H r/\B.ob.at_ H h s y/\∀b∈y,b∈g\/b∈p/\b∉z):
  Cd PA B prog w (n+1) (.ref a) o aS az:=by
 intro A ρ dG h dN c9 dm p aM au aO l k aW aX;refine aA (bf l) λz R sub=>?_;refine HR aK E.ho E.hd E.z4 E.z3 E.z5 E.xE E.hg E.hb aB aP au aO R (λb t=>k b (sub b t)) aW λq m bh bj bu bw bB bF bK=>aN q l R (λb x c X S=>nF c (by simp [X,S])) (λb t=>(k b t).2.2) m A ρ aM au _ bj bh _ _ J bF λb7 cf cN aq aH P F cy i d=>?_;obtain⟨f,r,cz,bQ,P⟩:=P;obtain⟨_,ef,cY,i⟩:=i;have aG:0<xs.length:=dg 0 (.a (.n 0) (.n 1)) (.v 1) (.a (.v 0) (.n 1)) (.v 1) J [_,_] aB;obtain⟨di,_,G,rfl,aj⟩:=i.vars 0 _ _ (cP aG) cz;have cA:=a_ P R aj;subst cA;obtain⟨H,y,b8,cH,cC,cK,cM,_⟩:=L2 l R sub (λb t=>⟨(k b t).1,(k b t).2.2⟩) bB bK i aG aj (bX P l R aj);have ao:=λv d=>aX b7 cf v y H r b8 (bu.trans F) (bw.trans cy) (λb X S x c=>cH b (λF=>X (sub b F)) S x c) i.inv i.bI cC cK cM d;rcases bQ with rfl|⟨rfl,rfl⟩
 .obtain⟨v,rfl,d⟩:=d.rt;exact ao _ d
 .obtain rfl:=d.nx;exact ao _ .none
theorem HT(G:fy B aI aK){k n8:O->T->Prop}(q:kh B s aH fd L xs)(Q:E.length+1<=xs.length)(aq:Binds B prog w fd xs R E)
  (t:∀{h e p},B.ob.at_ o h e p->∃z,B.ob.at_ o₁ h e z/\∀b∈z,b∈p)(d:∀{h e p P a y f r},n8 f r->B.ob.at_ o₁ h e p->B.ob.at_ f P a y->P=h)
  (v:∀{h e p z i}(l:bG B.bO i),B.ob.at_ o h e p->B.ob.at_ o₁ h e z->(∀b x,e.get? b=U x->b∉B.tabs->b∉z->i.get? b=U x)->(∀b∈p,b∉B.tabs)->∀m A ρ,dB A c->
   jW (B.up i l) prog w A ρ (callEnvC fd m s) xs xs.length (lN o₁ xs E) L λS X=>∃f r,S[0]?=U (.obj f)/\u6 X r/\n8 f r)
  (F:∀{h e p z a g f r},n8 f r->B.ob.at_ o h e p->B.ob.at_ o₁ h e z->B.ob.at_ f h a g->(∀b∈p,b∉z->∀x,e.get? b=U x->a.get? b=U x)->(∀b∈g,b∈z\/e.get? b=af)->∃H y,k H r/\B.ob.at_ H h a y/\∀b∈y,b∈g\/b∈p/\b∉z):
  ff B prog w (c+1) (.ref s) o R k:=λA ρ u h ao n au p=>
 HU (PA:=λaj=>True) G q Q aq t d (λl aB az aG j m A ρ aj n=>v l aB az aG j m _ ρ n.deeper) F A ρ u h ao n au p trivial
end
noncomputable abbrev cj(l:Y aa):ai:=⟨l.toArray⟩
inductive iI:Y aD->Y (Y aa)->Prop
 |nil:iI [] []
 |cons{l:Y aa}{t:fK}{vs ls}:iI vs ls->iI (.str (cj l) t::vs) (l::ls)
theorem iI.pC{z:Y aD}{s:Y (Y aa)}(h:iI z s):bq ρ fz z (s.map .str):=iI.rec .nil (λy i=>.cons (.str _ _) i) h
theorem iI.of:∀{s:Y (Y aa)}{z:Y aD},bq X f z (s.map .str)->iI z s
 |[],_,d=>d.jg (P:=λz=>iI z []) .nil
 |_::_,_,d=>d.ju (P:=λz=>iI z _) λy A a b=>a.i5 (P:=λv=>iI (v::A) _) λy=>.cons (iI.of b)
theorem iI.append{s x:Y (Y aa)}(h:iI z s)(k:iI A x):iI (z++A) (s++x):=iI.rec k (λy i=>.cons i) h
structure Nd where
 key:Y aa
 i:ay
 id:ay
 su:ay
 np:aF
 succ:Y (Y aa)
structure SG where
 self:ay
 d:ay
 D:ay
 cO:aY ay
 rl:Y (Y aa)
 po:aF
 fi:aF
 bU:Y Nd
structure Cl where
 K:Frag
 C:ay
 N:ay
 fs:Y (ai×ay)
 ni:ay
 p0:ay
 p1:ay
 p2:ay
theorem zM{g S:aa}(e:dictOf A g=dictOf l S):A=l:=aL N4 (Data.dict.inj (aL OX e)).1
noncomputable def rV:aY ay->aD
 |U a=>.ref a
 |af=>.none
inductive PU(D:ay)(cO:aY ay)(po fi:aF)(o:bN):Prop
 |mk(es:Y DictEntry)(n:aa)(tp tf:fK)(e:o=dictOf es n)(hl:es.length<=8)(h1:getL "_node2info" es=U (U (.ref D)))(h2:getL "_ready_nodes" es=U (U (rV cO)))(h3:getL "_npassedout" es=U (U (.int po tp)))(h4:getL "_nfinished" es=U (U (.int fi tf)))
  (h5:∀x,x≠("_node2info":ai)->x≠("_ready_nodes":ai)->x≠("_npassedout":ai)->x≠("_nfinished":ai)->getL x es=U af)
noncomputable def iy(G:SG):bN->Prop:=PU G.D G.cO G.po G.fi
noncomputable def fC(s:Y (Y aa))(o:bN):Prop:=∃z g,o=lo z g/\iI z s
noncomputable def pT(r:ay)(Q:Nd)(o:bN):Prop:=∃w B,o=⟨.ref r,U Q.id,.plain,#[U (.str (cj Q.key) w),U (.int Q.np B),U (.ref Q.su)]⟩
noncomputable def cV(G:SG):Y (ai×aD):=G.bU.map λQ=>(cj Q.key,.ref Q.i)
noncomputable def j3(i:bZ)(u:bR)(G:SG)(o:bN):Prop:=∀(h:cu)(a:ay),h.get? a=U o->h.DictOf (strKind i u) a (cV G)
noncomputable def j0(r:ay)(Q:Nd):Y (ay×(bN->Prop)):=[(Q.i,pT r Q),(Q.id,λy=>True)]
noncomputable def fO(h:ay)(G:SG):Y (ay×(bN->Prop)):=(G.self,λo=>o=instObj h G.d)::(G.d,iy G)::(match G.cO with|U a=>[(a,fC G.rl)]|af=>[])
noncomputable def gF(r:ay)(G:SG):Y (ay×(bN->Prop)):=G.bU.flatMap (j0 r)
noncomputable def gQ(i:bZ)(u:bR)(G:SG):Y (ay×(bN->Prop)):=(G.D,j3 i u G)::G.bU.map λQ=>(Q.su,fC Q.succ)
noncomputable def objs(i:bZ)(u:bR)(c:Cl):aa->SG->Y (ay×(bN->Prop))
 |0,G=>fO c.C G++gF c.N G++gQ i u G
 |1,G=>fO c.C G++gF c.N G
 |_,G=>fO c.C G
theorem nB{c:Cl}:objs i u c 0 G=fO c.C G++gF c.N G++gQ i u G:=J
theorem AR{c:Cl}:objs i u c 1 G=fO c.C G++gF c.N G:=J
theorem LK{c:Cl}:objs i u c (g+2) G=fO c.C G:=J
noncomputable def qC(i:bZ)(u:bR)(c:Cl):aa->SG->Y (ay×(bN->Prop))
 |0,_=>[]
 |1,G=>gQ i u G
 |_,G=>gF c.N G++gQ i u G
noncomputable def ro(l:Y (ay×(bN->Prop)))(h:cu):Prop:=∀x∈l,∃o,h.get? x.1=U o/\x.2 o
theorem ro.keep(s:ro l h)(k:∀b∈l.map (·.1),∀o,h.get? b=U o->h'.get? b=U o):ro l h':=λx j=>aA (s x j) λo L p=>(aR o (k _ (fG j) o L) p)
structure gc(l:Y (ay×(bN->Prop)))(h:cu)(fp:Y ay):Prop where
 dJ:ro l h
 ad:fp=l.map (·.1)
 nd:fp.Nodup
theorem gc.live(s:gc l h p):∀b∈p,(h.get? b).isSome=ae:=by
 intro b t;rw [s.ad]at t;refine aA (eG.mp t) λx j i=>?_;subst i;refine aA (s.dJ x j) λo L y=>?_;rw [L];rfl
theorem gc.keep{p:Y ay}(s:gc l h p)(k:∀b∈p,∀o,h.get? b=U o->h'.get? b=U o):gc l h' p:=
 ⟨s.dJ.keep (by rw [<-s.ad];exact k),s.ad,s.nd⟩
theorem gc.set{h T:cu}(s:gc l h e)(r:gI a h T)(i:A.map (·.1)=l.map (·.1))(H:∀x∈A,(x∈l/\x.1≠a)\/(x.1=a/\∃o,T.get? a=U o/\x.2 o)):gc A T e:=
 ⟨λx j=>by
  rcases H x j with⟨q,g⟩|⟨q,o,L,p⟩
  .obtain⟨o,L,p⟩:=s.dJ x q;exact(aR o ((r.2 _ g).trans L) p)
  .exact(aR o ((aL _ q).trans L) p),by rw [i];exact s.ad,s.nd⟩
theorem gc.sub{l c z:Y (ay×(bN->Prop))}(s:gc (c++z) h p):gc c h (c.map (·.1)):=
 ⟨λx j=>s.dJ x (fV _ j),J,by have:=s.nd;rw [s.ad,dO]at this;exact(f9.mp this).1⟩
inductive Ob where
 |bz(st:ay)(xs:Y aa)(k:aa)
 |b6(p:aa)(G:SG)
 |E6(p:aa)(G:SG)
 |b3(self:ay)(l:Y (Y aa×aF×Y (Y aa)))(cO:aY (Y (Y aa)))(po fi:aF)
 |ir(self d:ay)(st:aa)
 |jO(st:aa)(nd:Nd)
 |c3(l:Y (ay×aa))
 |vt(l:Y (ay×aa))
 |set(l:Y (Y aa))
 |kO(l:Y (Y aa×aF))
noncomputable def slotsOf(Q:Nd)(w B:fK):aa->jo (aY aD)
 |0=>#[]
 |1=>#[U (.str (cj Q.key) w)]
 |2=>#[U (.str (cj Q.key) w),U (.int Q.np B)]
 |_=>#[U (.str (cj Q.key) w),U (.int Q.np B),U (.ref Q.su)]
noncomputable def r5(r:ay)(st:aa)(Q:Nd)(o:bN):Prop:=∃w B,o=⟨.ref r,U Q.id,.plain,slotsOf Q w B st⟩
noncomputable def vB(r:ay)(st:aa)(Q:Nd):Y (ay×(bN->Prop)):=(Q.i,r5 r st Q)::(Q.id,λy=>True)::(if st=3 then [(Q.su,fC Q.succ)]else [])
noncomputable def SG.abs(G:SG):Ob:=.b3 G.self (G.bU.map λQ=>(Q.key,Q.np,Q.succ)) (G.cO.map λy=>G.rl) G.po G.fi
noncomputable def j1:aa->ai
 |0=>"_node2info"
 |1=>"_ready_nodes"
 |2=>"_npassedout"
 |_=>"_nfinished"
noncomputable def Dn(E:ay)(R n:fK):aa->aD
 |0=>.ref E
 |1=>.none
 |2=>.int 0 R
 |_=>.int 0 n
noncomputable def oq(E:ay)(R n:fK):aa->ai->aY aD
 |0,_=>af
 |g+1,x=>if x=j1 g then U (Dn E R n g)else oq E R n g x
theorem U3:oq E R n 0 x=af:=J
theorem Dm:oq E R n (g+1) x=if x=j1 g then U (Dn E R n g)else oq E R n g x:=J
noncomputable def qA(E:ay)(st:aa)(o:bN):Prop:=∃A g R n,o=dictOf A g/\A.length<=st/\∀x,getL x A=U (oq E R n st x)
noncomputable def JD(i:bZ)(u:bR)(a F d E:ay)(st:aa):Y (ay×(bN->Prop)):=
 (F,λo=>o=instObj a d)::(d,qA E st)::(if st=0 then []else [(E,j3 i u ⟨F,d,E,af,[],0,0,[]⟩)])
noncomputable def ue:aY b9:=dZ 1 (cZ (bz 21))
theorem qe(O:k.params=p)(E:k.defaults=d)(R:Args):bindArgs k R=bindArgs {k with params:=p,defaults:=d} R:=by subst O E;rfl
structure Hj(fd:q7)(c1 c2 cc:ay):Prop where
 params:fd.params=ik ue
 body:fd.body=.stmts (cZ ue)
 scope:fd.scope=eK ue
 nj:fd.closure=[(("octets":ai),c2),(("at":ai),c1)]
 Ud:fd.globals=mainGlobals
 QH:fd.builtins=builtinsNs
 code:fd.code=.ref cc
 RN:fd.defaults=.none
 kdf:fd.kwdefaults=.none
inductive kc:Y aD->Y aa->Prop
 |nil:kc [] []
 |cons{i:aa}{t:fK}{vs xs}:kc vs xs->kc (.int (i:aF) t::vs) (i::xs)
noncomputable def Yn(w:ay)(o:bN):Prop:=∀(h:cu)(a:ay),h.get? a=U o->h.Ns a λx=>if x="read"then U (.ref w)else af
noncomputable def vS(st d h R a m B f:ay)(n:Y aa)(e:aa):Y (ay×(bN->Prop)):=
 [(st,λo=>∃k l,o=⟨.type "function",U d,.func k,l⟩),(d,Yn h),
  (h,λo=>∃k l,o=⟨.type "function",af,.func k,l⟩/\Hj k R m f/\k.qualname="_law_stream.<locals>._law_read"),(R,λo=>o.data=.cell (U (.ref a))),(a,λo=>∃w g,o=lo [.int (e:aF) w] g),(m,λo=>o.data=.cell (U (.ref B))),
  (B,λo=>∃z g,o=lo z g/\kc z n),(f,λo=>∃z w,o.data=.fields z/\z[1]?=U (.str "_law_stream.<locals>._law_read" w))]
theorem tZ(i:bZ)(u:bR)(c:Cl)(p:aa)(G:SG):objs i u c 0 G=objs i u c p G++qC i u c p G:=by
 match p with
 |0=>exact(nV _).symm
 |1=>rfl
 |g+2=>exact kG _ _ _
section
open Builtin Builtin.ObjectAttr Builtin.Getset_descriptor
set_option tactic.hygienic true
theorem Me(G:ai)(L:aF)(i v:aD)(A:Y DictEntry):(putL G L i v A).length<=A.length+1:=by
 induction A with
 |nil=>exact ek _
 |cons e r f=>
  unfold putL;split
  .exact uH _
  .exact jH f
theorem YT(r:Y DictEntry):(putL G L (.str G m) v r).any (·.refKey)=r.any (·.refKey):=by
 induction r with
 |nil=>rfl
 |cons e r f=>
  unfold putL;split
  .rfl
  .exact aL _ f
section
variable{prog:bZ}{w:bR}{A:cI}{K:Frag}{R:Result->aT->Prop}
theorem X_{n:aa}(i:K.In s.heap)
  (x:InstAt s.heap f q a (U (dictOf h n)))(b:q.dict=U e)(O:plainOver K a=ae)(o:takerIn K a G=U af)(g:hasDictIn K a=ae)
  (H:(getL G h).isSome=ae)(d:h.length<=900)
  (p:∀T,gI e s.heap T->T.get? e=U (dictOf (putL G (q2 w.params G) (.str G s.toks) v h) (putN G h n))->R (.ok (.ret .none)) {s with heap:=T,toks:=s.toks+1}):
  codeAny (model prog w) A (.call (.builtin "object.__setattr__") ⟨[.ref f,.str G ao,v],[]⟩) R s:=by
 refine osa_open i x O o λy=>cps λF r=>aA (any_some g) λP m Q=>?_;obtain⟨u,l,aj,E⟩:=x;obtain⟨aq,z,B,L⟩:=q;refine r ?_;dsimp only at l b E;subst l b;have j:=putName_dict G (q2 w.params G) (.str G s.toks) v h n;have k:(s.heap.update e (OZ G (q2 w.params G) (.str G s.toks) v)).get? e=U (dictOf (putL G (q2 w.params G) (.str G s.toks) v h) (putN G h n)):=by
  refine aZ (oV _ E (aL _ j)) ?_;exact aL _ (j)
 refine aE (bD (aE (aE (G3 u (aE ((looks_clsIn i m).here ?_))))));rw [Q];refine bD (aE (bD (aE (aE (aE (Pn (bD (aE (y9 (aE (G3 E ?_)))))))))));have c:(!h.toArray.any (·.key.isStr G)&&h.toArray.any (·.refKey))=ak:=by
  simp only [ac3]
  delta getL at H
  split at H
  .rename_i S X;exact(qY.mpr (aR S (List.mem_of_find?_eq_some X) (List.find?_some X))).symm▸J
  .split at H
   .exact cW J H
   .rename_i t;simp only [t,Bool.and_false]
 dsimp only;rw [aRefKeyMayBeTheName_at,c];refine Pw E ?_;have len:=Me G (q2 w.params G) (.str G s.toks) v h;exact aE (wpAny_lookBehind k (pastItsLine_dict (nW.symm▸o6.symm▸(g_ 0 (.v 1) (.a (.n 16777216) (.n 1)) (.v 0) (.n 900) (.v 1) (.a (.v 0) (.n 1)) J [_,_] d len))) (bD (p _ (nU ..) k)))
theorem TY(o:bN)(l:jo _):({o with slots:=l}).isFreed=o.isFreed:=by
 obtain⟨_,_,d,_⟩:=o;cases d<;>rfl
theorem Z7{p i:aa}(T:K.In s.heap)(e:InstAt s.heap x q a S)
  (O:slotIn K p a=U i)(f:i<1000)(l:q.isFreed=ak)
  (d:∀h,gI x s.heap h->h.get? x=U {q with slots:=(q.slots++Gh (i+1-q.slots.size) af).setIfInBounds i (U v)}->R (.ok (.ret .none)) {s with heap:=h}):
  codeAny (model prog w) A (.call (.builtin "member_descriptor.__set__") ⟨[.ref p,.ref x,v],[]⟩) R s:=by
 refine cps λy r=>?_;obtain⟨n,u,c,b,t,E,H,k,L,m,z,g,rfl⟩:=slot_of T O;refine r ?_;have j:=e.at_;have y:=d (s.heap.update x (λo=>{o with slots:=(o.slots++Gh (k.slotNames.length-1-b.toNat+1-o.slots.size) af).setIfInBounds (k.slotNames.length-1-b.toNat) (U v)})) (nU ..)
  (oV _ j ((TY q _).trans l))
 have X:=e.type (M:=model prog w);have Q:=looks_mroIn (M:=model prog w) T z;have F:Looks (model prog w) s.heap (Slots.slotNamesOf (.ref a)) k.slotNames:=(looks_clsIn T m).andThen .now;have G:=GX (M:=model prog w) L 0 (v:=.str n u) J;have P:=GX (M:=model prog w) L 1 (v:=c) J;have aj:=GX (M:=model prog w) L 3 (v:=.builtin "proto.slot#set") J;have ao:=GX (M:=model prog w) L 4 (v:=.int b t) J;refine o5 Om.plain KF.entry_mset (Om.check _ _ _ _ _ _ _ _ (aR _ L J) (KF.args_mset _ _ _) ?_);have aq:Looks (model prog w) s.heap (descrItself (.ref p)) [.ref p]:=((Looks.ld L).andThen .now).andThen (Looks.of_pure (J))
 repeat lk
 refine⟨yH _ (by decide+kernel),yW KF.entry_slotset ?_⟩
 repeat lk
 refine(bA g)▸(bD (aE ?_));refine lX (bA (by rw [o6];exactλB=>oB (g_ 0 (.n 1) (.n 0) (.a (.v 0) (.n 1)) (.n 1000) (.n 16777216) (.v 0) J [_] f B))) ?_;exact Pw j (bD y)
theorem A_(e:K.In s.heap)
  (i:InstAt s.heap x q a (U (dictOf h t)))(E:q.dict=U n)(r:findIn K (.ref a) "__setattr__"=U (U (.builtin "object.__setattr__")))(O:plainOver K a=ae)(k:takerIn K a G=U af)(g:hasDictIn K a=ae)
  (H:(getL G h).isSome=ae)(f:h.length<=900)
  (b:∀T L m S,gI n s.heap T->T.get? n=U (dictOf (putL G L (.str G m) v h) S)->Q () {s with heap:=T,toks:=s.toks+2}):
  wpAny (model prog w) A (setAttr (.ref x) G v) Q P s:=
 set_plain e i r (X_ e i E O k g H f λT j l=>b T _ _ _ j l)
theorem ET{p i:aa}(h:K.In s.heap)(e:InstAt s.heap x q a S)
  (r:findIn K (.ref a) "__setattr__"=U (U (.builtin "object.__setattr__")))(O:plainOver K a=ae)(k:takerIn K a G=U (U (.ref p)))(R:typeIn K (.ref p)=U (.type "member_descriptor"))(l:slotIn K p a=U i)(f:i<1000)(n:q.isFreed=ak)
  (j:∀T,gI x s.heap T->T.get? x=U {q with slots:=(q.slots++Gh (i+1-q.slots.size) af).setIfInBounds i (U v)}->Q () {s with heap:=T,toks:=s.toks+1}):
  wpAny (model prog w) A (setAttr (.ref x) G v) Q P s:=
 set_plain h e r (osa_descr Om h e O k R (Z7 h e l f n λT t b=>j T t b))
theorem Du{x G:ai}(d:x≠G){k:aD}(h:k.isStr G=ae):¬k.isStr x=ae:=by
 cases k with
 |str s w=>exactλq=>d ((eq_of_beq q).symm.trans (eq_of_beq h))
 |_=>exact cW J h
theorem JO(G:ai)(m:fK):(B7 G m).isStr G=ae:=beq_self_eq_true G
theorem xu{x:ai}{r:Y DictEntry}(h:¬e.key.isStr x=ae):(e::r).find? (·.key.isStr x)=r.find? (·.key.isStr x):=Ow h
theorem I9{x:ai}{r:Y DictEntry}(h:e.key.isStr x=ae):(e::r).find? (·.key.isStr x)=U e:=Ox h
theorem Ub(h:es.find? (·.key.isStr G)=U e):getL G es=U (U e.val):=by
 delta getL;rw [h]
theorem Tz(h:getL G es=U (U r)):∃e,es.find? (·.key.isStr G)=U e:=by
 delta getL at h
 split at h
 .exact⟨_,‹_›⟩
 .split at h<;>exact nomatch h
theorem TA(A:Y DictEntry):∃a b,(putL G L (.str G m) v A).find? (·.key.isStr G)=U ⟨a,b,v⟩:=by
 induction A with
 |nil=>exact(b_ _ _ (I9 (JO G m)))
 |cons e r f=>
  unfold putL
  split
  .exact(b_ _ _ (I9 ‹_›))
  .exact f.imp λy q=>q.imp λy q=>(xu ‹_›).trans q
theorem Tw{G x:ai}(d:x≠G)(A:Y DictEntry):(putL G L (.str G m) v A).find? (·.key.isStr x)=A.find? (·.key.isStr x):=by
 induction A with
 |nil=>exact xu (Du d (JO G m))
 |cons e r f=>
  unfold putL
  split
  .exact(xu (Du d ‹_›)).trans (xu (Du d ‹_›)).symm
  .refine aZ (Ov) ?_;rw [Ov,f]
theorem z0(A:Y DictEntry):getL G (putL G L (.str G m) v A)=U (U v):=gD (TA A) λy y h=>Ub h
theorem mw{G x:ai}(d:x≠G)(A:Y DictEntry):getL x (putL G L (.str G m) v A)=getL x A:=by
 delta getL;rw [Tw d,YT]
theorem YU{x:DictEntry}(A:Y DictEntry)(h:A.find? (·.key.isStr G)=U x):(putL G L i v A).length=A.length:=by
 induction A with
 |nil=>exact aU J h
 |cons e r f=>
  unfold putL
  split
  .rfl
  .exact aL (·+1) (f ((xu ‹_›).symm.trans h))
theorem Eu(A:Y DictEntry)(h:∃r,getL G A=U (U r)):(putL G L i v A).length=A.length:=h.elim λy h=>(Tz h).elim λy h=>YU A h
end
end
structure d6(prog:bZ)(w:bR)(c:Cl)(p:aa)(G:SG)(v:aD)(h:cu)(fp:Y ay):Prop where
 v:v=.ref G.self
 sm:(G.D==sysModules)=ak
 nd:((cV G).map (·.1)).Nodup
 ob:gc (objs prog w c p G) h fp
inductive PX(prog:bZ)(w:bR)(l:Y (Y aa))(v:aD)(h:cu)(fp:Y ay):Prop
 |mk(a:ay)(n:aa)(e:v=.ref a)(f:fp=[a])(g:n<=l.length)(s:h.SetOf (strKind prog w) a (λk=>l.any (λx=>decide (cj x=k))) n)
inductive fL:Y (ai×aD)->Y (Y aa×aF)->Prop
 |nil:fL [] []
 |cons{l:Y aa}{i:aF}{t:fK}{kv r}:fL kv r->fL ((cj l,.int i t)::kv) ((l,i)::r)
inductive ze(prog:bZ)(w:bR)(l:Y (Y aa×aF))(v:aD)(h:cu)(fp:Y ay):Prop
 |mk(a:ay)(kv:Y (ai×aD))(e:v=.ref a)(f:fp=[a])(g:(a==sysModules)=ak)(s:h.DictOf (strKind prog w) a kv)(q:fL kv l)
structure zp(c:Cl)(st:aa)(nd:Nd)(v:aD)(h:cu)(fp:Y ay):Prop where
 v:v=.ref nd.i
 ob:∃su,gc (vB c.N st {nd with su:=su}) h fp
structure wN(prog:bZ)(w:bR)(c:Cl)(sf d:ay)(st:aa)(v:aD)(h:cu)(fp:Y ay):Prop where
 v:v=.ref sf
 ob:∃D,(st≠0->(D==sysModules)=ak)/\gc (JD prog w c.C sf d D st) h fp
noncomputable abbrev j2(a:ay):bN:={cls:=.type "method-wrapper",data:=.fields #[.builtin "list_iterator.__next__",.ref a]}
noncomputable def iN(a:ay)(A:Y (ay×ay)):Y ay:=a::A.flatMap λu=>[u.1,u.2]
noncomputable def Cj(h:cu)(A:Y (ay×ay))(l:Y (ay×aa)):Prop:=∀(i:aa)(u:ay×ay)(x:ay×aa),A[i]?=U u->l[i]?=U x->h.get? u.1=U (j2 u.2)/\h.IsListIter u.2 x.1 x.2
inductive n5(x:aa)(l:Y (ay×aa))(v:aD)(h:cu)(fp:Y ay):Prop
 |mk(a:ay)(ws:Y (ay×ay))(n:aa)(e:v=.ref a)(f:fp=iN a ws)(nd:fp.Nodup)(hl:ws.length=l.length+x)(lv:∀b∈fp,(h.get? b).isSome=ae)(g:h.get? a=U (lo (ws.map λw=>.ref w.1) n))(r:Cj h ws l)
inductive wV(st:ay)(xs:Y aa)(k:aa)(v:aD)(h:cu)(fp:Y ay):Prop
 |mk(e:v=.ref st)(d rd c1 a c2 oc cc:ay)(ob:gc (vS st d rd c1 a c2 oc cc xs k) h fp)
theorem wV.v{st:ay}{v:aD}(x:wV st n k v h p):v=.ref st:=by cases x;assumption
theorem Dw{i:aa}(a:ay)(h:A[i]?=U u):u.1∈iN a A/\u.2∈iN a A:=by
 have:=cL h;exact⟨fF _ (qZ.mpr (aR u this (by simp))),fF _ (qZ.mpr (aR u this (by simp)))⟩
theorem n5.keep{p:Y ay}(x:n5 g q v e p)(k:∀b∈p,∀x,e.get? b=U x->h'.get? b=U x):n5 g q v h' p:=by
 obtain⟨a,A,g,n,X,Q,H,l,i,r⟩:=x;subst X;refine⟨a,A,g,n,J,Q,H,λb t=>?_,k a (gj) _ i,λs u x h j=>?_⟩
 .refine bC (fc.mp (l b t)) λo L=>?_;rw [k b t o L];rfl
 .refine bM (r s u x h j) λf m=>?_;refine aA (m) λo L d=>?_;have E:=Dw a h;exact⟨k _ E.1 _ f,o,k _ E.2 _ L,d⟩
theorem n5.live(x:n5 g l v h p):∀b∈p,(h.get? b).isSome=ae:=
 by cases x;assumption
noncomputable def vI(i:bZ)(u:bR)(c:Cl)(o:Ob)(v:aD)(h:cu)(p:Y ay):Prop:=
 match o with
 |.b6 e G=>d6 i u c e G v h p
 |.set l=>PX i u l v h p
 |.kO l=>ze i u l v h p
 |.E6 e G=>∃a,d6 i u c e {G with cO:=U a} v h p
 |.b3 x l r T g=>∃G:SG,G.abs=.b3 x l r T g/\d6 i u c 0 G v h p
 |.ir F d st=>wN i u c F d st v h p
 |.jO st Q=>zp c st Q v h p
 |.bz st n k=>wV st n k v h p
 |.c3 l=>n5 0 l v h p
 |.vt l=>n5 1 l v h p
theorem PY{h T:cu}{a:ay}(x:h.SetOf (strKind i u) a S g)(k:∀o,h.get? a=U o->T.get? a=U o):T.SetOf (strKind i u) a S g:=IE x λo A H w L r=>UL o A H w (k o L) r
theorem G9{h T:cu}{P:Y _}(x:h.DictOf (strKind i u) a P)(k:∀o,h.get? a=U o->T.get? a=U o):T.DictOf (strKind i u) a P:=iL x λo A H L r=>kq o A H (k o L) r
theorem XG(x:vI i u c o v h p):∀b∈p,(h.get? b).isSome=ae:=by
 cases o with
 |b6 s G=>exact x.ob.live
 |E6 s G=>obtain⟨a,x⟩:∃a,d6 i u c s {G with cO:=U a} v h p:=x;exact x.ob.live
 |b3 k l r T g=>obtain⟨G,_,x⟩:∃G:SG,G.abs=.b3 k l r T g/\d6 i u c 0 G v h p:=x;exact x.ob.live
 |ir F d st=>
  exact aA x.ob λE y Q=>Q.live
 |jO st j=>
  exact bC x.ob λP Q=>Q.live
 |set l=>
  obtain⟨a,n,_,e,_,o,A,H,w,L,_⟩:=x;intro b t;subst e;rw [cD.mp t,L];rfl
 |kO l=>
  obtain⟨a,q,_,e,_,⟨o,A,H,L,_⟩,_⟩:=x;intro b t;subst e;rw [cD.mp t,L];rfl
 |bz st m z=>
  obtain⟨_,d,X,R,a,B,S,f,Q⟩:=x;exact Q.live
 |c3 l=>exact x.live
 |vt l=>exact x.live
theorem XF{p:Y ay}(x:vI i u c o v h p)(k:∀n∈p,∀x,h.get? n=U x->q.get? n=U x):vI i u c o v q p:=by
 cases o with
 |b6 b G=>
  exact⟨x.v,x.sm,x.nd,x.ob.keep k⟩
 |ir F d st=>
  exact aA x.ob λE e Q=>⟨x.v,E,e,Q.keep k⟩
 |jO st H=>
  exact bC x.ob λP Q=>⟨x.v,P,Q.keep k⟩
 |E6 b G=>
  obtain⟨a,x⟩:∃a,d6 i u c b {G with cO:=U a} v h p:=x;exact⟨a,x.v,x.sm,x.nd,x.ob.keep k⟩
 |b3 j l r T t=>
  obtain⟨G,e,x⟩:∃G:SG,G.abs=.b3 j l r T t/\d6 i u c 0 G v h p:=x;exact⟨G,e,x.v,x.sm,x.nd,x.ob.keep k⟩
 |set l=>
  obtain⟨a,g,e,X,A,s⟩:=x;exact⟨a,g,e,X,A,PY s (k a (by rw [X];simp))⟩
 |kO l=>
  obtain⟨a,m,e,X,A,s,y⟩:=x;exact⟨a,m,e,X,A,G9 s (k a (by rw [X];simp)),y⟩
 |bz st S g=>
  obtain⟨e,d,w,R,a,z,B,f,Q⟩:=x;exact⟨e,d,w,R,a,z,B,f,Q.keep k⟩
 |c3 l=>exact x.keep k
 |vt l=>exact x.keep k
noncomputable def Hg(i:bZ)(u:bR)(c:Cl):OB Ob:=⟨vI i u c,XG⟩
structure tq(c:Cl)(x:ai)(p:ay)(i:aa):Prop where
 fi:findIn c.K (.ref c.N) x=U (U (.ref p))
 sp:specialIn c.K (.ref p) "__get__"=U (U (.builtin "member_descriptor.__get__"))
 ta:takesIn c.K (.ref p)=U ae
 sl:slotIn c.K p c.N=U i
 ty:typeIn c.K (.ref p)=U (.type "member_descriptor")
theorem tq.Fa{p:aa}(h:tq c x p i):takerIn c.K c.N x=U (U (.ref p)):=by
 delta takerIn;rw [h.fi,yS];simp [h.ta]
structure sV(c:Cl):Prop where
 pg:∀x,plainGet c.K c.C x=ae
 hd:hasDictIn c.K c.C=ae
 sa:findIn c.K (.ref c.C) "__setattr__"=U (U (.builtin "object.__setattr__"))
 po:plainOver c.K c.C=ae
 DY:makesIn c.K c.C=ae
 J4:keepIn c.K (.ref c.C)=ae
 J3:keepIn c.K (.ref c.N)=ae
 lt:2<=c.C
 HH:(["_node2info","_ready_nodes","_npassedout","_nfinished"]:Y ai).all (λx=>findIn c.K (.ref c.C) x==U af)=ae
 Ja:c.fs.all (λp=>findIn c.K (.ref c.C) p.1==U (U (.ref p.2))&&isFn c.K (.ref p.2))=ae
 Ec:∀x,plainGet c.K c.N x=ae
 KH:isClsIn c.K c.N=ae
 AM:findIn c.K (.ref c.N) "__setattr__"=U (U (.builtin "object.__setattr__"))
 AK:plainOver c.K c.N=ae
 KT:makesIn c.K c.N=ae
 KN:findIn c.K (.ref c.N) "__init__"=U (U (.ref c.ni))
 KM:isFn c.K (.ref c.ni)=ae
 s0:tq c "node" c.p0 0
 s1:tq c "npredecessors" c.p1 1
 s2:tq c "successors" c.p2 2
theorem sV.at_(z:sV c)(x:ai)(j:x∈(["_node2info","_ready_nodes","_npassedout","_nfinished"]:Y ai)):findIn c.K (.ref c.C) x=U af:=beq_iff_eq.mp (e7.mp z.HH x j)
theorem sV.fs(z:sV c)(p:ai×ay)(O:p∈c.fs):findIn c.K (.ref c.C) p.1=U (U (.ref p.2))/\isFn c.K (.ref p.2)=ae:=
 have q:=cU.mp (e7.mp z.Ja p O)
 ⟨beq_iff_eq.mp q.1,q.2⟩
structure bJ(B:br Ob)(prog:bZ)(w:bR)(c:Cl):Prop where
 ob:B.ob=Hg prog w c
 iw:∀{h},bG B.bO h->c.K.In h
 ok:sV c
theorem bJ.up(z:bJ H i u c)(l:bG H.bO A):bJ (H.up A l) i u c:=⟨z.ob,λk=>z.iw (l.trans k),z.ok⟩
structure GT(G:SG)(x:ai)(τ:T):Prop where
 mem:x∈(["_node2info","_ready_nodes","_npassedout","_nfinished"]:Y ai)
 get:∀{o:bN},iy G o->∃es n v,o=dictOf es n/\getL x es=U (U v)/\handedIn v=ae/\∀ρ fz,Den ρ fz v τ
section
theorem GT.tW:GT G "_node2info" (.bY (.ref G.D)):=⟨dH 0 J,λp=>by
 obtain⟨A,g,_,_,e,_,h,_⟩:=p
 exact nu A g _ e h J λ_ _=>.bY _⟩
theorem GT.Mg(q:G.cO=af):GT G "_ready_nodes" .none:=⟨dH 1 J,λp=>by
 obtain⟨A,g,_,_,e,_,_,h,_⟩:=p
 rw [q]at h;exact nu A g _ e h J λ_ _=>.none⟩
theorem GT.t8(q:G.cO=U a):GT G "_ready_nodes" (.bY (.ref a)):=⟨dH 1 J,λp=>by
 obtain⟨A,g,_,_,e,_,_,h,_⟩:=p
 rw [q]at h;exact nu A g _ e h J λ_ _=>.bY _⟩
theorem GT.po:GT G "_npassedout" (.int G.po):=⟨dH 2 J,λp=>by
 obtain⟨A,g,_,_,e,_,_,_,h,_⟩:=p
 exact nu A g _ e h J λ_ _=>.int _ _⟩
theorem GT.fi:GT G "_nfinished" (.int G.fi):=⟨dH 3 J,λp=>by
 obtain⟨A,g,_,_,e,_,_,_,_,h,_⟩:=p
 exact nu A g _ e h J λ_ _=>.int _ _⟩
structure NT(c:Cl)(nd:Nd)(x:ai)(p:ay)(i:aa)(τ:T):Prop where
 slot:sV c->tq c x p i
 get:∀{o:bN},pT c.N nd o->∃v,(o.slots[i]?).join=U v/\handedIn v=ae/\∀ρ fz,Den ρ fz v τ
theorem NT.node:NT c Q "node" c.p0 0 (.str Q.key):=⟨λk=>k.s0,λh=>gD h λw B e=>e▸i12 _ J J λ_ _=>.str _ _⟩
theorem NT.np:NT c Q "npredecessors" c.p1 1 (.int Q.np):=⟨λk=>k.s1,λh=>gD h λw B e=>e▸i12 _ J J λ_ _=>.int _ _⟩
theorem NT.su:NT c Q "successors" c.p2 2 (.bY (.ref Q.su)):=⟨λk=>k.s2,λh=>gD h λw B e=>e▸i12 _ J J λ_ _=>.bY _⟩
end
theorem mJ(h:x∈fO c.C G):x∈objs i u c p G:=by
 match p with
 |0=>exact fV _ (fV _ h)
 |1=>exact fV _ h
 |g+2=>exact h
theorem LO(O:p<=1)(h:x∈gF c.N G):x∈objs i u c p G:=by
 match p,O with
 |0,_=>exact fV _ (iX _ h)
 |1,_=>exact iX _ h
section
variable{i:aa}
noncomputable def rm(c:Cx Ob)(n:Y ai)(k:aa)(m:Y (AV Ob))(P:cu->Prop):Prop:=∀L f E R h,aQ c.B c.ρ L f c.env n k m E R h->P h
theorem j4(z:bJ c.B c.prog c.w B)(j:n[i]?=U x)(H:m[i]?=U (.obj (.b6 q G))):rm c n k m λh=>∃p,d6 c.prog c.w B q G (.ref G.self) h p:=by
 intro L f E R h S;obtain⟨F,_,v,_,l⟩:=S.vars i x _ j H;have l:=z.ob▸l;have e:=l.v;subst e;exact⟨_,l⟩
theorem Mw(h:∀h,bG c.B.bO h->P h):rm c n k m P:=λL f E R g S=>h g S.base
theorem jE(z:bJ c.B c.prog c.w B)(F:Fm c.env n k o)(i:aa)(j:n[i]?=U x)(H:m[i]?=U (.obj (.b6 q h))):EE c n k m (.Name x p) m (.bY (.ref h.self)):=by
 constructor;rintro L f s t P⟨y,E,R,S⟩G;refine cps λa r=>?_;obtain⟨b,Q,v,rfl,l⟩:=S.vars i x _ j H;refine r ?_;have l:=z.ob▸l;have e:=l.v;subst e;exact ez (ew y S.ns Q (G s f _ (bS.refl s) (Le.refl _) ⟨y,E,R,S⟩ (.bY _))) (F.eJ j)
theorem j7(z:bJ c.B c.prog c.w B)(w:rm c n k g λh=>∃e,d6 c.prog c.w B aH G (.ref G.self) h e)(h:EE c n k m o g (.bY (.ref G.self)))(A:GT G x S)
  (l:eval (.Attribute o x p) c.env=do let F<-eval o c.env;standAt p.atName;let a<-holding [F] (getAttr F x ae);letTemporaryGo o F a;pure a):EE c n k m (.Attribute o x p) g S:=by
 constructor;intro L f aj aM aP ao aq;refine N5 (h.1 L f aj _ _ ao λt u v q j T d=>?_) l;obtain rfl:=d.inv;refine cps λy r=>?_;obtain⟨H,E,R,X⟩:=T;obtain⟨e,_,_,_,Q⟩:=w L u E R _ X;refine aA (Q.dJ (G.self,λo=>o=instObj B.C G.d) (mJ (by simp [fO]))) λaO i O=>aA (Q.dJ (G.d,iy G) (mJ (by simp [fO]))) λaN b s=>r ?_;dsimp only at O i b s;subst O;refine cps λy r=>pG (A.get s) λaI aK v az au aB aG=>?_;subst az;refine r ?_;have P:cg c.B u t u {t with toks:=t.toks+1}:=cg.tok X.ready _;exact get_value (z.iw X.base) ⟨i,J,J,b⟩ (uP (z.ok.pg x)).1 (findObj_own z.ok.hd (z.ok.at_ x A.mem) J (by exact au)) aB (aq _ u v (q.trans P.same) j ⟨H,E,R,X⟩ (aG _ _))
end
section
set_option tactic.hygienic true
section
variable{c:Cx Ob}{nd:Nd}
theorem iR(z:bJ c.B c.prog c.w B)(S:aQ c.B c.ρ L f c.env n k m E R h)(j:n[i]?=U x)(H:m[i]?=U (.obj (.b6 q G))):eA c.env E h x (U (.ref G.self))/\d6 c.prog c.w B q G (.ref G.self) h (R i):=by
 refine cps λ_ r=>?_;obtain⟨F,Q,v,rfl,l⟩:=S.vars i x _ j H;refine r ?_;rw [z.ob]at l;exact(l.v)▸(⟨Q,l⟩)
theorem Be(z:bJ c.B c.prog c.w B)(S:aQ c.B c.ρ L f c.env n k m E R h)(j:n[i]?=U u)(H:m[i]?=U (.obj (.b6 q G)))(Q:a∈R i)(r:gI a h h')
  (y:X.self=G.self)(s:d6 c.prog c.w B q X (.ref X.self) h' (R i)):aQ c.B c.ρ L f c.env n k (m.set i (.obj (.b6 q X))) E (bT R i (R i)) h':=by
 refine bM (iR z S j H) λl v=>?_;have A:=(ck.mp j).1;have F:=S.fp i A;have p:∀{b},b∉R i->b≠a:=λ{b}g q=>g (by simp only [q];exact Q);refine S.p5 j (λb g _ o e=>(r.2 b (p g)).trans e) (br.gO S.inv λP x o e=>(r.2 P (p ((S.tab P x).2.2.2.2 i A))).trans e) (Le.refl _) (λb o e=>(r.2 b λq=>?_).trans (S.bI b o e)) (λb o e=>.inl e) l ⟨.ref G.self,J,?_⟩ (λb t=>⟨.inl t,(F b t).2.1⟩)
 .exact aU ((aL _ q).trans ((F a Q).2.1)) e
 .exact(z.ob)▸(y)▸(s)
theorem Ji(z:bJ c.B c.prog c.w B)(S:aQ c.B c.ρ L f c.env n j m E R s.heap)(d:d6 c.prog c.w B q G (.ref G.self) s.heap b)(A:GT G x y)
  (a:∀v w,Den c.ρ f v y->Q v {s with toks:=w}):wpAny (model c.prog c.w) c.A (getAttr (.ref G.self) x X) Q P s:=by
 refine cps λ_ r=>aA (d.ob.dJ (G.self,λo=>o=instObj B.C G.d) (mJ (.head _))) λt h O=>aA (d.ob.dJ (G.d,iy G) (mJ (cL (i:=1) J))) λH F e=>r ?_;dsimp only at O h F e;subst O;refine cps λ_ r=>pG (A.get e) λl k v p u g i=>?_;subst p;exact r (get_value (z.iw S.base) (⟨h,J,J,F⟩) (uP (z.ok.pg x)).1 (findObj_own z.ok.hd (z.ok.at_ x A.mem) J (by assumption)) g (a v _ (i _ _)))
structure GS(G:SG)(x:ai)(τ:T)(G':SG):Prop where
 eq:∃p f,G'={G with po:=p,fi:=f}
 mem:x∈(["_node2info","_ready_nodes","_npassedout","_nfinished"]:Y ai)
 put:∀{ρ:Mk}{fz:Fz}{es:Y DictEntry}{n n':aa}{v:aD}{UH:aF}{tk:fK},iy G (dictOf es n)->Den ρ fz v τ->iy G' (dictOf (putL x UH (.str x tk) v es) n')
theorem W':("_node2info":ai)≠"_ready_nodes":=by decide
theorem Xa:("_node2info":ai)≠"_npassedout":=by decide
theorem Xb:("_node2info":ai)≠"_nfinished":=by decide
theorem KP:("_ready_nodes":ai)≠"_npassedout":=by decide
theorem KQ:("_ready_nodes":ai)≠"_nfinished":=by decide
theorem KR:("_npassedout":ai)≠"_nfinished":=by decide
theorem GS.po(u:aF):GS G "_npassedout" (.int u) {G with po:=u}:=⟨⟨u,G.fi,J⟩,dH 2 J,λ{_ _ A _ S _ _ _}p d=>by
 obtain⟨l,i,k,s,e,H,R,w,t,f,T⟩:=p;obtain rfl:=zM e;obtain⟨h,rfl⟩:=d.inv
 exact⟨_,S,h,s,J,(Eu A ⟨_,t⟩).symm▸H,(mw Xa A).trans R,(mw KP A).trans w,z0 A,(mw (iZ KR) A).trans f,λx a b c d=>(mw c A).trans (T x a b c d)⟩⟩
theorem GS.fi(u:aF):GS G "_nfinished" (.int u) {G with fi:=u}:=⟨⟨G.po,u,J⟩,dH 3 J,λ{_ _ A _ S _ _ _}p d=>by
 obtain⟨l,i,k,s,e,H,R,w,t,f,T⟩:=p;obtain rfl:=zM e;obtain⟨h,rfl⟩:=d.inv
 exact⟨_,S,k,h,J,(Eu A ⟨_,f⟩).symm▸H,(mw Xb A).trans R,(mw KQ A).trans w,(mw KR A).trans t,z0 A,λx a b c d=>(mw d A).trans (T x a b c d)⟩⟩
theorem iy.has{o:bN}(p:iy G o)(j:x∈(["_node2info","_ready_nodes","_npassedout","_nfinished"]:Y ai)):∃A g,o=dictOf A g/\A.length<=8/\(getL x A).isSome=ae:=by
 obtain⟨l,c,k,s,e,H,R,w,t,f,T⟩:=p;refine(g8 l c e H ?_);simp only [cQ,dP,or_false]at j;rcases j with rfl|rfl|rfl|rfl
 .exact dc R
 .exact dc w
 .exact dc t
 .exact dc f
theorem LM(i:bZ)(u:bR)(B:Cl)(q:aa)(G:SG)(p X:aF):∃l,objs i u B q G=(G.self,λo=>o=instObj B.C G.d)::(G.d,iy G)::l/\objs i u B q {G with po:=p,fi:=X}=(G.self,λo=>o=instObj B.C G.d)::(G.d,iy {G with po:=p,fi:=X})::l:=
 match q with
 |0=>⟨_,J,J⟩
 |1=>⟨_,J,J⟩
 |_+2=>⟨_,J,J⟩
theorem Z1(z:bJ c.B c.prog c.w B)(S:aQ c.B c.ρ L a c.env n o m aG bh s.heap)(j:n[l]?=U bf)(H:m[l]?=U (.obj (.b6 q G)))(A:GS G x g u)(aq:Den c.ρ a az g)
  (aB:∀T w aH aK,aQ c.B c.ρ L a c.env n o (m.set l (.obj (.b6 q u))) aH aK T->Q () {s with heap:=T,toks:=w}):wpAny (model c.prog c.w) c.A (setAttr (.ref G.self) x az) Q aW s:=by
 refine cps λk F=>?_;obtain⟨⟨p,X,rfl⟩,t,E⟩:=A;refine bM (iR z S j H) λy d=>aA (d.ob.dJ (G.self,λaj=>aj=instObj B.C G.d) (mJ (.head _))) λaN v O=>aA (d.ob.dJ (G.d,iy G) (mJ (cL (i:=1) J))) λaM i h=>?_;refine F ?_;dsimp only at O v i h;refine cps λk F=>?_;subst O;refine jw (h.has t) λaX a_ P R ao=>?_;subst P;refine F ?_;refine A_ (z.iw S.base) (⟨v,J,J,i⟩) J z.ok.sa z.ok.po (by delta takerIn;rw [z.ok.at_ x t,yS]) z.ok.hd ao (aJ R (aC J)) λT aO aP aS r au=>aB T _ aG _ (Be z S j H ?_ r J ?_)
 .refine aA (LM c.prog c.w B q G p X) λaI O y=>?_;exact(d.ob.ad)▸(O)▸(.tail _ (.head _))
 .refine⟨J,d.sm,d.nd,(aA (LM c.prog c.w B q G p X) λaI O b=>?_)⟩;have e:=d.ob.nd;rw [d.ob.ad,O,iW,iW,lu,lu]at e;refine d.ob.set r (by simp only [O,b];rfl) λbj f=>?_;rw [b]at f;rw [O];rcases cQ.mp f with rfl|f
  .refine .inl ⟨.head _,λq=>e.1 ?_⟩;simp only [cQ];exact .inl q
  .rcases cQ.mp f with rfl|f
   .exact .inr ⟨J,_,au,E h aq⟩
   .exact .inl ⟨.tail _ (.tail _ f),λq=>e.2.1 (by have w:=fG (f:=(·.1)) f;simp only [q]at w;exact w)⟩
theorem gc.upd{l A:Y _}{a:ay}{p:bN->Prop}(s:gc l h fp)(e:l=P++(a,p)::n)(i:A=P++(a,p')::n)(r:gI a h h')(L:h'.get? a=U H)(O:p' H):gc A h' fp:=by
 subst e i;have c:=s.nd;simp only [s.ad,dO]at c;refine gg (f9.mp c) λy u T=>s.set r (by simp) λx f=>?_;rcases e8.mp f with f|f
 .exact .inl ⟨fV _ f,λq=>T a (q▸(fG f)) a (.head _) J⟩
 .rcases cQ.mp f with rfl|f
  .exact .inr ⟨J,H,L,O⟩
  .refine .inl ⟨iX _ (.tail _ f),λq=>(lu.mp u).1 ?_⟩;have w:=fG (f:=(·.1)) f;simp only [q]at w;exact w
noncomputable def SG.np(G:SG)(u:aa)(nd:Nd)(g:aF):SG:={G with bU:=G.bU.set u {nd with np:=g}}
noncomputable def SG.ap(G:SG)(u:aa)(nd:Nd)(l:Y aa):SG:={G with bU:=G.bU.set u {nd with succ:=nd.succ++[l]}}
theorem pY{T:Type}{l:Y T}{a:T}(h:l[u]?=U a):∃F H,l=F++a::H/\∀L,l.set u L=F++L::H:=by
 have d:=(ck.mp h).1;refine(gh _ _ ?_ (λL=>List.set_eq_take_append_cons_drop ..|>.trans ((bx d))));simp only [<-((ck.mp h).2),<-uC d,adx]
theorem J9(h:G.bU[u]?=U nd):cV (G.np u nd g)=cV G:=by
 refine dS (pY h) λF H e f=>?_
 delta cV SG.np
 dsimp only;rw [f,e];simp
theorem J6(h:G.bU[u]?=U nd):cV (G.ap u nd l)=cV G:=by
 refine dS (pY h) λF H e f=>?_
 delta cV SG.ap
 dsimp only;rw [f,e];simp
theorem LL(i:bZ)(u:bR)(B:Cl)(x:G.bU[h]?=U nd)(S:q<=1):∃P e,objs i u B q G=P++(nd.i,pT B.N nd)::e/\objs i u B q (G.np h nd n)=P++(nd.i,pT B.N {nd with np:=n})::e:=by
 refine dS (pY x) λF H b f=>?_;have a:gF B.N G=F.flatMap (j0 B.N)++(nd.i,pT B.N nd)::(nd.id,λ_=>True)::H.flatMap (j0 B.N):=by
  delta gF;rw [b];simp [j0]
 have v:gF B.N (G.np h nd n)=F.flatMap (j0 B.N)++(nd.i,pT B.N {nd with np:=n})::(nd.id,λ_=>True)::H.flatMap (j0 B.N):=by
  delta gF SG.np;simp only [f];simp [j0]
 have s:fO B.C (G.np h nd n)=fO B.C G:=J;have k:gQ i u (G.np h nd n)=gQ i u G:=by
  delta gQ j3
  rw [J9 x]
  delta SG.np
  dsimp only;rw [f,b];simp
 match q,S with
 |0,_=>exact(gh (fO B.C G++F.flatMap (j0 B.N)) ((nd.id,λ_=>True)::H.flatMap (j0 B.N)++gQ i u G) (by simp [nB,a]) (by simp [nB,v,s,k]))
 |1,_=>exact(gh (fO B.C G++F.flatMap (j0 B.N)) ((nd.id,λ_=>True)::H.flatMap (j0 B.N)) (by simp [nB,AR,a]) (by simp [nB,AR,v,s]))
theorem XK(i:bZ)(u:bR)(B:Cl)(e:G.bU[h]?=U nd):∃P n,objs i u B 0 G=P++(nd.su,fC nd.succ)::n/\objs i u B 0 (G.ap h nd l)=P++(nd.su,fC (nd.succ++[l]))::n:=by
 refine cps λ_ r=>dS (pY e) λF H a f=>r ?_;have b:gF B.N (G.ap h nd l)=gF B.N G:=by
  delta gF SG.ap;dsimp only;rw [f,a];simp [j0];rfl
 have s:fO B.C (G.ap h nd l)=fO B.C G:=J;have k:gQ i u (G.ap h nd l)=(G.D,j3 i u G)::(F.map λnd=>(nd.su,fC nd.succ))++(nd.su,fC (nd.succ++[l]))::H.map λnd=>(nd.su,fC nd.succ):=by
  delta gQ j3
  rw [J6 e]
  delta SG.ap
  dsimp only;rw [f];simp
 have x:gQ i u G=(G.D,j3 i u G)::(F.map λnd=>(nd.su,fC nd.succ))++(nd.su,fC nd.succ)::H.map λnd=>(nd.su,fC nd.succ):=by
  delta gQ
  rw [a];simp
 exact(gh (fO B.C G++gF B.N G++((G.D,j3 i u G)::(F.map λnd=>(nd.su,fC nd.succ)))) (H.map λnd=>(nd.su,fC nd.succ)) (by simp [nB,x]) (by simp [nB,b,s,k]))
noncomputable def uX(B:Cl)(nd:Nd)(h:cu):Prop:=(∃o,h.get? nd.i=U o/\pT B.N nd o)/\∃S,h.get? nd.id=U S
theorem d6.info{v:aD}(d:d6 i u B q G v h p)(S:q<=1)(c:nd∈G.bU):uX B nd h:=aA (d.ob.dJ (nd.i,pT B.N nd) (LO S (qZ.mpr (aR nd c (.head _))))) λt e O=>aA (d.ob.dJ (nd.id,λ_=>True) (LO S (qZ.mpr (aR nd c (.tail _ (.head _)))))) λH F y=>⟨(aR t e O),H,F⟩
theorem JF(c:uX B nd h):∃o S,h.get? nd.i=U o/\pT B.N nd o/\InstAt h nd.i o B.N (U S):=by
 refine cps λ_ r=>bM c λu j=>aA u λo L p=>bC j λS E=>gD (p) λw e i=>?_;subst i;exact r ((g8 _ S L p ⟨L,J,J,E⟩))
theorem Jh(z:bJ c.B c.prog c.w B)(S:aQ c.B c.ρ k f c.env n j m E R s.heap)(h:uX B nd s.heap){a u:aa}(A:NT B nd x a u y)
  (G:∀v w,Den c.ρ f v y->Q v {s with toks:=w}):wpAny (model c.prog c.w) c.A (getAttr (.ref nd.i) x t) Q P s:=by
 refine cps λ_ r=>jw (JF h) λo b L p e=>jL (A.get p) λv i g d=>r ?_;have l:=A.slot z.ok;have T:=z.iw S.base;exact get_bind T e (uP (z.ok.Ec x)).1 (findObj_data z.ok.KH l.fi l.sp l.ta) (uP (z.ok.Ec x)).2 (i7 (slot_get T e l.sl i (handed_on g (G v _ (d _ _)))))
theorem MC(z:bJ c.B c.prog c.w B)(S:aQ c.B c.ρ L f c.env n k m E aG s.heap)(j:n[i]?=U aj)(H:m[i]?=U (.obj (.b6 q G)))(e:q<=1)(h:G.bU[u]?=U nd)(x:Den c.ρ f v (.int g)){Q:Unit->aT->Prop}
  (a:∀T w o X,aQ c.B c.ρ L f c.env n k (m.set i (.obj (.b6 q (G.np u nd g)))) o X T->Q () {s with heap:=T,toks:=w}):wpAny (model c.prog c.w) c.A (setAttr (.ref nd.i) "npredecessors" v) Q aq s:=by
 refine bM (iR z S j H) λy d=>jw (JF (d.info e (cL h))) λau az ao p t=>?_;have l:=z.ok.s1;refine gD p λw aB A=>?_;subst A;refine ET (z.iw S.base) t z.ok.AM z.ok.AK l.Fa l.ty l.sl (cE _ _) J λT r F=>a T _ E _ (Be z S j H ?_ r J ?_)
 .refine dS (LL c.prog c.w B (n:=g) h e) λP R O y=>?_;simp only [d.ob.ad,O];simp
 .refine dS (LL c.prog c.w B (n:=g) h e) λP R O b=>?_;cases x;refine⟨J,d.sm,by exact(J9 h)▸(d.nd),d.ob.upd O b r F (b_ w _ J)⟩
end
end
section
variable{c:Cx Ob}{i:aa}{G':SG}{j:aa}
theorem uw(z:bJ c.B c.prog c.w B)(j:rm c n k g (uX B Q))(a:EE c n k m o g (.bY (.ref Q.i))){b l:aa}(A:NT B Q x b l w)
  (e:eval (.Attribute o x p) c.env=(do let F<-eval o c.env;standAt p.atName;let r<-holding [F] (getAttr F x ae);letTemporaryGo o F r;pure r)):EE c n k m (.Attribute o x p) g w:=by
 constructor;intro L f s O P S G;refine N5 (a.1 L f s _ _ S λt u v q i T d=>?_) e;obtain rfl:=d.inv;obtain⟨y,E,R,X⟩:=T;refine Jh z X (j _ _ _ _ _ X) A λv H d=>?_;have h:cg c.B u t u {t with toks:=H}:=cg.tok X.ready _;exact G _ u v (q.trans h.same) i ⟨y,E,R,X⟩ d
theorem NO(z:bJ c.B c.prog c.w bB)(i:aa)(j:n[i]?=U bu)(ao:EE c n k m o m (.bY (.ref G.self)))(F:m[i]?=U (.obj (.b6 q G)))(A:GT G x b)(au:EE c n k m aB g e)(a:g[i]?=U (.obj (.b6 q G)))(d:qd v b e=U τ)(E:GS G x τ G'):
  ES c n k m (.AugAssign (.Attribute o x bh) v aB aP) (g.set i (.obj (.b6 q G'))) .next:=by
 constructor;intro L f s aS aW aX S l;refine aei (ao.1 L f s _ _ S λt u bw H B T Q=>?_);obtain rfl:=Q.inv;obtain⟨y,P,R,X⟩:=T;refine Ji z X (iR z X j F).2 A λa_ w aq=>?_;have r:cg c.B u t u {t with toks:=w}:=cg.tok X.ready _;refine au.1 L u _ _ _ ⟨y,P,R,X.step r⟩ λbF bX b7 az h aG aj=>cF.vJ ((H.trans r.same).trans az) (B.trans h) aG (zB (aq.mono h) aj d) λbf aI bj aK aH O aN=>?_;obtain⟨_,bK,bQ,O⟩:=O;exact Z1 z O j a E aN λbV w aM aO p=>l _ aI .next (aK.trans (b_ _ _ J)) aH ⟨y,aM,aO,p⟩ trivial
theorem NK(b:bJ c.B c.prog c.w aX)(i:aa)(g:h[i]?=U aB)(s:EE c h k m e R (.int n))(x:EE c h k R o H (.bY (.ref Q.i)))(l:H[i]?=U (.obj (.b6 q G)))(S:q<=1)(f:G.bU[j]?=U Q)
  (r:swapsWith e (U (.Attribute o "npredecessors" v)) p.line c.env=pure ak):ES c h k m (.Assign [.Attribute o "npredecessors" v] e p) (H.set i (.obj (.b6 q (G.np j Q n)))) .next:=by
 constructor;intro L u d aG aH aI y w;refine wB (s.1 L u d _ _ y λt A aO X B T O=>x.1 L A t _ _ T λaK F aW E z aj ao=>?_) r;obtain rfl:=ao.inv;obtain⟨P,aM,aN,au⟩:=aj;exact MC b au g l S f (O.mono z) λaP aS aq az a=>w _ F .next ((X.trans E).trans (b_ _ _ J)) (B.trans z) ⟨P,aq,az,a⟩ trivial
theorem NH(z:bJ c.B c.prog c.w bf)(i:aa)(e:h[i]?=U aX)(b:EE c h k m aI m (.bY (.ref Q.i)))(H:m[i]?=U (.obj (.b6 q G)))(S:q<=1)(a:G.bU[j]?=U Q)(p:EE c h k m P g au)(aB:g[i]?=U (.obj (.b6 q G)))(d:qd v (.int Q.np) au=U (.int n)):
  ES c h k m (.AugAssign (.Attribute aI "npredecessors" bw) v P aS) (g.set i (.obj (.b6 q (G.np j Q n)))) .next:=by
 constructor;intro L f s a_ bB bF l o;refine aei (b.1 L f s _ _ l λt u aW A B T F=>?_);obtain rfl:=F.inv;obtain⟨y,aj,R,X⟩:=T;refine Jh z X ((iR z X e H).2.info S (cL a)) .np λbj w aq=>?_;have r:cg c.B u t u {t with toks:=w}:=cg.tok X.ready _;refine p.1 L u _ _ _ ⟨y,aj,R,X.step r⟩ λbK b7 b8 az x aG aH=>cF.vJ ((A.trans r.same).trans az) (B.trans x) aG (zB (aq.mono x) aH d) λbh ao bu aK aM O aO=>?_;obtain⟨_,bQ,bV,O⟩:=O;exact MC z O e aB S a aO λbX w aN aP E=>o _ ao .next (aK.trans (b_ _ _ J)) aM ⟨y,aN,aP,E⟩ trivial
noncomputable def s_(c:Cx Ob)(n:Y ai)(k:aa)(m:Y (AV Ob))(G:SG):Prop:=rm c n k m λh=>(G.D==sysModules)=ak/\((cV G).map (·.1)).Nodup/\h.DictOf (strKind c.prog c.w) G.D (cV G)
theorem d6.map{v:aD}(d:d6 prog u B 0 G v h e):h.DictOf (strKind prog u) G.D (cV G):=aA (d.ob.dJ (G.D,j3 prog u G) (by simp [nB,gQ])) λo L p=>p h G.D L
theorem Mx(z:bJ c.B c.prog c.w B)(j:n[i]?=U x)(H:m[i]?=U (.obj (.b6 0 G))):s_ c n k m G:=λL f E R h S=>(c_ ((iR z S j H).2.sm) ((iR z S j H).2.nd) ((iR z S j H).2.map))
theorem A8(z:bJ c.B c.prog c.w B)(j:n[i]?=U x)(H:m[i]?=U (.obj (.b6 q G)))(h:q<=1)(e:Q∈G.bU):rm c n k m (uX B Q):=λL f E R a S=>(iR z S j H).2.info h e
theorem Fp(E:((cV G).map (·.1)).Nodup)(c:G.bU[j]?=U Q):valueAt (cV G) (cj Q.key)=U (.ref Q.i):=
 valueAt_of_get E (by delta cV;rw [hU,c];rfl)
theorem r7(h:cj a=cj b):a=b:=by injection h with h;simpa using h
theorem aa9(h:∀Q∈G.bU,Q.key≠l):valueAt (cV G) (cj l)=af:=by
 delta valueAt
 rw [Option.map_eq_none_iff,Gz];intro s f;refine aA (eG.mp f) λQ c i=>?_;subst i;rw [decide_eq_true_eq];exactλq=>h Q c (r7 q)
set_option tactic.hygienic true in
theorem FL(d:s_ c n k H G)(ao:EE c n k aq P g (.bY (.ref G.D)))(m:EE c n k g O H (.str Q.key))(e:G.bU[j]?=U Q)(aG:tY O=ae):EE c n k aq (.Subscript P O p) H (.bY (.ref Q.i)):=by
 constructor;intro L f s aK az S a;refine wz (ao.1 L f s _ _ S λt u l q o T v=>m.1 L u t _ _ T λx h b i y B w=>?_);obtain rfl:=v.inv;obtain⟨aH,rfl⟩:=w.inv;obtain⟨A,E,aj,X⟩:=B;refine gg (d _ _ _ _ _ X) λaB R z=>uK z.typeIs F.slot_dict_getitem.lookup (Pp (sS ..) z.mapOf (Fp R e) ?_) (vV λl b aI p au=>by subst au;contradiction);have r:cg c.B h x h {x with toks:=x.toks+1}:=cg.tok X.ready _;exact a _ h _ ((q.trans i).trans r.same) (o.trans y) ⟨A,E,aj,X.step r⟩ (.bY _)
set_option tactic.hygienic true in
theorem FJ{y:T}(aW:s_ c n k H G)(aH:EE c n k aI o g (.bY (.ref G.D)))(O:s_ c n k g G)(j:EE c n k g e H (.str l))(hv:((cV G).map (·.1)).Nodup->(valueAt (cV G) (cj l)).getD .none=aG)(hd:∀ρ f,Den ρ f aG y)
  (d:attributeBase o "get" c.env (eval o c.env)=eval o c.env)(R:dX e=ae)(az:(apos.endLine==w.line)=ae):EE c n k aI (.Call (.Attribute o "get" apos) [e] [] w) H y:=by
 constructor;intro L f t bh a_ S q;have v:∀i∈[e],∀u p,i≠.Starred u p:=λi P=>by exact(cD.mp P)▸(fY R)
 have z:backTo w (starEach [e] c.env)=[(ak,eval e c.env)]:=lI (v e (.head _));refine wpAny_Call_method1_late d az z (aH.1 L f t _ _ S λE A bf B Q aj ao=>?_);obtain rfl:=ao.inv;obtain⟨a,au,m,b⟩:=aj;refine gg (O _ _ _ _ _ b) λaB bj s=>(Jy _ _ F.plainAttrs_dict F.slot_dict_get F.type_dict_get s.typeIs s.mapOf.noDict (wpAny_dict_get1 (knd:=strKind c.prog c.w) aB (j.1 L A E _ _ ⟨a,au,m,b⟩ λx h bw aK aq aN aO=>?_)));obtain⟨bB,rfl⟩:=aO.inv;obtain⟨_,aP,aM,X⟩:=aN;refine gg (aW _ _ _ _ _ X) λbu aS aX=>(g8 _ _ (sS ..) aX.mapOf ((hv aS)▸?_));have r:cg c.B h x h {x with toks:=x.toks+1}:=cg.tok X.ready _;exact q _ h _ ((B.trans aK).trans r.same) (Q.trans aq) ⟨a,aP,aM,X.step r⟩ (hd _ _)
theorem Nq{v:CmpOp}(F:Fm c.env n k bB)(i:aa)(j:n[i]?=U x)(E:i<k)(X:EE c n k aq au aK m)(a:EE c n k (aK.set i (.t m)) O H e)(s:gp v m e=U b)(z:behindInMarks v O=ak)
  (t:EX c n k H (if b then o else q) f A):ES c n k aq (.If (.Compare (.NamedExpr (.Name x cy) au bw) [v] [O] bK) o q cz) f A:=by
 constructor;intro L r w Q P l S G;refine yZ (wD (wpAny_NamedExpr (X.1 L r w _ _ S λcf B T R aj ao d=>?_)) z);obtain⟨y,b7,b8,az⟩:=ao;refine m8 (gu (av:=.t m) y l az j E (F.loc j E) ⟨J,T,J,d⟩ .nil λu aB g aH=>(a.1 L B u _ _ ⟨y,aB,_,aH⟩ λbQ bV bX aI p aM aN=>(cF.to (xd c.R (d.mono p) aN s) aM λaO aP bF aG aW aX a_=>?_)));obtain rfl:=a_.inv;refine uQ ?_;have:=t.1 L aP aO Q P l aX λaS bh bf bj bu h d=>G aS bh bf (R.trans (g.trans (aI.trans (aG.trans bj)))) (aj.trans (p.trans (aW.trans bu))) h d;cases b
 .exact this
 .exact this
theorem NC(x:bJ c.B c.prog c.w B)(i:aa)(j:n[i]?=U H){a:ay}{s:Y _}{P T:Y _}(L:EE c n k m o aI (.bY (.ref a)))(cH:aI[i]?=U (.obj (.b6 q G)))(h:EE c n k aI e aq (.str r))(Q:aq[i]?=U (.obj (.b6 q G)))
  (O:objs c.prog c.w B q G=P++(a,fC s)::T)(bB:objs c.prog c.w B q G'=P++(a,fC (s++[r]))::T)(y:G'.self=G.self/\G'.D=G.D/\cV G'=cV G)(cN:s.length<=1000)
  (di:attributeBase o "append" c.env (eval o c.env)=eval o c.env)(R:dX e=ae)(aN:(bh.endLine==w.line)=ae):
  ES c n k m (.Expr (.Call (.Attribute o "append" bh) [e] [] w) eT) (aq.set i (.obj (.b6 q G'))) .next:=by
 constructor;intro u f bV dW eL fq S bj;have E:∀X∈[e],∀b cz,X≠.Starred b cz:=λX cA=>by exact(cD.mp cA)▸(fY R)
 have aj:=kA (pos:=w) (env:=c.env) [e] E;refine sU (lE di (xQ aj (aC J)) aN Oa Oc Gm (L.1 u f bV _ _ S λeM eY dz aP aS aW aX=>?_)) (by delta interactive;exact S.1.kind.symm▸J) J;cases aX.inv;have ao:∀{h f a_ bf m},m[i]?=U _->aQ c.B c.ρ u f c.env n k m a_ bf h->∃z au,h.get? a=U _/\iI z s:=λbu S=>by
  refine aA ((iR x S j bu).2.ob.dJ (a,fC s) (by rw [O];simp)) λo L bw=>?_;refine dS (bw) λz au e t=>?_;exact(gh z au (by refine aZ (L) ?_;exact aL _ (e)) t)
 refine cps λ_ bF=>?_;obtain⟨az,bK,bQ,aB⟩:=aW;refine dS (ao cH aB) λz dN aG ef=>bF ((c_ (aR _ aG J) (λeF bX=>by obtain rfl:=jn bX;exact(aR _ aG J)) (j_ aj (jY E (pH h.1 kS (fY R)) ⟨az,bK,bQ,aB⟩ λe_ aO dG b8 cf cy l=>?_))));obtain⟨v,z,rfl,t,l⟩:=l.ju (P:=λcC=>∃v A,cC=v::A/\Den _ _ v _/\bq _ _ A _) λv A b H=>⟨v,A,J,b,H⟩;obtain rfl:=l.jg J;obtain⟨b7,rfl⟩:=t.inv;obtain⟨_,cM,dU,p⟩:=cy;refine dS (ao Q p) λA cY cK aH=>?_;refine G0 (hsz:=(by simp only [nW,((aH.pC (ρ:=c.ρ) (fz:=f)).length)];simp;exact aJ cN (aC J))) ⟨cY,cK⟩ λaK g aM=>bC g λc9 g=>?_;have dm:aK.get? a=U (lo (A++[.str (cj r) b7]) c9):=by refine aZ (g) ?_;simp [lo]
 refine bM (iR x p j Q) λfD d=>bj _ aO .next (aP.trans (b8.trans (b_ aK _ J))) (aS.trans cf) ⟨az,cM,_,Be x p j Q ?_ aM y.1 ⟨J,by exact(y.2.1)▸(d.sm),by exact(y.2.2)▸(d.nd),d.ob.upd O bB aM dm (gh _ _ J (aH.append (.cons .nil)))⟩⟩ trivial
 simp only [d.ob.ad,O];simp
end
structure XP{O:Type}(c:Cx O)(xs:Y ai)(k:aa)(lv:Y (AV O))(st:Y b9)(Φ:Y (AV O)->fg->Prop):Prop where
 ev:jW c.B c.prog c.w c.A c.ρ c.env xs k lv st Φ
structure SP{O:Type}(c:Cx O)(xs:Y ai)(k:aa)(lv:Y (AV O))(st:b9)(Φ:Y (AV O)->fg->Prop):Prop where
 ev:zl c.B c.prog c.w c.A c.ρ c.env xs k lv st Φ
section
variable{c:Cx Ob}{i:aa}
theorem iy.none{o:bN}(p:iy G o)(h:x∉(["_node2info","_ready_nodes","_npassedout","_nfinished"]:Y ai)):∃A g,o=dictOf A g/\getL x A=U af:=by
 obtain⟨l,c,k,s,e,H,R,w,t,f,T⟩:=p;simp only [cQ,dP,or_false,not_or]at h;exact(gh l c e (T x h.1 h.2.1 h.2.2.1 h.2.2.2))
theorem Aw(z:bJ c.B c.prog c.w B)(F:Fm c.env n k aq)(j:n[i]?=U x)(y:gb c.env)(h:aQ c.B c.ρ aP aS c.env n k az E aB s.heap)(e:eA c.env E s.heap x (U (.ref G.self)))(d:d6 c.prog c.w B aI G (.ref G.self) s.heap aN)(p:(X,a)∈B.fs)(l:X∉(["_node2info","_ready_nodes","_npassedout","_nfinished"]:Y ai))
  (R:(backTo w (starEach A c.env)).any (·.1)=ak)(q:A.length<30)(T:(f.endLine==w.line)=ae)
  (v:wpAny (model c.prog c.w) c.A (evalArgs (.ref a) ae (backTo w (starEach A c.env)) []) (λx t=>(t.heap.get? a=U Q/\Q.data=.func aH)/\wpAny (model c.prog c.w) c.A (call (.ref a) ([.ref G.self]++x.pos) x.kw) b P t) P s):
  wpAny (model c.prog c.w) c.A (eval (.Call (.Attribute (.Name x aO) X f) A [] w) c.env) b P s:=by
 refine aE (ez (ew y h.ns e (aE (kK ?_))) (F.eJ j))
 delta methodCall
 refine(xQ R q)▸(cps λ_ r=>(aA (d.ob.dJ (G.self,λo=>o=instObj B.C G.d) (mJ (.head _))) λau u O=>aA (d.ob.dJ (G.d,iy G) (mJ (cL (i:=1) J))) λaG H m=>(dS (m.none l) λaK aM L S=>?_)));subst L;have aj:InstAt s.heap G.self _ B.C (U _):=⟨u.trans (aL U O),J,J,H⟩;exact bM (z.ok.fs _ p) λao g=>r (aE (e9 (method_fn (z.iw h.base) aj (uP (z.ok.pg X)).1 (uP (z.ok.pg X)).2 ao (beq_iff_eq.mp g) (by show(lookIn X _).map _=U ak;simp only [lookIn_dict,S];rfl) (aE (g5 (KA T) (B8 v))))))
theorem WB(z:bJ c.B c.prog c.w bf)(aq:Fm c.env n k cA)(i:aa)(h:n[i]?=U f)(F:m[i]?=U (.obj (.b6 q G)))(bF:(a,x)∈bf.fs)(aj:a∉(["_node2info","_ready_nodes","_npassedout","_nfinished"]:Y ai))
  (ao:∀{e},bG c.B.bO e->e.get? x=U au)(az:au.data=.func cy)(e:ER c n k m w A g E)(o:g[i]?=U (.obj (.b6 q G)))(l:ff c.B c.prog c.w c.n (.ref x) (.b6 q G) E t)(R:A.all dX=ae)(u:A.length<30)(p:(B.endLine==w.line)=ae)
  (S:SR c.B c.ρ L Q c.env n k m s.heap)
  (P:∀O j v H r,t H r->bS s O->Le Q j->SR c.B c.ρ L j c.env n k (g.set i (.obj H)) O.heap->Den c.ρ j v r->aB v O):
  wpAny (model c.prog c.w) c.A (eval (.Call (.Attribute (.Name f cC) a B) A [] w) c.env) aB b8 s:=by
 refine cps λ_ aI=>?_;obtain⟨y,aK,aM,X⟩:=S;refine bM (iR z X h F) λaN aO=>aI (Aw z aq h y X aN aO bF aj (kA A (mH R)) u p (jY (mH R) e.1 ⟨y,aK,aM,X⟩ λaP aS aW aX a_ T aH=>⟨⟨ao T.ready.base,az⟩,?_⟩));obtain⟨_,aG,cz,T⟩:=T
 exact bM (iR z T h o) λbj bu=>i7 (l c.A c.ρ aS _ aW _ aP _ c.R T.ready (z.ob.symm▸bu) (T.vg (jz h)) aH λO j v cf H r bw bB b bh bQ bV bK bX b7 d=>
  P O j v H r bw (aX.trans bB) (a_.trans b) ⟨y,aG,_,T.p5 h bh bQ b bV bK bj ⟨.ref G.self,J,bX⟩ b7⟩ d)
theorem NF(z:bJ c.B c.prog c.w d)(F:Fm c.env n k bh)(i u:aa)(aB:n[i]?=U x)(j:m[i]?=U (.obj (.b6 q G)))(p:(X,e)∈d.fs)(L:X∉(["_node2info","_ready_nodes","_npassedout","_nfinished"]:Y ai))
  (Q:∀{h},bG c.B.bO h->h.get? e=U aG)(aN:aG.data=.func bB)(h:ER c n k m w A g E)(o:g[i]?=U (.obj (.b6 q G)))(v:ff c.B c.prog c.w c.n (.ref e) (.b6 q G) E t)(R:A.all dX=ae)(f:A.length<30)(T:(b.endLine==w.line)=ae)
  (s:n[u]?=U O)(l:u<k)(P:swapsWith (.Call (.Attribute (.Name x aj) X b) A [] w) (U (.Name O ao)) aq.line c.env=pure ak):
  SP c n k m (.Assign [.Name O ao] (.Call (.Attribute (.Name x aj) X b) A [] w) aq) λS az=>∃H r,t H r/\S=(g.set i (.obj H)).set u (.t r)/\az=.next:=by
 constructor;intro bV bX bj bw bQ aH aI aK;refine lC (WB z F i aB j p L Q aN h o v R f T aI λbu aM au H r aO aP aS a aX=>?_) P;obtain⟨y,bF,bK,a⟩:=a;exact gu (av:=.t r) y aH a s l (F.loc s l) ⟨J,au,J,aX⟩ .nil λaW a_ bf B=>aK aW aM .next _ .next (g8 H r aO J J) (aP.trans bf) aS ⟨y,a_,_,B⟩ trivial
end
structure ic{O:Type}(B:br O)(a i j:aa)(ob:bN)(fd:q7)(xs:Y ai):Prop where
 d:kh B a ob fd (cZ (fm i j)) xs
 ar:fd.params=ik (fm i j)
 sc:fd.scope=eK (fm i j)
 df:fd.defaults=.none
 kd:fd.kwdefaults=.none
section
variable{c:Cx Ob}{st:aa}
theorem bU{T:Type}{l:Y T}{c:T}(h:l.Nodup)(g:c∉l):(l++[c]).Nodup:=f9.mpr ⟨h,lu.mpr ⟨dP,uF⟩,λa Q b t e=>g (cD.mp t▸e▸Q)⟩
theorem AJ(z:bJ c.B c.prog c.w B)(S:aQ c.B c.ρ L f c.env n k m E R h)(j:n[i]?=U x)(H:m[i]?=U (.obj (.jO st Q))):eA c.env E h x (U (.ref Q.i))/\zp B st Q (.ref Q.i) h (R i):=by
 refine cps λy r=>?_;obtain⟨F,e,v,rfl,l⟩:=S.vars i x _ j H;refine r ?_;rw [z.ob]at l;exact(l.v)▸(⟨e,l⟩)
theorem NJ(z:bJ c.B c.prog c.w B)(F:Fm c.env n k o)(i:aa)(j:n[i]?=U x)(H:m[i]?=U (.obj (.jO st Q))):EE c n k m (.Name x p) m (.bY (.ref Q.i)):=by
 constructor;rintro L f s e P⟨y,E,R,S⟩G;exact bM (AJ z S j H) λh l=>ez (ew y S.ns h (G s f _ (bS.refl s) (Le.refl _) ⟨y,E,R,S⟩ (.bY _))) (F.eJ j)
theorem NI(z:bJ c.B c.prog c.w B)(i:aa)(j:n[i]?=U cK)(aX:EE c n k cz e aP bw)(aK:EE c n k aP o H (.bY (.ref Q.i)))(bu:H[i]?=U (.obj (.jO st Q)))(l:tq B x cM st)(cA:st<1000)
  (E:∀{f:Fz}{v:aD}(su:ay)(w h:fK),Den c.ρ f v bw->r5 B.N (st+1) {Q with su:=su} ⟨.ref B.N,U Q.id,.plain,(slotsOf {Q with su:=su} w h st++Gh (st+1-(slotsOf {Q with su:=su} w h st).size) af).setIfInBounds st (U v)⟩)
  (a_:∀su,vB B.N st {Q with su:=su}=[(Q.i,r5 B.N st {Q with su:=su}),(Q.id,λ_=>True)])(O:∀su,vB B.N (st+1) {Q with su:=su}=[(Q.i,r5 B.N (st+1) {Q with su:=su}),(Q.id,λ_=>True)])
  (bQ:swapsWith e (U (.Attribute o x cf)) bj.line c.env=pure ak):ES c n k cz (.Assign [.Attribute o x cf] e bj) (H.set i (.obj (.jO (st+1) Q))) .next:=by
 constructor;intro L f cy c9 cY cH S G;refine wB (aX.1 L f cy _ _ S λaj ao v aq au az aB=>aK.1 L ao aj _ _ az λaG aH h aI a aM aN=>(aN.LU (P:=λh=>wpAny _ _ (setAttr h x v) _ _ _) ?_)) bQ;refine cps λaO F=>?_;obtain⟨aS,aW,R,X⟩:=aM;refine bM (AJ z X j bu) λbf bh=>bC bh.ob λsu s=>?_;have u:=s;refine F ?_;refine cps λaO F=>?_;refine aA (u.dJ (Q.i,r5 B.N st {Q with su:=su}) (.head _)) λcN bB bF=>gD bF λw h bK=>aA (u.dJ (Q.id,λy=>True) (.tail _ (.head _))) λbV bX y=>?_;have b7:InstAt aG.heap Q.i _ B.N (U bV):=⟨bK▸bB,J,J,bX⟩;have A:=(ck.mp j).1;have r:Q.i∈R i:=u.ad.symm▸.head _;have d:=X.fp i A;refine F ?_;refine ET (z.iw X.base) b7 z.ok.AM z.ok.AK l.Fa l.ty l.sl cA J λT m b8=>?_;have p:∀{b},b∉R i->b≠Q.i:=λ{b}g q=>g (q▸r)
 refine G _ aH .next ((aq.trans aI).trans (b_ T _ J)) (au.trans a) ⟨aS,aW,_,X.p5 j (λb g y o e=>(m.2 b (p g)).trans e) (br.gO X.inv λP cC o e=>(m.2 P (p ((X.tab P cC).2.2.2.2 i A))).trans e) (Le.refl _) (λb o e=>(m.2 b λq=>aU ((aL _ q).trans ((d Q.i r).2.1)) e).trans (X.bI b o e)) (λb o e=>.inl e) bf
  ⟨.ref Q.i,J,z.ob.symm▸(⟨J,su,s.upd (P:=[]) (a_ su) (O su) m b8 (E su w h (aB.mono a))⟩:zp B _ Q _ T _)⟩ (λb t=>⟨.inl t,(d b t).2.1⟩)⟩ trivial
theorem ace(z:bJ c.B c.prog c.w B)(i:aa)(j:n[i]?=U cz)(aO:EF c n f aB e g [])(aP:nZ c.B c.prog c.w c.A c.ρ c.env n f g o (.bY (.ref Q.i)))(aK:g[i]?=U (.obj (.jO 2 Q)))(aS:Q.succ=[])
  (aq:swapsWith e (U (.Attribute o "successors" aX)) a_.line c.env=pure ak):ES c n f aB (.Assign [.Attribute o "successors" aX] e a_) (g.set i (.obj (.jO 3 Q))) .next:=by
 constructor;intro L aW bw bV bX b7 bu aj;refine wB (aO.1 L aW bw _ _ bu λt u s cf bQ E R bf bh k X Fr bK ao=>(aP L u t _ _ ⟨k,E,R,X⟩ λb8 d az=>?_)) aq;obtain rfl:=az.inv;obtain rfl:=ao.jg J;refine cps λy aG=>bM (AJ z X j aK) λaH aI=>bC aI.ob λsu h=>aA (h.dJ (Q.i,r5 B.N 2 {Q with su:=su}) (.head _)) λcy v aM=>?_;refine gD (aM) λaN d O=>?_;refine aA (h.dJ (Q.id,λy=>True) (cL (i:=1) J)) λS a y=>aG ?_;dsimp only at v a O;subst O;have l:=z.ok.s2;have au:InstAt t.heap Q.i _ B.N (U S):=⟨v,J,J,a⟩;have A:=(ck.mp j).1;have ad:R i=[Q.i,Q.id]:=by refine aZ (h.ad) ?_;exact J
 have r:Q.i∈R i:=by rw [ad];exact .head _
 have F:=X.fp i A;have H:Q.id∈R i:=ad.symm▸.tail _ (.head _);have w:=Fr.fp i A;refine ET (z.iw X.base) au z.ok.AM z.ok.AK l.Fa l.ty l.sl (cE _ _) J λT m bB=>?_;have m:gI Q.i t.heap T:=m;have p:∀{b},b∉R i->b≠Q.i:=λ{b}x q=>x (by rw [q];exact r);have G:=ad▸h.nd;have bF:zp B 3 Q (.ref Q.i) T [Q.i,Q.id,s]:=⟨J,s,⟨bL (aR _ bB ⟨aN,d,J⟩) (bL (aR S ((m.2 Q.id (pO G 1 0 J J J)).trans a) trivial) (bL (aR _ ((m.2 s (p w)).trans bK) ⟨_,_,J,aS.symm▸.nil⟩) eu)),J,bU G (ad▸w)⟩⟩;exact aj _ u .next (bf.trans (b_ T _ J)) bh ⟨k,E,_,X.vX j (λb x y o e=>(m.2 b (p x)).trans e) (br.gO X.inv λP bj o e=>(m.2 P (p ((X.tab P bj).2.2.2.2 i A))).trans e) (Le.refl _) (λb o e=>(m.2 b λq=>(aU ((aL _ q).trans ((F Q.i r).2.1)) e)).trans (X.bI b o e)) (λb o e=>.inl e) aH ⟨.ref Q.i,J,z.ob.symm▸bF⟩ (bL ⟨.inl r,(F _ r).2.1⟩ (bL ⟨.inl H,(F _ H).2.1⟩ (bL ⟨.inr Fr,Fr.fz⟩ eu)))⟩ trivial
end
noncomputable abbrev Ly.up(O:Ly q)(A:cu)(l:bG O.B.bO A):Ly q:=⟨O.B.up A l,O.prog,O.w,O.mg,O.mb,O.G.up l,O.bi⟩
theorem dB.call(r:dB F (n+1)):dB (F.under (.builtin "type.__call__" ⟨.ref a::i,kw⟩)) n:=
 ⟨by have:=r.depth;exact dg 0 (.a (.a (.a (.a (.v 0) (.n 1)) (.m 4 (.v 1))) (.n 16)) (.n 1)) (.v 2) (.a (.a (.a (.v 0) (.m 4 (.a (.v 1) (.n 1)))) (.n 16)) (.n 1)) (.v 2) J [_,_,_] this,by have:=r.units;exact dg 0 (.a (.a (.a (.a (.v 0) (.n 1)) (.m 8 (.v 1))) (.n 64)) (.n 1)) (.v 2) (.a (.a (.a (.v 0) (.m 8 (.a (.v 1) (.n 1)))) (.n 64)) (.n 1)) (.v 2) J [_,_,_] this,r.handled⟩
section
variable{y:Ly Ob}
theorem Sw{c:Cx Ob}{st:aa}(z:bJ c.B c.prog c.w B)(F:Fm c.env n k o)(i:aa)(j:n[i]?=U x)(H:m[i]?=U (.obj (.jO st Q))):nZ c.B c.prog c.w c.A c.ρ c.env n k m (.Name x p) (.bY (.ref Q.i)):=by
 rintro L f s e P⟨y,E,R,S⟩G;exact bM (AJ z S j H) λh l=>ez (ew y S.ns h (G s.toks _ (.bY _))) (F.eJ j)
theorem ry{H:br ao}{i:bZ}{u:bR}{O b:ai->aY aD}{n:Y ai}(G:fy H O b)(d:kh H a aj k L n)(Q:E.length+1<=n.length)(s:Binds H i u k n R E)
  (j:∀{B h c P T x f r},w f r->H.ob.at_ o B h c->H.ob.at_ f P T x->P=B)
  (v:∀{A}(l:bG H.bO A)m F X,dB F g->jW (H.up A l) i u F X (callEnvC k m a) n n.length (lN o n E) L λS q=>∃f r,S[0]?=U (.obj f)/\u6 q r/\w f r):
  ff H i u (g+1) (.ref a) o R w:=
 HT G d Q s (λh=>(aR _ h (λp t=>t))) j (λl y y y y m F X z=>v l m F X z) λe y y T y y=>(g8 _ _ e T (λp t=>.inl t))
noncomputable def Xe:Y (ai×fe):=[("self",.local),("node",.local)]
noncomputable def uq:Y ai:=["self","node"]
theorem abk(z:bJ y.B y.prog y.w B)(E:ic y.B B.ni 5 1 q k uq)(Q:Nd)(b:Q.np=0)(s:Q.succ=[]):ff y.B y.prog y.w (g+1) (.ref B.ni) (.jO 0 Q) [.str Q.key] λj r=>j=.jO 3 Q/\r=.none:=by
 refine ry y.G E.d (ek _) (.plain λi H=>?_) (λP R w=>?_) λ{A}l e x X n=>?_
 .exact tB (λu f=>(qe E.ar E.df _).trans J) i H
 .obtain⟨rfl,_⟩:=P;rw [z.ob]at R w;simp only [R.v,w.v]
 .have F:Fm (callEnvC k e B.ni) uq uq.length Xe:=ko (J) (by show k.scope.names=_;exact aL _ E.sc)
  let c:=(y.up A l).c x X (callEnvC k e B.ni) g n
  have o:=z.up l;exact eV.p (aV:=[.obj (.jO 3 Q),.t _]) (EX.ev (c:=c) (zx (NI o 0 J (zv F 1 J J) (NJ o F 0 J J) J o.ok.s0 (aC J) (λ{_ v}su t a d=>d.i5 (P:=λv=>r5 B.N 1 {Q with su:=su} ⟨.ref B.N,U Q.id,.plain,#[U v]⟩) λm=>⟨m,a,J⟩) (λh=>J) (λh=>J) J) (zx (NI o 0 J (by rw [show ad0 0=ad0 Q.np by rw [b]];exact zi _) (NJ o F 0 J J) J o.ok.s1 (aC J) (λ{_ v}su t a d=>d.gG (P:=λv=>r5 B.N 2 {Q with su:=su} ⟨.ref B.N,U Q.id,.plain,#[U (.str (cj Q.key) t),U v]⟩) λm=>⟨t,m,J⟩) (λh=>J) (λh=>J) J) (zx (ace o 0 J (p7 cR J) (Sw o F 0 J J) J s J) ⟨i3⟩)))) (my _ _ J (.inr ⟨J,J⟩) J J)
end
section
variable{c:Cx Ob}{h:cu}
theorem MD(z:bJ c.B c.prog c.w B)(S:aQ c.B c.ρ e f c.env n k m E R h):(h.objs.size==sysModules)=ak:=by
 refine IE ((makes_of (M:=model c.prog c.w) (z.iw S.base) z.ok.DY).obj) λy y y y L y=>?_;exact beq_eq_false_iff_ne.mpr (q1 (kI (eH _) (iH z.ok.lt (fQ L))))
noncomputable def jA(l:Y aa)(i id P:ay):Nd:=⟨l,i,id,P,0,[]⟩
theorem Wo(z:bJ c.B c.prog c.w B)(bf:dB c.A (au+2))(aX:∀i id P,ff c.B c.prog c.w (au+1) (.ref B.ni) (.jO 0 (jA l i id P)) [.str l] λH r=>H=.jO 3 (jA l i id P)/\r=.none)(S:aQ c.B c.ρ L fz c.env xs a n m dY s.heap)(bh:Den c.ρ fz v (.str l))
  (aB:∀O j i id P,bS s O->Le fz j->aQ c.B c.ρ L j c.env xs a n m dY O.heap->gc (vB B.N 3 (jA l i id P)) O.heap [i,id,P]->(∀b∈[i,id,P],eW c.B L j c.env xs dY b)->az (.ref i) O):wpAny (model c.prog c.w) c.A (call (.ref B.N) [v]) az bF s:=by
 obtain⟨hh,ao,a_,w,os⟩:=s;have T:=z.iw S.base;have R:aQ c.B c.ρ L fz c.env xs a n m dY hh:=S;have r:=S.ready;refine i7 (make_core (makes_of T z.ok.KT) (looks_findIn T z.ok.KN) (λbj=>bind_fn T bj (beq_iff_eq.mp z.ok.KM)) (.inl J) ?_);have p:=cg.iu r emptyDict w;have aK:=S.step p;have aO:=aK.step (cg.iu (p.ready r) (instObj B.N hh.objs.size) w);have aW:((hh.push emptyDict).push (instObj B.N hh.objs.size)).get? (hh.objs.size+1)=U (instObj B.N hh.objs.size):=by heap_get
 have n1:hh.get? hh.objs.size=af:=fM ⟨hh,ao,a_,w,os⟩;have u:hh.get? (hh.objs.size+1)=af:=by
  cases q:hh.get? _ with
  |none=>rfl
  |some o=>exact bE (fQ q) (fJ.mpr (uH _))
 have aS:gc (vB B.N 0 (jA l (hh.objs.size+1) hh.objs.size 0)) _ [hh.objs.size+1,hh.objs.size]:=⟨λx f=>by
  simp only [jA]at f;rcases cQ.mp f with rfl|f
  .exact(aR _ aW ⟨0,0,J⟩)
  .rcases cQ.mp f with rfl|f
   .exact(aR _ (by heap_get) trivial)
   .simp at f,J,by simp⟩
 have aq:c.B.ob.at_ (.jO 0 (jA l (hh.objs.size+1) hh.objs.size 0)) (.ref (hh.objs.size+1)) ((hh.push emptyDict).push (instObj B.N hh.objs.size)) [hh.objs.size+1,hh.objs.size]:=by
  rw [z.ob];exact(⟨J,0,aS⟩)
 have k:=S.free n1;have G:=S.free u;refine aX _ hh.objs.size 0 _ c.ρ fz _ [v] _ _ [hh.objs.size+1,hh.objs.size] bf.call aO.ready aq (bL (c_ G.fz G.h0 G.tab) (bL (c_ k.fz k.h0 k.tab) eu)) (.one bh) ?_
 .rintro O j bw aG H bB⟨rfl,rfl⟩aI A aM aN h aP g y aH;obtain rfl:=aH.inv;refine⟨J,?_⟩;rw [z.ob]at g;refine bC g.ob λP Q=>?_;have ad:aG=[hh.objs.size+1,hh.objs.size,P]:=by refine aZ (Q.ad) ?_;exact J
  subst ad;have d:=λ{b o}e t=>bL (P:=λb=>hh.get? b=U o->False) (aU u) (bL (aU n1) eu) b t e;have F:∀{b o},hh.get? b=U o->((hh.push emptyDict).push (instObj B.N hh.objs.size)).get? b=U o:=λe=>eg _ (eg _ e);have E:∀{b},((hh.push emptyDict).push (instObj B.N hh.objs.size)).get? b=af->hh.get? b=af:=λ{b}e=>by
   cases q:hh.get? b with
   |none=>rfl
   |some o=>rw [F q]at e;assumption
  have aj:∀{b},b∈[hh.objs.size+1,hh.objs.size]->hh.get? b=af:=λ{b}t=>by
   cases q:hh.get? b with
   |none=>rfl
   |some o=>exact bE t (d q)
  have bu:=R.grow (λb t o e=>aM b (d e) t o (F e)) aN A λb o e=>by
   rcases aP b o e with q|q|q
   .exact .inl q
   .exact .inr ⟨E q,h b o e⟩
   .exact .inr ⟨aj q,h b o e⟩
  refine aB O j _ _ P (bS.trans (b_ _ _ J) aI) A bu Q λb t=>?_;have x:hh.get? b=af:=by
   rcases(y b t).1 with q|q
   .exact aj q
   .exact E q
  have X:=R.free x;exact⟨X.hb,(y b t).2,X.loc,X.cell,X.fp,X.tab,X.h0⟩
noncomputable def SG.add(G:SG)(Q:Nd):SG:={G with bU:=G.bU++[Q]}
theorem Ym(a:h.DictOf (strKind i u) E (cV G)):∃o,h.get? E=U o/\j3 i u G o:=iL a λo A H L r=>(aR o L (λh x e=>(kq o A H e r)))
theorem J5(G:SG)(Q:Nd):cV (G.add Q)=cV G++[(cj Q.key,.ref Q.i)]:=by simp [cV,SG.add]
theorem stored_new(h:∀Q∈G.bU,Q.key≠l)(v:aD):stored (cV G) (cj l) v=cV G++[(cj l,v)]:=by
 delta stored
 rw [bA];intro q;refine aA (qY.mp q) λs f e=>aA (eG.mp f) λQ c i=>?_;subst i;simp only [decide_eq_true_eq]at e;exact h Q c (r7 e)
theorem XJ(i:bZ)(u:bR)(B:Cl)(G:SG)(Q:Nd):((objs i u B 0 (G.add Q)).map (·.1)).Perm ((objs i u B 0 G).map (·.1)++[Q.i,Q.id,Q.su]):=by
 have O:(objs i u B 0 (G.add Q)).map (·.1)=(fO B.C G).map (·.1)++(gF B.N G).map (·.1)++[Q.i,Q.id]++(G.D::G.bU.map (·.su))++[Q.su]:=by
  simp [nB,gF,SG.add,j0,gQ,fO,wj]
 have b:(objs i u B 0 G).map (·.1)=(fO B.C G).map (·.1)++(gF B.N G).map (·.1)++(G.D::G.bU.map (·.su)):=by
  simp [nB,gQ]
 simp only [O,b];have:=(adu (l₁:=[Q.i,Q.id]) (l₂:=G.D::G.bU.map (·.su))).append_left ((fO B.C G).map (·.1)++(gF B.N G).map (·.1));have:=this.append_right [Q.su];simpa [kG]using this
theorem XI(f:s∈objs i u B 0 (G.add Q)):
  s∈fO B.C G++gF B.N G\/s∈(G.bU.map λQ=>(Q.su,fC Q.succ))\/s=(G.D,j3 i u (G.add Q))\/s∈j0 B.N Q\/s=(Q.su,fC Q.succ):=by
 have O:objs i u B 0 (G.add Q)=fO B.C G++gF B.N G++j0 B.N Q++((G.D,j3 i u (G.add Q))::(G.bU.map λQ=>(Q.su,fC Q.succ))++[(Q.su,fC Q.succ)]):=by
  simp [nB,gF,SG.add,gQ]
  rfl
 rw [O]at f;rcases e8.mp f with f|f
 .rcases e8.mp f with f|f
  .exact .inl f
  .exact .inr (.inr (.inr (.inl f)))
 .rcases e8.mp f with f|f
  .rcases cQ.mp f with f|f
   .exact .inr (.inr (.inl f))
   .exact .inr (.inl f)
  .exact .inr (.inr (.inr (.inr (cD.mp f))))
theorem AQ(i:bZ)(u:bR)(B:Cl)(G:SG):objs i u B 0 G=(fO B.C G++gF B.N G)++(G.D,j3 i u G)::(G.bU.map λQ=>(Q.su,fC Q.succ)):=J
theorem aac(d:d6 e u B 0 G z h x)(n:gc (vB B.N 3 Q) h [Q.i,Q.id,Q.su])(O:∀b∈[Q.i,Q.id,Q.su],b∉x)(r:gI G.D h h')(A:h'.DictOf (strKind e u) G.D (cV (G.add Q)))(S:∀g∈G.bU,g.key≠Q.key):
  d6 e u B 0 (G.add Q) z h' ((objs e u B 0 (G.add Q)).map (·.1))/\∀b∈(objs e u B 0 (G.add Q)).map (·.1),b∈x\/b∈[Q.i,Q.id,Q.su]:=by
 have j:=XJ e u B G Q;have v:=d.ob.nd;rw [d.ob.ad]at v O;refine⟨⟨d.v,d.sm,?_,⟨λs f=>?_,J,?_⟩⟩,λb t=>?_⟩
 .rw [J5,dO,f9];refine(c_ d.nd (by simp) (λF a b t=>?_));rw [iW,GG,cD]at t;subst t;refine aA (eG.mp a) λs f i=>?_;subst i;refine aA (eG.mp f) λg c i=>?_;subst i;exactλq=>S g c (r7 q)
 .have k:=v;rw [AQ,dO,iW]at k;refine gg (f9.mp k) λE y T=>?_;have l:=λ{s}f H=>aA (d.ob.dJ s f) λo L p=>(aR o ((r.2 _ H).trans L) p);have m:=λ{s}f=>by
   refine aA (n.dJ s f) λo L p=>(aR o ((r.2 _ λq=>O s.1 ?_ (by exact(q)▸((by simp only [AQ];simp)))).trans L) p);have:=fG (f:=(·.1)) f
   assumption
  rcases XI f with f|f|rfl|f|rfl
  .exact l (fV _ ‹_›) λq=>T G.D (q▸(fG f)) G.D (.head _) J
  .refine l (by simp only [AQ];exact iX _ (.tail _ f)) λq=>(lu.mp y).1 ?_;have w:=fG (f:=(·.1)) f;simp only [q]at w;exact w
  .exact Ym A
  .simp only [j0,cQ,dP,or_false]at f;rcases f with rfl|rfl
   .refine aA (m (.head _)) λo L i=>?_;refine gD (i) λw P X=>?_;exact(aR o L ⟨w,P,X⟩)
   .exact aA (m (cL (i:=1) J)) λo L E=>(aR o L trivial)
  .exact m (cL (i:=2) J)
 .rw [j.nodup_iff,f9];refine(c_ v n.nd (λF a b t q=>O b t (q▸a)))
 .rw [j.mem_iff,<-d.ob.ad]at t;exact e8.mp t
end
section
set_option tactic.hygienic true
section
noncomputable abbrev uT(c:Cx Ob)(n:Y ai)(k:aa)(m:Y (AV Ob))(e:bW)(y:T):Prop:=nZ c.B c.prog c.w c.A c.ρ c.env n k m e y
theorem Sx(z:bJ c.B c.prog c.w B)(F:Fm c.env n k o)(i:aa)(j:n[i]?=U x)(H:m[i]?=U (.obj (.b6 q G))):uT c n k m (.Name x p) (.bY (.ref G.self)):=by
 rintro L f s e P⟨y,E,R,S⟩h;refine bM (iR z S j H) λQ l=>?_;exact ez (ew y S.ns Q (h s.toks _ (.bY _))) (F.eJ j)
theorem Sy(z:bJ c.B c.prog c.w B)(i:aa)(j:n[i]?=U O)(H:m[i]?=U (.obj (.b6 q G)))(a:uT c n k m o (.bY (.ref G.self)))(A:GT G x y)
  (X:eval (.Attribute o x p) c.env=(do let F<-eval o c.env;standAt p.atName;let r<-holding [F] (getAttr F x ae);letTemporaryGo o F r;pure r)):uT c n k m (.Attribute o x p) y:=by
 rintro L f s Q P⟨h,E,R,S⟩e;refine N5 (a L f s _ _ ⟨h,E,R,S⟩ λb v d=>?_) X;obtain rfl:=d.inv;exact Ji z S (iR z S j H).2 A λv w d=>e w v d
theorem abO(z:bJ c.B c.prog c.w B)(F:Fm c.env n k aO)(cf:dB c.A (g+2))(bj:∀i id P,ff c.B c.prog c.w (g+1) (.ref B.ni) (.jO 0 (jA l i id P)) [.str l] λaX bf=>aX=.jO 3 (jA l i id P)/\bf=.none)
  (x:aa)(w:aO[x]?=U (s,.globalImplicit))(bX:c.mg s=U (.ref B.N))(i v:aa)(p:n[i]?=U eL)(bh:m[i]?=U (.obj (.b6 0 G)))(a_:uT c n k m e (.str l))(bF:dX e=ae)(bK:uT c n k m o (.bY (.ref G.D)))(cA:uT c n k m aq (.str l))
  (H:∀cM∈G.bU,cM.key≠l)(aH:n[v]?=U O)(S:v<k)(aK:G.bU.length<=1000)
  (cH:swappedStores [.Subscript o aq aM,.Name O cy] (.Call (.Name s cC) [e] [] Q) c.env=pure af):
  SP c n k m (.Assign [.Subscript o aq aM,.Name O cy] (.Call (.Name s cC) [e] [] Q) eY) λcK cN=>∃a id P,cK=(m.set i (.obj (.b6 0 (G.add (jA l a id P))))).set v (.t (.bY (.ref a)))/\cN=.next:=by
 constructor;intro L cY aj eT ef aP aS aW;refine wpAny_Assign_two ?_ J cH;obtain⟨y,E,R,X⟩:=aS;refine lD (pN c.G y X.base (F.kn x w nofun) bX (F.kg x w) ?_);have t:starEach [e] c.env=(ak,eval e c.env)::starEach [] c.env:=ML (fY bF);refine callWith_K (z.iw X.base) z.ok.J3 ?_ t J;have bu:backTo Q (starEach [e] c.env)=[(ak,eval e c.env)]:=by rw [t];rfl
 rw [bu];refine nY (a_ L cY aj _ _ ⟨y,E,R,X⟩ λbw eF bB=>kJ ⟨z.iw X.base,(Wo (s:={aj with toks:=bw}) z cf bj X bB λh u a id P bQ bV T b7 Fr=>?_)⟩);refine aE (e9 (bK L u h _ _ ⟨y,E,R,T⟩ λb8 aN A=>?_));obtain rfl:=A.inv;refine aE (e9 (cA L u {h with toks:=b8} _ _ ⟨y,E,R,T⟩ λao aN A=>?_));obtain⟨eM,rfl⟩:=A.inv;refine aE (kK (aE (e9 ?_)));refine bM (iR z T p bh) λcz d=>?_;have f:=(ck.mp p).1;have au:=T.fp i f;refine wpAny_setItem_pairs (s:={h with toks:=ao}) (sS ..) d.map ?_ (by simp only [o6];simp [cV];exact aJ aK (aC J));intro j aB r;have r:gI G.D h.heap j:=r;rw [stored_new H]at aB;have aG:G.D∈R i:=by simp only [d.ob.ad,AQ];simp
 have az:∀{b},b∉R i->b≠G.D:=λ{b}g q=>g (by rw [q];exact aG);obtain⟨di,dm⟩:=aac d b7 (λb t=>(Fr b t).fp i f) r (by rw [J5];exact aB) H;have dz:=T.vX (av:=.obj (.b6 0 (G.add (jA l a id P)))) (fp:=(objs c.prog c.w B 0 (G.add (jA l a id P))).map (·.1)) p (λb g _ o e=>(r.2 b (az g)).trans e) (br.gO T.inv λaI dN o e=>(r.2 aI (az ((T.tab aI dN).2.2.2.2 i f))).trans e) (Le.refl _)
  (λb o e=>(r.2 b λq=>aU ((aL _ q).trans ((au G.D aG).2.1)) e).trans (T.bI b o e)) (λb o e=>.inl e) cz ⟨.ref G.self,J,z.ob.symm▸di⟩ (λb t=>by
   rcases dm b t with q|q
   .exact⟨.inl q,(au b q).2.1⟩
   .exact⟨.inr (Fr b q),(Fr b q).fz⟩)
 exact wpAny_release (m8 (gu (s:={h with heap:=j,toks:=ao+1}) (av:=.t (.bY (.ref a))) y aP dz aH S (F.loc aH S) ⟨J,_,J,.bY _⟩ .nil λdG dU dW c9=>aW dG u .next _ .next (kq a id P J J) ((bS.trans (b_ _ _ J) bQ).trans (bS.trans (b_ j _ J) dW)) bV ⟨y,dU,_,c9⟩ trivial))
end
end
section
variable{st:b9}{rest:Y b9}
theorem EX.xp{st:Y b9}(h:EX c n k m st g fl)(p:Φ g fl):XP c n k m st Φ:=⟨eV.p h.1 p⟩
theorem p8(R:ES c n k m o g .next)(w:XP c n k g rest y):XP c n k m (o::rest) y:=⟨Bw R.1 w.1⟩
theorem BE(R:SP c n k m o e)(w:∀g A,e g A->(A=.next/\XP c n k g rest y)\/(A≠.next/\y g A)):XP c n k m (o::rest) y:=⟨yt R.1 λl X p=>(w l X p).imp (λq=>⟨q.1,q.2.1⟩) id⟩
theorem NX(p:y m .next):XP c n k m [] y:=⟨abB p⟩
theorem XP.ex{st:Y b9}(h:XP c n k m st Φ)(p:∀S i,Φ S i->pq c.B S g/\i=A):EX c n k m st g A:=⟨jW.x h.1 p⟩
theorem XP.wk{st:Y b9}(h:XP c n k m st y)(p:∀S i,y S i->∃g,pq c.B S g/\e g i):XP c n k m st e:=⟨jW.wk h.1 p⟩
theorem XP.mono{st:Y b9}(h:XP c n k m st Φ)(p:∀S i,Φ S i->e S i):XP c n k m st e:=⟨λL f s Q P a b d=>h.1 L f s Q P a b λO j X S i q=>d O j X S i (p S i q)⟩
theorem abX(F:Fm c.env n k bX)(i:aa)(j:n[i]?=U x)(E:i<k)(u:EE c n k A aq au m)(a:EE c n k (au.set i (.t m)) O H e){b:bl}(s:gp v m e=U b)(z:behindInMarks v O=ak)
  (t:XP c n k H (if b then o else q) Φ):SP c n k A (.If (.Compare (.NamedExpr (.Name x cf) aq cy) [v] [O] bB) o q b8) Φ:=by
 constructor;intro L r w Q P l S G;refine yZ (wD (wpAny_NamedExpr (u.1 L r w _ _ S λb7 X T R aj ao d=>?_)) z);obtain⟨y,cA,bV,az⟩:=ao;refine m8 (gu (av:=.t m) y l az j E (F.loc j E) ⟨J,T,J,d⟩ .nil λaB f g B=>(a.1 L X aB _ _ ⟨y,f,_,B⟩ λbF bK bQ aH p aI aK=>(cF.to (xd c.R (d.mono p) aK s) aI λaM aN cz aO aP aS aG=>?_)));obtain rfl:=aG.inv;refine uQ ?_;have:=t.1 L aN aM Q P l aS λaX a_ bf aW bj bh bu bw h d=>G aX a_ bf aW bj bh (R.trans (g.trans (aH.trans (aO.trans bu)))) (aj.trans (p.trans (aP.trans bw))) h d;cases b
 .exact this
 .exact this
end
section
variable{y:Ly Ob}{f:ay}
structure o_(G:SG)(l:Y aa)(G':SG)(j:aa)(nd:Nd):Prop where
 at_:G'.bU[j]?=U nd
 key:nd.key=l
 how:(G'=G/\∃nd∈G.bU,nd.key=l)\/((∀nd∈G.bU,nd.key≠l)/\∃i id su,G'=G.add (jA l i id su)/\nd=jA l i id su)
noncomputable def W7:Y (ai×fe):=[("self",.local),("node",.local),("result",.local),("_NodeInfo",.globalImplicit)]
noncomputable def qJ:Y ai:=["self","node","result"]
set_option maxHeartbeats 1000000
theorem abd(b:bJ y.B y.prog y.w B)(E:ic y.B f 7 1 aN k qJ)(j:ic y.B B.ni 5 1 v aq uq)(L:y.mg "_NodeInfo"=U (.ref B.N))(az:G.bU.length<=1000):
  ff y.B y.prog y.w (aO+3) (.ref f) (.b6 0 G) [.str l] λT aj=>∃X u Q,o_ G l X u Q/\X.self=G.self/\T=.b6 0 X/\aj=.bY (.ref Q.i):=by
 refine ry y.G E.d (dQ J) (.plain λaI H=>?_) (λi R w=>?_) λ{x}e m ao au n=>?_
 .exact tB (λa aP=>(qe E.ar E.df _).trans J) aI H
 .refine pG i λX u Q h g r h=>?_;subst r;rw [b.ob]at R w;simp only [R.v,w.v,g]
 .have F:Fm (callEnvC k m f) qJ qJ.length W7:=ko (J) (by exact aL _ E.sc)
  let c:=(y.up x e).c ao au (callEnvC k m f) _ n
  have o:=b.up e;have O:ic (y.up x e).B B.ni 5 1 v aq uq:=⟨j.d.up e,j.ar,j.sc,j.df,j.kd⟩;refine XP.ev (c:=c) ?_;have d:s_ c qJ qJ.length (lN (.b6 0 G) qJ [.str l]) G:=Mx o (i:=0) J J
  by_cases p:∃Q∈G.bU,Q.key=l
  .refine aA p λQ z q=>?_;subst q;exact bC (qa z) λu s=>EX.xp (zx (Nq F 2 J (by exact eH _) (FJ d (j7 o (j4 o (i:=0) J J) (jE o F 0 J J) .tW J) d (zv F 1 J J) (λt=>by rw [Fp t s,adU]) (λh h=>.bY _) J J J) zn (b:=ak) J J ⟨i3⟩) (⟨tH (iS (zv F 2 J J)).1 (by exact nofun)⟩)) (g8 _ _ J (.inl J) ⟨G,u,Q,⟨s,J,.inl ⟨J,Q,z,J⟩⟩,J,J,J⟩)
  .have p:∀Q∈G.bU,Q.key≠l:=λQ z aB=>p (aR Q z aB);refine BE (abX (Φ:=λaG A=>∃a id P,aG=[.obj (.b6 0 (G.add (jA l a id P))),.t (.str l),.t (.bY (.ref a))]/\A=.next) F 2 J (eH _) (FJ d (j7 o (j4 o (i:=0) J J) (jE o F 0 J J) .tW J) d (zv F 1 J J) (λt=>(aa9 p).symm▸J) (λh h=>.none) J J J) zn (b:=ae) J J ?_) ?_
   .refine BE (abO o F n (λaH id P=>abk o O (jA l aH id P) J J) 3 J L 0 2 J J (CQ (i:=1) J J J) J (Sy o 0 J J (Sx o F 0 J J) .tW J) (CQ (i:=1) J J J) p J (eH _) az J) λaK A i=>iL i λa id P aM S=>?_;subst aM S;exact .inl ⟨J,NX (kq a id P J J)⟩
   .rintro aK A⟨a,id,P,rfl,rfl⟩;refine .inl ⟨J,EX.xp (fl:=.ret (.bY (.ref a))) ⟨tH (iS (zv F 2 J J)).1 (nofun)⟩ (g8 _ _ J (.inl J) ⟨G.add (jA l a id P),G.bU.length,jA l a id P,⟨?_,J,.inr ⟨p,a,id,P,J,J⟩⟩,J,J,J⟩)⟩;simp [SG.add]
end
noncomputable abbrev AN:=Y aa×aF×Y (Y aa)
noncomputable def gE(m:Y AN)(l:Y aa):Y AN:=if m.any (λa=>decide (a.1=l))then m else m++[(l,0,[])]
noncomputable def lP(m:Y AN)(l:Y aa)(d:aF):Y AN:=m.map λa=>if a.1=l then(a.1,a.2.1+d,a.2.2)else a
noncomputable def jR(m:Y AN)(l s:Y aa):Y AN:=m.map λa=>if a.1=l then(a.1,a.2.1,a.2.2++[s])else a
noncomputable def jX(m:Y AN)(L:Y aa)(s:Y (Y aa)):Y AN:=s.foldl (λm p=>jR (gE m p) p L) (lP (gE m L) L s.length)
noncomputable def SG.al(G:SG):Y AN:=G.bU.map λQ=>(Q.key,Q.np,Q.succ)
noncomputable def SG.kn(G:SG):Prop:=(G.bU.map (·.key)).Nodup
theorem SG.abs_eq(G:SG):G.abs=.b3 G.self G.al (G.cO.map λy=>G.rl) G.po G.fi:=J
theorem DE(h:((cV G).map (·.1)).Nodup):G.kn:=by
 have e:(cV G).map (·.1)=(G.bU.map (·.key)).map cj:=by simp [cV]
 simp only [e]at h;exact List.Pairwise.of_map cj (λa b A q=>A (aL _ q)) h
section
variable{G:SG}
theorem Kr{X g:Nd->AN}{bU:Y Nd}(l:(bU.map (·.key)).Nodup)(d:bU[u]?=U Q)(a:Nd)(R:X a=B (X Q))(w:∀h∈bU,h.key≠Q.key->B (X h)=X h):(bU.set u a).map X=(bU.map X).map B:=by
 refine dS (pY d) λF H e f=>?_;rw [f];rw [e]at l;simp only [dO,iW]at l;refine gg (f9.mp l) λy i T=>?_;have p:∀h∈F,h.key≠Q.key:=λh c q=>T h.key (fG c) Q.key (.head _) q;have L:∀h∈H,h.key≠Q.key:=λh c q=>(lu.mp i).1 (q▸(fG c));have b:(F.map X).map B=F.map X:=by
  refine aZ (d5) ?_;exact jG λh c=>w h (by rw [e];exact fV _ ‹_›) (p h c)
 have x:(H.map X).map B=H.map X:=by
  refine aZ (d5) ?_;exact jG λh c=>w h (by rw [e];simp [c]) (L h c)
 rw [e];simp only [dO,iW];simp only [b,x,R]
theorem Qe(l:G.kn)(d:G.bU[u]?=U Q):(G.np u Q (Q.np+h)).al=lP G.al Q.key h:=
 Kr (g:=λg=>(g.key,g.np,g.succ)) l d _ (by simp) λg y q=>bA ‹_›
theorem Qc(l:G.kn)(d:G.bU[u]?=U Q):(G.ap u Q s).al=jR G.al Q.key s:=
 Kr (g:=λg=>(g.key,g.np,g.succ)) l d _ (by simp) λg y q=>bA ‹_›
theorem o_.al(h:o_ G l X u a):X.al=gE G.al l:=by
 delta gE
 rcases h.how with⟨rfl,g,c,e⟩|⟨c,b,id,P,rfl,_⟩
 .rw [bx];exact qY.mpr (aR _ (fG c) (decide_eq_true e))
 .rw [bA]
  .simp [SG.al,SG.add,jA]
  .intro q;refine aA (qY.mp q) λx Q e=>aA (eG.mp Q) λg n i=>?_;subst i;exact c g n (by simpa using e)
theorem o_.kn(h:o_ G a X u e)(l:G.kn):X.kn:=by
 rcases h.how with⟨rfl,_⟩|⟨c,x,id,P,rfl,_⟩
 .exact l
 .delta SG.kn SG.add at*
  rw [dO,f9];refine(c_ l (by simp) (λs Q b t q=>(aA (eG.mp Q) λg n i=>?_)));subst i;rw [iW,GG,cD,jA]at t;exact c g n (q.trans t)
theorem o_.same(h:o_ G l X u Q):X.self=G.self/\X.cO=G.cO/\X.rl=G.rl/\X.po=G.po/\X.fi=G.fi:=by
 rcases h.how with⟨rfl,_⟩|⟨c,i,id,P,rfl,_⟩<;>exact(kW J J J J J)
theorem Kc(m:Y AN)(l:Y aa):(gE m l).length<=m.length+1:=by delta gE;split<;>simp
theorem VR(m:Y AN)(l:Y aa)(d:aF):(lP m l d).length=m.length:=b5 _
theorem VS(m:Y AN)(l s:Y aa):(jR m l s).length=m.length:=b5 _
end
section
variable{c:Cx Ob}{al:Y AN}
theorem gV(a:AV q):Wk H a a:=λy y y y y h=>h
theorem oK(t:T):Wk H (.t t) (.un):=λX f h F p g=>g.1
theorem Bv(z:bJ c.B c.prog c.w B)(G:SG):Wk c.B (.obj (.b6 0 G)) (.obj G.abs):=by
 rintro a f h F p⟨v,e,l⟩;rw [z.ob]at l;exact⟨v,e,(z.ob.symm▸(((aR G J (l)):∃X,X.abs=.b3 G.self G.al (G.cO.map λy=>G.rl) G.po G.fi/\d6 c.prog c.w B 0 X v h p)))⟩
theorem MJ(z:bJ c.B c.prog c.w B)(S:SR c.B c.ρ L f c.env n k m h)(j:n[i]?=U x)(H:m[i]?=U (.obj (.b3 sf al e po g))):
  ∃G,G.abs=.b3 sf al e po g/\G.kn/\SR c.B c.ρ L f c.env n k (m.set i (.obj (.b6 0 G))) h:=by
 obtain⟨b,E,R,S⟩:=S;obtain⟨F,Q,v,rfl,l⟩:=S.vars i x _ j H;rw [z.ob]at l;obtain⟨G,a,d⟩:∃G:SG,G.abs=.b3 sf al e po g/\d6 c.prog c.w B 0 G v h _:=l;refine⟨G,a,DE d.nd,b,E,R,{S with len:=by simp [S.len],vars:=λu O y s w=>?_}⟩
 by_cases q:u=i
 .subst q;rw [j]at s;obtain rfl:=bg s;rw [iF (by exact(S.len)▸((ck.mp j).1))]at w;obtain rfl:=bg w;exact⟨_,Q,v,J,z.ob.symm▸d⟩
 .rw [iV (iZ q)]at w;exact S.vars u O y s w
theorem Nb(z:bJ c.B c.prog c.w B)(i:aa){st:Y b9}(j:n[i]?=U b)(H:m[i]?=U (.obj (.b3 sf al w po g)))(h:∀G:SG,G.abs=.b3 sf al w po g->G.kn->EX c n k (m.set i (.obj (.b6 0 G))) st e A):EX c n k m st e A:=
 ⟨λL f s Q P a S d=>jL (MJ z S j H) λG x q S=>(h G x q).1 L f s Q P a S d⟩
theorem eR(h:Wk H a L)(r:pq H l A):pq H (a::l) (L::A):=by
 refine⟨by simp [r.1],λu x O j s=>?_⟩;cases u with
 |zero=>obtain rfl:=bg j;exact bg s▸h
 |succ u=>exact r.2 u x O j s
theorem qI(l:Y _):pq H l l:=⟨J,λu x O j s=>by rw [j]at s;exact bg s▸(gV _)⟩
theorem EX.wk{st:Y b9}(h:EX c n k m st g A)(q:pq c.B g H):EX c n k m st H A:=⟨λL f s Q P e S d=>h.1 L f s Q P e S λO j v x G a=>d O j v x G (a.wk q)⟩
end
section
set_option tactic.hygienic true
section
theorem YG{H:br q}(d:Den X f t (.tup l))(r:d_ l.length=ae):PO H (model i u) a X (call (.builtin "len") [t]) f (.int l.length):=by
 refine cps λn F=>?_;obtain⟨x,z,g,B,b,rfl⟩:=d.inv;refine F ?_;refine PO.give λs Q P h G=>PyProof.Rows.len_tuple (vq h.bI B) ?_ ?_
 .have:=yk r;simpa [b.length]using this
 .have e:z.toArray.size=l.length:=by simp [b.length]
  exact e.symm▸(G _ _ (.int _ _))
theorem Ny(F:Fm c.env n k o)(u:aa)(a:o[u]?=U (("len":ai),.globalImplicit))(h:EE c n k m e g (.tup l))(r:d_ l.length=ae)(R:dX e=ae):EE c n k m (.Call (.Name "len" p) [e] [] w) g (.int l.length):=
 sx F u 0 a J (zr h cR R) (by simp [R]) λf z d=>by refine aA d.jS λv j q=>?_;subst j;exact YG q r
end
theorem QF{x:br Ob}{q:bZ}{u:bR}(H:d_ o.length=ae)(i:∀B v rest,bindArgs k ⟨B::v::rest,[]⟩=newTuple rest>>=λw=>pure (fh n [B,v,w])):Binds x q u k n (a::o) [a,.tup o]:=by
 intro F X B z f s Q P g t b G;obtain⟨v,z,rfl,d,b⟩:=b.ju (P:=λj=>∃v A,j=v::A/\Den _ _ v _/\bq _ _ A _) λv A l O=>⟨v,A,J,l,O⟩;rw [i];refine aE (Pr ?_ (by exact(b.length)▸(kB H)));have h:=cg.push t (r9 z 0) s.toks J;exact bD (G _ _ [v,.ref s.heap.objs.size] h (.cons (d.mono h.le) (.one (.tup (bx J) (b.mono h.le)))) λm r e=>eg _ e)
section
variable{y:Ly Ob}{f g7:ay}{al:Y AN}
theorem EG{l A:Y AN}(R:vI i w B (.b3 sf l r a b) h e p)(h2:vI i w B (.b3 sf A t L Q) P h' vf):P=h:=by
 obtain⟨G,x,s⟩:∃G:SG,G.abs=.b3 sf l r a b/\d6 i w B 0 G h e p:=R;obtain⟨X,f,k⟩:∃G:SG,G.abs=.b3 sf A t L Q/\d6 i w B 0 G P h' vf:=h2;simp only [s.v,k.v,(by injection x:G.self=sf),(by injection f:X.self=sf)]
noncomputable def D7:Y (ai×fe):=[("self",.local),("node",.local),("predecessors",.local),("nodeinfo",.local),("pred",.local),("pred_info",.local),("ValueError",.globalImplicit),("len",.globalImplicit)]
noncomputable def nP:Y ai:=["self","node","predecessors","nodeinfo","pred","pred_info"]
noncomputable def pB(i:aa)(b:Y b9):aY b9:=dZ i b
theorem D0(h:a∈gE m l):a∈m\/a=(l,0,[]):=by
 delta gE at h
 split at h
 .exact .inl h
 .rcases e8.mp h with h|h
  .exact .inl h
  .exact .inr (cD.mp h)
theorem WA(h:a∈jR m l s):∃b∈m,a.2.2.length<=b.2.2.length+1:=by
 refine aA (eG.mp h) λb t i=>?_;subst i;refine⟨b,t,?_⟩
 split<;>simp
theorem Wz(h:a∈lP m l d):∃b∈m,a.2.2.length=b.2.2.length:=by
 refine aA (eG.mp h) λb t i=>?_;subst i;refine⟨b,t,?_⟩
 split<;>rfl
set_option maxHeartbeats 1000000
theorem P_(z:bJ c.B c.prog c.w B)(F:Fm c.env nP nP.length D7)(az:(("_get_nodeinfo":ai),g7)∈B.fs)(ao:∀{v},bG c.B.bO v->v.get? g7=U XM)(aB:XM.data=.func bh)
  (aj:∀(G:SG)(j:Y aa),G.bU.length<=1000->ff c.B c.prog c.w c.n (.ref g7) (.b6 0 G) [.str j] λH r=>∃X u Q,o_ G j X u Q/\X.self=G.self/\H=.b6 0 X/\r=.bY (.ref Q.i))
  (L p:Y aa)(m:Y AN)(aP:m.length<=950)(R:∀a∈m,a.2.2.length<=950):
  EX c nP nP.length [.obj (.b3 x m af po g),.t (.str L),.t k,n,.t (.str p),.un] (i4 (pB 3 (cZ (fm 7 2)))) [.obj (.b3 x (jR (gE m p) p L) af po g),.t (.str L),.t k,n,.un,.un] .next:=by
 refine Nb z 0 J J λG aH aN=>?_;refine cps λaX aO=>?_;obtain⟨C_,b,O,y,w⟩:G.self=x/\G.al=m/\G.cO=af/\G.po=po/\G.fi=g:=by
  injection aH with a E T i f
  exact⟨a,E,by simpa using T,i,f⟩
 refine aO ?_;refine XP.ex (Φ:=λS A=>∃X,X.abs=.b3 x (jR (gE m p) p L) af po g/\(∃a,S=[.obj (.b6 0 X),.t (.str L),.t k,n,.t (.str p),.t (.bY a)])/\A=.next) ?_ λS aW P=>?_
 .refine BE (NF z F 0 5 J J az (nofun) ao aB (zr (zv F 4 J J) cR J) J (aj G p (g_ 0 (.v 1) (.n 1000) (.v 0) (.n 950) (.v 1) (.v 0) J [_,_] aP ((mC (by rw [<-b];simp [SG.al]:G.bU.length=m.length))))) J (dQ J) J J (dQ J) J) λaS A P=>jw P λH r s l aG=>pG s λX u Q h bf aI aq=>?_;subst aI aq l aG;refine .inl ⟨J,(dS (XK c.prog c.w B (l:=L) h.at_) λP a_ au aM=>?_)⟩;have o:=h.al;have e:=h.same;have aK:Q.succ.length<=1000:=by
   have t:(Q.key,Q.np,Q.succ)∈X.al:=eG.mpr ⟨Q,cL h.at_,J⟩;simp only [o,b]at t;rcases D0 t with q|q
   .have:=R _ q;exact aJ this (aC J)
   .injection q with _ q;injection q with _ q;exact(q)▸(iY _)
  refine p8 (NC z 0 J (uw z (A8 z (i:=0) J J (iY _) (cL h.at_)) (zv F 5 J J) .su J) J (zv F 1 J J) J au aM ⟨J,J,J6 h.at_⟩ aK J J J) (NX ⟨X.ap u Q L,?_,⟨_,J⟩,J⟩);simp only [SG.abs_eq,Qc (h.kn aN) h.at_,o,b,h.key];show Ob.b3 X.self _ (X.cO.map λ_=>X.rl) X.po X.fi=_;simp only [e.1,e.2.1,e.2.2.2.1,e.2.2.2.2,C_,O,y,w];rfl
 .refine jL P λX i s l=>bC s λa d=>?_;subst d l;refine⟨?_,J⟩;have:=Bv z X;rw [i]at this;exact eR this (eR (gV _) (eR (gV _) (eR (gV _) (eR (oK _) (eR (oK _) (qI _))))))
theorem EX.pre{m lv' g:Y (AV Ob)}{st:Y b9}(h:EX c n k lv' st g A)(q:pq c.B m lv'):EX c n k m st g A:=⟨λL f s Q P a S d=>h.1 L f s Q P a (S.wk q) d⟩
theorem VT(m:Y AN)(p s:Y aa):(jR (gE m p) p s).length<=m.length+1:=by rw [VS];exact Kc m p
theorem aaB{E:aa}(h:∀a∈m,a.2.2.length<=E):∀a∈jR (gE m p) p s,a.2.2.length<=E+1:=λa Q=>by
 refine aA (WA Q) λb t q=>?_;rcases D0 t with t|rfl
 .have:=h b t;exact g_ 0 (.v 0) (.a (.v 2) (.n 1)) (.v 0) (.a (.v 1) (.n 1)) (.v 1) (.v 2) J [_,_,_] q this
 .exact dg 0 (.v 0) (.a (.v 1) (.n 1)) (.v 0) (.n 1) J [_,_] q
theorem P7(z:bJ c.B c.prog c.w B)(F:Fm c.env nP nP.length D7)(s:(("_get_nodeinfo":ai),g7)∈B.fs)(j:∀{h},bG c.B.bO h->h.get? g7=U d)(i:d.data=.func o)
  (v:∀(G:SG)(l:Y aa),G.bU.length<=1000->ff c.B c.prog c.w c.n (.ref g7) (.b6 0 G) [.str l] λH r=>∃X u Q,o_ G l X u Q/\X.self=G.self/\H=.b6 0 X/\r=.bY (.ref Q.i))
  (L:Y aa):∀(n:Y _)(m:Y AN)(E:aa),m.length+n.length<=950->(∀a∈m,a.2.2.length<=E)->E+n.length<=950->
   i9 c nP nP.length (mu (pB 3 (cZ (fm 7 2)))) (i4 (pB 3 (cZ (fm 7 2)))) (n.map .str) [.obj (.b3 x m af po g),.t (.str L),.t k,P,.un,.un] [.obj (.b3 x (n.foldl (λm p=>jR (gE m p) p L) m) af po g),.t (.str L),.t k,P,.un,.un] .next:=λb=>b.rec
 (λm E y y y=>lZ)
 (λp n f m E R w t=>by
  simp only [m4]at R t
  exact mU (jj F 4 J (fH _ _)) (P_ z F s j i v L p m (dg 0 (.v 0) (.n 950) (.a (.v 0) (.a (.v 1) (.n 1))) (.n 950) J [_,_] R) λa e=>by have:=w a e;exact g_ 0 (.v 2) (.n 950) (.a (.v 1) (.a (.v 0) (.n 1))) (.n 950) (.v 2) (.v 1) J [_,_,_] t this) (f _ _ (g_ 0 (.a (.v 2) (.v 1)) (.n 950) (.a (.v 0) (.a (.v 1) (.n 1))) (.n 950) (.v 2) (.a (.v 0) (.n 1)) J [_,_,_] R (VT m p L)) (aaB w) (dg 0 (.a (.a (.v 0) (.n 1)) (.v 1)) (.n 950) (.a (.v 0) (.a (.v 1) (.n 1))) (.n 950) J [_,_] t)))
set_option maxHeartbeats 1000000
theorem w_add(L:bJ y.B y.prog y.w B)(E:ic y.B f 7 2 b7 g nP)(i:ic y.B g7 7 1 aP aH qJ)(j:ic y.B B.ni 5 1 b8 bK uq)(au:y.mg "_NodeInfo"=U (.ref B.N))(w:(("_get_nodeinfo":ai),g7)∈B.fs)
  (node:Y aa)(s:Y _)(t:al.length+s.length<=900)(aI:∀a∈al,a.2.2.length+s.length<=900):
  ff y.B y.prog y.w (n+4) (.ref f) (.b3 x al af po fi) (.str node::s.map .str) λH r=>H=.b3 x (jX al node s) af po fi/\r=.none:=by
 refine ry y.G E.d (dQ J) (QF (eE (by simp;exact dg 0 (.v 1) (.n 1000000) (.a (.v 0) (.v 1)) (.n 900) J [_,_] t)) λbF v rest=>?_) (λP aj R=>?_) λ{ao}hk aq bh bw bB=>?_
 .refine(qe E.ar E.df _).trans ?_;cases rest<;>rfl
 .refine bM P λq bV=>?_;subst q;rw [L.ob]at aj R;exact EG aj R
 .have F:Fm (callEnvC g aq f) nP nP.length D7:=ko (J) (by show g.scope.names=_;exact aL _ E.sc)
  let c:=(y.up ao hk).c bh bw (callEnvC g aq f) (n+3) bB
  have o:bJ c.B c.prog c.w B:=L.up hk;have e:ic (y.up ao hk).B g7 7 1 aP aH qJ:=⟨i.d.up hk,i.ar,i.sc,i.df,i.kd⟩;refine XP.ev (c:=c) (XP.mono (Φ:=λS A=>S=[.obj (.b3 x (jX al node s) af po fi),.t (.str node),.t (.tup (s.map .str)),.un,.un,.un]/\A=.next) ?_ λS A P=>by refine bM P λq aS=>?_;subst q aS;exact⟨_,_,J,.inr ⟨J,J⟩,J,J⟩);refine EX.xp (Nb o 0 J J λG az aB=>?_) ⟨J,J⟩;obtain⟨aG,T,O,aK,aN⟩:G.self=x/\G.al=al/\G.cO=af/\G.po=po/\G.fi=fi:=by
   injection az with a m aO k f
   exact⟨a,m,by simpa using aO,k,f⟩
  refine XP.ex (p8 (cJ (b:=ak) (zC (j7 o (j4 o (i:=0) J J) (jE o F 0 J J) (.Mg O) J) zn J J) ⟨i3⟩) ?_) λS cf P=>P;have z:∀(G:SG)(l:Y aa),G.bU.length<=1000->ff c.B c.prog c.w c.n (.ref g7) (.b6 0 G) [.str l] λH r=>∃X u Q,o_ G l X u Q/\X.self=G.self/\H=.b6 0 X/\r=.bY (.ref Q.i):=
   λG l aW=>abd o e (⟨j.d.up hk,j.ar,j.sc,j.df,j.kd⟩) au aW
  refine BE (NF o F 0 3 J J w (nofun) e.d.ho e.d.hd (zr (zv F 1 J J) cR J) J (z G node (g_ 0 (.v 2) (.n 1000) (.a (.v 0) (.v 1)) (.n 900) (.v 2) (.v 0) J [_,_,_] t ((mC (by rw [<-T];simp [SG.al]:G.bU.length=al.length))))) J (dQ J) J J (dQ J) J) λbX A P=>jw P λH r aX a_ aM=>pG aX λX u Q h bQ bj bf=>?_;subst bj bf a_ aM;refine .inl ⟨J,?_⟩;have b:=h.same;refine p8 (NH (n:=Q.np+s.length) o 0 J (zv F 3 J J) J (iY _) h.at_ (Ny F 7 J (zv F 2 J J) (eE (by simp;exact dg 0 (.v 1) (.n 1000000) (.a (.v 0) (.v 1)) (.n 900) J [_,_] t)) J) J (by rw [b5];rfl)) (EX.xp (fl:=.next) (EX.pre (lv':=[.obj (.b3 x (lP (gE al node) node s.length) af po fi),.t (.str node),.t (.tup (s.map .str)),.t (.bY (.ref Q.i)),.un,.un]) (zx (kC (yy (zv F 2 J J)) (P7 o F w e.d.ho e.d.hd z node s (lP (gE al node) node s.length) (900-s.length) ?_ ?_ (aJ ((vD (dg 0 (.v 1) (.n 900) (.a (.v 0) (.v 1)) (.n 900) J [_,_] t))) (aC J))) J J) ⟨i3⟩) ?_) ⟨?_,J⟩)
  .rw [VR];have:=Kc al node;exact g_ 0 (.a (.v 2) (.v 1)) (.n 950) (.a (.v 0) (.v 1)) (.n 900) (.v 2) (.a (.v 0) (.n 1)) J [_,_,_] t this
  .intro a bu;refine aA (Wz bu) λm d p=>?_;rcases D0 d with d|rfl
   .have:=aI m d;exact rW 0 (.v 0) (.v 3) (.v 0) (.v 1) (.a (.v 1) (.v 2)) (.n 900) (.n 900) (.a (.v 3) (.v 2)) J [_,_,_,_] ((mC p)) this x8
   .exact dg 0 (.v 0) (.v 1) (.v 0) (.n 0) J [_,_] ((mC (p)))
  .have k:(X.np u Q (Q.np+s.length)).abs=.b3 x (lP (gE al node) node s.length) af po fi:=by
    simp only [SG.abs_eq,Qe (h.kn aB) h.at_,h.al,T,h.key];show Ob.b3 X.self _ (X.cO.map λ_=>X.rl) X.po X.fi=_;simp only [b.1,b.2.1,b.2.2.2.1,b.2.2.2.2,aG,O,aK,aN];rfl
   have:=Bv o (X.np u Q (Q.np+s.length));simp only [k]at this;exact eR this (qI _)
  .exact eR (gV _) (eR (gV _) (eR (gV _) (eR (oK _) (qI _))))
end
end
noncomputable def SG.iQ(G:SG)(p:Y aa)(v:aF):SG:={G with bU:=G.bU.map λQ=>if Q.key=p then{Q with np:=v}else Q}
noncomputable def qw(m:Y AN)(l:Y aa)(v:aF):Y AN:=m.map λa=>if a.1=l then(a.1,v,a.2.2)else a
section
variable{i:aa}{G:SG}
theorem KX(l:G.kn)(d:G.bU[a]?=U Q):G.np a Q v=G.iQ Q.key v:=by
 delta SG.np SG.iQ
 refine dS (pY d) λF H e f=>?_;rw [f]
 delta SG.kn at l
 rw [e]at l⊢;simp only [dO,iW]at l⊢;refine gg (f9.mp l) λy u T=>?_;have p:F.map (λh=>if h.key=Q.key then{h with np:=v}else h)=F:=by
  conv=>rhs;rw [<-BR F]
  exact jG λg c=>by refine aZ (bA (T g.key (fG c) Q.key (.head _))) ?_;rfl
 have L:H.map (λh=>if h.key=Q.key then{h with np:=v}else h)=H:=by
  conv=>rhs;rw [<-BR H]
  exact jG λg c=>by refine aZ (bA λq=>(lu.mp u).1 (by rw [<-q];exact fG c)) ?_;rfl
 simp only [p,L,bx trivial]
theorem DF{p:Y aa}(l:G.kn):(G.iQ p v).kn:=by
 delta SG.kn SG.iQ at*
 simp only [d5];have:((λx=>x.key)∘λQ:Nd=>if Q.key=p then{Q with np:=v}else Q)=λQ=>Q.key:=by funext Q;simp only [yJ];split<;>rfl
 exact this.symm▸l
theorem JY{p:Y aa}(h:∃Q∈G.bU,Q.key=r):∃Q∈(G.iQ p v).bU,Q.key=r:=by
 refine aA h λQ c e=>(aR _ (eG.mpr (aR Q c J)) ?_)
 split<;>exact e
theorem Hx{p:Y aa}:(G.iQ p v).al=qw G.al p v:=by
 delta SG.al SG.iQ qw
 refine aZ (d5) ?_;simp only [d5];refine jG λQ y=>?_;simp only [yJ]
 split<;>rfl
theorem BA{c:Cx q}{k:aa}{m:Y _}(F:Fm c.env n k o)(u:aa)(d:o[u]?=U (x,.globalImplicit))(l:c.mg x=U v)(E:∀X f,Den X f v y):EE c n k m (.Name x p) m y:=
 ⟨λL f s Q P S G=>pN c.G S.1 S.ready.base (F.kn u d nofun) l (F.kg u d) (G s f v (bS.refl s) (Le.refl _) S (E _ _))⟩
noncomputable def tn(c:Cx Ob)(n:Y ai)(k:aa)(m:Y (AV Ob))(a:ay)(s:Y (Y aa)):Prop:=rm c n k m λh=>∃o,h.get? a=U o/\fC s o
theorem My(z:bJ c.B c.prog c.w B)(j:n[i]?=U x)(H:m[i]?=U (.obj (.b6 q G)))(T:G.cO=U a):tn c n k m a G.rl:=λL f E R h S=>
 (iR z S j H).2.ob.dJ (a,fC G.rl) (mJ (by simp [fO,T]))
theorem acd(F:Fm c.env n k y)(u:aa)(d:y[u]?=U (("tuple":ai),.globalImplicit))(Q:EE c n k m e g (.bY (.ref aO)))(i:tn c n k g aO s)(t:s.length<=1000)(R:dX e=ae):
  EE c n k m (.Call (.Name "tuple" p) [e] [] aP) g (.tup (s.map .str)):=by
 constructor;intro bh bu aS a_ bf S G;have a:∀f∈[e],∀x p,f≠.Starred x p:=λf l=>by exact(cD.mp l)▸(fY R)
 refine bM (c.bi 13 "tuple" _ J) λj o=>lD (nA c.G S.1 S.ready.base (F.kn u d nofun) j o (F.kg u d) (B5 (kA [e] a) (jY a (pH Q.1 kS (fY R)) S λq r z w L T b=>?_)));obtain⟨v,z,rfl,aj,b⟩:=b.ju (P:=λao=>∃v A,ao=v::A/\Den _ _ v _/\bq _ _ A _) λv A x aq=>⟨v,A,J,x,aq⟩;obtain rfl:=b.jg J;obtain rfl:=aj.inv;refine cps λbj au=>?_;obtain⟨az,aB,O,X⟩:=T;refine aA (i _ _ _ _ _ X) λaX aH aI=>?_;obtain⟨z,aK,rfl,H⟩:=aI;refine au (call_tuple_list (i12 _ aH J ⟨aK,J⟩) (λaW aG=>?_) (by simp only [nW,((H.pC (ρ:=c.ρ) (fz:=r)).length)];simp;exact aJ t (aC J)));have h:=cg.keeps (t:=q.toks) X.ready aG;have B:=X.step h;exact(B.ready).tup (H.pC) λaN aM v E P=>G aN aM v (w.trans (h.same.trans E.same)) (L.trans E.le) ⟨az,aB,O,B.step E⟩ P
theorem ab_(z:bJ c.B c.prog c.w B)(i:aa)(j:n[i]?=U a_)(A:EE c n aq az o g (.bY (.ref a)))(b:g[i]?=U (.obj (.b6 q G)))
  (O:objs c.prog c.w B q G=P++(a,fC ls)::H)(X:objs c.prog c.w B q G'=P++(a,fC [])::H)(y:G'.self=G.self/\G'.D=G.D/\cV G'=cV G)(aB:ls.length<=1000)
  (aN:attributeBase o "clear" c.env (eval o c.env)=eval o c.env)(aK:(aO.endLine==w.line)=ae):
  ES c n aq az (.Expr (.Call (.Attribute o "clear" aO) [] [] w) bB) (g.set i (.obj (.b6 q G'))) .next:=by
 constructor;intro L v p aS aW bj s E;refine sU (lE aN (nS _) aK Oa F.slot_list_clear F.type_list_clear (A.1 L v p _ _ s λt u bw T Q R aj=>?_)) (by delta interactive;exact s.1.kind.symm▸J) J;refine cps λao e=>?_;obtain rfl:=aj.inv;obtain⟨f,m,aX,l⟩:=R;refine bM (iR z l j b) λbh d=>aA (d.ob.dJ (a,fC ls) (by rw [O];simp)) λbu h aG=>?_;obtain⟨aH,aI,rfl,au⟩:=aG;refine e ?_;have dl:=(au.pC (ρ:=c.ρ) (fz:=u)).length;refine(c_ (aR _ h J) (λbf aM=>by obtain rfl:=jn aM;exact(aR _ h J)) (PySem.P.clear_list h ?_ (by simp only [nW,dl];simp;exact aJ aB (aC J))));have x:∃S,(t.heap.update a (m6 λk=>#[])).get? a=U (lo [] S):=by
  obtain⟨S,aP⟩:∃S,m6 (λk=>#[]) (lo aH aI)=lo [] S:=⟨_,J⟩;exact⟨S,by refine aZ (oV _ h (J)) ?_;rw [aP]⟩
 refine cps λao e=>?_;refine bC x λS x=>?_;have r:gI a t.heap (t.heap.update a (m6 λk=>#[])):=nU ..;refine e ?_;refine E _ u .next (T.trans (b_ _ _ J)) Q ⟨f,m,_,Be z l j b ?_ r y.1 ⟨J,by exact(y.2.1)▸(d.sm),by exact(y.2.2)▸(d.nd),d.ob.upd O X r x (gh _ _ J (.nil))⟩⟩ trivial
 simp only [d.ob.ad,O];simp
end
section
variable{y:Ly Ob}{f:ay}{al:Y AN}
theorem LN(i:bZ)(u:bR)(B:Cl)(q:aa)(e:G.cO=U a)(h:Y _):∃P n,objs i u B q G=P++(a,fC G.rl)::n/\objs i u B q {G with rl:=h}=P++(a,fC h)::n:=by
 obtain⟨F,d,E,b,rl,T,g,bU⟩:=G;subst e
 match q with
 |0=>exact(gh ([(F,λo=>o=instObj B.C d),(d,iy _)]) _ (J) J)
 |1=>exact(gh ([(F,λo=>o=instObj B.C d),(d,iy _)]) _ J J)
 |x+2=>exact(gh ([(F,λo=>o=instObj B.C d),(d,iy ⟨F,d,E,U a,rl,T,g,bU⟩)]) ([]) J J)
theorem L_(z:bJ c.B c.prog c.w B)(i:aa){st:Y b9}(j:n[i]?=U x)(H:m[i]?=U (.obj (.b3 sf al w po g)))(h:∀G:SG,G.abs=.b3 sf al w po g->G.kn->XP c n k (m.set i (.obj (.b6 0 G))) st Φ):XP c n k m st Φ:=
 ⟨λL f s Q P a S d=>jL (MJ z S j H) λG e q S=>(h G e q).1 L f s Q P a S d⟩
noncomputable def KL:Y (ai×fe):=[("self",.local),("result",.local),("n2i",.local),("node",.local),("ValueError",.globalImplicit),("tuple",.globalImplicit),("_NODE_OUT",.globalImplicit),("len",.globalImplicit)]
noncomputable def sd:Y ai:=["self","result","n2i","node"]
noncomputable def jP(G:SG)(n:Y (Y aa)):SG:=n.foldl (λG p=>G.iQ p (-1)) G
noncomputable def gS(m:Y AN)(n:Y (Y aa)):Y AN:=n.foldl (λm p=>qw m p (-1)) m
theorem Qf:∀(n:Y _)(G:SG),(jP G n).al=gS G.al n:=λi=>i.rec
 (λy=>J)
 (λp n f G=>by show(jP (G.iQ p (-1)) n).al=gS (qw G.al p (-1)) n;rw [f,Hx])
theorem ZR:∀(n:Y _)(G:SG),(jP G n).self=G.self/\(jP G n).D=G.D/\(jP G n).cO=G.cO/\(jP G n).rl=G.rl/\(jP G n).po=G.po/\(jP G n).fi=G.fi:=λi=>i.rec
 (λy=>(xF J J J J J J))
 (λp n f G=>f (G.iQ p (-1)))
set_option maxHeartbeats 1000000
theorem Yg(z:bJ c.B c.prog c.w B)(F:Fm c.env sd sd.length KL)(m:c.mg "_NODE_OUT"=U (.int (-1) v)):∀(n:Y _)(G:SG),G.kn->(∀p∈n,∃Q∈G.bU,Q.key=p)->
  i9 c sd sd.length (mu (pB 3 (cZ (fm 7 4)))) (i4 (pB 3 (cZ (fm 7 4)))) (n.map .str) [.obj (.b6 0 G),.t h,.t (.bY (.ref G.D)),.un] [.obj (.b6 0 (jP G n)),.t h,.t (.bY (.ref G.D)),.un] .next:=λa=>a.rec
 (λG y y=>lZ)
 (λp n f G q O=>by
  refine aA (O _ gj) λQ e i=>?_;subst i;refine bC (qa e) λu d=>mU (c4:=[.obj (.b6 0 (G.iQ Q.key (-1))),.t h,.t (.bY (.ref G.D)),.un]) (jj F 3 J (eH _)) ?_ ?_
  .exact EX.wk (zx (NK z 0 J (BA F 6 J m λy y=>.int _ _) (FL (Mx z (i:=0) J J) (zv F 2 J J) (zv F 3 J J) d J) J (iY _) d J) ⟨i3⟩) ((KX q d).symm▸(eR (gV _) (eR (gV _) (eR (gV _) (eR (oK _) (qI _))))))
  .exact f _ (DF q) λp x=>JY (O p (fF _ x)))
theorem abe(z:bJ y.B y.prog y.w B)(E:ic y.B f 7 4 bw k sd)(aW:y.mg "_NODE_OUT"=U (.int (-1) bh))(t:rl.length<=900)(v:∀p∈rl,∃a∈al,a.1=p):
  ff y.B y.prog y.w (a_+1) (.ref f) (.b3 x al (U rl) po g) [] λH aj=>H=.b3 x (gS al rl) (U []) (po+rl.length) g/\aj=.tup (rl.map .str):=by
 refine ry y.G E.d (dQ J) (.plain λaB aK=>?_) (λP R w=>?_) λ{az}X m n aM aG=>?_
 .exact bind1 (λa=>(qe E.ar E.df _).trans J) aB aK
 .refine bM P λu aP=>?_;subst u;rw [z.ob]at R w;exact EG R w
 .have F:Fm (callEnvC k m f) sd sd.length KL:=ko (J) (by show k.scope.names=_;exact aL _ E.sc)
  let c:=(y.up az X).c n aM (callEnvC k m f) a_ aG
  have o:bJ c.B c.prog c.w B:=z.up X;refine XP.ev (c:=c) (XP.mono (Φ:=λS A=>(∃b,S=[.obj (.b3 x (gS al rl) (U []) (po+rl.length) g),.t (.tup (rl.map .str)),.t (.bY b),.un])/\A=.ret (.tup (rl.map .str))) ?_ λS A P=>by refine bM P λu L=>?_;obtain⟨b,rfl⟩:=u;subst L;exact(my _ _ J (.inl J) J J));refine L_ o 0 J J λG ao aq=>?_;obtain⟨a,au,r,O,i,aH,q⟩:∃a,G.self=x/\G.al=al/\G.cO=U a/\G.rl=rl/\G.po=po/\G.fi=g:=by
   injection ao with a b d e f
   cases s:G.cO with
   |none=>rw [s]at d;exact aU J d
   |some aN=>rw [s]at d;exact(C' aN a b J (bg d) e f)
  have aO:∀p∈G.rl,∃Q∈G.bU,Q.key=p:=λp l=>by
   rw [i]at l;refine aA (v p l) λbj j e=>?_;rw [<-r]at j;refine aA (eG.mp j) λQ aX aS=>?_;subst aS;exact(aR Q aX e)
  subst i;have h:=ZR G.rl G;refine dS (LN c.prog c.w B 0 (by refine aZ (h.2.2.1) ?_;rw [O]) []) λP bu bf aI=>p8 (cJ (zC (j7 o (j4 o (i:=0) J J) (jE o F 0 J J) (.t8 O) J) zn J J) ⟨i3⟩) (p8 (dD F 1 J (dQ J) (acd F 5 J (j7 o (j4 o (i:=0) J J) (jE o F 0 J J) (.t8 O) J) (My o (i:=0) J J O) (aJ t (aC J)) J) J) (p8 (dD F 2 J (fH _ _) (j7 o (j4 o (i:=0) (q:=0) J J) (jE o F 0 J J) .tW J) J) (p8 (kC (yy (zv F 1 J J)) (Yg o F aW G.rl G aq aO) J J) (p8 (ab_ (G:=jP G G.rl) (G':={jP G G.rl with rl:=[]}) (ls:=(jP G G.rl).rl) o 0 J (j7 o (j4 o (i:=0) (q:=0) J J) (jE o F 0 J J) (.t8 (a:=a) (by refine aZ (h.2.2.1) ?_;rw [O])) J) J bf aI (c_ J J J) (by exact h.2.2.2.1.symm▸(aJ t (aC J))) J J) (p8 (NO (τ:=.int (G.po+G.rl.length)) o 0 J (jE o F 0 J J) J .po (Ny F 7 J (zv F 1 J J) (eE (by simp;exact aJ t (aC J))) J) J (by rw [b5];show U (T.int ((jP G G.rl).po+_))=_;exact h.2.2.2.2.1.symm▸J) (.po _)) (XP.wk (EX.xp (Φ:=λS A=>S=[.obj (.b6 0 {jP G G.rl with rl:=[],po:=G.po+G.rl.length}),.t (.tup (G.rl.map .str)),.t (.bY (.ref G.D)),.un]/\A=.ret (.tup (G.rl.map .str))) ⟨tH (iS (zv F 1 J J)).1 (by exact nofun)⟩ ⟨J,J⟩) ?_))))));rintro S A⟨rfl,rfl⟩;refine(i12 _ (eR (Bv o _) (qI _)) ⟨.ref G.D,?_⟩ J);simp only [SG.abs_eq];show [AV.obj (Ob.b3 (jP G G.rl).self (jP G G.rl).al ((jP G G.rl).cO.map λaP=>[]) _ (jP G G.rl).fi),_,_,_]=_;simp only [h.1,h.2.2.1,h.2.2.2.2.2,Qf,au,r,O,aH,q]
  rfl
end
theorem Wu(l:ay)(q:jo aD)(e:(q.size:aF)<2^63):
  Meets (Builtin.«bool.__new__» ⟨[.type "bool",.ref l],[]⟩) (λy n s=>s.heap.IsList l q/\n (.ok (.ret (.bool (!q.isEmpty)))) {s with toks:=s.toks+1+1}):=
 Meets.of_wp λi u h n s r=>by
  refine bM r λH r=>?_;have k:=F.conv_sub_bool
  repeat(any_goals(first|assumption|(with_reducible refine wpAny_truthy_list H e ?_)|wp_step))
  all_goals first|exact(aR _ J r)|exact r|skip
theorem QU(H:s.heap.IsList l q)(e:(q.size:aF)<2^63)(h:Q (.bool (!q.isEmpty)) {s with toks:=s.toks+1+1}):
  wpAny (model i u) F (call (.type "bool") [.ref l]) Q P s:=
 call_bool_1 (Wu l q e) ((c_ H J h))
section
theorem ab8(F:Fm c.env n k w)(h:aa)(d:w[h]?=U (("bool":ai),.globalImplicit))(l:EE c n k m e g (.bY (.ref L)))(O:tn c n k g L s)(aK:s.length<=1000)(R:dX e=ae):
  EE c n k m (.Call (.Name "bool" p) [e] [] aI) g (.bool (!s.isEmpty)):=by
 constructor;intro aO aP aG aH aS S G;have a:∀f∈[e],∀x p,f≠.Starred x p:=λf P=>by exact(cD.mp P)▸(fY R)
 refine bM (c.bi 14 "bool" _ J) λB q=>lD (nA c.G S.1 S.ready.base (F.kn h d nofun) B q (F.kg h d) (B5 (kA [e] a) (jY a (pH l.1 kS (fY R)) S λt u z E i T b=>?_)));obtain⟨v,z,rfl,j,b⟩:=b.ju (P:=λo=>∃v A,o=v::A/\Den _ _ v _/\bq _ _ A _) λv A x Q=>⟨v,A,J,x,Q⟩;obtain rfl:=b.jg J;obtain rfl:=j.inv;refine cps λaN y=>?_;obtain⟨ao,aq,aj,X⟩:=T;refine aA (O _ _ _ _ _ X) λaM az au=>?_;obtain⟨z,aB,rfl,H⟩:=au;refine y ?_;have dl:=(H.pC (ρ:=c.ρ) (fz:=u)).length;simp only [b5]at dl;refine QU (i12 _ az J ⟨aB,J⟩) (by rw [nW,dl];omega) ?_;have e:(!z.toArray.isEmpty)=!s.isEmpty:=by
  cases z<;>cases s<;>first|rfl|exact nomatch H
 rw [e];have r:cg c.B u t u {t with toks:=t.toks+1+1}:=cg.tok X.ready _;exact G _ u _ (E.trans r.same) i ⟨ao,aq,aj,X⟩ (.bool _)
end
section
variable{y:Ly Ob}{f:ay}{al:Y AN}
noncomputable def W8:Y (ai×fe):=[("self",.local),("ValueError",.globalImplicit),("bool",.globalImplicit)]
noncomputable def v7:Y ai:=["self"]
set_option maxHeartbeats 1000000
theorem abf(z:bJ y.B y.prog y.w B)(E:ic y.B f 7 5 ao k v7)(t:u.length<=900):
  ff y.B y.prog y.w (g+1) (.ref f) (.b3 x al (U u) po fi) [] λq aj=>q=.b3 x al (U u) po fi/\aj=.bool (decide (fi<po)||!u.isEmpty):=by
 refine ry y.G E.d (dQ J) (.plain λb H=>?_) (λP R w=>?_) λ{n}X m r p Q=>?_
 .exact bind1 (λa=>(qe E.ar E.df _).trans J) b H
 .obtain⟨rfl,_⟩:=P;rw [z.ob]at R w;exact EG R w
 .have F:Fm (callEnvC k m f) v7 v7.length W8:=ko (J) (by exact aL _ E.sc)
  let c:=(y.up n X).c r p (callEnvC k m f) g Q
  have o:bJ c.B c.prog c.w B:=z.up X;refine XP.ev (XP.mono (Φ:=λS A=>S=[.obj (.b3 x al (U u) po fi)]/\A=.ret (.bool (decide (fi<po)||!u.isEmpty))) (L_ o 0 J J λG e au=>?_) λS A P=>by obtain⟨rfl,rfl⟩:=P;exact(my _ _ J (.inl J) J J));refine cps λaq j=>?_;obtain⟨a,az,aB,O,l,s,i⟩:∃a,G.self=x/\G.al=al/\G.cO=U a/\G.rl=u/\G.po=po/\G.fi=fi:=by
   injection e with a v d T f
   cases h:G.cO with
   |none=>rw [h]at d;exact aU J d
   |some L=>rw [h]at d;exact(C' L a v J (bg d) T f)
  subst l;refine j ?_;refine p8 (cJ (zC (j7 o (j4 o (i:=0) J J) (jE o F 0 J J) (.t8 O) J) zn J J) ⟨i3⟩) (XP.wk (EX.xp (Φ:=λS A=>S=[.obj (.b6 0 G)]/\A=.ret (.bool (decide (fi<po)||!G.rl.isEmpty))) ⟨tH (ES.ev (iS ?_)) (nofun)⟩ ⟨J,J⟩) ?_)
  .have R:EE c v7 v7.length [.obj (.b6 0 G)] _ [.obj (.b6 0 G)] (.bool (decide (G.fi<G.po))):=sy (op:=.Lt) (p:=⟨64,15,64,49⟩) (j7 (p:=⟨64,15,64,30⟩) o (j4 o (i:=0) J J) (jE (p:=⟨64,15,64,19⟩) o F 0 J J) .fi J) (j7 (p:=⟨64,33,64,49⟩) o (j4 o (i:=0) (q:=0) J J) (jE (p:=⟨64,33,64,37⟩) o F 0 J J) .po J) J J
   by_cases h:fi<po
   .rw [decide_eq_true h,Bool.true_or];rw [i,s,decide_eq_true h]at R;exact NS R
   .rw [decide_eq_false h,yF];rw [i,s,decide_eq_false h]at R;exact NR R (ab8 F 2 J (j7 o (j4 o (i:=0) (q:=0) J J) (jE o F 0 J J) (.t8 O) J) (My o (i:=0) J J O) (aJ t (aC J)) J)
  .rintro S A⟨rfl,rfl⟩;refine(i12 _ (eR (Bv o _) (qI _)) ?_ J);rw [e]
end
section
variable{c:Cx Ob}{j:aa}{G:SG}
theorem abY(k:EE c aK au d i O (.bY (.ref a)))(Q:c.B.bO.get? a=U (lo z az))(H:iI z s):EI ae c aK au d i O (s.map .str):=by
 constructor;intro L B x r P y G;refine k.1 L B x _ _ y λh u v aj ao e aI=>?_;obtain rfl:=aI.inv;have n:=e.ready.base _ _ Q;have j:h.heap.IsList a z.toArray:=(i12 _ n J ⟨az,J⟩);have o:bq c.ρ u z (s.map .str):=H.pC;have p:=o.length;refine G5 j ?_;have A:=cg.iu (e.ready) {cls:=.type "list_iterator",data:=.fields #[.ref a,.int 0 0]} h.toks;obtain⟨w,E,R,X⟩:=e;have f:=fQ n;have F:=O_ (prog:=c.prog) (w:=c.w) c.R.handled h.heap.objs.size a (fW f) z.toArray;simp only [show z.toArray.size=(s.map T.str).length from p]at F;refine G _ u _ _ _ _ _ E R (aj.trans A.same) ao w (X.step A) F (λq v l=>?_) ⟨(i12 _ (eN _ J) J J),j.at λaq i=>eg _ i⟩ (λb t=>?_) (λb t=>?_) (λb t=>?_) (λq k st b t=>by rw [cD.mp t];refine bM st λaB aG=>?_;refine aA (aB) λaq aH aG=>?_;exact dc aH) ?_
 .have l:=by simpa using l
  have m:=p▸(ck.mp l).1;refine aA (o.get (cP m)) λaN g aM=>?_;simp only [l]at g;exact bg g▸((aR _ (cP m) aM))
 .exact(cD.mp t)▸(⟨X.free (fM h),aL _ (eN _ J)⟩)
 .rcases cQ.mp t with rfl|t
  .exact .inl (.head _)
  .rw [cD.mp t];right;right;exact dc Q
 .simp only [l0];rcases cQ.mp t with rfl|t
  .exact eH _
  .exact(cD.mp t)▸(oZ f)
 .intro _ q x aO aP aS v r P st S;cases v with
  |ref T=>exact aem st.1 S
  |_=>exact bD S
noncomputable def SG.iK(G:SG)(p:Y aa):SG:={G with bU:=G.bU.map λQ=>if Q.key=p then{Q with np:=Q.np-1}else Q}
noncomputable def decA(m:Y AN)(l:Y aa):Y AN:=m.map λa=>if a.1=l then(a.1,a.2.1-1,a.2.2)else a
noncomputable def oD(m:Y AN)(l:Y aa):aF:=match m.find? (λa=>decide (a.1=l))with|U a=>a.2.1|af=>0
theorem Xh(l:G.kn)(d:G.bU[j]?=U Q):G.np j Q (Q.np-1)=G.iK Q.key:=by
 delta SG.np SG.iK
 refine dS (pY d) λF H e f=>?_;rw [f]
 delta SG.kn at l
 rw [e]at l⊢;simp only [dO,iW]at l⊢;refine gg (f9.mp l) λy u T=>?_;have p:F.map (λh=>if h.key=Q.key then{h with np:=h.np-1}else h)=F:=by
  conv=>rhs;rw [<-BR F]
  exact jG λg c=>by refine aZ (bA λq=>T g.key (fG c) Q.key (.head _) q) ?_;rfl
 have L:H.map (λh=>if h.key=Q.key then{h with np:=h.np-1}else h)=H:=by
  conv=>rhs;rw [<-BR H]
  exact jG λg c=>by refine aZ (bA λq=>(lu.mp u).1 (by exact(q)▸(fG c))) ?_;rfl
 simp only [p,L,bx trivial]
theorem J1{p:Y aa}(l:G.kn):(G.iK p).kn:=by
 delta SG.kn SG.iK at*
 simp only [d5];have:((λx=>x.key)∘λQ:Nd=>if Q.key=p then{Q with np:=Q.np-1}else Q)=λQ=>Q.key:=by funext Q;simp only [yJ];split<;>rfl
 exact this.symm▸l
theorem Vp{p r:Y aa}(h:∃Q∈G.bU,Q.key=r):∃Q∈(G.iK p).bU,Q.key=r:=by
 refine aA h λQ c e=>(aR _ (eG.mpr (aR Q c J)) ?_)
 split<;>exact e
theorem Ct{p:Y aa}:(G.iK p).al=decA G.al p:=by
 delta SG.al SG.iK decA
 refine aZ (d5) ?_;simp only [d5];refine jG λQ y=>?_;simp only [yJ]
 split<;>rfl
theorem KY(l:G.kn)(d:G.bU[j]?=U Q):oD G.al Q.key=Q.np:=by
 refine dS (pY d) λF H e y=>?_
 delta SG.kn at l
 simp only [e,dO]at l;refine gg (f9.mp l) λy u T=>?_
 delta oD SG.al
 rw [e,dO,iW,Ou];have:(F.map λQ=>((Q.key,Q.np,Q.succ))).find? (λa=>decide (a.1=Q.key))=af:=by
  rw [Gz];intro a h;refine aA (eG.mp h) λg c i=>?_;subst i;rw [decide_eq_true_eq];exact(T g.key (fG c) Q.key (.head _))
 rw [this,adV];simp
end
theorem QG{H:br Ob}(i:d_ o.length=ae)(a:∀B rest,bindArgs k ⟨B::rest,[]⟩=newTuple rest>>=λw=>pure (fh n [B,w])):Binds H x u k n o [.tup o]:=by
 intro F X B z f s Q P g h b G;rw [a];refine aE (Pr ?_ (by rw [b.length];exact kB i));have A:=cg.push h (r9 z 0) s.toks J;exact bD (G _ _ [.ref s.heap.objs.size] A (.one (.tup (bx J) (b.mono A.le))) λl j e=>eg _ e)
noncomputable def SG.gf(G:SG)(s:Y aa):SG:=if oD (G.iK s).al s=0 then{G.iK s with rl:=G.rl++[s]}else G.iK s
theorem J7:cV (G.iK s)=cV G:=by
 refine aZ (d5) ?_;refine jG λQ y=>?_;simp only [yJ]
 split<;>rfl
section
variable{i:aa}{G:SG}
theorem EL(z:bJ c.B c.prog c.w B)(j:n[i]?=U x)(H:m[i]?=U (.obj (.b6 q G)))(A:c.B.bO.DictOf (strKind c.prog c.w) G.D (cV G)):s_ c n k m G:=
 λL f E R h S=>(c_ ((iR z S j H).2.sm) ((iR z S j H).2.nd) (G9 A λo e=>S.base _ o e))
noncomputable def xX:Y (ai×fe):=[("self",.local),("nodes",.local),("n2i",.local),("node",.local),("nodeinfo",.local),("stat",.local),("successor",.local),("successor_info",.local),("ValueError",.globalImplicit),("_NODE_OUT",.globalImplicit),("_NODE_DONE",.globalImplicit)]
noncomputable def gW:Y ai:=["self","nodes","n2i","node","nodeinfo","stat","successor","successor_info"]
noncomputable abbrev zN:aY b9:=pB 2 (cZ (fm 7 7))
noncomputable abbrev CI:aY b9:=pB 4 (i4 zN)
set_option maxHeartbeats 1000000
theorem RQ(z:bJ c.B c.prog c.w B)(F:Fm c.env gW gW.length xX)(A:c.B.bO.DictOf (strKind c.prog c.w) G.D (cV G))(T:G.cO=U x)(f:G.rl.length<=900)(q:G.kn){s:Y aa}(r:∃Q∈G.bU,Q.key=s):
  EX c gW gW.length [.obj (.b6 1 G),.t R,.t (.bY (.ref G.D)),.t S,.t k,.t l,.t (.str s),.un] (i4 CI) [.obj (.b6 1 (G.gf s)),.t R,.t (.bY (.ref G.D)),.t S,.t k,.t l,.un,.un] .next:=by
 refine aA r λQ a i=>?_;subst i;refine bC (qa a) λu d=>?_;have o:(G.iK Q.key).bU[u]?=U {Q with np:=Q.np-1}:=by
  delta SG.iK;refine aZ (hU) ?_;rw [d];simp
 have p:oD (G.iK Q.key).al Q.key=Q.np-1:=KY (J1 q) o;refine zx (dD F 7 J (eH _) (FL (EL z (i:=0) J J A) (zv F 2 J J) (zv F 6 J J) d J) J) (zx (NH z 0 J (zv F 7 J J) J (ek _) d (zi 1) J J) ?_);rw [Xh q d];have cond:EC c gW gW.length [.obj _,.t R,.t _,.t S,.t k,.t l,.t _,.t (.bY (.ref Q.i))] (.Compare (.Attribute (.Name "successor_info" ⟨88,19,88,33⟩) "npredecessors" ⟨88,19,88,47⟩) [.Eq] [.Constant _ 0 ⟨88,51,88,52⟩] ⟨88,19,88,52⟩)
   [.obj _,.t R,.t (.bY (.ref G.D)),.t S,.t k,.t l,.t (.str Q.key),.t _] (decide (Q.np-1=0)):=
  zC (uw z (A8 z (i:=0) J J (ek _) (cL o)) (zv F 7 J J) .np J) (zi 0) J J
 by_cases h:Q.np-1=0
 .simp only [decide_eq_true h]at cond;refine dS (LN c.prog c.w B 1 (G:=G.iK Q.key) T (G.rl++[Q.key])) λP n O b=>EX.wk (zx (cJ cond (zx (NC (G':={G.iK Q.key with rl:=G.rl++[Q.key]}) z 0 J (j7 z (j4 z (i:=0) J J) (jE z F 0 J J) (.t8 T) J) J (zv F 6 J J) J O b (c_ J J J) (aJ f (aC J)) J J J) ⟨i3⟩)) ⟨i3⟩) ?_;have e:G.gf Q.key={G.iK Q.key with rl:=G.rl++[Q.key]}:=by delta SG.gf;rw [p,bx h]
  exact e.symm▸(eR (gV _) (eR (gV _) (eR (gV _) (eR (gV _) (eR (gV _) (eR (gV _) (eR (oK _) (eR (oK _) (qI _)))))))))
 .simp only [decide_eq_false h]at cond;refine EX.wk (zx (cJ cond ⟨i3⟩) ⟨i3⟩) ?_;have e:G.gf Q.key=G.iK Q.key:=by delta SG.gf;rw [p,bA h]
  exact e.symm▸(eR (gV _) (eR (gV _) (eR (gV _) (eR (gV _) (eR (gV _) (eR (gV _) (eR (oK _) (eR (oK _) (qI _)))))))))
theorem xj:(G.gf s).self=G.self/\(G.gf s).D=G.D/\(G.gf s).cO=G.cO/\(G.gf s).po=G.po/\(G.gf s).fi=G.fi/\cV (G.gf s)=cV G/\(G.gf s).rl.length<=G.rl.length+1/\(G.gf s).bU=(G.iK s).bU:=by
 delta SG.gf
 split
 .exact(Jw J J J J J J7 (by simp) J)
 .exact(Jw J J J J J J7 (fH _ _) J)
theorem J0(l:G.kn):(G.gf s).kn:=by
 have:=J1 (p:=s) l
 delta SG.kn at*
 exact xj.2.2.2.2.2.2.2.symm▸this
theorem Vo{s r:Y aa}(h:∃Q∈G.bU,Q.key=r):∃Q∈(G.gf s).bU,Q.key=r:=xj.2.2.2.2.2.2.2.symm▸(Vp h)
noncomputable def kP(G:SG)(x:Y (Y aa)):SG:=x.foldl (λG s=>G.gf s) G
theorem RP(z:bJ c.B c.prog c.w B)(F:Fm c.env gW gW.length xX):∀(x:Y _)(G:SG),c.B.bO.DictOf (strKind c.prog c.w) G.D (cV G)->G.cO=U a->G.rl.length+x.length<=900->G.kn->(∀s∈x,∃Q∈G.bU,Q.key=s)->
  i9 c gW gW.length (mu CI) (i4 CI) (x.map .str) [.obj (.b6 1 G),.t R,.t (.bY (.ref G.D)),.t S,.t k,.t l,.un,.un] [.obj (.b6 1 (kP G x)),.t R,.t (.bY (.ref G.D)),.t S,.t k,.t l,.un,.un] .next:=λi=>i.rec
 (λG y y y y y=>lZ)
 (λs x e G A T H q r=>by
  have f:=xj (G:=G) (s:=s);refine mU (jj F 6 J (fH _ _)) (RQ z F A T (dg 0 (.v 0) (.n 900) (.a (.v 0) (.a (.v 1) (.n 1))) (.n 900) J [_,_] H) q (r s gj)) ?_;have:=e _ (f.2.1.symm▸f.2.2.2.2.2.1.symm▸A) (f.2.2.1.trans T) (by exact g_ 0 (.a (.v 2) (.v 1)) (.n 900) (.a (.v 0) (.a (.v 1) (.n 1))) (.n 900) (.v 2) (.a (.v 0) (.n 1)) J [_,_,_] H f.2.2.2.2.2.2.1) (J0 q) λO h=>Vo (r O (fF _ h))
  exact f.2.1▸this)
end
section
structure RO(c:Cx Ob)(G:SG):Prop where
 d:c.B.bO.DictOf (strKind c.prog c.w) G.D (cV G)
 s:∀nd∈G.bU,∃vs nn,c.B.bO.get? nd.su=U (lo vs nn)/\iI vs nd.succ
theorem Vv:cV (G.iQ s v)=cV G:=by
 delta cV SG.iQ
 refine aZ (d5) ?_;refine jG λQ y=>?_;simp only [yJ]
 split<;>rfl
theorem RO.iQ{s:Y aa}(r:RO c G):RO c (G.iQ s v):=⟨by simp only [Vv];exact r.d,λQ h=>by
 refine aA (eG.mp h) λe n i=>?_;subst i;have:=r.s e n
 split<;>exact this⟩
theorem RO.gf{s:Y aa}(r:RO e G):RO e (G.gf s):=by
 have f:=xj (G:=G) (s:=s);refine⟨f.2.1.symm▸f.2.2.2.2.2.1.symm▸r.d,λQ c=>?_⟩;rw [f.2.2.2.2.2.2.2]at c;refine aA (eG.mp c) λh n i=>?_;subst i;have:=r.s h n
 split<;>exact this
theorem RO.Ij:∀(x:Y _)(G:SG),RO c G->RO c (kP G x):=λi=>i.rec
 (λy r=>r)
 (λs x f G r=>f _ r.gf)
theorem RK:∀(x:Y _)(G:SG),(kP G x).self=G.self/\(kP G x).D=G.D/\(kP G x).cO=G.cO/\(kP G x).po=G.po/\(kP G x).fi=G.fi/\(kP G x).rl.length<=G.rl.length+x.length:=λi=>i.rec
 (λG=>(xF J J J J J (ek _)))
 (λs x f G=>by
  have h:=xj (G:=G) (s:=s);have r:=f (G.gf s);refine(xF (r.1.trans h.1) (r.2.1.trans h.2.1) (r.2.2.1.trans h.2.2.1) (r.2.2.2.1.trans h.2.2.2.1) (r.2.2.2.2.1.trans h.2.2.2.2.1) ?_)
  exact g_ 0 (.v 2) (.a (.v 1) (.a (.v 3) (.n 1))) (.v 0) (.a (.v 1) (.n 1)) (.v 2) (.a (.v 0) (.v 3)) J [_,_,_,_] h.2.2.2.2.2.2.1 r.2.2.2.2.2)
theorem Vr:∀(x:Y _)(G:SG),G.kn->(kP G x).kn:=λi=>i.rec
 (λy k=>k)
 (λs x f G k=>f _ (J0 k))
noncomputable def SG.pD(G:SG)(Q:Nd):SG:={kP (G.iQ Q.key (-2)) Q.succ with fi:=G.fi+1}
set_option maxHeartbeats 2000000
theorem RS(z:bJ c.B c.prog c.w B)(F:Fm c.env gW gW.length xX)(m:c.mg "_NODE_OUT"=U (.int (-1) S))(j:c.mg "_NODE_DONE"=U (.int (-2) L))(x:RO c G)(T:G.cO=U k)(q:G.kn)(h:Q∈G.bU)(p:Q.np=-1)(f:G.rl.length+Q.succ.length<=900)(b:∀s∈Q.succ,∃g∈G.bU,g.key=s):
  EX c gW gW.length [.obj (.b6 1 G),.t R,.t (.bY (.ref G.D)),.t (.str Q.key),.un,.un,.un,.un] (i4 zN) [.obj (.b6 1 (G.pD Q)),.t R,.t (.bY (.ref G.D)),.un,.un,.un,.un,.un] .next:=by
 refine bC (qa h) λu d=>?_;have e:∀t,s_ c gW gW.length [.obj (.b6 1 G),.t R,.t (.bY (.ref G.D)),.t (.str Q.key),t,.un,.un,.un] G:=λt=>EL z (i:=0) J J x.d;have a:NT B Q "npredecessors" B.p1 1 (.int (-1)):=by exact(p)▸(.np)
 refine zx (Nq F 4 J (dQ J) (FJ (e _) (zv F 2 J J) (e _) (zv F 3 J J) (λl=>by rw [Fp l d,adU]) (λy y=>.bY _) J J J) zn J J ⟨i3⟩) (zx (dD F 5 J (dQ J) (uw z (A8 z (i:=0) J J (ek _) h) (zv F 4 J J) a J) J) (zx (cJ (b:=ak) (zC (zv F 5 J J) (BA F 9 J m λy y=>.int _ _) J J) ⟨i3⟩) (zx (NK z 0 J (BA F 10 J j λy y=>.int _ _) (zv F 4 J J) J (ek _) d J) ?_)));rw [KX q d];have n:({Q with np:=-2})∈(G.iQ Q.key (-2)).bU:=eG.mpr (aR Q h (bx J));exact dS (x.s Q h) λo v i H=>zx (kC (abY (uw z (A8 z (i:=0) J J (ek _) n) (zv F 4 J J) .su J) i H) (RP z F Q.succ _ x.iQ.d T f (DF q) λs r=>JY (b s r)) J J) (EX.wk (zx (NO z 0 J (jE z F 0 J J) J .fi (zi 1) J (by exact(RK Q.succ _).2.2.2.2.1.symm▸J) (.fi _)) ⟨i3⟩) (eR (gV _) (eR (gV _) (eR (gV _) (eR (oK _) (eR (oK _) (eR (oK _) (qI _))))))))
end
noncomputable def ud(g:Nd):Y aa×ay×ay×ay×Y (Y aa):=(g.key,g.i,g.id,g.su,g.succ)
noncomputable def SG.sk(G:SG):Y (Y aa×ay×ay×ay×Y (Y aa)):=G.bU.map ud
structure jK(G G':SG):Prop where
 self:G'.self=G.self
 d:G'.d=G.d
 D:G'.D=G.D
 cO:G'.cO=G.cO
 po:G'.po=G.po
 sk:G'.sk=G.sk
theorem jK.refl(G:SG):jK G G:=⟨J,J,J,J,J,J⟩
theorem jK.trans(a:jK G X)(b:jK X h):jK G h:=⟨b.self.trans a.self,b.d.trans a.d,b.D.trans a.D,b.cO.trans a.cO,b.po.trans a.po,b.sk.trans a.sk⟩
section
theorem ME(bU:Y Nd)(B:Nd->Nd)(h:∀g,ud (B g)=ud g):(bU.map B).map ud=bU.map ud:=d5.trans (jG λg y=>h g)
theorem Z4(G:SG)(s:Y aa)(v:aF):jK G (G.iQ s v):=⟨J,J,J,J,J,ME _ _ λg=>by split<;>rfl⟩
theorem Z2(G:SG)(s:Y aa):jK G (G.gf s):=by
 have h:(G.iK s).bU.map ud=G.bU.map ud:=ME _ _ λg=>by split<;>rfl
 delta SG.gf
 split
 .exact⟨J,J,J,J,J,h⟩
 .exact⟨J,J,J,J,J,h⟩
theorem Z3:∀(x:Y _)(G:SG),jK G (kP G x):=λi=>i.rec
 ((.refl))
 (λs x f G=>(Z2 G s).trans (f _))
theorem E0(G:SG)(Q:Nd):jK G (G.pD Q):=by
 have h:=(Z4 G Q.key (-2)).trans (Z3 Q.succ _);exact⟨h.self,h.d,h.D,h.cO,h.po,h.sk⟩
theorem jK.cV(h:jK G X):jJ.cV X=jJ.cV G:=by
 have e:∀G:SG,jJ.cV G=G.sk.map λx=>(cj x.1,.ref x.2.1):=λG=>by delta jJ.cV SG.sk;simp only [d5];rfl
 simp only [e,h.sk]
theorem jK.map(h:jK G X)(i:bZ)(u:bR):gQ i u X=gQ i u G:=by
 have e:∀G:SG,(G.bU.map λQ=>(Q.su,fC Q.succ))=G.sk.map λx=>(x.2.2.2.1,fC x.2.2.2.2):=λG=>by delta SG.sk;simp only [d5];rfl
 delta gQ j3
 simp only [e,h.sk,h.D,h.cV]
theorem jK.ad(h:jK G X)(i:bZ)(u:bR)(B:Cl):(objs i u B 1 X).map (·.1)=(objs i u B 1 G).map (·.1):=by
 have e:∀G:SG,(gF B.N G).map (·.1)=G.sk.flatMap λx=>[x.2.1,x.2.2.1]:=λG=>by
  delta gF SG.sk;refine aZ (wj) ?_;rw [Oz];rfl
 have s:∀G,(fO B.C G).map (·.1)=G.self::G.d::(match G.cO with|U a=>[a]|af=>[]):=λG=>by
  delta fO;cases G.cO<;>rfl
 show((fO B.C X++gF B.N X).map _)=((fO B.C G++gF B.N G).map _);refine aZ (dO) ?_;rw [dO,e,e,s,s,h.sk,h.self,h.d,h.cO]
theorem aad{p z:Y ay}(k:jK G X)(v:d6 i w B 0 G u h p)(R:d6 i w B 1 X u h' g)(h2:d6 i w B 1 G u h z)
  (l:∀b∈p,b∉z->∀x,h.get? b=U x->h'.get? b=U x):d6 i w B 0 X u h' p/\g=z:=by
 have n:objs i w B 0 G=objs i w B 1 G++gQ i w G:=by simp [nB,AR]
 have e:objs i w B 0 X=objs i w B 1 X++gQ i w G:=by exact(k.map i w)▸(J)
 refine⟨⟨R.v,R.sm,R.nd,⟨λs f=>?_,?_,v.ob.nd⟩⟩,(by refine aZ (R.ob.ad) ?_;rw [h2.ob.ad,k.ad])⟩
 .rw [e]at f;rcases e8.mp f with f|f
  .exact R.ob.dJ s f
  .refine aA (v.ob.dJ s (iX _ ‹_›)) λo L a=>?_;have c:=v.ob.nd;simp only [v.ob.ad,n,dO]at c;refine(aR o (l s.1 (by rw [v.ob.ad];exact fG (iX _ ‹_›)) (λq=>?_) o L) a);rw [h2.ob.ad]at q;exact(f9.mp c).2.2 s.1 q s.1 (fG f) J
 .refine aZ (v.ob.ad) ?_;simp only [n,e,dO,dO,k.ad]
end
theorem QK{p:Y AN}(z:bJ H i w h)
  (b:∀G:SG,G.abs=.b3 x p rd po g->G.kn->ff H i w k t (.b6 0 G) R e):ff H i w k t (.b3 x p rd po g) R e:=by
 intro F X f B l n s fp o j a q v c;rw [z.ob]at a;obtain⟨G,m,d⟩:∃G:SG,G.abs=.b3 x p rd po g/\d6 i w h 0 G B s.heap fp:=a;exact b G m (DE d.nd) F X f B l n s fp o j (z.ob.symm▸d) q v c
inductive rf:SG->Y (Y aa)->SG->Prop
 |nil{G:SG}:rf G [] G
 |cons{G G':SG}{nd:Nd}{ps:Y (Y aa)}:nd∈G.bU->nd.np=-1->G.rl.length+nd.succ.length<=900->(∀s∈nd.succ,∃n∈G.bU,n.key=s)->rf (G.pD nd) ps G'->rf G (nd.key::ps) G'
theorem rf.sk(d:rf G n X):jK G X:=by
 induction d with
 |nil=>exact .refl _
 |cons _ _ _ _ _ f=>exact(E0 _ _).trans f
section
theorem RO.pD(r:RO c G):RO c (G.pD Q):=⟨(RO.Ij Q.succ _ r.iQ).d,(RO.Ij Q.succ _ r.iQ).s⟩
theorem J2{G:SG}(k:G.kn):(G.pD Q).kn:=Vr Q.succ _ (DF k)
theorem RT(z:bJ c.B c.prog c.w B)(F:Fm c.env gW gW.length xX)(m:c.mg "_NODE_OUT"=U (.int (-1) S))(j:c.mg "_NODE_DONE"=U (.int (-2) L)){G X:SG}{n:Y _}(d:rf G n X):RO c G->G.cO=U a->G.kn->
  i9 c gW gW.length (mu zN) (i4 zN) (n.map .str) [.obj (.b6 1 G),.t R,.t (.bY (.ref G.D)),.un,.un,.un,.un,.un] [.obj (.b6 1 X),.t R,.t (.bY (.ref G.D)),.un,.un,.un,.un,.un] .next:=by
 induction d with
 |nil=>intro _ _ _;exact lZ
 |cons h p t r d f=>
  intro x T q;refine mU (jj F 3 J (aC J)) (RS z F m j x T q h p t r) ?_;have:=f x.pD (by refine aZ ((E0 _ _).cO) ?_;exact T) (J2 q);rw [(E0 _ _).D]at this;exact this
end
section
variable{y:Ly Ob}{f:ay}
set_option maxHeartbeats 2000000
theorem aba(z:bJ y.B y.prog y.w B)(E:ic y.B f 7 7 Q k gW)(az:y.mg "_NODE_OUT"=U (.int (-1) bX))(aH:y.mg "_NODE_DONE"=U (.int (-2) bV))(d:rf G n X)(T:G.cO=U bQ)(aK:G.kn)(aM:n.length<=900):
  ff y.B y.prog y.w (aN+1) (.ref f) (.b6 0 G) (n.map .str) λaX r=>aX=X.abs/\r=.none:=by
 have O:=d.sk;have l:∀(i:bZ)(u:bR),objs i u B 0 G=objs i u B 1 G++gQ i u G:=λi u=>J;refine HT y.G (o₁:=.b6 1 G) (n8:=λH r=>H=.b6 1 X/\r=.none) E.d (dQ J) (QG (eE (by rw [b5];exact aJ aM (aC J))) λh rest=>?_) (λ{h aj p}v=>?_) (λP R w=>?_) (λ{h aj p aI A}m v R aO aP g a_ bh bu=>?_) (λ{h aj p aI bF aB H r}P v w R aG _=>?_)
 .refine(qe E.ar E.df _).trans ?_;cases rest<;>rfl
 .rw [z.ob]at v;have v:=v;have Q:=v.ob;rw [l]at Q;refine(aR _ (by rw [z.ob];exact(⟨v.v,v.sm,v.nd,Q.sub (l:=[])⟩)) (λao t=>?_));simp only [Q.ad,dO];exact fV _ t
 .obtain⟨rfl,_⟩:=P;rw [z.ob]at R w;have R:=R;have w:=w;simp only [R.v,w.v,O.self]
 .have F:Fm (callEnvC k g f) gW gW.length xX:=ko (J) (by show k.scope.names=_;exact aL _ E.sc)
  let c:=(y.up A m).c a_ bh (callEnvC k g f) aN bu
  have o:bJ c.B c.prog c.w B:=z.up m;simp only [z.ob]at v R;have v:=v;have R:=R;have S:ro (gQ y.prog y.w G) A:=λs aS=>by
   refine aA (v.ob.dJ s (iX _ ‹_›)) λx L a=>?_;have e:=v.ob.nd;simp only [v.ob.ad,l,dO]at e;refine(aR x (aO _ _ L (aP _ (by rw [v.ob.ad];exact fG (iX _ ‹_›))) λq=>?_) a);rw [R.ob.ad]at q;exact(f9.mp e).2.2 s.1 q s.1 (fG aS) J
  have bj:RO c G:=⟨by
   refine aA (S (G.D,j3 y.prog y.w G) (.head _)) λx L a=>?_;exact a A G.D L,λb e=>by
   obtain⟨x,L,aW,bf,bB,bw⟩:=S (b.su,fC b.succ) (.tail _ (eG.mpr (aR b e J)))
   exact(gh aW bf (bB▸L) bw)⟩
  exact XP.ev (c:=c) (XP.mono (Φ:=λaq au=>aq=[.obj (.b6 1 X),.t (.tup (n.map .str)),.t (.bY (.ref G.D)),.un,.un,.un,.un,.un]/\au=.next) (EX.xp (zx (cJ (b:=ak) (zC (j7 o (j4 o (i:=0) (q:=1) J J) (jE o F 0 J J) (.t8 T) J) zn J J) ⟨i3⟩) (zx (dD F 2 J (dQ J) (j7 o (j4 o (i:=0) (q:=1) J J) (jE o F 0 J J) .tW J) J) (zx (kC (yy (zv F 1 J J)) (RT o F az aH d bj T aK) J J) ⟨i3⟩))) ⟨J,J⟩) λaq au P=>by obtain⟨rfl,rfl⟩:=P;exact(my _ _ J (.inr ⟨J,J⟩) J J))
 .obtain⟨rfl,rfl⟩:=P;rw [z.ob]at v R w;obtain⟨bK,rfl⟩:=aad O (v) (R) (w) aG;refine(g8 X.abs p ⟨J,J⟩ (z.ob.symm▸(((aR X J bK):∃j,j.abs=.b3 X.self X.al (X.cO.map λ_=>X.rl) X.po X.fi/\d6 y.prog y.w B 0 j h bF p))) (λao t=>?_))
  by_cases q:ao∈aB
  .exact .inl q
  .exact .inr ⟨t,q⟩
end
noncomputable def jC(m:Y AN)(l:Y aa):Y (Y aa):=match m.find? (λa=>decide (a.1=l))with|U a=>a.2.2|af=>[]
noncomputable def rD(s:Y AN×Y (Y aa))(p:Y aa):Y AN×Y (Y aa):=(decA s.1 p,if oD (decA s.1 p) p=0 then s.2++[p]else s.2)
noncomputable def vd(s:Y AN×Y (Y aa))(p:Y aa):Y AN×Y (Y aa):=(jC s.1 p).foldl rD (qw s.1 p (-2),s.2)
noncomputable def kQ(s:Y AN×Y (Y aa))(n:Y (Y aa)):Y AN×Y (Y aa):=n.foldl vd s
noncomputable def qz:Y AN×Y (Y aa)->Y (Y aa)->bl
 |_,[]=>ae
 |s,p::n=>s.1.any (λa=>decide (a.1=p))&&decide (oD s.1 p=-1)&&(jC s.1 p).all (λx=>s.1.any λa=>decide (a.1=x))&&decide (s.2.length+(jC s.1 p).length<=900)&&qz (vd s p) n
section
variable{G:SG}{j:aa}
theorem Bk(l:G.kn)(d:G.bU[j]?=U Q):jC G.al Q.key=Q.succ:=by
 refine dS (pY d) λF H e y=>?_
 delta SG.kn at l
 simp only [e,dO]at l;refine gg (f9.mp l) λy u T=>?_
 delta jC SG.al
 rw [e,dO,iW,Ou];have:(F.map λQ=>((Q.key,Q.np,Q.succ))).find? (λa=>decide (a.1=Q.key))=af:=by
  rw [Gz];intro a h;refine aA (eG.mp h) λg c i=>?_;subst i;rw [decide_eq_true_eq];exact(T g.key (fG c) Q.key (.head _))
 rw [this,adV,Ov];simp
theorem aaf(s:Y aa):((G.gf s).al,(G.gf s).rl)=rD (G.al,G.rl) s:=by
 delta SG.gf rD
 rw [Ct]
 split
 .simp only [show({G.iK s with rl:=G.rl++[s]}).al=(G.iK s).al from J,Ct]
 .exact Ct.symm▸J
theorem aag:∀(x:Y _)(G:SG),((kP G x).al,(kP G x).rl)=x.foldl rD (G.al,G.rl):=λi=>i.rec
 (λy=>J)
 (λs x f G=>by
  show((kP (G.gf s) x).al,(kP (G.gf s) x).rl)=x.foldl rD _
  rw [f,aaf])
theorem MK(l:G.kn)(d:G.bU[j]?=U Q):((G.pD Q).al,(G.pD Q).rl)=vd (G.al,G.rl) Q.key:=by
 delta vd
 simp only [Bk l d];have:=aag Q.succ (G.iQ Q.key (-2));rw [Hx]at this;exact this
theorem D3(h:(G.al.any λa=>decide (a.1=p))=ae):∃Q∈G.bU,Q.key=p:=by
 refine aA (qY.mp h) λa e x=>aA (eG.mp e) λQ c i=>?_;subst i;exact(aR Q c (of_decide_eq_true x))
theorem RV:∀(n:Y _)(G:SG),G.kn->qz (G.al,G.rl) n=ae->∃X,rf G n X/\(X.al,X.rl)=kQ (G.al,G.rl) n/\X.fi=G.fi+n.length:=λi=>i.rec
 (λG y y=>(i12 G (.nil) J (by simp)))
 (λp n e G q h=>by
  have h:(_&&_&&_&&_&&_)=ae:=h;simp only [yE,decide_eq_true_eq]at h;refine cps λy r=>?_;obtain⟨⟨⟨⟨R,w⟩,t⟩,f⟩,T⟩:=h;obtain⟨Q,c,rfl⟩:=D3 R;refine bC (qa c) λj d=>?_;refine r ?_;rw [KY q d]at w;rw [Bk q d]at t f;rw [<-MK q d]at T;refine jL (e (G.pD Q) (J2 q) T) λX b x s=>?_;refine(i12 X (.cons c w f (λl a=>D3 (e7.mp t l a)) b) ?_ ?_)
  .refine aZ (x) ?_;rw [MK q d];rfl
  .refine aZ (s) ?_;show G.fi+1+_=_;simp;omega)
end
section
variable{y:Ly Ob}{f:ay}
theorem aa'(Z:bJ y.B y.prog y.w cl)(D:ic y.B f 7 7 ob fd gW)(hO:y.mg "_NODE_OUT"=U (.int (-1) v1))(Un:y.mg "_NODE_DONE"=U (.int (-2) v2))(ps:Y _)(UD:ps.length<=900)(ok:qz (al,rl) ps=ae):
  ff y.B y.prog y.w (n+1) (.ref f) (.b3 sf al (U rl) po fi) (ps.map .str) λo' r=>o'=.b3 sf (kQ (al,rl) ps).1 (U (kQ (al,rl) ps).2) po (fi+ps.length)/\r=.none:=by
 refine QK Z λG hG kn=>?_;obtain⟨a,C_,Js,Jv,UG,UC,Ut⟩:∃a,G.self=sf/\G.al=al/\G.cO=U a/\G.rl=rl/\G.po=po/\G.fi=fi:=by
  injection hG with a b d e f
  cases h:G.cO with
  |none=>rw [h]at d;exact aU J d
  |some a'=>rw [h]at d;exact(C' a' a b J (bg d) e f)
 subst Js UG;refine jL (RV ps G kn ok) λG' d e hf=>(aba Z D hO Un d Jv kn UD).mono λo' r P=>bM P λSz SA=>?_;subst Sz SA;refine⟨?_,J⟩;simp only [SG.abs_eq,<-e,d.sk.self,d.sk.cO,d.sk.po,Jv,C_,UC,hf,Ut]
 rfl
end
theorem JC(g:aa):j1 g∈(["_node2info","_ready_nodes","_npassedout","_nfinished"]:Y ai):=by
 match g with
 |0=>simp [j1]
 |1=>simp [j1]
 |2=>simp [j1]
 |g+3=>simp [j1]
theorem U4(g:aa)(x:ai)(h:g<=2):oq E R n g x=oq E a b g x:=Kh (P:=λg=>oq E R n g x=oq E a b g x) J J J g (OP h)
theorem L1{st:aa}{m:fK}{v:aD}(r:st<4)(p:qA E st (dictOf A n))(l:v=.ref E/\st=0\/v=.none/\st=1\/(∃w,v=.int 0 w)/\2<=st):qA E (st+1) (dictOf (putL (j1 st) L (.str (j1 st) m) v A) S):=by
 refine rF p λk c R h e H u=>?_;obtain rfl:=zM e;have i:∀a b,v=Dn E a b st->(∀x,oq E a b st x=oq E R h st x)->qA E (st+1) _:=λa b l z=>by
  refine(xG _ S a b J (g_ 0 (.v 2) (.a (.v 1) (.n 1)) (.v 0) (.v 1) (.v 2) (.a (.v 0) (.n 1)) J [_,_,_] H (Me (j1 st) L (.str (j1 st) m) v A)) (λx=>?_))
  by_cases j:x=j1 st
  .subst j;rw [z0];simp [Dm,l]
  .rw [mw j,u,Dm,bA j,z]
 rcases l with⟨rfl,rfl⟩|⟨rfl,rfl⟩|⟨⟨w,rfl⟩,s⟩
 .exact i R h J λy=>J
 .exact i R h J λy=>J
 .rcases(adJ.mp r).imp (λq=>lz (BV q) s) id with rfl|rfl
  .exact i w h J λx=>U4 2 x (ek _)
  .exact i R w J λx=>J
theorem Yl{o:bN}(p:qA E 4 o):iy ⟨F,d,E,af,[],0,0,[]⟩ o:=by
 refine rF p λA g R n e H u=>⟨A,g,R,n,e,aJ H (aC J),?_,?_,?_,?_,λx a b c X=>?_⟩
 .rw [u];rfl
 .rw [u];rfl
 .rw [u];rfl
 .rw [u];rfl
 .rw [u];simp [U3,Dm,j1,a,b,c,X]
section
variable{c:Cx Ob}{st:aa}
theorem Dp(z:bJ c.B c.prog c.w B)(S:aQ c.B c.ρ L f c.env n k m E R h)(j:n[i]?=U e)(H:m[i]?=U (.obj (.ir x d st))):eA c.env E h e (U (.ref x))/\wN c.prog c.w B x d st (.ref x) h (R i):=by
 refine cps λy r=>?_;obtain⟨F,Q,v,rfl,l⟩:=S.vars i e _ j H;refine r ?_;rw [z.ob]at l;exact(l.v)▸(⟨Q,l⟩)
theorem IT(z:bJ c.B c.prog c.w B)(F:Fm c.env n k o)(i:aa)(j:n[i]?=U x)(H:m[i]?=U (.obj (.ir h d st))):nZ c.B c.prog c.w c.A c.ρ c.env n k m (.Name x p) (.bY (.ref h)):=by
 rintro L f s e P⟨y,E,R,S⟩G;exact bM (Dp z S j H) λQ l=>ez (ew y S.ns Q (G s.toks _ (.bY _))) (F.eJ j)
theorem FQ(z:bJ c.B c.prog c.w B)(aW:Fm c.env a G dm)(i:aa)(j:a[i]?=U O)(cN:g[i]?=U (.obj (.ir x d st)))(bf:EE c a G g e y ao)(P:y[i]?=U (.obj (.ir x d st)))(s:st≠0)(f:st<4)(az:ao=.none/\st=1\/ao=.int 0/\2<=st)
  (bV:swapsWith e (U (.Attribute (.Name O aS) (j1 st) a_)) bQ.line c.env=pure ak):ES c a G g (.Assign [.Attribute (.Name O aS) (j1 st) a_] e bQ) (y.set i (.obj (.ir x d (st+1)))) .next:=by
 constructor;intro L aI aO cf cY cM bu bw;refine wB (bf.1 L aI aO _ _ bu λl u v bB bK k H=>(IT z aW i j P L u l _ _ k λc9 dz aB=>?_)) bV;obtain rfl:=aB.inv;obtain⟨aG,aH,R,X⟩:=k;refine bM (Dp z X j P) λaM aN=>aA aN.ob λE aP Q=>aA (Q.dJ (x,λo=>o=instObj B.C d) (cL (i:=0) J)) λdG r p=>aA (Q.dJ (d,qA E st) (cL (i:=1) J)) λcK F h=>?_;dsimp only at r F p h;subst p;refine rF (h) λdi n cC cH bh bj aK=>?_;subst bh;have A:=(ck.mp j).1;have w:d∈R i:=by rw [Q.ad];exact cL (i:=1) J
 have S:=X.fp i A;refine A_ (z.iw X.base) (⟨r,J,J,F⟩) J z.ok.sa z.ok.po (by delta takerIn;rw [z.ok.at_ _ (JC st),yS]) z.ok.hd (by rw [aK];rfl) (g_ 0 (.v 1) (.n 900) (.a (.v 0) (.n 1)) (.n 4) (.v 1) (.v 0) J [_,_] f bj) λT cy cz cA m aX=>?_;have m:gI d l.heap T:=m;have aj:∀{b},b∉R i->b≠d:=λ{b}n q=>n (by exact(q)▸(w));have bF:v=.ref E/\st=0\/v=.none/\st=1\/(∃aq,v=.int 0 aq)/\2<=st:=by
  rcases az with⟨rfl,e⟩|⟨rfl,e⟩
  .obtain rfl:=H.inv;exact .inr (.inl ⟨J,e⟩)
  .obtain⟨aq,rfl⟩:=H.inv;exact .inr (.inr ⟨⟨_,J⟩,e⟩)
 have b7:wN c.prog c.w B x d (st+1) (.ref x) T (R i):=by
  refine⟨J,E,λbX=>aP s,Q.upd (P:=[(x,λo=>o=instObj B.C d)]) J ?_ m aX (L1 f h bF)⟩;show _=(x,λo=>o=instObj B.C d)::(d,qA E _)::_
  delta JD
  rw [bA s,bA (yR st)]
 refine bw _ u .next (bB.trans (b_ T _ J)) bK ⟨aG,aH,_,X.p5 j (λb n bX o e=>(m.2 b (aj n)).trans e) (br.gO X.inv λau b8 o e=>(m.2 au (aj ((X.tab au b8).2.2.2.2 i A))).trans e) (Le.refl _) (λb o e=>(m.2 b λq=>?_).trans (X.bI b o e)) (λb o e=>.inl e) aM ⟨.ref x,J,?_⟩ (λb t=>⟨.inl t,(S b t).2.1⟩)⟩ trivial
 .exact aU ((aL _ q).trans ((S d w).2.1)) e
 .exact z.ob.symm▸b7
end
section
theorem ab2(z:bJ c.B c.prog c.w B)(bu:Fm c.env n p cf)(i:aa)(j:n[i]?=U O)(H:h[i]?=U (.obj (.ir x d 0)))
  (a_:swapsWith (.Dict [] [] aH) (U (.Attribute (.Name O aK) (j1 0) aG)) bh.line c.env=pure ak):ES c n p h (.Assign [.Attribute (.Name O aK) (j1 0) aG] (.Dict [] [] aH) bh) (h.set i (.obj (.ir x d 1))) .next:=by
 constructor;intro au f s cH cM bV S aI;refine wB (wpAny_Dict_empty ?_) a_;have t:=cg.iu S.ready emptyDict s.toks;refine IT z bu i j H au f {s with heap:=s.heap.push emptyDict} _ _ (S.step t) λaN cy aW=>?_;refine cps λaX F=>?_;obtain rfl:=aW.inv;obtain⟨bf,y,l,R⟩:=S;have Fr:=R.free (fM s);have X:=R.step t;have X:aQ c.B c.ρ au f c.env n p h y l (s.heap.push emptyDict):=X;refine bM (Dp z X j H) λbB bw=>aA bw.ob λbK cz Q=>aA (Q.dJ (x,λo=>o=instObj B.C d) (cL (i:=0) J)) λcN v E=>aA (Q.dJ (d,qA bK 0) (cL (i:=1) J)) λcK G a=>?_;refine F ?_;dsimp only at v G E a;refine cps λaX F=>?_;subst E;refine rF (a) λaM g aO aP aS k u=>?_;subst aS;have A:=(ck.mp j).1;have ad:l i=[x,d]:=by refine aZ (Q.ad) ?_;exact J
 have r:d∈l i:=by rw [ad];exact .tail _ (.head _)
 have w:=X.fp i A;refine F ?_;refine A_ (s:={s with heap:=s.heap.push emptyDict,toks:=aN}) (z.iw X.base) (⟨v,J,J,G⟩) J z.ok.sa z.ok.po (by delta takerIn;rw [z.ok.at_ _ (JC 0),yS]) z.ok.hd (by rw [u];rfl) (aJ k (aC J)) λT bX b7 b8 m bj=>?_;have m:gI d (s.heap.push emptyDict) T:=m;have L:∀{b},b∉l i->b≠d:=λ{b}g q=>g (by rw [q];exact r);have bF:wN c.prog c.w B x d 1 (.ref x) T [x,d,s.heap.objs.size]:=by
  have aj:=ad▸Q.nd;have ao:=ad▸(Fr.fp i A);exact⟨J,s.heap.objs.size,λP=>(MD z R),⟨bL (aR _ ((m.2 x (pO aj 0 1 J J J)).trans v) J) (bL (aR _ bj (L1 (cS _) ((xG aM g aO aP J k u)) (.inl ⟨J,J⟩))) (bL (aR _ ((m.2 _ (λq=>ao (q▸dH 1 J))).trans (eN s.heap J)) (λcA cC e=>(Ab _ (#[]) 0 e (c_ J J J) J (λP bQ=>by simp at bQ) (.nil) uF))) eu)),J,(bU aj ao)⟩⟩
 have aq:=Fr;refine aI _ f .next (b_ T _ J) (Le.refl _) ⟨bf,y,_,X.vX j (λb g P o e=>(m.2 b (L g)).trans e) (br.gO X.inv λaz aB o e=>(m.2 az (L ((X.tab az aB).2.2.2.2 i A))).trans e) (Le.refl _) (λb o e=>(m.2 b λq=>?_).trans (X.bI b o e)) (λb o e=>.inl e) bB ⟨.ref x,J,?_⟩ (bL ⟨.inl (by rw [ad];exact .head _),(w _ (by rw [ad];exact .head _)).2.1⟩ (bL ⟨.inl r,(w _ r).2.1⟩ (bL ⟨.inr aq,aq.fz⟩ eu)))⟩ trivial
 .exact aU ((aL _ q).trans ((w d r).2.1)) e
 .exact z.ob.symm▸bF
end
theorem U5(h:wN i u B x d 4 v a e):∃G,G.abs=.b3 x [] af 0 0/\d6 i u B 0 G v a e:=by
 refine aA h.ob λE X Q=>(aR ⟨x,d,E,af,[],0,0,[]⟩ J (⟨h.v,X (nofun),uF,⟨λs f=>?_,Q.ad,Q.nd⟩⟩));have f:s∈[(x,λo=>o=instObj B.C d),(d,iy ⟨x,d,E,af,[],0,0,[]⟩),(E,j3 i u _)]:=f;simp only [cQ,dP,or_false]at f;rcases f with rfl|rfl|rfl
 .exact Q.dJ (x,λo=>o=instObj B.C d) (cL (i:=0) J)
 .exact aA (Q.dJ (d,qA E 4) (cL (i:=1) J)) λo L p=>(aR o L (Yl p))
 .exact Q.dJ (E,j3 i u _) (cL (i:=2) J)
section
variable{y:Ly Ob}
noncomputable def Xm:Y (ai×fe):=[("self",.local),("graph",.local),("node",.local),("predecessors",.local)]
noncomputable def se:Y ai:=["self","graph","node","predecessors"]
set_option maxHeartbeats 1000000
theorem abm(z:bJ y.B y.prog y.w B)(E:kh y.B X aN k (cZ (fm 7 0)) se)(b:k.scope=eK (fm 7 0))(t:Binds y.B y.prog y.w k se [] [.none]):
  ff y.B y.prog y.w (g+1) (.ref X) (.ir x d 0) [] λH r=>H=.b3 x [] af 0 0/\r=.none:=by
 have s:ff y.B y.prog y.w (g+1) (.ref X) (.ir x d 0) [] λH r=>H=.ir x d 4/\r=.none:=by
  refine ry y.G E (dQ J) t (λP R w=>?_) λ{j}l m h e n=>?_
  .obtain⟨rfl,_⟩:=P;rw [z.ob]at R w;simp only [R.v,w.v]
  .have F:Fm (callEnvC k m X) se se.length Xm:=ko (J) (by exact aL _ b)
   let c:=(y.up j l).c h e (callEnvC k m X) g n
   have o:bJ c.B c.prog c.w B:=z.up l;exact XP.ev (XP.mono (Φ:=λS A=>S=[.obj (.ir x d 4),.t .none,.un,.un]/\A=.next) (EX.xp (zx (ab2 o F 0 J J J) (zx (FQ (st:=1) o F 0 J J zn J (nofun) (cE _ _) (.inl ⟨J,J⟩) J) (zx (FQ (st:=2) o F 0 J J (zi 0) J (nofun) (cE _ _) (.inr ⟨J,ek _⟩) J) (zx (FQ (st:=3) o F 0 J J (zi 0) J (nofun) (eH _) (.inr ⟨J,cE _ _⟩) J) (zx (cJ (b:=ak) (zC (zv F 1 J J) zn J J) ⟨i3⟩) ⟨i3⟩))))) ⟨J,J⟩) λS A P=>by obtain⟨rfl,rfl⟩:=P;exact(my _ _ J (.inr ⟨J,J⟩) J J))
 intro h e f q v n u p L T O G i aj;refine s h e f q v n u p L T O G i λao aq au az aP aO Q aG aH aB aK aI aM a=>?_;obtain⟨rfl,rfl⟩:=Q;rw [z.ob]at a;exact aj ao aq au az (.b3 x [] af 0 0) .none ⟨J,J⟩ aG aH aB aK aI aM (by rw [z.ob];exact U5 a)
end
section
variable{c:Cx Ob}
theorem Wq(z:bJ c.B c.prog c.w B)(aP:dB c.A (a_+2))(aI:(("__init__":ai),aX)∈B.fs)(aj:∀x au,ff c.B c.prog c.w (a_+1) (.ref aX) (.ir x au 0) [] λH r=>H=.b3 x [] af 0 0/\r=.none)(S:aQ c.B c.ρ L f c.env n h m E R s.heap)
  (aH:∀O j x p,bS s O->Le f j->aQ c.B c.ρ L j c.env n h m E R O.heap->c.B.ob.at_ (.b3 x [] af 0 0) (.ref x) O.heap p->(∀b∈p,eW c.B L j c.env n R b)->aq (.ref x) O):wpAny (model c.prog c.w) c.A (call (.ref B.C) []) aq bX s:=by
 obtain⟨g,bj,ao,w,os⟩:=s;have T:=z.iw S.base;have a:aQ c.B c.ρ L f c.env n h m E R g:=S;have r:=S.ready;refine bM (z.ok.fs _ aI) λaz aK=>i7 (make_core (makes_of T z.ok.DY) (looks_findIn T az) (λbu=>bind_fn T bu (beq_iff_eq.mp aK)) (.inl J) ?_);have i:=cg.iu r emptyDict w;have bw:=S.step i;have bh:=bw.step (cg.iu (i.ready r) (instObj B.C g.objs.size) w);have l:g.get? g.objs.size=af:=fM ⟨g,bj,ao,w,os⟩;have u:g.get? (g.objs.size+1)=af:=by
  cases q:g.get? _ with
  |none=>rfl
  |some o=>exact bE (fQ q) (fJ.mpr (uH _))
 have aB:c.B.ob.at_ (.ir (g.objs.size+1) g.objs.size 0) (.ref (g.objs.size+1)) ((g.push emptyDict).push (instObj B.C g.objs.size)) [g.objs.size+1,g.objs.size]:=by
  rw [z.ob];refine(⟨J,0,(bE J),⟨bL (aR _ (by heap_get) J) (bL (aR _ (by heap_get) ⟨[],0,0,0,J,ek _,λbQ=>J⟩) eu),J,by simp⟩⟩)
 have k:=S.free l;have G:=S.free u;refine aj _ g.objs.size _ c.ρ f _ [] _ _ [g.objs.size+1,g.objs.size] aP.call bh.ready aB (bL (c_ G.fz G.h0 G.tab) (bL (c_ k.fz k.h0 k.tab) eu)) .nil ?_
 .rintro O j bV aM H bK⟨rfl,rfl⟩aO A aS aW v aG bf y aN;obtain rfl:=aN.inv;refine⟨J,?_⟩;have d:=λ{b o}e t=>bL (P:=λb=>g.get? b=U o->False) (aU u) (bL (aU l) eu) b t e;have F:∀{b o},g.get? b=U o->((g.push emptyDict).push (instObj B.C g.objs.size)).get? b=U o:=λe=>eg _ (eg _ e);have Q:∀{b},((g.push emptyDict).push _).get? b=af->g.get? b=af:=λ{b}e=>by
   cases q:g.get? b with
   |none=>rfl
   |some o=>rw [F q]at e;assumption
  have P:∀{b},b∈[g.objs.size+1,g.objs.size]->g.get? b=af:=λ{b}t=>by
   cases q:g.get? b with
   |none=>rfl
   |some o=>exact bE t (d q)
  have bB:=a.grow (λb t o e=>aS b (d e) t o (F e)) aW A λb o e=>by
   rcases aG b o e with q|q|q
   .exact .inl q
   .exact .inr ⟨Q q,v b o e⟩
   .exact .inr ⟨P q,v b o e⟩
  refine aH O j _ aM (bS.trans (b_ _ _ J) aO) A bB bf λb t=>?_;have bF:g.get? b=af:=by
   rcases(y b t).1 with q|q
   .exact P q
   .exact Q q
  have X:=a.free bF;exact⟨X.hb,(y b t).2,X.loc,X.cell,X.fp,X.tab,X.h0⟩
end
section
set_option tactic.hygienic true
section
variable{c:Cx Ob}{i:aa}
theorem J8{p:ai×aD}(h:(cV G)[i]?=U p):∃Q,G.bU[i]?=U Q/\p=(cj Q.key,.ref Q.i):=by
 delta cV at h
 rw [hU]at h;cases e:G.bU[i]? with
 |none=>rw [e]at h;exact aU J h
 |some Q=>rw [e]at h;exact(aR Q J ((bg h).symm))
theorem Nr(s:EE c j ao B e g (.bY (.ref G.D)))(aj:(G.D==sysModules)=ak)(k:c.B.bO.DictOf (strKind c.prog c.w) G.D (cV G)):EI ak c j ao B e g (G.bU.map λQ=>.str Q.key):=by
 constructor;intro au f aq aP aM S z;refine s.1 au f aq _ _ S λh O v P aB l d=>?_;obtain rfl:=d.inv;have r:=l.ready;refine bC k.dictAt λH p=>?_;have a:=p.at' λo e=>r.base _ o e;refine wpAny_pyIter_dict aj a ?_;obtain⟨m,E,R,X⟩:=l;have x:=a.lt_size;have F:=Walks.dictKeys (knd:=strKind c.prog c.w) c.R.handled h.heap.objs.size G.D (fW x) (cV G) H;rw [(by simp [cV]:(cV G).length=(G.bU.map λQ=>T.str Q.key).length)]at F⊢;refine z _ O _ _ _ _ _ E R (P.trans (b_ _ h.toks J)) aB m (X.step (((by simp [cV]:(G.bU.map λQ=>T.str Q.key).length=(cV G).length)).symm▸(cg.iu r {cls:=.type "dict_keyiterator",data:=.fields #[.ref G.D,.int 0 0,.int (cV G).length 0,.int H 0]} h.toks))) F (λi v n=>?_) ⟨(i12 _ (eN _ J) J J),a.at' λo e=>eg _ e⟩ (λb t=>?_) (λb t=>?_) (λb t=>?_) (λi s st b t=>by rw [cD.mp t];refine bM st λu y=>?_;refine aA (u) λo L y=>?_;exact dc L) ?_
 .refine dS n λaN aO az A=>aA (J8 az) λQ aG e=>bM (l_ e) λu aH=>?_;subst u aH;refine(aR _ (by refine aZ (hU) ?_;rw [aG];rfl) ?_);obtain⟨w,rfl⟩:∃w,v=.str (cj Q.key) w:=by
   cases v<;>first|exact cW J A|skip
   rename_i aI aK;exact⟨aK,by rw [(by simpa [uM,Value.isStrOf]using A:aI=cj Q.key)]⟩
  exact .str _ _
 .exact(cD.mp t)▸(⟨X.free (fM h),aL _ (eN _ J)⟩)
 .rcases cQ.mp t with rfl|t
  .exact .inl (.head _)
  .rw [cD.mp t];right;right;exact dS p λo aS L y=>dc L
 .simp only [l0];rcases cQ.mp t with rfl|t
  .exact eH _
  .exact(cD.mp t)▸(oZ x)
 .intro q;exact cW J q
theorem abZ(a:EE c f n bf o d (.bY (.ref G.D)))(aG:(G.D==sysModules)=ak)(aH:c.B.bO.DictOf (strKind c.prog c.w) G.D (cV G))
  (aK:attributeBase o "values" c.env (eval o c.env)=eval o c.env)(a_:(E.endLine==aI.line)=ae):EI ak c f n bf (.Call (.Attribute o "values" E) [] [] aI) d (G.bU.map λQ=>.bY (.ref Q.i)):=by
 constructor;intro g bj aW b7 bK R au;refine lE aK (nS _) a_ F.plainAttrs_dict F.slot_dict_values F.type_dict_values (a.1 g bj aW _ _ R λbF bV aM aO aP q aB=>?_);obtain rfl:=aB.inv;have r:=q.ready;refine bC aH.dictAt λH p=>?_;have h:=p.at' λo e=>r.base _ o e;refine(c_ h.dictOf.typeIs h.dictOf.mapOf.noDict (j_ (J) (jY (λe a=>bE a dP) kS q λz m bX ao aq k az=>?_)));obtain rfl:=az.jg J;have r:=k.ready;have h:=p.at' λo e=>r.base _ o e;refine call_meetsIn PySem.F.slot_dict_values h.dictOf.typeIs PySem.F.entry_dict_values (PySem.F.args_dict_values_1 _) (meets_dict_values (strKind c.prog c.w) G.D aG) ⟨⟨_,h.dictOf⟩,?_⟩;have B:=k.step (cg.iu r {cls:=.type "dict_values",data:=.fields #[.ref G.D]} z.toks);have P:(z.heap.push {cls:=.type "dict_values",data:=.fields #[.ref G.D]}).DictAt (strKind c.prog c.w) G.D (cV G) H:=h.push _;have l:(z.heap.push {cls:=.type "dict_values",data:=.fields #[.ref G.D]}).IsValuesView z.heap.objs.size G.D:=(i12 _ (eN _ J) J J)
 revert B P l
 generalize z.heap.push {cls:=.type "dict_values",data:=.fields #[.ref G.D]}=s;intro B P l;obtain⟨x,w⟩:∃x,x={z with heap:=s}:=⟨_,J⟩;have aN:bS z x:=(bS.of w);simp only [<-w];have O:s=x.heap:=by rw [w]
 simp only [O]at B P l;clear w O;have B:SR c.B c.ρ g m c.env f n d x.heap:=B;refine wpAny_pyIter_values l P ?_;have A:=cg.iu (B.ready (s:=x)) {cls:=.type "dict_valueiterator",data:=.fields #[.ref G.D,.int 0 0,.int (cV G).length 0,.int H 0]} x.toks;obtain⟨aS,aj,aX,X⟩:=B;have j:G.D<x.heap.objs.size:=P.lt_size;have v:=Walks.dictValues (prog:=c.prog) (w:=c.w) (knd:=strKind c.prog c.w) c.R.handled x.heap.objs.size G.D (fW j) (cV G) H;have bh:(cV G).length=(G.bU.map λQ=>T.bY (.ref Q.i)).length:=by simp [cV]
 rw [bh]at v A⊢;refine au _ m _ _ _ _ _ aj aX (((aO.trans ao).trans aN).trans (b_ _ x.toks J)) (aP.trans aq) aS (X.step A) v (λi aM l=>?_) ⟨(i12 _ (eN _ J) J J),P.at' λo e=>eg _ e⟩ (λb t=>?_) (λb t=>?_) (λb t=>?_) (λi a st b t=>by rw [cD.mp t];refine bM st λu y=>?_;refine aA (u) λo L y=>?_;exact dc L) ?_
 .refine bC l λbQ bw=>aA (J8 bw) λQ bu e=>?_;refine bM (l_ e) λu bB=>?_;subst u;subst bB;exact(aR (.bY (.ref Q.i)) (by refine aZ (hU) ?_;rw [bu];rfl) (.bY _))
 .exact(cD.mp t)▸(⟨X.free (fM x),by exact aL _ (eN _ J)⟩)
 .rcases cQ.mp t with rfl|t
  .exact .inl (by exact .head _)
  .rw [cD.mp t];right;right;exact dS p λo b8 L y=>dc L
 .show b<(x.heap.push _).objs.size;rw [l0];rcases cQ.mp t with rfl|t
  .exact eH _
  .rw [cD.mp t];exact oZ j
 .intro S;exact cW J S
end
end
section
variable{c:Cx Ob}{pI:bW}{l:Y aa}{h':cu}
theorem AO(S:aQ c.B c.ρ L f c.env n k m E R h)(j:n[i]?=U x)(H:m[i]?=U (.obj o)):∃v,eA c.env E h x (U v)/\c.B.ob.at_ o v h (R i):=by
 refine cps λy r=>?_;obtain⟨F,Q,v,rfl,l⟩:=S.vars i x _ j H;exact r ((aR v Q l))
theorem AP(S:aQ c.B c.ρ L f c.env n k m E R h)(j:n[i]?=U x)(s:eA c.env E h x (U v))(Q:a∈R i)(r:gI a h h')(l:c.B.ob.at_ H v h' (R i)):
  aQ c.B c.ρ L f c.env n k (m.set i (.obj H)) E (bT R i (R i)) h':=by
 have A:=(ck.mp j).1;have F:=S.fp i A;have p:∀{b},b∉R i->b≠a:=λ{b}g q=>g (by exact(q)▸(Q));exact S.p5 j (λb g y o e=>(r.2 b (p g)).trans e) (br.gO S.inv λP G o e=>(r.2 P (p ((S.tab P G).2.2.2.2 i A))).trans e) (Le.refl _) (λb o e=>(r.2 b λq=>(aU ((aL _ q).trans ((F a Q).2.1)) e)).trans (S.bI b o e)) (λb o e=>.inl e) s ⟨v,J,l⟩ (λb t=>⟨.inl t,(F b t).2.1⟩)
theorem Eo(z:bJ c.B c.prog c.w B)(S:aQ c.B c.ρ L f c.env n k m E R h)(j:n[i]?=U x)(H:m[i]?=U (.obj (.set s))):
  ∃a g,eA c.env E h x (U (.ref a))/\R i=[a]/\g<=s.length/\h.SetOf (uM c.prog c.w) a (λk=>s.any (λx=>decide (cj x=k))) g:=by
 refine aA (AO S j H) λv Q l=>?_;rw [z.ob]at l;obtain⟨a,g,rfl,X,A,e⟩:=(l);exact(my a g Q X A e)
theorem acm(z:bJ c.B c.prog c.w aH)(F:Fm c.env n k o)(i u:aa)(j:n[i]?=U x)(E:i<k)(d:o[u]?=U (("set":ai),.globalImplicit))(w:swapsWith (.Call (.Name "set" L) [] [] Q) (U (.Name x e)) p.line c.env=pure ak):
  ES c n k m (.Assign [.Name x e] (.Call (.Name "set" L) [] [] Q) p) (m.set i (.obj (.set []))) .next:=by
 constructor;intro aq aj az aI au l S G;refine bM (c.bi 15 "set" _ J) λB s=>lC (lD (nA c.G S.1 S.ready.base (F.kn u d nofun) B s (F.kg u d) (B5 (J) (jY (λh b=>bE b dP) kS S λt f aK q g T r=>?_)))) w;obtain rfl:=r.jg J;refine call_set_0 λv=>?_;have H:(t.heap.push {cls:=.type "set",dict:=af,data:=.set #[] 0 (.fresh 0 0 v)}).SetOf (uM c.prog c.w) t.heap.objs.size (λao=>ak) 0:=
  (UO _ _ 0 _ (eN _ J) (c_ J J J) J (λh X=>by simp at X) (λk=>by simp) (cS _) (J) J)
 have A:=cg.iu T.ready {cls:=.type "set",dict:=af,data:=.set #[] 0 (.fresh 0 0 v)} t.toks;obtain⟨y,aB,aG,T⟩:=T;exact gu (av:=.obj _) y l (T.step A) j E (F.loc j E) ⟨_,J,(z.ob.symm▸((⟨_,0,J,J,ek _,by simpa using H⟩)))⟩ (.oE (T.free (fM t))) λO P R a=>G O f .next ((q.trans A.same).trans R) g ⟨y,P,_,a⟩ trivial
set_option tactic.hygienic true in
theorem Nu(z:bJ c.B c.prog c.w aj)(F:Fm c.env n k ao)(i:aa)(R:EE c n k m pI g (.str l))(j:n[i]?=U x)(H:g[i]?=U (.obj (.set s))):EC c n k m (.Compare pI [.In] [.Name x aq] au) g (decide (l∈s)):=by
 constructor;intro L f b X P S G;refine wD (R.1 L f b _ _ S λt u q v a T o=>?_) J;obtain⟨O,rfl⟩:=o.inv;obtain⟨y,E,p,T⟩:=T;refine zP (Eo z T j H) λq B Q d d w=>ez (ew y T.ns Q (wpAny_inSet_of (sS ..) J w ?_)) (F.eJ j);have r:cg c.B u t u {t with toks:=t.toks+1}:=cg.tok T.ready _;have e:(s.any λx=>decide (cj x=cj l))=decide (l∈s):=by
  rw [oU];simp only [qY,decide_eq_true_eq];exact⟨λA=>aA A λx j e=>r7 e▸j,λh=>(aR l h J)⟩
 exact e.symm▸(uQ (G _ u (v.trans r.same) a ⟨y,E,p,T.step r⟩))
theorem Z0(h:h'.SetOf (uM b u) a (λi=>(s.any λx=>decide (cj x=i))||decide (i=cj l)) g):h'.SetOf (uM b u) a (λi=>(s++[l]).any λx=>decide (cj x=i)) g:=by
 have e:(λi=>(s.any λx=>decide _)||decide _)=λi=>(s++[l]).any λx=>decide (cj x=i):=funext λi=>by
  simp only [List.any_append,Gv,List.any_nil,Gi];exact aL _ (decide_eq_decide.mpr eq_comm)
 exact e▸h
theorem acj(z:bJ c.B c.prog c.w bX)(A:Fm c.env h m bK)(i:aa)(j:h[i]?=U x)(au:p[i]?=U (.obj (.set s)))(H:EE c h m p e g (.str l))(ao:g[i]?=U (.obj (.set s)))(R:dX e=ae)(T:(aj.endLine==w.line)=ae)(aB:s.length<=1000):
  ES c h m p (.Expr (.Call (.Attribute (.Name x aW) "add" aj) [e] [] w) aX) (g.set i (.obj (.set (s++[l])))) .next:=by
 constructor;intro bu bw bB aP bF aS S G;have k:∀f∈[e],∀x O,f≠.Starred x O:=λf P=>by exact(cD.mp P)▸(fY R)
 have o:=kA (pos:=w) (env:=c.env) [e] k;refine sU (cps λt aq=>?_) (by delta interactive;exact S.1.kind.symm▸J) J;obtain⟨y,E,az,X⟩:=S;refine zP (Eo z X j au) λa n Q t t d=>aq (lE J (xQ o (aC J)) T PySem.F.plainAttrs_set PySem.F.slot_set_add PySem.F.type_set_add (ez (ew y X.ns Q (c_ d.typeIs d.noDict (j_ o (jY k (pH H.1 kS (fY R)) ⟨y,E,az,X.rQ j Q⟩ λa_ F bQ aG aH B aK=>?_)))) (A.eJ j)));obtain⟨_,aM,bf,B⟩:=B;refine zP (Eo z B j ao) λbh bj r u q aI=>?_;obtain rfl:=jn (bg ((B.locked j).det r));refine aA aK.jS λv b aN=>?_;subst b;refine bC aN.inv λbV b=>?_;subst b;refine call_set_add (sS ..) J aI (by exact g_ 0 (.a (.a (.v 1) (.n 1)) (.n 1)) (.n 4096) (.v 0) (.n 1000) (.v 1) (.v 0) J [_,_] aB q) λh' aO L=>G _ F .next (aG.trans (b_ h' _ J)) aH ⟨y,aM,_,AP (B.unlock) j r (u▸.head _) aO (z.ob.symm▸(⟨a,_,J,u,?_,Z0 L⟩))⟩ trivial
 simp only [dM]
 split
 .exact yO q
 .exact jH q
noncomputable def jv(r:Y (Y aa×aF))(l:Y aa):aY aF:=(r.find? λx=>decide (x.1=l)).map (·.2)
noncomputable def pF(r:Y (Y aa×aF))(l:Y aa)(i:aF):Y (Y aa×aF):=if r.any (λx=>decide (x.1=l))then r.map (λx=>if x.1=l then(x.1,i)else x)else r++[(l,i)]
noncomputable def nk(r:Y (Y aa×aF))(l:Y aa):Y (Y aa×aF):=r.filter λx=>decide (x.1≠l)
theorem ZO{a b:Y aa}:cj a=cj b<->a=b:=⟨r7,(aL _)⟩
theorem fL.get{P:Y _}{r:Y _}(h:fL P r):(∃t i,valueAt P (cj l)=U (.int i t)/\jv r l=U i)\/(valueAt P (cj l)=af/\jv r l=af):=
 fL.rec (.inr ⟨J,J⟩) (λ{A i t P r}y f=>by
  by_cases q:A=l
  .exact .inl (gh t i (aL (l9 yT) (Ox (decide_eq_true (aL cj q)))) (aL (l9 yT) (Ox (decide_eq_true q))))
  .have O:valueAt ((cj A,.int i t)::P) _=valueAt P _:=aL (l9 yT) (Ow (λe=>q (r7 (of_decide_eq_true e))));have b:jv ((A,i)::r) l=jv r l:=aL (l9 yT) (Ow λe=>q (of_decide_eq_true e))
   exact(O)▸(b)▸(f)) h
theorem fL.any{P:Y _}{r:Y _}(h:fL P r):P.any (λx=>decide (x.1=cj l))=r.any (λx=>decide (x.1=l)):=
 fL.rec J (λ{A _ _ _ _}y f=>by refine aZ (Gv) ?_;rw [Gv,f];exact aL (·||_) (decide_eq_decide.mpr ZO)) h
theorem fL.append(h':fL k t){P:Y _}{r:Y _}(h:fL P r):fL (P++k) (r++t):=
 fL.rec h' (λy f=>.cons f) h
theorem fL.YV{i:aF}{w:fK}{P:Y _}{r:Y _}(h:fL P r):fL (P.map λx=>if x.1=cj l then(x.1,.int i w)else x) (r.map λx=>if x.1=l then(x.1,i)else x):=
 fL.rec .nil (λ{A _ _ _ _}y f=>by
  rw [iW,iW]
  by_cases q:A=l
  .rw [bx q,bx (aL cj q)];exact .cons f
  .rw [bA q,bA λe=>q (r7 e)];exact .cons f) h
theorem fL.put{i:aF}{P:Y _}(h:fL P r):fL (stored P (cj l) (.int i w)) (pF r l i):=by
 delta stored pF
 rw [h.any]
 split
 .exact h.YV
 .exact fL.append (.cons .nil) h
theorem fL.del{P:Y _}{r:Y _}(h:fL P r):fL (without P (cj l)) (nk r l):=
 fL.rec .nil (λ{A i w P r}y f=>by
  by_cases q:A=l
  .have O:without ((cj A,.int i w)::P) _=without P (cj l):=uD (by simp [q]);have b:nk ((A,i)::r) l=nk r l:=uD (by simp [q]);simp only [O,b];exact f
  .have O:without ((cj A,.int i w)::P) _=(cj A,.int i w)::without P _:=uE (decide_eq_true λe=>q (r7 e));have b:nk ((A,i)::r) l=(A,i)::nk r l:=uE (decide_eq_true q)
   simp only [O,b];exact .cons f) h
theorem fL.len{P:Y _}{r:Y _}(h:fL P r):P.length=r.length:=fL.rec J (λy f=>aL Nat.succ f) h
theorem yc(z:bJ c.B c.prog c.w B)(S:aQ c.B c.ρ L f c.env n k m E R h)(j:n[i]?=U x)(H:m[i]?=U (.obj (.kO P))):
  ∃a d,eA c.env E h x (U (.ref a))/\R i=[a]/\(a==sysModules)=ak/\h.DictOf (uM c.prog c.w) a d/\fL d P:=by
 refine aA (AO S j H) λv Q l=>?_;rw [z.ob]at l;obtain⟨a,d,rfl,X,A,s,q⟩:=(l);exact(Jx a d Q X A s q)
theorem abP(z:bJ c.B c.prog c.w B)(F:Fm c.env n k o)(i:aa)(j:n[i]?=U x)(E:i<k)(r:swapsWith (.Dict [] [] w) (U (.Name x e)) p.line c.env=pure ak):
  ES c n k m (.Assign [.Name x e] (.Dict [] [] w) p) (m.set i (.obj (.kO []))) .next:=by
 constructor;intro L f s Q P l S G;refine lC (wpAny_Dict_empty ?_) r;have A:=cg.iu S.ready emptyDict s.toks;obtain⟨y,t,R,T⟩:=S;exact gu (av:=.obj _) y l (T.step A) j E (F.loc j E) ⟨_,J,(z.ob.symm▸((⟨_,[],J,J,MD z T,(Ab emptyDict _ 0 (eN _ J) (c_ J J J) J (λb X=>by simp at X) (.nil) uF),.nil⟩:ze c.prog c.w [] _ _ _)))⟩ (.oE (T.free (fM s))) λO h q a=>G O f .next (A.same.trans q) (Le.refl _) ⟨y,h,_,a⟩ trivial
set_option tactic.hygienic true in
theorem Nt(z:bJ c.B c.prog c.w B)(F:Fm c.env n k aj)(i:aa)(R:EE c n k m pI g (.str l))(j:n[i]?=U x)(H:g[i]?=U (.obj (.kO P))):EC c n k m (.Compare pI [.In] [.Name x aq] ao) g (jv P l).isSome:=by
 constructor;intro L f s au az S G;refine wD (R.1 L f s _ _ S λt u a q h T o=>?_) J;obtain⟨w,rfl⟩:=o.inv;obtain⟨y,E,e,T⟩:=T;refine rE (yc z T j H) λa d Q aB X A v=>ez (ew y T.ns Q (wpAny_in_of (sS ..) X A.mapOf ?_)) (F.eJ j);have r:cg c.B u t u {t with toks:=t.toks+1}:=cg.tok T.ready _;have p:(valueAt d (cj l)).isSome=(jv P l).isSome:=by
  rcases v.get with⟨w,i,O,b⟩|⟨O,b⟩<;>rw [O,b]<;>rfl
 exact p.symm▸(uQ (G _ u (q.trans r.same) h ⟨y,E,e,T.step r⟩))
theorem abQ(z:bJ c.B c.prog c.w B)(F:Fm c.env n k aq)(i:aa)(j:n[i]?=U x)(H:m[i]?=U (.obj (.kO P)))(w:EP c n k m O (.str l))(u:jv P l=U v)(g:tY O=ae):EE c n k m (.Subscript (.Name x au) O p) m (.int v):=by
 constructor;rintro L f s aH T⟨y,E,R,S⟩G;refine cps λ_ r=>rE (yc z S j H) λa aG Q d X A t=>r (wz (ez (ew y S.ns Q (w.1 L f s _ _ ⟨y,E,R,S⟩ λaj ao e=>?_)) (F.eJ j)));obtain⟨o,rfl⟩:=e.inv;refine uK A.typeIs PySem.F.slot_dict_getitem.lookup ?_ (vV λa az aB p q=>by subst q;contradiction);rcases t.get with⟨o,i,h,b⟩|⟨h,b⟩
 .rw [u]at b;obtain rfl:=bg b;exact Pp (sS ..) A.mapOf h (G _ f _ (b_ s.heap _ J) (Le.refl _) ⟨y,E,R,S⟩ (.int _ _))
 .exact aU b u
set_option tactic.hygienic true in
theorem abR(h:bJ c.B c.prog c.w aH)(F:Fm c.env n k aW)(i:aa)(j:n[i]?=U x)(f:EE c n k H e g (.int z))(O:g[i]?=U (.obj (.kO P)))(aj:EP c n k g pI (.str l))(ao:P.length<=1000)
  (s:swapsWith e (U (.Subscript (.Name x t) pI o)) q.line c.env=pure ak):ES c n k H (.Assign [.Subscript (.Name x t) pI o] e q) (g.set i (.obj (.kO (pF P l z)))) .next:=by
 constructor;intro L v m aI aB aK S G;refine aeh (f.1 L v m _ _ S λw u aG E A T X=>?_) s;obtain⟨y,a,d,T⟩:=T;refine rE (yc h T j O) λR aO Q p B aq b=>ez (ew y T.ns Q (aj.1 L u w _ _ ⟨y,a,d,T⟩ λaM aN au=>?_)) (F.eJ j);obtain⟨aP,rfl⟩:=au.inv;obtain⟨aS,rfl⟩:=X.inv;exact wpAny_setItem_pairs (sS ..) aq (λh' az r=>(G _ u .next (E.trans (b_ h' _ J)) A ⟨y,a,_,AP T j Q (by exact(p)▸(.head _)) r (h.ob.symm▸((⟨R,_,J,p,B,az,b.put⟩:ze c.prog c.w _ _ h' _)))⟩ trivial)) (by exact(b.len)▸(o6)▸(aJ ao (aC J)))
end
section
set_option tactic.hygienic true
theorem E4:Slot "wrapper_descriptor" "__get__" "wrapper_descriptor.__get__":=
 .of (owner:="wrapper_descriptor") (n:="__get__") (by kernel_rfl) (J) (J) (J)
  (by first|exact .inl (J)|exact .inr _) (by exact J)
theorem abv:typeLookup (.type "wrapper_descriptor") "__set__"=pure af:=by kernel_rfl
theorem abu:typeLookup (.type "wrapper_descriptor") "__delete__"=pure af:=by kernel_rfl
theorem Sp:entryFor table "wrapper_descriptor.__get__"=U Builtin.«wrapper_descriptor.__get__»:=yX (J)
theorem Qq(a b c:aD):argsOk "wrapper_descriptor.__get__" ⟨[a,b,c],[]⟩:=by kernel_rfl
theorem aaw:isSubtype (.type "list_iterator") (.type (".".intercalate ("list_iterator.__next__".cutAt '.').dropLast))=pure ae:=by
 exact J
theorem M6:typeOf (.builtin "list_iterator.__next__")=pure (.type "wrapper_descriptor"):=by
 first|exact h _|(decide+kernel)|kernel_rfl
theorem Bd:Slot "list_iterator" "__getattribute__" "object.__getattribute__":=
 .of (owner:="object") (n:="__getattribute__") (by kernel_rfl) (J) (J) (J)
  (by first|exact .inl (J)|exact .inr _) (by exact J)
section
variable{g:jo GenState}{d:Drawn}{t:aa}{os:OsState}
theorem W5(j:h.get? a=U o)(v:o.cls=.type "list_iterator")(S:n (.ok (.ret (.ref h.objs.size))) ⟨h.push (j2 a),g,d,t,os⟩):
  codeAny (model i u) F (.call (.builtin "wrapper_descriptor.__get__") ⟨[.builtin "list_iterator.__next__",.ref a,.type "list_iterator"],[]⟩) n ⟨h,g,d,t,os⟩:=by
 have R:(⟨h,g,d,t,os⟩:aT).TypeIs (.ref a) "list_iterator":=(aR _ j v);have e:=aaw;refine o5 E4.plain Sp (E4.check _ _ _ _ _ _ _ _ (M6) (Qq _ _ _) ?_)
 repeat(any_goals(first|assumption|wp_step))
theorem W4(j:h.get? a=U {cls:=.type "list_iterator",dict:=af,data:=.fields z,slots:=#[]})(S:Q (.done (.ret (.ref h.objs.size))) ⟨h.push (j2 a),g,d,t,os⟩):
  wpAny (model i u) F (Builtin.«object.__getattribute__» ⟨[.ref a,.str "__next__" m],[]⟩) Q P ⟨h,g,d,t,os⟩:=by
 have R:(⟨h,g,d,t,os⟩:aT).TypeIs (.ref a) "list_iterator":=(aR _ j J);have e:(⟨h,g,d,t,os⟩:aT).TypeIs (.builtin "list_iterator.__next__") "wrapper_descriptor":=M6;have f:typeLookup (.type "list_iterator") "__next__"=pure (U (.builtin "list_iterator.__next__")):=slot_listiter_next.lookup;have r:=E4.lookup;have p:=abv;have x:=abu
 repeat(any_goals(first|assumption|wp_step))
 refine W5 j J ?_
 repeat(any_goals(first|assumption|wp_step))
theorem W2(j:h.get? a=U {cls:=.type "list_iterator",dict:=af,data:=.fields z,slots:=#[]})(S:Q (.ref h.objs.size) ⟨h.push (j2 a),g,d,t,os⟩):
  wpAny (model i u) F (getAttrBy (.ref a) (.str "__next__" m) ae ae) Q P ⟨h,g,d,t,os⟩:=by
 have R:(⟨h,g,d,t,os⟩:aT).TypeIs (.ref a) "list_iterator":=(aR _ j J);have G:=Bd.lookup;have H:=Bd.bind (.ref a)
 repeat(any_goals(first|assumption|wp_step))
 refine o5 Bd.plain ad4 (Bd.check _ _ _ _ _ _ _ _ R (ad2 _ _) (W4 j ?_))
 repeat(any_goals(first|assumption|wp_step))
theorem W0(j:h.get? a=U {cls:=.type "list_iterator",dict:=af,data:=.fields z,slots:=#[]})(S:Q (.ref h.objs.size) ⟨h.push (j2 a),g,d,t+1,os⟩):
  wpAny (model i u) F (getAttr (.ref a) "__next__" ae) Q P ⟨h,g,d,t,os⟩:=by
 repeat(any_goals(first|assumption|with_reducible apply W2 j|wp_step))
theorem QV(H:s.heap.IsList l q)(G:Q (.ref s.heap.objs.size) {s with heap:=s.heap.push {cls:=.type "list_iterator",data:=.fields #[.ref l,.int 0 0]}}):
  wpAny (model i u) F (call (.builtin "iter") [.ref l]) Q P s:=by
 refine call_function_entry (J) (J) (entryFor_of_fast (J)) (by kernel_rfl) ?_;exact aE (g5 (a:=[uN l]) (by first|rfl|kernel_rfl!) (aE (G5 H (bD (aR _ J G)))))
end
end
section
inductive PT(c:Cx Ob)(m:ai->aY aD)(h:cu)(x:ai)(fp:Y ay)(il:Y (ay×aa)):Prop
 |mk(a:ay)(ws:Y (ay×ay))(n:aa)(ha:eA c.env m h x (U (.ref a)))(f:fp=iN a ws)(nd:(iN a ws).Nodup)(hl:ws.length=il.length)(lv:∀b∈iN a ws,(h.get? b).isSome=ae)(g:h.get? a=U (lo (ws.map λw=>.ref w.1) n))(r:Cj h ws il)
theorem Ej(z:bJ c.B c.prog c.w B)(S:aQ c.B c.ρ L f c.env n s m E R h)(j:n[i]?=U x)(H:m[i]?=U (.obj (.c3 k))):PT c E h x (R i) k:=by
 refine aA (AO S j H) λv Q l=>?_;rw [z.ob]at l;obtain⟨a,A,g,rfl,X,e,H,m,b,r⟩:=(l);exact⟨a,A,g,Q,X,X▸e,H,X▸m,b,r⟩
theorem ab3(z:bJ c.B c.prog c.w B)(F:Fm c.env n k Q)(i:aa)(j:n[i]?=U x)(E:i<k)(r:swapsWith (.List [] w) (U (.Name x e)) p.line c.env=pure ak):
  ES c n k m (.Assign [.Name x e] (.List [] w) p) (m.set i (.obj (.c3 []))) .next:=by
 constructor;intro L f s aq au l S G;refine lC ((p7 cR J).1 L f s _ _ S λao u a aB v P R q h y T H X d=>?_) r;have t:=by have:=d.length;simpa using this
 subst t;refine gu (av:=.obj (.c3 [])) y l T j E (F.loc j E) ⟨_,J,?_⟩ (.oE H) λO b g o=>G O u .next (q.trans g) h ⟨y,b,_,o⟩ trivial
 exact(z.ob)▸((⟨a,[],v,J,J,lu.mpr ⟨dP,uF⟩,J,λaz A=>by simp only [cD.mp A,X];rfl,X,λi aG x aj=>nofun⟩))
theorem oz(a:ay)(A:Y _)(u:ay×ay):iN a (A++[u])=iN a A++[u.1,u.2]:=by simp [iN]
theorem Vc{a e:ay}{n₃:aa}(v:(iN a A).Nodup)(Q:A.length=k.length)(c:∀b∈iN a A,(h.get? b).isSome=ae)
  (z:Cj h A k)(f:h.get? e=af)(x:h.get? F=af)(m:F≠e)(r:∀b,b≠a->∀o,h.get? b=U o->h'.get? b=U o)
  (p:h'.get? F=U (j2 e))(g2:h'.get? e=U {cls:=.type "list_iterator",data:=.fields #[.ref su,.int 0 0]})(i:h'.get? a=U (lo ((A++[(F,e)]).map λu=>uN u.1) n₃)):n5 0 (k++[(su,0)]) (.ref a) h' (iN a (A++[(F,e)])):=by
 have P:∀{b d},h.get? d=af->b∈iN a A->b≠d:=λl t q=>cW (aL l8 l) (q▸c _ t);have O:∀{B:aa}{u:ay×ay},A[B]?=U u->u.1≠a/\u.2≠a:=λ{B u}g=>
  have E:∀{b},b∈[u.1,u.2]->b≠a:=λt q=>(lu.mp v).1 (q▸qZ.mpr (aR u (cL g) t))
  ⟨E (dH 0 J),E (dH 1 J)⟩
 refine⟨a,_,n₃,J,J,oz a A (F,e)▸f9.mpr (c_ v (.cons (bL m eu) (.cons eu .nil)) (λb t d n=>bL (P:=λd=>∀b∈iN a A,b≠d) (λy=>P x) (bL (λy=>P f) eu) d n b t)),by refine aZ (dM) ?_;simp only [dM,Q];rfl,λb t=>?_,i,λB u j g X=>?_⟩
 .refine(e8.mp (oz a A (F,e)▸t)).elim (λt=>?_) (bL (P:=λb=>(h'.get? b).isSome=ae) (dc p) (bL (dc g2) eu) b);obtain⟨o,L⟩:=fc.mp (c b t);exact(uA (b=a)).elim (λq=>q▸dc i) λq=>dc (r b q o L)
 .by_cases S:B<A.length
  .have s:=(j9 S).symm.trans g;obtain⟨H,o,L,w⟩:=z B u j s ((j9 (Q▸S)).symm.trans X);exact⟨r _ (O s).1 _ H,o,r _ (O s).2 _ L,w⟩
  .have g:=(jV (oY S)).symm.trans g;have X:=(jV (Q▸oY S)).symm.trans X;rw [<-Q]at X;generalize B-A.length=d at g X;cases d with
   |succ d=>exact aU J g
   |zero=>exact bg g▸bg X▸⟨p,_,g2,J,J⟩
theorem ab4(z:bJ c.B c.prog c.w iD)(F:Fm c.env n O dz)(i d:aa)(j:n[i]?=U H)(dN:aS[i]?=U (.obj (.c3 S)))(aO:dz[d]?=U (("iter":ai),.globalImplicit))(c9:EE c n O aS e Q (.bY (.ref P)))(dG:tn c n O Q P mW)(fq:Q[i]?=U (.obj (.c3 S)))(aK:dX e=ae)
  (bB:(di.endLine==w.line)=ae)(eL:S.length<=1000):
  ES c n O aS (.Expr (.Call (.Attribute (.Name H gx) "append" di) [.Attribute (.Call (.Name "iter" L) [e] [] p) "__next__" k] [] w) jU) (Q.set i (.obj (.c3 (S++[(P,0)])))) .next:=by
 constructor;intro cf i6 lq gZ iE iT aP bK;have aB:∀f∈[e],∀H p,f≠.Starred H p:=λf v=>by rw [cD.mp v];exact fY aK
 have bf:=kA (pos:=w) (env:=c.env) [N_ (.Call (.Name "iter" L) [e] [] p) "__next__" k] (λf v=>by rw [cD.mp v];exact fY J);refine sU (cps λbh r=>?_) (by unfold interactive;rw [aP.1.kind];assumption) J;obtain⟨y,cA,cK,x⟩:=aP;obtain⟨a,az,aW,aX,_,_,_,_,X,_⟩:=Ej z x j dN;refine r (lE J (nS _) bB GP PySem.F.slot_list_append PySem.F.type_list_append (ez (ew y x.ns aX (c_ (aR _ X J) (λgz dU=>O9 dU▸(aR _ X J)) ?_)) (F.eJ j)));have eF:backTo w (starEach [N_ (.Call (.Name "iter" L) [e] [] p) "__next__" k] c.env)=[(ak,eval (N_ (.Call (.Name "iter" L) [e] [] p) "__next__" k) c.env)]:=J;rw [eF]at bf⊢;refine j_ bf (uO (nY (bM (c.bi 16 "iter" (.builtin "iter") J) λdm eT=>?_)));refine aE (lD (nA c.G y x.base (F.kn d aO nofun) dm eT (F.kg d aO) (j_ (kA (pos:=p) (env:=c.env) [e] aB) (jY aB (pH c9.1 kS (fY aK)) ⟨y,cA,cK,x.rQ j aX⟩ λeY E mV bF bQ T bV=>(aA bV.jS λiU bX b7=>?_)))));subst bX;obtain rfl:=b7.inv;obtain⟨_,b8,l,T⟩:=T;obtain⟨gA,az,aW,au,B,cy,aG,cz,X,aH⟩:=Ej z T j fq;obtain rfl:=jn (bg ((T.locked j).det au));have T:=T.unlock;refine cps λbh r=>aA (dG _ _ _ _ _ T) λiC aI cC=>?_;obtain⟨jk,cH,rfl,kF⟩:=cC;obtain⟨g,cM,cN,cY,os⟩:=eY;refine r ?_;dsimp only at aI X T aH;refine QV (i12 _ aI J ⟨cH,J⟩) (aE (kK (aE (e9 ?_))));have aM:(g.push {cls:=.type "list_iterator",data:=.fields #[.ref P,.int 0 0]}).get? g.objs.size=U {cls:=.type "list_iterator",data:=.fields #[.ref P,.int 0 0]}:=eN g J;refine W0 aM (aE (wpAny_letTemporaryGo (bD (kJ ?_))));have aN:(g.push {cls:=.type "list_iterator",data:=.fields #[.ref P,.int 0 0]}).objs.size=g.objs.size+1:=l0 ..;have h:=fM ⟨g,cM,cN,cY,os⟩;have u:g.get? (g.objs.size+1)=af:=iO λo q=>bE (fQ q) (fJ.mpr (uH _));have s:∀b o,g.get? b=U o->((g.push {cls:=.type "list_iterator",data:=.fields #[.ref P,.int 0 0]}).push (j2 g.objs.size)).get? b=U o:=λb o e=>eg _ (eg _ e);have A:=eg (j2 g.objs.size) aM;have G:((g.push {cls:=.type "list_iterator",data:=.fields #[.ref P,.int 0 0]}).push (j2 g.objs.size)).get? (g.objs.size+1)=U (j2 g.objs.size):=aN▸eN _ J;simp only [aN];generalize(g.push {cls:=.type "list_iterator",data:=.fields #[.ref P,.int 0 0]}).push (j2 g.objs.size)=gy at s G A;have aj:g.objs.size+1≠g.objs.size:=Nat.succ_ne_self _;generalize g.objs.size=a_ at s G A h u aj;generalize a_+1=dW at G u aj;refine G0 (hsz:=by simp only [nW,b5,o6,aG];exact aJ eL (aC J)) ⟨aW,s _ _ X⟩ λef R ao=>bC R λeM R=>?_;have bj:=jz j;have aq:a∈l i:=B.symm▸.head _;have bu:=T.fp i bj;have m:=λb e_ o e=>(ao.2 b e_).trans (s b o e)
 exact bK _ E .next (bF.trans (b_ ef _ J)) bQ ⟨y,b8,_,T.vX j (λb fD bh o e=>m b (λq=>fD (q▸aq)) o e) (br.gO T.inv λbw fP o e=>m bw (λq=>(T.tab bw fP).2.2.2.2 i bj (q▸aq)) o e) (Le.refl _) (λb o e=>m b (eP (bu a aq).2.1 e) o (T.bI b o e)) (λb o e=>.inl e) au
  ⟨.ref a,J,z.ob.symm▸(Vc cy aG cz aH h u aj m ((ao.2 _ (eP u X).symm).trans G) ((ao.2 _ (eP h X).symm).trans A) (n₃:=eM) (by refine aZ (R) ?_;simp [lo]))⟩ λb t=>(e8.mp (oz a az (dW,a_)▸t)).elim (λt=>⟨.inl (B.symm▸t),(bu b (B.symm▸t)).2.1⟩) (bL (P:=λb=>(b∈l i\/eW c.B cf E c.env n l b)/\E b=af) ⟨.inr (T.free u),(T.free u).fz⟩ (bL ⟨.inr (T.free h),(T.free h).fz⟩ eu) b)⟩ trivial
end
section
theorem QS(L:s.heap.get? b=U (j2 a))
  (h:wpAny (model i u) F (call (.ref b) []) Q P s):wpAny (model i u) F (callWith w (.ref b) [] [] []) Q P s:=by
 refine aE (e9 (i0 (Q:=λx t=>x=⟨[],[]⟩/\t=s) (yY ⟨J,J⟩) (λx t p=>aE (kK ?_)) λy y x=>x));obtain⟨rfl,rfl⟩:=p;exact aE (aE (G1 L (bD (aE (i0 h (λr e T=>aE (e9 (wpAny_point (bD T)))) λy y x=>x)))))
theorem HV(L:s.heap.get? b=U (j2 a))(R:s.TypeIs (.ref a) "list_iterator")
  (h:wpAny (model i u) (F.under (.builtin "list_iterator.__next__" ⟨[.ref a],[]⟩)) (Builtin.«list_iterator.__next__» ⟨[.ref a],[]⟩) (λj O=>∃r,j=.done (.ret r)/\Q r O) P s):wpAny (model i u) F (call (.ref b) []) Q P s:=by
 refine i7 (Pd (aE (G1 L ?_)));have t:(m7 "method-wrapper"==m7 "method"||m7 "method-wrapper"==m7 "builtin_function_or_method"||m7 "method-wrapper"==m7 "method-wrapper")=ae:=J;have n:(m7 "method-wrapper"!=m7 "method")=ae:=J;show wpAny _ _ (if(m7 "method-wrapper"!=m7 "method")=ae then(do checkBoundCall "list_iterator.__next__" ⟨[.ref a],[]⟩;return<-again (.builtin "list_iterator.__next__" ⟨[.ref a],[]⟩))else _) _ _ s;refine aE ?_;have l:∀{E:Unit->aT->Prop}{q:aD->aT->Prop},E () s->wpAny (model i u) F.in1 (checkBoundCall "list_iterator.__next__" ⟨[.ref a],[]⟩) E q s:=by
  intro E q S
  repeat(any_goals(first|assumption|wp_step))
 exact l (aE (bD (bD (⟨yH _ (by decide+kernel),yW entry_listiter_next (i0 h (λj O⟨r,e,k⟩=>e▸k) λy y x=>x)⟩))))
end
section
variable{prog:bZ}{w:bR}{A:cI}{s:aT}
theorem W6(L:s.heap.get? b=U (j2 a))(R:s.heap.IsListIter a l i)(H:s.heap.IsList l q)(j:q[i]?=U x)
  (G:∀T,T.IsListIter a l (i+1)->gI a s.heap T->Q x {s with heap:=T}):wpAny (model prog w) A (call (.ref b) []) Q P s:=by
 refine jL (id R) λo h v E=>jL H λk F y p=>?_;refine bC (p) λd e=>?_;refine HV L R.typeIs ?_;show wpAny _ _ (field (.ref a) 0>>=_) _ _ s;refine aE (Ca h E (x:=.ref l) J (aE (Ca h E (x:=.int i 0) J (aE (wG F e ?_)))));simp only [Gs,j];refine aE (wpAny_setField h E (eH _) (bD (aR x J (G _ (i12 _ (oV _ h (adR (OY E _))) ((Obj.cls_mapFields ..).trans v) ?_) (nU ..)))));rw [OY E];exact J
noncomputable def Ch(h:cu)(e:ay)(l:aD):Prop:=∃S z t,h.get? e=U S/\S.cls=l/\S.data=.fields z/\z[1]?=U .none/\z[0]?=U t
theorem W3(g:A.handled=af)(L:s.heap.get? b=U (j2 a))(R:s.heap.IsListIter a l i)(H:s.heap.IsList l q)(j:q[i]?=af)
  (v:∀T e,mX a s.heap T->(T.get? a).isSome=ae->s.heap.get? e=af->Ch T e (.type "StopIteration")->P (.ref e) {s with heap:=T}):wpAny (model prog w) A (call (.ref b) []) Q P s:=by
 refine jL (id R) λo h n E=>jL H λk F y p=>?_;refine bC (p) λd x=>?_;refine HV L R.typeIs ?_;show wpAny _ _ (field (.ref a) 0>>=_) _ _ s;refine aE (Ca h E (x:=.ref l) J (aE (Ca h E (x:=.int i 0) J (aE (wG F x ?_)))));simp only [Gs,j];refine aE (wF (aE (wpAny_setField h E (fH _ _) (aE (aE (q6 (aE (m:=firstArgMember _ _) (g5 (a:=Value.none) (by first|rfl|(simp only [firstArgMember];rfl)) (q6 (aE (wpAny_handled ?_)) (by size_fits)))) (by size_fits)))))))
 first|rw [show(A.under (.builtin "list_iterator.__next__" ⟨[.ref a],[]⟩)).handled=af from g]|rw [g]|skip
 refine aE (bD (wpAny_throw ?_));refine v _ _ (((nU ..).extBut.push _).push _) ?_ ?_ (vn _ _ _ (eN _ J) J J J J)
 .exact dc (eg _ (eg _ (oV _ h (adR (OY E _)))))
 .exact Heap.get?_none_of_le (by simp only [l0];exact yO (f_ (nU ..).1.symm))
end
section
theorem Xg(q:F.frames=U (B::b))(H:s.heap.FunFrames x (B::b))(p:B.frame=U m)(X:Ch s.heap e l)(i:x.StaysIn s.heap)(n:x.get? e=af)
  (h:∀T t,Heap.LeftW x (B::b) e l t s.heap T->Q () {s with heap:=T}):wpAny g F (noteFrame (.ref e) B) (λy O=>wpAny g F (setFlight (.ref e) af) Q P O) P s:=by
 refine xn X λS z t L a E R v=>?_;subst a
 delta noteFrame
 rw [p];exact aE (Ca L E R (wpAny_newEntryW q H p L i n E (N3.mp R).1 v λT k=>h T t k))
end
structure jI{O:Type}(c:Cx O)(fl:Y ay):Prop where
 fr:∃outer,c.A.frames=U (c.env::outer)/\∀e∈outer,e.scope.kind≠.module/\∃L∈fl,e.frame=U L
 own:c.env.frame=U c.env.locals
 kd:c.env.scope.kind≠.module
 tab:∀L∈fl,L∈c.B.tabs
 dat:∀f h,c.B.inv f h->∀L∈fl,∃o,h.get? L=U o/\∀vs,o.data≠.fields vs
 sl:∀f h h',c.B.inv f h->(∀P∈c.B.tabs,∀o,h.get? P=U o->h'.get? P=U o\/(P∈fl/\∃sl,h'.get? P=U {o with slots:=sl}))->c.B.inv f h'
section
variable{fl:Y ay}{h:cu}
theorem C3(t:∀m∈fl,x.get? m=af)(E:∀m∈fl,∃o,h.get? m=U o/\∀z,o.data≠.fields z):∀{l:Y cG},(∀e∈l,e.scope.kind≠.module/\∃m∈fl,e.frame=U m)->h.FunFrames x l:=@λi=>i.rec
 (@λy=>trivial)
 (@λB r f H=>by
  refine bM (H B gj) λk j=>?_;refine aA (j) λm F p=>?_
  exact aA (E m F) λo L c=>(c_ k (my m o p (t m F) L c) (f λe X=>H e (fF _ X))))
end
section
variable{c:Cx Ob}{p1 p2 p3:fR}{il:Y (ay×aa)}
theorem RM:∀z,bq X h z (z.map .bY):=λi=>i.rec
 (.nil)
 (λv r f=>.cons (.bY v) (f))
theorem JS{h:cu}{a:ay}{A:Y (ay×ay)}{x:aa}(Q:A.length=(il++[(su,pos)]).length+x)(j:x=0):∃l u,A=l++[u]/\l.length=il.length:=by
 subst j;have:A≠[]:=λq=>by simp only [q]at Q;simp at Q
 refine(gh A.dropLast _ ((List.dropLast_concat_getLast this).symm) ?_);refine aZ (List.length_dropLast) ?_;rw [Q];simp
theorem JR(z:bJ c.B c.prog c.w aI)(F:Fm c.env n o aN)(j:n[i]?=U x)(aq:l[i]?=U (.obj (.c3 (il++[(P,w)]))))(y:gb c.env)(S:aQ c.B c.ρ L h c.env n o l E R s.heap)
  (p:∀m a A u ao,eA c.env E s.heap x (U (.ref a))->R i=iN a (A++[u])->(iN a (A++[u])).Nodup->A.length=il.length->(∀b∈iN a (A++[u]),(s.heap.get? b).isSome=ae)->s.heap.get? a=U (lo ((A++[u]).map λu=>.ref u.1) ao)->
   (∀(i:aa)(u:ay×ay)(x:ay×aa),A[i]?=U u->il[i]?=U x->s.heap.get? u.1=U (j2 u.2)/\s.heap.IsListIter u.2 x.1 x.2)->s.heap.get? u.1=U (j2 u.2)->s.heap.IsListIter u.2 P w->
   wpAny (model c.prog c.w) c.A (call (.ref u.1) []) k t {s with toks:=m}):
  wpAny (model c.prog c.w) c.A (eval (.Call (.Subscript (.Name x aK) (.UnaryOp .USub (.Constant (.int 1) r p1) p2) p3) [] [] aH) c.env) k t s:=by
 refine cps λaW r=>?_;obtain⟨a,aX,v,Q,B,O,G,aj,X,f⟩:=Ej z S j aq;refine dS (JS (h:=s.heap) (a:=a) G J) λA u d e=>?_;subst d;refine r ?_;have q:=f il.length u (P,w) (by rw [<-e];simp) (by simp);refine aE (wz (ez (ew y S.ns Q ((FY (sA 1)).1 L h s _ _ ⟨y,E,R,S⟩ λm au H=>?_)) (F.eJ j)));obtain⟨aM,rfl⟩:=H.inv;have aB:({s with toks:=m}:aT).heap.IsList a ((A++[u]).map λu=>uN u.1).toArray:=(i12 _ X J ⟨v,J⟩);refine uK aB.typeIs PySem.F.slot_list_getitem.lookup (Jf (ρ:=c.ρ) (fz:=h) (τ:=.bY (.ref u.1)) X (RM _) ?_ λau H=>?_) (vV λa b aO aP aS=>by contradiction)
 .show(if iq (-1)then(seqIndex? (-1) _).bind _ else af)=_;have az:seqIndex? (-1) (((A++[u]).map λu=>uN u.1).map T.bY).length=U A.length:=by
   simp only [b5,b5,dM];exact MA _
  refine aZ (bx (by exact J)) ?_;rw [az];simp
 .obtain rfl:=H.inv;exact QS q.1 (p m a A u v Q B O e aj X (λi aG x g j=>f i aG x ((j9 (ck.mp g).1).trans g) ((j9 (ck.mp j).1).trans j)) q.1 q.2)
theorem acq(z:bJ c.B c.prog c.w e_)(ao:Fm c.env n k eM)(i j:aa)(F:n[i]?=U H)(bK:m[i]?=U (.obj (.c3 (il++[(P,w)]))))(O:n[j]?=U G)(aj:j<k)(bQ:tn c n k m P bV)(b8:bV[w]?=U l)
  (cM:swapsWith (.Call (.Subscript (.Name H di) (.UnaryOp .USub (.Constant (.int 1) r p1) p2) p3) [] [] aH) (U (.Name G aM)) aO.line c.env=pure ak):
  ES c n k m (.Try [.Assign [.Name G aM] (.Call (.Subscript (.Name H di) (.UnaryOp .USub (.Constant (.int 1) r p1) p2) p3) [] [] aH) aO,.Break dG] (dU::au) [] [] eY) ((m.set i (.obj (.c3 (il++[(P,w+1)])))).set j (.t (.str l))) .brk:=by
 constructor;rintro dN aB f ef eL aN⟨y,eF,cH,s⟩b7;refine Pj (g4 (lC (JR z ao F bK y s λQ a A u aI aK p v e aP aS aW aq aX=>(cps λa_ r=>(aA (bQ _ _ _ _ _ s) λdW bf bh=>?_))) cM));obtain⟨eT,bj,rfl,bu⟩:=bh;refine aA ((bu.pC (ρ:=c.ρ) (fz:=aB)).get (i:=w) (t:=.str l) (by simp [b8])) λbw bB bF=>r (W6 aq aX (i12 _ bf J ⟨bj,J⟩) (by simpa using bB) λT R E=>?_);have x:=λ{b}t q=>by
  rw [oz,f9]at v;exact v.2.2 b t u.2 (.tail _ (.head _)) q
 have bX:u.1≠u.2:=λq=>by
  rw [oz,f9]at v;have:=v.2.1;rw [q]at this;simp at this
 have h:∀{b},b≠u.2->∀o,f.heap.get? b=U o->T.get? b=U o:=λ{b}cf o cy=>(E.2 b cf).trans cy;have cz:n5 0 (il++[(P,w+1)]) (.ref a) T (cH i):=by
  refine⟨a,A++[u],aI,J,p,p▸v,by simp [e],λb t=>?_,h (x gj) _ aS,λB cA cC g X=>?_⟩
  .by_cases q:b=u.2
   .refine aA R λo L a_=>?_;rw [q,L];rfl
   .exact bC (fc.mp (aP b (p▸t))) λo L=>dc (h q o L)
  .by_cases S:B<A.length
   .rw [j9 S]at g;rw [j9 (e▸S)]at X;refine bM (aW B cA cC g X) λcN cY=>?_;refine aA (cY) λo L cK=>?_;have az:=Dw a g;exact⟨h (x az.1) _ cN,o,h (x az.2) _ L,cK⟩
   .rw [jV (oY S)]at g;rw [jV (e▸oY S),<-e]at X;obtain⟨d,au⟩:∃d,B-A.length=d:=⟨_,J⟩;rw [au]at g X;cases d with
    |succ d=>simp at g
    |zero=>obtain rfl:=bg g;exact bg X▸(⟨h bX _ aq,R⟩)
 exact gu (s:={f with heap:=T,toks:=Q}) (av:=.t (.str l)) y aN (AP s F aK (by simp only [p,oz];simp) E (z.ob.symm▸cz)) O aj (ao.loc O aj) ⟨J,bw,J,bF⟩ .nil λc9 dm dz aG=>g4 (wpAny_Break (b7 c9 aB .brk (bS.trans (b_ T Q J) dz) (Le.refl _) ⟨y,dm,_,aG⟩ trivial))
end
theorem aan:isSubtype (.type "StopIteration") (.type "BaseException")=pure ae:=by exact J
theorem aap:isSubtype (.type ((Manifest.find? "StopIteration").elim "type" λx=>x.metatype)) (.type "tuple")=pure ak:=by
 exact J
theorem aao:isSubtype (.type "StopIteration") (.type "StopIteration")=pure ae:=by exact J
section
theorem HW(L:s.heap.get? a=U (lo (z++[v]) g))(t:z.length<=1000)(G:∀T S,gI a s.heap T->T.get? a=U (lo z S)->Q v {s with heap:=T}):
  wpAny (model i u) F (call (.builtin "list.pop") [.ref a]) Q P s:=by
 refine wA O4 (aR _ L J) PySem.F.entry_list_pop (PySem.F.args_list_pop_1 _) (PySem.MeetsSeq.list_pop_last a (z++[v]).toArray g v (by simp) (by simp only [o6];simp;exact aJ t (aC J))) ⟨L,?_⟩;obtain⟨S,e⟩:∃S,m6 (λn=>n.eraseIdxIfInBounds ((z++[v]).toArray.size-1)) (lo (z++[v]) g)=lo z S:=by
  delta m6 lo;dsimp only
  have e:(z++[v]).toArray.eraseIdxIfInBounds ((z++[v]).toArray.size-1)=z.toArray:=by
   simp [List.eraseIdx_append_of_length_le]
  exact(e)▸(⟨_,J⟩)
 exact G _ S (nU ..) (by refine aZ (oV _ L (J)) ?_;exact aL _ (e))
end
section
theorem bq.M8:∀{o:Y T}{z:Y aD},bq X f z (o++[w])->∃e v,z=e++[v]/\bq X f e o/\Den X f v w
 |[],_,h=>h.jS.elim λv x=>(g8 ([]) v x.1 (.nil) x.2)
 |B::o,_,h=>h.ju (P:=λz=>∃e v,z=e++[v]/\bq X f e (B::o)/\Den X f v w) λi A a c=>(bq.M8 c).elim λe x=>x.elim λv x=>(g8 _ v (aL _ x.1) (.cons a x.2.1) x.2.2)
end
section
variable{c:Cx Ob}{st:Y (Y aa)}
theorem Vb(z:bJ c.B c.prog c.w bV)(aX:Fm c.env n E cC)(j:n[i]?=U az)(aG:m[i]?=U (.obj (.vt il)))(aP:il.length<=900)(H:gb c.env)(S:aQ c.B c.ρ ao aH c.env n E m aM R s.heap)(bB:(bK.endLine==L.line)=ae)
  (aS:∀T G,aQ c.B c.ρ ao aH c.env n E (m.set i (.obj (.c3 il))) aM G T->au .next {s with heap:=T}):wpAny (model c.prog c.w) b8 (exec (.Expr (.Call (.Attribute (.Name az cf) "pop" bK) [] [] L) cz) c.env) au b7 s:=by
 refine aA (AO S j aG) λcy Q l=>?_;rw [z.ob]at l;refine cps λbX aW=>?_;obtain⟨a,cH,k,rfl,p,v,aq,f,X,aB⟩:=(l);refine dS (JS (h:=s.heap) (a:=a) (il:=il) (su:=0) (pos:=0) (by refine aZ (aq) ?_;simp) J) λA u aI d=>?_;subst aI;refine aW ?_;rw [p]at v f;refine sU (lE J (nS _) bB GP O4 ad_ (ez (ew H S.ns Q (c_ (aR _ X J) (λbQ aN=>by obtain rfl:=jn aN;exact(aR _ X J)) (j_ (J) (yY ?_)))) (aX.eJ j))) (by delta interactive;exact H.kind.symm▸J) J;rw [dO]at X;refine HW X (by simp only [b5,d];exact aJ aP (aC J)) λT aO r F=>?_;have x:=(ck.mp j).1;have w:=S.fp i x;have h:a∈R i:=by rw [p];exact gj
 have sub:∀b∈iN a A,b∈R i:=λb t=>by simp only [p,oz];exact fV _ t
 have y:=by rw [oz,f9]at v;exact v.1
 have O:∀{B:aa}{u:ay×ay},A[B]?=U u->u.1≠a/\u.2≠a:=λ{B u}g=>by
  have:=(lu.mp y).1;exact⟨λq=>this (qZ.mpr (aR u (cL g) (by simp [q]))),λq=>this (qZ.mpr (aR u (cL g) (by simp [q])))⟩
 have a_:n5 0 il (.ref a) T (iN a A):=by
  refine⟨a,A,aO,J,J,y,d,λb t=>?_,F,λB aK bh g bj=>?_⟩
  .by_cases q:b=a
   .simp only [q,F];rfl
   .exact(aL _ (r.2 b q)).trans (f b (p▸sub b t))
  .refine bM (aB B aK bh ((j9 (ck.mp g).1).trans g) bj) λbu bf=>?_;refine aA (bf) λo bw bF=>?_;exact⟨(r.2 _ (O g).1).trans bu,o,(r.2 _ (O g).2).trans bw,bF⟩
 refine aS T _ (S.p5 j (λb k cA o e=>(r.2 b λq=>k (q▸h)).trans e) (br.gO S.inv λP aj o e=>(r.2 P λq=>(S.tab P aj).2.2.2.2 i x (q▸h)).trans e) (Le.refl _) (λb o e=>(r.2 b λq=>?_).trans (S.bI b o e)) (λb o e=>.inl e) Q ⟨.ref a,J,?_⟩ λb t=>⟨.inl (sub b t),(w b (sub b t)).2.1⟩)
 .exact aU ((aL _ q).trans ((w a h).2.1)) e
 .exact z.ob.symm▸a_
theorem RL(z:bJ c.B c.prog c.w ef)(F:Fm c.env n k eM)(y:n[H]?=U j)(aK:m[H]?=U (.own ((st++[w]).map .str)))(l:n[g]?=U q)(p:m[g]?=U (.obj (.kO P)))(ao:H≠g)(aq:jv P w=U cY)(au:st.length<=900)(az:P.length<=900)
  (a:gb c.env)(S:aQ c.B c.ρ aN aO c.env n k m aP cK s.heap)(G:(aX.endLine==a_.line)=ae)
  (bh:∀T bK bF,aQ c.B c.ρ aN aO c.env n k ((m.set H (.own (st.map .str))).set g (.obj (.kO (nk P w)))) aP bF T->L .next {s with heap:=T,toks:=bK}):
  wpAny (model c.prog c.w) e_ (exec (.Delete [.Subscript (.Name q bV) (.Call (.Attribute (.Name j dW) "pop" aX) [] [] a_) cC] c9) c.env) L di s:=by
 refine wpAny_Delete (wpAny_deleteEach_cons (wpAny_delete_Subscript (rE (yc z S l p) λad dz o eT b7 cy cz=>(ez (ew a S.ns o ?_) (F.eJ l)))));obtain⟨cA,Q,cH,cM,cN,rfl,X,i,d⟩:=S.vars H j _ y aK;simp only [dO]at i;refine cps λdm aB=>?_;refine jw i.M8 λdG dU aG A aH=>?_;subst aG;refine bC (ja aH) λeY aj=>?_;subst aj;refine aB ?_;refine lE J (nS _) G GP O4 ad_ (ez (ew a S.ns Q (c_ (aR _ X J) (λbX aI=>by obtain rfl:=jn aI;exact(aR _ X J)) (j_ (J) (yY (HW X (by rw [A.length,b5];exact aJ au (aC J)) λb8 cf r aM=>?_))))) (F.eJ y));have x:=S.A2 y Q d r aM A;refine rE (yc z x l (by exact(iV ao)▸(p))) λh f E b aW R e=>?_;have bf:h=ad:=by
  have:=E.det (o.keep λt bj aS dN bw=>(r.2 t λbB=>?_).trans bw)
  .injection this with this;injection this
  .subst bB;exact(S.fp H (ck.mp y).1 t (by rw [d];exact .head _)).2.2.2 g q l bj aS
 subst bf;have bu:(valueAt f (cj w)).isSome=ae:=by
  rcases e.get with⟨eF,eL,O,v⟩|⟨O,v⟩
  .exact dc O
  .exact aU v aq
 exact wpAny_delItem_slot R.typeIs (J) ad6 (call_meetsIn ad6 R.typeIs PySem.F.entry_dict_delitem (PySem.F.args_dict_delitem_2 _ _) (meets_dict_delitem_pairs (uM c.prog c.w) h (k:=cj w) (sS ..)) (UK f R (by exact(e.len)▸(o6)▸(aJ az (aC J))) bu (λu bQ B=>(wpAny_deleteEach_nil (bh u _ _ (AP x l E (a:=h) (by rw [b];exact .head _) B (z.ob.symm▸((⟨h,_,J,b,aW,bQ,e.del⟩:ze c.prog c.w (nk P w) (.ref h) u _)))))))))
end
section
variable{s:aT}
structure PG(c:Cx Ob)(fz:Fz)(h h':cu)(ex:ay):Prop where
 kp:∀b,b≠ex->b∉c.B.tabs->b≠c.env.locals->∀o,h.get? b=U o->h'.get? b=U o
 live:∀b,b∉c.B.tabs->b≠c.env.locals->(h.get? b).isSome=ae->(h'.get? b).isSome=ae
 ns:∀m,h.Ns c.env.locals m->h'.Ns c.env.locals m
 inv:c.B.inv fz h'
theorem TH{p:cu}{e:ay}{aB:Flow->aT->Prop}(n:jI c A)(aI:Fm c.env b8 j aX)(u:aa)(B:aX[u]?=U (("StopIteration":ai),.globalImplicit))(aN:gb c.env)(S:aQ c.B c.ρ eL aO c.env b8 j ef fq dG h)
  (R:a∉c.B.tabs/\a≠c.env.locals/\c.B.bO.get? a=af)(f:mX a h p)(a_:(p.get? a).isSome=ae)(X:h.get? e=af)(cC:Ch p e (.type "StopIteration"))
  (cK:∀l,PG c aO h l a->wpAny (model c.prog c.w) (c.A.mark (U (.ref e))) (execs (cY::cN) c.env) aB (notedBy (model c.prog c.w) (c.A.mark (U (.ref e))) c.env (cameBackBy (model c.prog c.w) c.A c.env v)) {s with heap:=l}):
  wpAny (model c.prog c.w) c.A (noteFrame (.ref e) c.env) (λz aW=>wpAny (model c.prog c.w) c.A (setFlight (.ref e) af) (λz bh=>wpAny (model c.prog c.w) c.A (handleBy (.ref e) c.env (.ExceptHandler (U (.Name "StopIteration" eY)) af (cY::cN) e_::az)) aB v bh) v aW) v {s with heap:=p}:=by
 refine aA n.fr λeF bK bQ=>?_;have x:∀{b},(h.get? b).isSome=ae->b≠e:=λ{b}t q=>by rw [q,X]at t;exact cW J t
 have w:∀{b}{o},b≠a->h.get? b=U o->p.get? b=U o:=λg e=>f _ _ g e;have au:=br.gO S.inv λP G o e=>w (λq=>R.1 (q▸G)) e;have aP:∀m∈c.env.locals::A,∃o,p.get? m=U o/\∀aH,o.data≠.fields aH:=λm F=>by
  rcases cQ.mp F with rfl|F
  .exact jb (S.ns.extBut f R.2.1.symm) λo eT di L bj z=>(aR o L (λaH q=>by rw [bj]at q;contradiction))
  .exact n.dat _ _ au m F
 have aK:∀{b},b∈e::c.env.locals::A->(rest p (e::c.env.locals::A)).get? b=af:=(sR _);have bu:=
  C3 (λm F=>aK (fF _ F)) aP λbw X=>by
   rcases cQ.mp X with rfl|X
   .exact⟨n.kd,_,gj,n.own⟩
   .refine bM (bQ bw X) λj bB=>?_;refine aA (bB) λm F i=>?_;exact⟨j,m,fF _ F,i⟩
 refine Xg bK bu n.own cC (t9 _) (aK gj) λO fP F=>ve F λaj bF ao aq=>RZ (ao) λbV dm T dz dN aS bX z=>wpAny_handleBy_builtin aan aap aao (bM (c.bi 17 "StopIteration" (.type "StopIteration") J) λbf b7=>?_);have Q:∀{b o},b∉c.B.tabs->b≠c.env.locals->b≠e->p.get? b=U o->(rest p (e::c.env.locals::A)).get? b=U o:=λ{b o}cf cy cz L=>nF L λq=>by
  rcases cQ.mp q with q|q
  .exact cz q
  .rcases cQ.mp q with q|q
   .exact cy q
   .exact cf (n.tab _ q)
 have cA:bG c.B.bO O:=λb o q=>by
  have t:=S.fT b o q;have L:=S.base b o q;exact aj b o (Q (S.ji t) (λr=>aU ((aL _ r).trans S.nL.1) t) (x (dc L)) (w (λr=>aU ((aL _ r).trans R.2.2) q) L))
 refine nA (s:={s with heap:=O}) c.G aN cA (aI.kn u B nofun) bf b7 (aI.kg u B) (c_ J (aR bV aS bX.1) ?_);refine wpAny_setFlight_noneW aj bF ao.at λl E dU dW aG=>cK l ⟨λb g y d o L=>?_,λb y d t=>?_,λeM cM=>?_,?_⟩
 .exact E b o (Q y d (x (dc L)) (w g L))
 .have cH:∃o,p.get? b=U o:=by
   by_cases q:b=a
   .exact q▸(fc.mp a_)
   .exact bC (fc.mp t) λo L=>⟨o,w q L⟩
  exact bC cH λo L=>dc (E b o (Q y d (x t) L))
 .exact(Heap.UpToSlots.trans aq λb o L k=>⟨o.slots,aG b o L k⟩:p.UpToSlots l).ns (cM.extBut f R.2.1.symm)
 .refine n.sl _ h l S.inv λP G o L=>?_;have H:=w (λq=>R.1 (q▸G)) L
  by_cases i:P∈A
  .right
   refine aA (n.dat _ _ au P i) λfD aM k=>?_;rw [H]at aM;obtain rfl:=bg aM;exact bC (aq P o H k) λc9 az=>⟨i,c9,aG P _ az k⟩
  .left
   refine E P o (nF H λq=>?_);rcases cQ.mp q with q|q
   .exact x (dc L) q
   .rcases cQ.mp q with q|q
    .exact((S.tab P G).2.2.1) q
    .exact i q
end
section
variable{st:Y (Y aa)}
theorem acp(z:bJ c.B c.prog c.w sJ)(bu:jI c qR)(F:Fm c.env n e b7)(i H g O:aa)(j:n[i]?=U x)(bX:m[i]?=U (.obj (.c3 (k++[(cY,c9)]))))(dm:n[H]?=U dz)(dG:m[H]?=U (.own ((st++[aj]).map .str)))(eM:n[g]?=U e_)(aG:m[g]?=U (.obj (.kO P)))
  (d:i≠H/\i≠g/\H≠g)(bh:b7[O]?=U (("StopIteration":ai),.globalImplicit))(bw:tn c n e m cY bB)(bF:bB[c9]?=af)(bV:jv P aj=U qS)(cy:st.length<=900)(cN:P.length<=900)(di:k.length<=900)(aX:(eL.endLine==eY.line)=ae)(fD:(dN.endLine==gz.line)=ae)
  (iE:swapsWith (.Call (.Subscript (.Name x kF) (.UnaryOp .USub (.Constant (.int 1) r aI) aK) aM) [] [] aN) (U (.Name aO aP)) aS.line c.env=pure ak):
  ES c n e m (.Try [.Assign [.Name aO aP] (.Call (.Subscript (.Name x kF) (.UnaryOp .USub (.Constant (.int 1) r aI) aK) aM) [] [] aN) aS,.Break v_]
   (.ExceptHandler (U (.Name "StopIteration" mW)) af [.Delete [.Subscript (.Name e_ mV) (.Call (.Attribute (.Name dz sH) "pop" eL) [] [] eY) sM] nR,.Expr (.Call (.Attribute (.Name x qT) "pop" dN) [] [] gz) sD] sE::sF) [] [] sG)
   ((((m.set i (.obj (.vt k))).set H (.own (st.map .str))).set g (.obj (.kO (nk P aj)))).set i (.obj (.c3 k))) .next:=by
 constructor;rintro bf f s p9 qP qQ⟨y,E,R,S⟩bK;refine Pj (g4 (lC (JR z F j bX y S λbQ a A u b8 cf p v au cz cA cC cH cK=>(cps λ_ r=>(aA (bw _ _ _ _ _ S) λsI aH cM=>?_))) iE));obtain⟨uy,aW,rfl,a_⟩:=cM;refine r ?_;have h:=(ck.mp j).1;have w:=S.fp i h;have Q:u.2∈R i:=by simp only [p,oz];simp
 have B:∀{b},b∈R i->b∉c.B.tabs:=λt q=>(S.tab _ q).2.2.2.2 i h t;refine W3 c.R.handled cH cK (i12 _ aH J ⟨aW,J⟩) (by simpa [(by have:=(a_.pC (ρ:=c.ρ) (fz:=f)).length;simpa using this)]using bF) λqU G dU dW ef eF=>TH bu F O bh y S (c_ (B Q) ((w _ Q).2.2.1) ?_) dU dW ef eF λl K=>?_
 .cases q:c.B.bO.get? u.2 with
  |none=>rfl
  |some o=>have:=S.fT _ o q;exact aU ((w _ Q).1) this
 have eT:∀{b},b∈iN a A->b≠u.2:=λ{b}t q=>by
  rw [oz,f9]at v;exact v.2.2 b t u.2 (.tail _ (.head _)) q
 have sub:∀{b},b∈iN a A->b∈R i:=λt=>by simp only [p,oz];exact fV _ t
 have X:∀{b o},b∈iN a A->s.heap.get? b=U o->l.get? b=U o:=λt L=>K.kp _ (eT t) (B (sub t)) (w _ (sub t)).2.2.1 _ L;have fq:n5 1 k (.ref a) l (R i):=by
  refine⟨a,A++[u],b8,J,p,p▸v,by simp [au],λb t=>?_,X gj cA,λaq fP gx T ao=>?_⟩
  .exact K.live b (B t) (w b t).2.2.1 (cz b (p▸t))
  .have gA:aq<A.length:=au▸(ck.mp ao).1;rw [j9 gA]at T;refine bM (cC aq fP gx T ao) λgZ iC=>?_;refine aA (iC) λo L iD=>?_;have az:=Dw a T;exact⟨X az.1 gZ,o,X az.2 L,iD⟩
 have gy:aQ c.B c.ρ bf f c.env n e (m.set i (.obj (.vt k))) E (bT R i (R i)) l:=by
  refine S.yn j (λb iU i6 jk o L=>K.kp b (λq=>iU (q▸Q)) i6 jk o L) (K.ns E S.ns) K.inv (Le.refl _) (λb o L=>K.kp b (λq=>?_) (S.mT L) (λq=>?_) o (S.bI b o L)) (λb o G=>.inl G) cf ⟨.ref a,J,?_⟩ λb t=>⟨.inl t,(w b t).2.1⟩
  .exact aU ((aL _ q).trans ((w _ Q).2.1)) L
  .exact aU ((aL _ q).trans S.nL.2) L
  .exact z.ob.symm▸fq
 refine g4 (RL (s:={s with heap:=l,toks:=bQ}) z F dm (by exact(iV d.1).trans dG) eM (by exact(iV d.2.1).trans aG) d.2.2 bV cy cN y gy aX λiT aB sN jU=>(g4 (Vb (il:=k) (s:={s with heap:=iT,toks:=aB}) z F j ?_ di y jU fD λlq yD bj=>?_)))
 .refine aZ (iV d.2.1.symm) ?_;rw [iV d.1.symm,iF (by rw [S.len];exact h)]
 .exact q4 (bK _ f .next (b_ lq aB J) (Le.refl _) ⟨y,E,_,bj⟩ trivial)
end
noncomputable abbrev Gr:=Y aa->Y (Y aa)
noncomputable abbrev Rs:=Y (Y aa×aa)
noncomputable abbrev Kv:=Y (Y aa×aF)
noncomputable def k4(A:Gr):Rs->Kv->aY (aY (Y aa)×Rs×Kv)
 |[],P=>U (af,[],P)
 |(w,p)::r,P=>match(A w)[p]? with
  |U l=>U (U l,(w,p+1)::r,P)
  |af=>if(jv P w).isSome then k4 A r (nk P w)else af
noncomputable def k7(A:Gr):aa->Y aa->Rs->Kv->Y (Y aa)->aY (Y (Y aa)⊕(Y (Y aa)×Kv))
 |0,_,_,_,_=>af
 |g+1,Q,r,P,seen=>
  if Q∈seen then match jv P Q with
   |U s=>U (.inl (cut (U s) af ((r.map (·.1)).reverse)++[Q]))
   |af=>match k4 A r P with
    |U (U l,t,k)=>k7 A g l t k seen
    |U (af,_,k)=>U (.inr (seen,k))
    |af=>af
  else if r.length<=800/\P.length<=800/\seen.length<=800 then match k4 A ((Q,0)::r) (pF P Q r.length)with
    |U (U l,t,k)=>k7 A g l t k (seen++[Q])
    |U (af,_,k)=>U (.inr (seen++[Q],k))
    |af=>af
   else af
noncomputable def ql(A:Gr)(E:aa):Y (Y aa)->Y (Y aa)->Kv->aY (aY (Y (Y aa)))
 |[],_,_=>U af
 |g::o,seen,P=>if g∈seen then ql A E o seen P else match k7 A E g [] P seen with
  |U (.inl c)=>U (U c)
  |U (.inr (h,k))=>ql A E o h k
  |af=>af
section
variable{g:Gr}{t nd:Y aa}{p:aa}{r:Rs}{kv:Kv}{seen:Y (Y aa)}
theorem L7:k4 g ((t,p)::r) kv=(match(g t)[p]? with|U l=>U (U l,(t,p+1)::r,kv)|af=>if(jv kv t).isSome then k4 g r (nk kv t)else af):=J
theorem Ms:k7 g (h+1) nd r kv seen=(if nd∈seen then match jv kv nd with
   |U s=>U (.inl (cut (U s) af ((r.map (·.1)).reverse)++[nd]))
   |af=>match k4 g r kv with
    |U (U l,t,k)=>k7 g h l t k seen
    |U (af,_,k)=>U (.inr (seen,k))
    |af=>af
  else if r.length<=800/\kv.length<=800/\seen.length<=800 then match k4 g ((nd,0)::r) (pF kv nd r.length)with
    |U (U l,t,k)=>k7 g h l t k (seen++[nd])
    |U (af,_,k)=>U (.inr (seen++[nd],k))
    |af=>af
   else af):=J
theorem TR:ql g h (nd::o) seen kv=(if nd∈seen then ql g h o seen kv else match k7 g h nd [] kv seen with
  |U (.inl c)=>U (U c)
  |U (.inr (e,k))=>ql g h o e k
  |af=>af):=J
end
noncomputable def AD:Y (ai×fe):=[("self",.local),("n2i",.local),("stack",.local),("itstack",.local),("seen",.local),("node2stacki",.local),("node",.local),("set",.globalImplicit),("iter",.globalImplicit),("len",.globalImplicit),("StopIteration",.globalImplicit)]
noncomputable def fk:Y ai:=["self","n2i","stack","itstack","seen","node2stacki","node"]
noncomputable abbrev zU:aY b9:=pB 5 (cZ (fm 7 8))
noncomputable abbrev rG:aY b9:=pB 1 (i4 zU)
noncomputable abbrev zV:aY b9:=pB 1 (k9 rG)
noncomputable def whO(s:aY b9):Y b9:=(mQ s).2.2.2.1
noncomputable def E9(G:SG)(l:Y aa):ay:=match G.bU.find? (λQ=>decide (Q.key=l))with|U Q=>Q.su|af=>0
noncomputable def rK(G:SG)(r:Rs):Y (ay×aa):=(r.map λx=>(E9 G x.1,x.2)).reverse
noncomputable def mz(G:SG)(r:Rs)(P:Kv)(seen:Y (Y aa))(L:Y aa):Y (AV Ob):=
 [.obj (.b6 2 G),.t (.bY (.ref G.D)),.own (((r.map (·.1)).reverse).map .str),.obj (.c3 (rK G r)),.obj (.set seen),.obj (.kO P),.t (.str L)]
theorem MP{Q:Nd}{u:aa}(l:G.kn)(d:G.bU[u]?=U Q):E9 G Q.key=Q.su:=by
 refine dS (pY d) λF H e y=>?_
 delta SG.kn at l
 simp only [e,dO]at l;refine gg (f9.mp l) λy h T=>?_
 delta E9
 rw [e,Ou];have:F.find? (λa=>decide (a.key=Q.key))=af:=by
  rw [Gz];intro g c;simp only [decide_eq_true_eq];exact(T g.key (fG c) Q.key (.head _))
 rw [this];simp
structure Fast(B:br Ob)(prog:bZ)(w:bR)(cl:Cl)(G:SG):Prop where
 sm:(G.D==sysModules)=ak
 kn:G.kn
 st:ro (qC prog w cl 2 G) B.bO
section
variable{c:Cx Ob}
theorem Fast.map(K:Fast c.B c.prog c.w B G):c.B.bO.DictOf (uM c.prog c.w) G.D (cV G):=aA (K.st (G.D,j3 c.prog c.w G) (by simp [qC,gQ])) λo L p=>p _ _ L
theorem Fast.list(K:Fast c.B c.prog c.w B G)(h:Q∈G.bU):tn c n k m Q.su Q.succ:=Mw λe g=>aA (K.st (Q.su,fC Q.succ) (by simp only [qC,gQ,e8,cQ,eG];exact .inr (.inr (aR Q h J)))) λo L p=>(aR o (g _ _ L) p)
theorem Fast.info(K:Fast c.B c.prog c.w B G)(h:Q∈G.bU):rm c n k m (uX B Q):=Mw λe g=>by
 have z:∀s∈j0 B.N Q,s∈qC c.prog c.w B 2 G:=λs f=>fV _ (qZ.mpr (aR Q h f));exact aA (K.st (Q.i,pT B.N Q) (z _ (.head _))) λt v O=>aA (K.st (Q.id,λy=>True) (z _ (.tail _ (.head _)))) λH F y=>⟨(aR t (g _ _ v) O),H,g _ _ F⟩
theorem acv{st:b9}{rest:Y b9}(R:ES c n k m st g .brk)(q:g=H):EX c n k m (st::rest) H .brk:=q▸ux R
theorem L8(z:bJ c.B c.prog c.w B)(j:jI c A)(F:Fm c.env fk fk.length AD)(K:Fast c.B c.prog c.w B G){seen:Y _}:∀(r:Rs)(P:Kv)(L:Y aa){o:aY _}{t:Rs}{k:Kv},k4 (jC G.al) r P=U (o,t,k)->(∀x∈r,∃Q∈G.bU,Q.key=x.1)->r.length<=801->P.length<=801->
  EW c fk fk.length (jD zV) (k9 zV) (whO zV) r.length (mz G r P seen L) (mz G t k seen (o.getD L)) (match o with|U _=>.next|af=>.brk):=λg=>g.rec
 (λP L o t k h y y y=>by
  cases h
  exact kE (By F 2 J J (A7 (iY _) J)) (ux FI))
 (λ(s,p)r f P L o t k h a R w=>by
  refine aA (a (s,p) gj) λQ e l=>?_;subst l;refine bC (qa e) λH d=>?_;have q:=Bk K.kn d;have i:=MP K.kn d;have cond:EC c fk fk.length _ (jD zV) (mz G ((Q.key,p)::r) P seen L) ae:=By F 2 J J (A7 (by simp;exact dg 0 (.v 0) (.n 999999) (.a (.v 0) (.n 1)) (.n 801) J [_] R) (by simp));have h:=L7.symm.trans h;rw [q]at h;have b:rK G ((Q.key,p)::r)=rK G r++[(Q.su,p)]:=by simp [rK,i]
  have n:(((Q.key,p)::r).map (·.1)).reverse=(r.map (·.1)).reverse++[Q.key]:=by simp
  cases O:Q.succ[p]? with
  |some X=>
   simp only [O]at h;cases h;refine BD cond (acv (acq z F 3 6 J (by rw [<-b];rfl) J (eH _) (K.list e) O J) ?_);simp [mz,rK,i]
  |none=>
   rw [O]at h;dsimp only at h
   split at h
   .rename_i v;refine bC (fc.mp v) λE u=>lj cond (cX (acp (st:=(r.map (·.1)).reverse) z j F 3 2 5 10 J (by rw [<-b];rfl) J (n▸J) J J (by decide) J (K.list e) O u (by simp;exact dg 0 (.v 0) (.n 900) (.a (.v 0) (.n 1)) (.n 801) J [_] R) (aJ w (aC J)) (by simp [rK];exact dg 0 (.v 0) (.n 900) (.a (.v 0) (.n 1)) (.n 801) J [_] R) J J J) ?_)
     (f _ L h (λx m=>a x (fF _ m)) (gm ‹_›) (aJ (BP _ _) w))
    exact J
   .exact aU J h)
end
section
theorem Nv(F:Fm c.env n k o)(i u:aa)(d:o[u]?=U (("len":ai),.globalImplicit))(j:n[i]?=U x)(H:m[i]?=U (.own l))(r:d_ l.length=ae):EE c n k m (.Call (.Name "len" p) [.Name x v] [] aj) m (.int l.length):=by
 constructor;rintro az f s g R⟨y,E,X,S⟩G;refine bM (c.bi 0 "len" (.builtin "len") J) λh e=>rE (S.lend j H) λaq au Q w T dl a=>lD (nA c.G y S.base (F.kn u d nofun) h e (F.kg u d) (j_ (J) (uO (nY (ez (ew y S.ns Q (kJ (L6 dl r s _ _ w λO L P A t=>bC (nq t) λao b=>?_))) (F.eJ j))))));subst b;exact aA (a _ _ A) λq z B=>G O q _ A.same z ⟨y,E,X,B⟩ (.int _ _)
theorem NU(h:EC c n k m e g ae)(w:EX c n k g L H (.ret r)):EW c n k e L i a m H (.ret r):=.ret h.1 w.1
theorem Nn(R:EA c n k m f w g)(h:EX c n k g L H (.ret r)):i9 c n k f L (w::o) m H (.ret r):=.ret R.1 h.1
theorem abS(R:EA c n k m f w g)(h:EX c n k g L H .cont)(t:i9 c n k f L o H j A):i9 c n k f L (w::o) m j A:=.go R.1 h.1 (.inr J) t
end
noncomputable def Eg(g:aa)(l:Y b9):b9:=(dZ g l).getD (.Pass default)
theorem RA(X:α->H)(lo A:aY aF)(l:Y α):cut lo A (l.map X)=(cut lo A l).map X:=by
 delta cut
 simp [BQ]
noncomputable abbrev gU(a:aa):T:=.str [a]
noncomputable abbrev sL(l:Y aa):T:=.list (l.map gU)
noncomputable abbrev nM(B:aa×Y aa):T:=.tup [gU B.1,sL B.2]
theorem UT{e:Type} [DecidableEq e](A:e->T)(i:∀a b,fb 6 (A a) (A b)=U (decide (a=b)))(x:e):∀l:Y e,x∈l->xH (A x) (l.map A)=U (l.idxOf x):=λs=>s.rec
 (λq=>bE q dP)
 (λa r f q=>by
  show(fb 6 _ _).bind _=_;rw [i]
  by_cases h:a=x
  .subst h;simp
  .rw [decide_eq_false h,adi,beq_false_of_ne h,f ((cQ.mp q).resolve_left λq=>h q.symm)];rfl)
theorem Ro(l:Y T):gp .NotEq (.list l) (.list [])=U (!l.isEmpty):=by cases l<;>rfl
theorem Rm(l:Y T):gp .Eq (.list l) (.list [])=U l.isEmpty:=by cases l<;>rfl
noncomputable def rP(b:Y aa)(B:aa×Y aa):bl:=(B.2.filter λi=>!decide (i∈b.take (b.idxOf B.1))).isEmpty
noncomputable def jd(b:Y aa)(A:Y (aa×Y aa)):bl:=A.all (rP b)
section
variable{c:Cx O}
theorem FG(F:Fm c.env n k o)(i u:aa)(j:n[i]?=U x)(A:i<k)(s:n[u]?=U y)(d:u<k):EA c n k m (.Tuple [.Name x e,.Name y L] r p) (.tup [q,f]) ((m.set i (.t q)).set u (.t f)):=
 ⟨CL c.R.handled j A (F.loc j A) s d (F.loc s d)⟩
noncomputable def AA:Y (ai×fe):=[("order",.local),("waits",.local),("sign",.local),("ahead",.local),("early",.cell),("ord",.globalImplicit)]
noncomputable def uo:Y ai:=["order","waits","sign","ahead","early"]
noncomputable abbrev Dz:Y b9:=i4 (dZ 0 (cZ (bz 26)))
theorem JW(F:Fm c.env uo 5 AA)(r:s∈b)(L:b.length<=1000):
  ES c uo 5 [.t (nL b),j,.t (gU s),.t (sL h),X] (e5 Dz 0) [.t (nL b),j,.t (gU s),.t (sL h),.t (nL (b.take (b.idxOf s)))] .next:=
 dD F 4 J (eH _) (j8 (zv F 0 J J) oR (iB (ab6 (zv F 0 J J) (BC F 5 J (zv F 2 J J) J) J J J J (Dk s b) (UT _ MT s b r) (by rw [b5];exact aJ L (aC J))))
  (r8 (by rw [b5];exact aJ L (aC J)) ((xh _ _).trans wm.symm))) J
theorem JX(F:Fm c.env uo 5 AA){s:aa}(Q:h.length<=1000):
  EC c uo 5 [.t (nL b),j,.t (gU s),.t (sL h),.t (nL (b.take (b.idxOf s)))] (oj (U (e5 Dz 1))) [.t (nL b),j,.t (gU s),.t (sL h),.t (nL (b.take (b.idxOf s)))] (!rP b (s,h)):=by
 refine gY (zC (zf (uv "one" ["early"] [4] gU _ F J J J (lg (zv F 3 J J)) J (λa S B d=>zC (BC S 2 J (zv S 0 J J) J) (zv S 1 J J) (CD B _) J) (λa S B d y=>zv S 0 J J) J (aJ Q (aC J)))) (oQ cR J) (Ro _) J) ?_;exact aL _ (GB)
theorem Vl(F:Fm c.env uo 5 AA)(L:b.length<=1000):∀(A:Y _)(d m X:AV O),(∀B∈A,B.1∈b/\B.2.length<=1000)->
  ∃s p o,i9 c uo 5 (mu (dZ 0 (cZ (bz 26)))) Dz (A.map nM) [.t (nL b),a1,d,m,X] [.t (nL b),a1,s,p,o] (if jd b A then .next else .ret (.bool ak)):=λi=>i.rec
 (λd m X y=>Dc d m X lZ)
 (λB A f d m X h=>by
  have R:=h B (.head _);cases l:rP b B with
  |true=>
   refine CK (f (.t (gU B.1)) (.t (sL B.2)) (.t (nL (b.take (b.idxOf B.1)))) λv e=>h v (.tail _ e)) λs p o r=>Dc s p o ?_;simp only [show jd b (B::A)=jd b A by unfold jd;refine aZ (Oo) ?_;rw [l,wd]];exact mU (FG F 2 3 J (cE _ _) J (cE _ _)) (zx (JW F R.1 L) (cX (cJ (b:=ak) (gY (JX F R.2) (by rw [l];rfl)) eS) J)) r
  |false=>
   refine Dc (.t (gU B.1)) (.t (sL B.2)) (.t (nL (b.take (b.idxOf B.1)))) ?_;simp only [show jd b (B::A)=ak by delta jd;refine aZ (Oo) ?_;rw [l,Bool.false_and]]
   exact Nn (FG F 2 3 J (cE _ _) J (cE _ _)) (zx (JW F R.1 L) (fU (cJ (b:=ae) (gY (JX F R.2) (by rw [l];rfl)) (fU (iS (zb ak)))))))
end
section
variable{y:Ly O}
theorem abh(E:y.D "_law_keeps" 26)(L:b.length<=1000)(i:∀B∈A,B.1∈b/\B.2.length<=1000):
  y.F (g+1) "_law_keeps" [nL b,.list (A.map nM)] (.bool (jd b A)):=by
 refine y.fn 26 uo AA E J J J (dQ J) (λu code x=>tB λh h=>J) λe X a n F=>CK (Vl (c:=y.c e X a g n) (a1:=.t (.list (A.map nM))) F L A .un .un .un i) λs p o r=>?_;cases l:jd b A with
 |true=>rw [l]at r;exact⟨_,zx (kC (lg (zv F 1 J J)) r J J) (fU (iS (zb ae)))⟩
 |false=>rw [l]at r;exact⟨_,fU (kC (lg (zv F 1 J J)) r J J)⟩
end
section
variable{c:Cx O}{text name:Y aa}{k at' x a:aa}
noncomputable def qu:Y (ai×fe):=[("text",.local),("name",.local),("k",.local),("at",.local),("barred",.local),("len",.globalImplicit)]
noncomputable def gw:Y ai:=["text","name","k","at","barred"]
noncomputable abbrev k8:Y b9:=k9 (dZ 1 (cZ (bz 25)))
noncomputable abbrev fZ(text name:Y aa)(k at':aa)(o:AV O):Y (AV O):=[.t (.str text),.t (.str name),.t (.int k),.t (.int at'),o]
theorem ny{l:Y aa}{i:aa}(H:l.length<=100000)(h:l[i]?=U a):i<2^60:=eU (ck.mp h).1 (aJ H (aC J))
theorem Bo(F:Fm c.env gw 5 qu)(H:text.length<=100000)(l:name.length<=100000)(R:text[k+1]?=U b)(i:(b==94)=bd)(w:text[k+(1+bd.toNat)]?=U m)(X:(m==92)=e)
  (t:text[k+(1+bd.toNat)+e.toNat]?=U a)(f:text[k+(1+bd.toNat)+e.toNat+1]?=U 93)(j:name[at']?=U x)(s:((a==x)==bd)=!z):
  EX c gw 5 (fZ text name k at' o) (vo (U (e5 k8 0))) (fZ text name (if z then k+(1+bd.toNat)+e.toNat+2 else k+(1+bd.toNat)+e.toNat) at' (.t (.bool bd))) (if z then .next else .ret (.bool ak)):=by
 refine zx (dD F 4 J (eH _) (sy (ee (zv F 0 J J) (dw (zv F 2 J J) (zi 1) (lT J)) (iP (ny H R) R) J) (zs [94] (cB ['^'])) (nG (by simpa using i)) J) J)
  (zx (p6 (τ:=.int ((k+(1+bd.toNat):aa):aF)) F 2 J (cE _ _) J (FN (j6 (zv F 4 J J) J λy=>J) ((1+bd.toNat:aa)) (by cases bd<;>rfl)) (pX J))
  (zx (p6 (τ:=.int ((k+(1+bd.toNat)+e.toNat:aa):aF)) F 2 J (cE _ _) J (FN (zC (ee (zv F 0 J J) (zv F 2 J J) (iP (ny H w) w) J) (zs [92] (cB ['\\'])) (nG (by simpa using X)) J) (e.toNat) (by cases e<;>rfl)) (pX J)) ?_))
 have h:EC c gw 5 (fZ text name _ at' _) (oj (U (e5 (vo (U (e5 k8 0))) 3))) _ (!z):=
  gY (ur (zC (sy (ee (zv F 0 J J) (zv F 2 J J) (iP (ny H t) t) J) (ee (zv F 1 J J) (zv F 3 J J) (iP (ny l j) j) J) (nG (by simp)) J) (zv F 4 J J) ((J:gp .Eq (.bool _) (.bool _)=U ((a==x)==bd))) J) λy=>
   ur (zC (ee (zv F 0 J J) (dw (zv F 2 J J) (zi 1) (lT J)) (iP (ny H f) f) J) (zs [93] (cB [']'])) (qD (d:=ak) J) J) λy=>Nj) (by simp only [s,Gi,Gi])
 cases z with
 |true=>exact zx (cJ (b:=ak) h eS) (cX (p6 F 2 J (cE _ _) J (zi 2) (pX J)) J)
 |false=>exact fU (cJ (b:=ae) h (fU (iS (zb ak))))
theorem MY(F:Fm c.env gw 5 qu)(H:text.length<=100000)(f:name.length<=100000)(v:text[k]?=U h)(n:h∉[40,41,42,43,63,123,124,94,36])(X:(h==92)=e)(l:h≠46)
  (t:text[k+e.toNat]?=U a)(j:name[at']?=U x)(q:(a==x)=z):
  EX c gw 5 (fZ text name k at' o) (kr (U (e5 k8 0))) (fZ text name (if z then k+e.toNat+1 else k+e.toNat) at' o) (if z then .next else .ret (.bool ak)):=by
 have b:EC c gw 5 (fZ text name _ at' o) (oj (U (e5 (kr (U (e5 (kr (U (e5 k8 0))) 0))) 2))) _ _:=
  zC (ee (zv F 0 J J) (zv F 2 J J) (iP (ny H t) t) J) (ee (zv F 1 J J) (zv F 3 J J) (iP (ny f j) j) J) (qD (d:=!z) (by simp only [<-q];simp)) J
 have st:∀A s,EX c gw 5 (fZ text name _ at' o) _ _ A->
   EX c gw 5 (fZ text name k at' o) (kr (U (e5 (kr (U (e5 k8 0))) 0))) (fZ text name s at' o) A:=λA s r=>
  zx (cJ (zC (ee (zv F 0 J J) (zv F 2 J J) (iP (ny H v) v) J) (zs [40,41,42,43,63,123,124,94,36] (cB ['(',')','*','+','?','{','|','^','$'])) (EH (decide_eq_false n)) J) eS)
   (zx (p6 F 2 J (cE _ _) J (FN (zC (ee (zv F 0 J J) (zv F 2 J J) (iP (ny H v) v) J) (zs [92] (cB ['\\'])) (nG (by simpa using X)) J) (e.toNat) (by cases e<;>rfl)) (pX J)) r)
 have i:EC c gw 5 (fZ text name k at' o) (oj (U (e5 (kr (U (e5 k8 0))) 0))) _ ak:=
  zC (ee (zv F 0 J J) (zv F 2 J J) (iP (ny H v) v) J) (zs [46] (cB ['.'])) (nG (by simp [l])) J
 cases z with
 |true=>exact cX (cJ i (st _ _ (zx (cJ b eS) (cX (p6 F 2 J (cE _ _) J (zi 1) (pX J)) J)))) J
 |false=>exact fU (cJ i (st _ _ (fU (cJ b (fU (iS (zb ak)))))))
theorem aaT(F:Fm c.env gw 5 qu)(H:text.length<=100000)(v:text[k]?=U 46):
  EX c gw 5 (fZ text name k at' o) (kr (U (e5 k8 0))) (fZ text name (k+1) at' o) .next:=
 cX (cJ (zC (ee (zv F 0 J J) (zv F 2 J J) (iP (ny H v) v) J) (zs [46] (cB ['.'])) (nG J) J) (cX (p6 F 2 J (cE _ _) J (zi 1) (pX J)) J)) J
theorem uf(F:Fm c.env gw 5 qu)(H:text.length<=100000)(v:text[k]?=U h)(t:(h==91)=b):EC c gw 5 (fZ text name k at' o) (oj (U (e5 k8 0))) (fZ text name k at' o) b:=
 zC (ee (zv F 0 J J) (zv F 2 J J) (iP (ny H v) v) J) (zs [91] (cB ['['])) (nG (by simpa using t)) J
end
noncomputable abbrev Pc:=aY (bl×aa)
noncomputable def ig(A:aa):Y aa:=if A∈[45,92,38]then [92,A]else [A]
noncomputable def eZ:Pc->Y aa
 |af=>[46]
 |U (ae,A)=>91::94::(ig A++[93])
 |U (ak,a)=>kR a
noncomputable def r3:Pc->aa->bl
 |af,_=>ae
 |U (b,a),x=>(a==x)!=b
noncomputable def lW:Y Pc->Y aa->bl
 |p::n,x::r=>r3 p x&&lW n r
 |_,_=>ae
noncomputable def vW:Y aa:=[46,42,41,92,90]
noncomputable def nK(n:Y Pc):Y aa:=z6++((n.map eZ).flatten++vW)
section
variable{c:Cx O}{text name:Y aa}{at' x:aa}
noncomputable def Hl(c:Cx O)(text name:Y aa)(k at':aa)(o:AV O)(d:aa)(z:bl):Prop:=
 (z=ae->∃b,EX c gw 5 (fZ text name k at' o) k8 (fZ text name (k+d) (at'+1) b) .next)/\(z=ak->∃S,EX c gw 5 (fZ text name k at' o) k8 S (.ret (.bool ak)))
theorem turned(F:Fm c.env gw 5 qu){z b:bl}(h:EC c gw 5 (fZ text name k at' o) (oj (U (e5 k8 0))) (fZ text name k at' o) b)
  (r:EX c gw 5 (fZ text name k at' o) (if b then vo (U (e5 k8 0))else kr (U (e5 k8 0))) (fZ text name (if z then S else k₂) at' y) (if z then .next else .ret (.bool ak)))(e:S=k+d):Hl c text name k at' o d z:=by
 subst e;refine⟨λq=>?_,λq=>?_⟩
 .subst q;exact⟨y,zx (cJ h r) (cX (p6 F 3 J (cE _ _) J (zi 1) (pX J)) J)⟩
 .subst q;exact⟨_,fU (cJ h r)⟩
theorem aaV(F:Fm c.env gw 5 qu)(p:Pc)(h:text=m++(eZ p++d))(H:text.length<=100000)(i:name.length<=100000)(j:name[at']?=U x):Hl c text name m.length at' b4 (eZ p).length (r3 p x):=by
 cases p with
 |none=>exact turned F (k₂:=0) (uf F H (eX 0 h (cS _)) J) (aaT F H (eX 0 h (cS _))) J
 |some q=>
  obtain⟨l,a⟩:=q;have b:=by show((a==x)==l)=!(a==x)!=l;cases a==x<;>cases l<;>rfl
  cases l with
  |true=>
   by_cases u:a∈[45,92,38]
   .have e:eZ (U (ae,a))=[91,94,92,a,93]:=by show 91::94::(ig a++[93])=_;delta ig;rw [bx u];rfl
    rw [e]at h⊢;exact turned F (b:=ae) (uf F H (eX 0 h (cS _)) J) (Bo F (bd:=ae) H i (eX 1 h (aC J)) J (eX 2 h (aC J)) J (eX 3 h (aC J)) (eX 4 h (aC J)) j b) J
   .have e:eZ (U (ae,a))=[91,94,a,93]:=by show 91::94::(ig a++[93])=_;delta ig;rw [bA u];rfl
    rw [e]at h⊢;exact turned F (b:=ae) (uf F H (eX 0 h (cS _)) J) (Bo F (bd:=ae) H i (eX 1 h (aC J)) J (eX 2 h (aC J)) (beq_false_of_ne λq=>u (by simp only [q];decide)) (eX 2 h (aC J)) (eX 3 h (aC J)) j b) J
  |false=>
   by_cases O:a∈[42,63,91]
   .by_cases n:a=91
    .have e:eZ (U (ak,a))=[91,92,a,93]:=by subst n;rfl
     rw [e]at h⊢;exact turned F (uf F H (eX 0 h (cS _)) J) (Bo F (bd:=ak) (e:=ae) H i (eX 1 h (aC J)) J (eX 1 h (aC J)) J (eX 2 h (aC J)) (eX 3 h (aC J)) j b) J
    .have e:eZ (U (ak,a))=[91,a,93]:=by show kR a=_;unfold kR;refine aZ (bx O) ?_;rw [bA n]
     rw [e]at h⊢;have f:(a==94)=ak:=beq_false_of_ne λq=>by rw [q]at O;exact bE O (by decide)
     have o:(a==92)=ak:=beq_false_of_ne λq=>by rw [q]at O;exact bE O (by decide)
     exact turned F (b:=ae) (uf F H (eX 0 h (cS _)) J) (Bo F (bd:=ak) (e:=ak) H i (eX 1 h (aC J)) f (eX 1 h (aC J)) o (eX 1 h (aC J)) (eX 2 h (aC J)) j b) J
   .have k:eZ (U (ak,a))=ie a:=by show kR a=_;unfold kR;exact(bA O)
    have t:(a==x)=r3 (U (ak,a)) x:=by show _=((a==x)!=ak);cases(a==x)<;>rfl
    by_cases r:a∈lV
    .have e:eZ (U (ak,a))=[92,a]:=by refine aZ (k) ?_;unfold ie;exact(bx r)
     rw [e]at h⊢;exact turned F (b:=ak) (uf F H (eX 0 h (cS _)) J) (MY F (e:=ae) H i (eX 0 h (cS _)) (by decide) J (by decide) (eX 1 h (aC J)) j t) J
    .have e:eZ (U (ak,a))=[a]:=by refine aZ (k) ?_;unfold ie;exact(bA r)
     rw [e]at h⊢;have v:∀s∈lV,a≠s:=λs g q=>r (q▸g);exact turned F (b:=ak) (uf F H (eX 0 h (cS _)) (beq_false_of_ne (v 91 (by decide)))) (MY F (e:=ak) H i (eX 0 h (cS _)) (λq=>r ((show∀s∈[40,41,42,43,63,123,124,94,36],s∈lV by decide) a q)) (beq_false_of_ne (v 92 (by decide))) (v 46 (by decide)) (eX 0 h (cS _)) j t) J
end
theorem IQ(p:Pc):0<(eZ p).length:=by
 cases p with
 |none=>exact cS _
 |some q=>obtain⟨b,a⟩:=q;cases b with
  |true=>exact cS _
  |false=>show 0<(kR a).length;delta kR ie;split<;>split<;>exact cS _
section
variable{c:Cx O}{text name:Y aa}
theorem MZ(F:Fm c.env gw 5 qu){m rest:Y aa}{a:aa}{b:bl}(h:text=m++rest)(H:text.length<=100000)(T:0<rest.length)(t:(rest==vW)=!b):
  EC c gw 5 (fZ text name m.length a o) (jD (dZ 1 (cZ (bz 25)))) (fZ text name m.length a o) b:=by
 have f:m.length<text.length:=by simp only [h,dM];exact OO T
 have d:text.drop m.length=rest:=by simp only [h,List.drop_left]
 exact gY (gX (zC (zv F 2 J J) (Nx F 5 J (zv F 0 J J) (eE (aJ H (aC J))) J) (mO (decide_eq_true (jF.mpr f))) J) λy=>
  gX (zC (j8 (zv F 0 J J) (iB (zv F 2 J J)) oR (qE (aJ H (aC J)) ((xg _ _).trans d))) (zs [46,42,41,92,90] (cB ['.','*',')','\\','Z'])) (qD (d:=b) (by simp only [show([46,42,41,92,90])=vW from J,t,Bool.not_not])) J) λy=>nQ) (by simp only [uz,wd])
theorem aaU(F:Fm c.env gw 5 qu)(H:text.length<=100000)(l:name.length<=100000):∀(n:Y Pc)(m j r:Y aa)(o:AV O),text=m++((n.map eZ).flatten++vW)->name=j++r->n.length<=r.length->
  (lW n r=ae->∃b,EW c gw 5 (jD (dZ 1 (cZ (bz 25)))) k8 [] n.length (fZ text name m.length j.length o) (fZ text name (m++(n.map eZ).flatten).length (j.length+n.length) b) .next)/\
  (lW n r=ak->∃S,EW c gw 5 (jD (dZ 1 (cZ (bz 25)))) k8 [] n.length (fZ text name m.length j.length o) S (.ret (.bool ak))):=λk=>k.rec
 (λm j r o a z T=>by
  refine⟨λy=>⟨o,?_⟩,λq=>cW J q.symm⟩;simp only [GG,List.flatten_nil,nV]
  exact kE (MZ F a H (aC J) J) eS)
 (λp n f m j r o a z T=>by
  cases r with
  |nil=>exact nomatch T
  |cons x r=>
   have h:text=m++(eZ p++((n.map eZ).flatten++vW)):=by refine aZ a ?_;simp
   have e:EC c gw 5 (fZ text name m.length j.length o) (jD (dZ 1 (cZ (bz 25)))) (fZ text name m.length j.length o) ae:=by
    refine MZ F h H (by rw [dM];exact eU (IQ p) (fH _ _)) (beq_false_of_ne λq=>?_);have:=aL BN q;simp only [dM,dM]at this;exact q1 (iH (cE _ _) (Nat.lt_add_of_pos_left (IQ p))) this
   have w:=aaV F p (b4:=o) h H l (by rw [z];exact tw _ _);have i:=λb=>f _ (j++[x]) r b (by refine aZ h ?_;rw [kG]) (by refine aZ z ?_;rw [kG];rfl) (uG T);cases L:r3 p x with
   |true=>
    refine bC (w.1 L) λb s=>?_;rw [<-dM]at s;refine⟨λq=>?_,λq=>?_⟩
    .refine bC ((i b).1 (by rw [<-q];show _=(r3 p x&&lW n r);rw [L,wd])) λQ u=>⟨Q,?_⟩;rw [dM (as:=j),kG]at u;rw [show j.length+(p::n).length=j.length+[x].length+n.length by rw [l5,m4,List.length_singleton,l6 1]];exact lj e s u
    .refine bC ((i b).2 (by rw [<-q];show _=(r3 p x&&lW n r);rw [L,wd])) λS u=>?_;rw [dM (as:=j)]at u;exact⟨S,lj e s u⟩
   |false=>
    exact bC (w.2 L) λS s=>⟨λq=>by have q:(r3 p x&&lW n r)=ae:=q;rw [L]at q;exact cW J q,λq=>⟨S,NU e s⟩⟩)
end
section
variable{y:Ly O}
theorem abo(E:y.D "_law_takes" 25)(H:(nK n).length<=100000)(c:G.length<=100000)(O:n.length<=G.length):y.F (g+1) "_law_takes" [.str (nK n),.str G] (.bool (lW n G)):=by
 refine y.fn 25 gw qu E J J J (dQ J) (λi code x=>tB λa a=>J) λe X B h F=>?_;have t:=aaU (c:=y.c e X B g h) F H c n z6 [] G .un J J O;have b:ES (y.c e X B g h) gw 5 [.t _,.t _,.un,.un,.un] (e5 (cZ (bz 25)) 0) (fZ (nK n) G 4 0 .un) .next:=z2c F 2 3 J (cE _ _) J (cE _ _) (zr (zi 4) (zr (zi 0) cR J) J) J
 cases l:lW n G with
 |true=>
  refine bC (t.1 l) λs u=>⟨_,zx b (zx (jT u) (fU (iS (sy (dw (j8 (zv F 0 J J) oR (iB (zi (4))) (qE (r:=z6) (aJ H (aC J)) (xh _ _))) (j8 (zv F 0 J J) (iB (zv F 2 J J)) oR (qE (r:=vW) (aJ H (aC J)) ((xg _ _).trans ?_))) J) (zs [40,63,115,58,46,42,41,92,90] (cB ['(','?','s',':','.','*',')','\\','Z'])) J J))))⟩;unfold nK;rw [<-kG,List.drop_left]
 |false=>
  refine bC (t.2 l) λS u=>?_;exact⟨_,zx b (fU (jT u))⟩
end
section
variable{c:Cx O}{pat:Y aa}{acc:Y T}{i g:aa}
theorem Dd{l:Y aa}(O:l.length<=1000)(h:l[i]?=U a):i<2^60:=eU (ck.mp h).1 (aJ O (aC J))
theorem Fg(F:Fm c.env x9 13 n9)(O:pat.length<=1000){u:aa}(s:m[8]?=U (.t (.int u)))(n:m[6]?=U (.t (.int pat.length)))(v:m[0]?=U (.t (.str pat)))(Q:pat[u]?=U a)(h:e=⟨[d].toArray⟩)(t:decide (a=d)=b):
  EC c x9 13 m (.BoolOp .And [.Compare (.Name "j" p1) [.Lt] [.Name "n" p2] p3,.Compare (.Subscript (.Name "pat" z) (.Name "j" o) R) [.Eq] [.Constant (.str e) r f] q] p) m b:=
 gY (gX (zC (zv F 8 J s) (zv F 6 J n) (mO (decide_eq_true (jF.mpr (ck.mp Q).1))) J) λy=>gX (zC (ee (zv F 0 J v) (zv F 8 J s) (iP (Dd O Q) Q) J) (zs [d] h) (oJ t) J) λy=>nQ) (by simp only [uz,wd])
theorem Fi(F:Fm c.env x9 13 n9)(O:pat.length<=1000){u:aa}(s:m[8]?=U (.t (.int u)))(n:m[6]?=U (.t (.int pat.length)))(h:m[0]?=U (.t (.str pat)))(Q:pat[u]?=U a)(v:e=⟨[d].toArray⟩)(t:(!decide (a=d))=b):
  EC c x9 13 m (.BoolOp .And [.Compare (.Name "j" p1) [.Lt] [.Name "n" p2] p3,.Compare (.Subscript (.Name "pat" z) (.Name "j" o) R) [.NotEq] [.Constant (.str e) r f] q] p) m b:=
 gY (gX (zC (zv F 8 J s) (zv F 6 J n) (mO (decide_eq_true (jF.mpr (ck.mp Q).1))) J) λy=>gX (zC (ee (zv F 0 J h) (zv F 8 J s) (iP (Dd O Q) Q) J) (zs [d] v) (qD (d:=b) (by simp only [<-t,show([a]==[d])=decide (a=d)by rw [oU];simp])) J) λy=>nQ) (by simp only [uz,wd])
theorem Bp(F:Fm c.env x9 13 n9)(O:pat.length<=1000)(v:pat[i]?=U 91)(R:pat[i+1]?=U 33)(w:pat[i+2]?=U g)(t:pat[i+3]?=U 93)
  (k:EX c x9 13 (L9 pat acc (i+1) (.t (.str [91])) (.t (.int (i+3:aa))) L A P r) (kr (dZ 4 R9)) m .next):EX c x9 13 (L9 pat acc i e a L A P r) B9 m .next:=by
 have h:ES c x9 13 _ (e5 R9 4) m .next:=
  cJ (zC (zv F 8 J J) (zv F 6 J J) (yj (decide_eq_false (mY.mpr (jF.mpr ((ck.mp t).1))))) J) k
 refine yo F O v (cX (cJ (b:=ak) (zC (zv F 7 J J) (zs [42] (cB ['*'])) J J) (cX (cJ (b:=ak) (zC (zv F 7 J J) (zs [63] (cB ['?'])) J J) (cX (cJ (b:=ae) (zC (zv F 7 J J) (zs [91] (cB ['['])) J J)
  (zx (dD F 8 J (cE _ _) (zv F 5 J J) J) (zx (cJ (Fg F O J J J R (cB ['!']) J) (cX (dD F 8 J (cE _ _) (dw (zv F 8 J J) (zi 1) (lT (d:=(i+2:aa)) J)) J) J)) ?_))) J)) J)) J)
 by_cases u:g=93
 .subst u;exact zx (cJ (Fg F O J J J w (cB [']']) J) (cX (dD F 8 J (cE _ _) (dw (zv F 8 J J) (zi 1) (lT J)) J) J))
   (zx (jT (kE (n:=0) (Fi F O J J J t (cB [']']) J) eS)) (cX h J))
 .exact zx (cJ (Fg F O J J J w (cB [']']) (decide_eq_false u)) eS)
   (zx (jT (lj (n:=0) (Fi F O J J J w (cB [']']) (aL (!·) (decide_eq_false u))) (cX (dD F 8 J (cE _ _) (dw (zv F 8 J J) (zi 1) (lT (d:=(i+3:aa)) J)) J) J)
    (kE (Fi F O J J J t (cB [']']) J) eS))) (cX h J))
theorem Bq(F:Fm c.env x9 13 n9)(H:acc.length<=100000)(j:∀m,m[9]?=U (.t (.str h))->EE c x9 13 m pn m (.str (33::ig g)))(O:i+4<=1000):
  EX c x9 13 (L9 pat acc (i+1) (.t (.str [91])) (.t (.int (i+3:aa))) (.t (.str h)) A P r) ((kr (dZ 4 R9)).drop 2) (L9 pat (acc++[.str (eZ (U (ae,g)))]) (i+4) (.t (.str [91])) (.t (.int (i+3:aa))) (.t (.str (94::ig g))) A P r) .next:=by
 have b:ig g=[92,g]\/ig g=[g]:=by delta ig;split;exact .inl J;exact .inr J
 have Q:(ig g).length<=2:=by rcases b with e|e<;>rw [e]<;>exact aC J
 have R:∀l:Y aa,l.length<=1->(l++([94]++ig g)).length<=1000000:=λl H=>by rw [dM,dM];exact aJ (gk H (ly Q 1)) (aC J)
 have w:∀l:Y aa,l.length<=1->(l++([94]++ig g)++[93]).length<=1000000:=λl H=>by simp only [dM,dM,dM];exact aJ (wq (gk H (ly Q 1)) 1) (aC J)
 have e:eZ (U (ae,g))=[91]++(94::ig g)++[93]:=J
 refine zx (dD F 9 J (cE _ _) (j _ J) J) (zx (dD F 5 J (cE _ _) (dw (zv F 8 J J) (zi 1) (lT (d:=(i+4:aa)) J)) J)
  (cX (cJ (b:=ak) (sj (b:=ae) (j6 (zv F 9 J J) (by rcases b with e|e<;>rw [e]<;>rfl) λy=>J)) (cX (cJ (b:=ak) (zC (zv F 9 J J) (zs [33] (cB ['!'])) (nG (by rcases b with e|e<;>rw [e]<;>rfl)) J)
   (zx (cJ (b:=ae) (zC (ee (zv F 9 J J) (zi (0:aa)) (iP (a:=33) (aC J) J) J) (zs [33] (cB ['!'])) (oJ J) J)
    (cX (dD F 9 J (cE _ _) (dw (zs [94] (cB ['^'])) (j8 (zv F 9 J J) (iB (zi (1:aa))) oR (qE (r:=ig g) (jH (aJ Q (aC J))) (xg _ _))) (ua (by show 1+(ig g).length<=_;exact aJ (ly Q 1) (aC J)))) J) J))
    (cX (oN F 3 4 J J J (yw (zj (zs [91] (cB ['['])) (aC J) (zj (yv (zv F 9 J J) (R [] (aC J))) (R _ (aC J)) (zj (zs [93] (cB [']'])) (w _ (aC J)) yz))) (w _ (aC J))) J J J (eE (aJ H (aC J)))) J))) J)) J))
end
theorem TP(l:Y aa):∀(g:aa)(o:jo aa),(dF g l.toArray).foldl (·++·) o=o++(dF g l).flatten.toArray:=λd=>d.rec
 (λo=>J)
 (λg f o=>by
  simp only [m3,f,adv,BL]
  simp)
theorem WN(l:Y aa)(g:aa):Txt.mul ⟨l.toArray⟩ (g)=⟨(dF g l).flatten.toArray⟩:=by
 by_cases R:(g:aF)<1
 .have v:=Nat.lt_one_iff.mp (jF.mp R);subst v;exact bx R
 .refine aZ (bA R) ?_;have e:(⟨(dF g l.toArray).foldl (·++·) #[]⟩:ai)=⟨(dF g l).flatten.toArray⟩:=by simp only [TP];simp
  split
  .rename_i h;rcases acJ.mp h with h|h
   .have v:g=1:=Ol.mp (eq_of_beq h);subst v;simp
   .have v:l=[]:=wg (by simp only [str_len]at h;exact eq_of_beq h);subst v;simp
  .exact e
section
variable{c:Cx O}
theorem zsmul{g:aa}(R:EE c n k m P h (.str l))(w:EE c n k h dR H (.int g))(e:l.length<=1000)(a:g<=1000):EE c n k m (.BinOp P .Mult dR p) H (.str (dF g l).flatten):=by
 refine⟨λL f s Q A S G=>B_ (R.1 L f s _ _ S λt u d q i T o=>w.1 L u t _ _ T λr F b x z B E=>(bC (ja o) λy j=>?_))⟩;subst j;refine bC (nq E) λX j=>?_;subst j;refine SB.mul (mulOk_of 1000 1000 (by exact e) (mZ.mpr a) (uB (by decide) (jl g)) (aC J) (aC J)) λO v=>?_;rw [WN];exact G _ F _ ((q.trans x).trans (b_ _ _ J)) (i.trans z) (B.step (cg.tok B.ready _)) (.str _ _)
end
section
variable{c:Cx O}{pat:Y aa}{acc:Y T}{i g:aa}
theorem zJ(R:pat[i+1]?=U x)(w:pat[i+2]?=U g):cut (U ((i+1:aa):aF)) (U ((i+3:aa))) pat=[x,g]:=by
 simp only [CF,Gw,(adE i 3 1:i+3-(i+1)=2)];have a:=ck.mp R;have b:=ck.mp w;simp only [uC a.1,a.2,uC b.1,b.2];rfl
theorem Ff(F:Fm c.env x9 13 n9)(O:pat.length<=1000)(v:pat[i]?=U 91)(R:pat[i+1]?=U 33)(w:pat[i+2]?=U g)(t:pat[i+3]?=U 93)(u:g∈[33,93,94])(H:acc.length<=100000)
  (j:∀m,m[9]?=U (.t (.str [33,g]))->EE c x9 13 m pn m (.str [33,g])):
  EX c x9 13 (L9 pat acc i b s L A P r) B9 (L9 pat (acc++[.str (eZ (U (ae,g)))]) (i+4) (.t (.str [91])) (.t (.int (i+3:aa))) (.t (.str (94::ig g))) A P r) .next:=by
 have e:∀d,([33,93,94].all λx=>!qb x d)=ae->g≠d:=λd h a=>by
  have:=e7.mp h g u;rw [a,OK]at this;exact cW J this
 have k:92∉[33,g]:=λh=>(cQ.mp h).elim nofun λh=>e 92 J (cD.mp h).symm;have a:ig g=[g]:=bA λh=>by
  simp only [cQ,dP,or_false]at h;rcases h with h|h|h
  .exact e 45 J h
  .exact e 92 J h
  .exact e 38 J h
 exact Bp F O v R w t (zx (dD F 9 J (cE _ _) (j8 (zv F 0 J J) (iB (zv F 5 J J)) (iB (zv F 8 J J)) (qE (aJ O (aC J)) (zJ R w))) J)
  (zx (cJ (b:=ae) (zC (zs [45] (cB ['-'])) (zv F 9 J J) (aL U (by simp [(e 45 J).symm])) J) (cX (dD F 9 J (cE _ _) (FU (zv F 9 J J) (zs [92] (cB ['\\'])) (zs [92,92] (cB ['\\','\\'])) J J J J (occ_none k _ (cE _ _))) J) J))
   (Bq F H (λm h=>a.symm▸j m h) (aJ (GL ((ck.mp t).1)) O))))
end
noncomputable abbrev two(b q y f L:bW)(u F:Y bW)(d:g6)(w:fR):bW:=.ListComp b [⟨q,y,u,0⟩,⟨f,L,F,0⟩] d w
theorem Rt(b q y f L:bW)(u F:Y bW)(d:g6)(w:fR)(a o:aD)(B:cG):
  compTurn (two b q y f L u F d w) 0 a o B=(do
   standAt y.pos
   match<-pyNext a with
   |af=>pure (.done .next)
   |U v=>
    letOwnedTupleGo q a v
    assign q B v
    let mut z:=ae
    for c in u do
     if z then z<-isTrue c B (eval c B)
    if z then
     let x<-eval L B
     standAt L.pos
     let x<-foldedSetIterable L B x
     let _<-runOwn (.compStart (two b q y f L u F d w) 1 (<-holding [x] (pyIter x)) o B) B
    again (.compLoop (two b q y f L u F d w) 0 a o B)):=J
theorem Ru(b q y f L:bW)(u F:Y bW)(d:g6)(w:fR)(a o:aD)(B:cG):
  compTurn (two b q y f L u F d w) 1 a o B=(do
   standAt L.pos
   match<-pyNext a with
   |af=>pure (.done .next)
   |U v=>
    letOwnedTupleGo f a v
    assign f B v
    let mut z:=ae
    for c in F do
     if z then z<-isTrue c B (eval c B)
    if z then
     (do let _<-call (.builtin "list.append") [o,<-eval b B])
    again (.compLoop (two b q y f L u F d w) 1 a o B)):=J
noncomputable def CM(b q y f L:bW)(u F:Y bW)(d:g6)(w:fR)(o:aD)(B:cG):Sem Unit:=do
 let x<-eval L B
 standAt L.pos
 let x<-foldedSetIterable L B x
 let _<-runOwn (.compStart (two b q y f L u F d w) 1 (<-holding [x] (pyIter x)) o B) B
section
variable{prog:bZ}{w:bR}{A:cI}{R:Result->aT->Prop}{E:aD->aT->Prop}{it acc:aD}{env:cG}
theorem V6(v:E=notedBy (model prog w) A env λe O=>R (.error e) O):u0 prog w A R E (.compLoop (two b q y f L u F d h) 1 it acc env) f F (CO b acc env) it env:=DS v (Ru ..) J J J
theorem V5(v:E=notedBy (model prog w) A env λe O=>R (.error e) O):u0 prog w A R E (.compLoop (two b q y f L u F d h) 0 it acc env) q u (CM b q y f L u F d h acc env) it env:=DS v (Rt ..) (by delta CM;simp only [bind_assoc,pure_bind]) J J
end
theorem aQ.Ib(S:aQ H X L f B n k m E R h)(t:e.b=L.b)(A:∀b∈e.it,b∈L.it)(p:e.f0=L.f0)(a:e.lk=L.lk):aQ H X e f B n k m E R h:=by
 refine cps λi F=>?_;obtain⟨b,o,g,x⟩:=L;obtain⟨Q,j,s,l⟩:=e;obtain rfl:Q=b:=t;obtain rfl:s=g:=p;obtain rfl:l=x:=a;refine F ?_;exact{S with c3:=λb h=>S.c3 b (A b h)}
section
variable{B:br O}{prog:bZ}{w:bR}{A:cI}{ρ:Mk}{env:cG}{xs:Y ai}{k:aa}{elt:bW}
theorem aak
  (v:codeAny (model prog w) A (.compLoop (two elt q y f L u F d h) 1 a o env) n s)
  (e:wpAny (model prog w) A (pyIter a) (λi O=>codeAny (model prog w) A (.compLoop (two elt q y f L u F d h) 1 i o env) n O) (notedBy (model prog w) A env λx O=>n (.error x) O) s):
  codeAny (model prog w) A (.compStart (two elt q y f L u F d h) 1 a o env) n s:=by
 refine Pd ?_;refine wpAny_notedAt ?_;refine aE (Pn (wpAny_ite ?_))
 split
 .first
   |exact aE _
   |exact bD (Gg J v)
 .show wpAny _ _ (standAt L.pos>>=_) _ _ s;exact aE (kK (aE (i0 e (λi O T=>bD (Gg J T)) λ_ _ x=>x)))
end
section
variable{B:br O}{prog:bZ}{w:bR}{A:cI}{ρ:Mk}{env:cG}{xs:Y ai}{k:aa}{elt gv:bW}{ifs:Y bW}
theorem Si{E:ay}(dG:aB<=1000000)(dW:E∉e)(dU:c.lk=[])
  (iE:nf cz B prog w A ρ env xs k m u aN ef)(eT:mh B prog w A ρ env xs k G (wK B prog w A ρ env xs k elt) (λm s aS=>h_ B prog w A ρ env xs k m f s aS) ef aN bf bh)
  (eF:∀x,foldedSetIterable u env x=pure x)(e_:(∃x H,f=.Name x H)\/cz=ae/\∃iT jk H,f=.Tuple iT jk H):
  zh B prog w A ρ env xs k c E e (CM elt bu cf f u aK G aM aO (.ref E) env) P aB m bf bh:=by
 intro T aH gy fq d kF Q S aP cA cY c9 di;have dm:T.get? E=U (lo fq d):=by
  obtain⟨_,R,ao,S⟩:=S;obtain⟨X,j⟩:=fc.mp (aP E (.head _));exact j.trans ((S.kept E X ((gn (.head _)).trans j)).symm.trans cA)
 have F:(c.add (E::e) T).b E=U _:=(gn (.head _)).trans dm;have eL:=iE _ gy aH (λeM O=>wpAny (model prog w) A (do let _<-runOwn (.compStart (two elt bu cf f u aK G aM aO) 1 eM (.ref E) env) env) Q P O) P S λn cC fP gx i nR mV R ao fD aX a_ l bK i6 b7 g aG lq cH cK=>?_
 .exact aE (i0 eL (λcM n cN=>aE (kK (aE (g5 (eF cM) (aE (e9 (i0 cN (λy y x=>x) λy y x=>x))))))) λy y x=>x)
 have aI:=l.kept E _ F;have v:E∉i:=λq=>aU ((g E q).1.hb) F;have dz:E∉gx:=λq=>(aG E q).elim v λr=>r.elim (λr=>qx ((l.c3 E (fV _ (.head _))).2.1) r) λr=>qx ((l.c3 E (fV _ (.head _))).2.2.2) r;have dN:aQ B ρ ((c.add (E::e) T).add (E::i) n.heap) cC env xs k aN R ao n.heap:=by
  refine(l.enter (λb t=>(g b t).1) λb t=>(g b t).2).Ib (funext λb=>?_) (λb t=>?_) J J
  .by_cases q:b=E
   .subst q;exact(gn (.head _)).trans (aI.trans (F.symm.trans (fS v).symm))
   .by_cases r:b∈i
    .exact(gn (.tail _ r)).trans (gn r).symm
    .exact(fS λh=>(cQ.mp h).elim q r).trans (fS r).symm
  .rcases e8.mp t with h|h
   .rcases cQ.mp h with rfl|h
    .exact iX _ (fV _ (.head _))
    .exact fV _ h
   .exact iX _ h
 have p:=λb t=>fc.mp (aP b t);have z:∀b∈i,b∉E::e:=λb t q=>by
  obtain⟨o,L⟩:=p b q;exact aU (g b t).1.hb ((gn q).trans L)
 have eY:∀b∈e,∀o,aH.heap.get? b=U o->T.get? b=U o:=λb t o a=>by
  obtain⟨_,R,ao,S⟩:=S;obtain⟨X,j⟩:=p b (.tail _ t);exact j.trans ((S.kept b X ((gn (.tail _ t)).trans j)).symm.trans a)
 have bj:codeAny (model prog w) A (.compLoop (two elt bu cf f u aK G aM aO) 1 (.ref fP) (.ref E) env) (λr O=>match r with|.ok jU=>Q () O|.error a=>cameBackBy (model prog w) A env P a O) n:=by
  refine CE (hI:=c.add (E::e) T) (M:=aB) a_ (V6 J) (λ{m bf aS}aq=>?_) bK i6 b7 aG dz v cH cK e_ c9 dN aI (cY.mono aX) eT (λO bw bB aW gz gA aj mW q gZ bQ bV iD bF=>?_) dU
  .obtain⟨p9,rfl,aq⟩:=aq;exact IL (aJ dG (by decide)) v aq
  .have au:∀b∈e,∀o,T.get? b=U o->O.heap.get? b=U o:=λb t o a=>bQ.kept b o ((fS λh=>(cQ.mp h).elim (λ(r:b=E)=>dW (r▸t)) λr=>z b r (.tail _ t)).trans ((gn (.tail _ t)).trans a));have bX:∀b∈E::e,(O.heap.get? b).isSome=ae:=bL (dc bV) λb t=>by
    obtain⟨o,L⟩:=p b (.tail _ t);exact dc (au b t o L)
   have iC:aQ B ρ ((c.add (E::e) O.heap).add i O.heap) bw env xs k bh bB aW O.heap:=by
    refine bQ.Ib (funext λb=>?_) (λb t=>?_) J J
    .by_cases r:b∈i
     .exact(gn r).trans (gn (.tail _ r)).symm
     .by_cases q:b=E
      .subst q;exact(fS r).trans ((gn (.head _)).trans (gn (.head _)).symm)
      .have d:b∉E::i:=λh=>(cQ.mp h).elim q r
       by_cases s:b∈e
       .obtain⟨o,L⟩:=p b (.tail _ s);exact(fS r).trans ((gn (.tail _ s)).trans ((au b s o L).trans (L.symm.trans ((gn (.tail _ s)).symm.trans (fS d).symm))))
       .have b8:b∉E::e:=λh=>(cQ.mp h).elim q s;exact(fS r).trans ((fS b8).trans ((fS b8).symm.trans (fS d).symm))
    .rcases e8.mp t with h|h
     .exact fV _ (.tail _ h)
     .exact iX _ h
   have iU:=iC.leave (h':=aj) (λb t o a=>bF b o t a) (λb t=>(fS (z b t)).trans ((fS (z b t)).symm.trans (g b t).1.hb)) (λb t=>by
    by_cases q:b∈E::e
    .exact(aL l8 (gn q)).trans (bX b q)
    .exact(aL l8 ((fS q).trans (fS q).symm)).trans (l.c3 b t).1)
   have az:∀b∈E::e,∀o,O.heap.get? b=U o->aj.get? b=U o:=λb t o a=>bF b o (λq=>z b q t) a;have cy:=iU.turn (h':=aj) (λy y y a=>a) λb t=>by
    obtain⟨o,L⟩:=fc.mp (bX b t);exact dc (az b t o L)
   exact di _ bw gz gA ((fD.trans q).trans (b_ _ _ J)) (aX.trans gZ) ⟨a_,bB,aW,cy⟩ (az E (.head _) _ bV) iD λb t o a=>az b (.tail _ t) o (au b t o (eY b t o a))
 exact aE (i0 (wpAny_runOwn (Q:=λy O=>Q () O) (aak bj (bK.self 0 _ _ _ b7 bj))) (λy O h=>bD h) λy y x=>x)
end
section
variable{os:Y ai}
inductive zg(B:br O)(prog:bZ)(w:bR)(A:cI)(ρ:Mk)(env:cG)(xs:Y ai)(k:aa)(elt Fl Vd:bW)(rI:Y bW)(lv:Y (AV O))(zs:Y T)(lv':Y (AV O)):Prop
 |mk(tup:bl)(ts:Y T)(aV:Y (AV O))(hI:nf tup B prog w A ρ env xs k lv Vd aV ts)(hC:mh B prog w A ρ env xs k rI (wK B prog w A ρ env xs k elt) (λlv t lv'=>h_ B prog w A ρ env xs k lv Fl t lv') ts aV zs lv')(ht:(∃x p,Fl=.Name x p)\/tup=ae/\∃es x1 p,Fl=.Tuple es x1 p)
theorem Rv(sc:m_ d os cs)(w:i8 env n cs P)
  (iU:nf ef H i u F X env n aH lv y g cz)(aP:∀eY∈P,∀l,g[eY]?≠U (.own l))
  (bV:∀a,∃f,oF os P g f=bK/\mh H i u F X (gK d a env) (os++cs) os.length aI (zg H i u F X (gK d a env) (os++cs) os.length aK aS B aX) (λlv bF az=>h_ H i u F X (gK d a env) (os++cs) os.length lv h bF az) cz (ou os P g) a_ f)
  (cM:∀x,foldedSetIterable y env x=pure x)(fq:∀env x,foldedSetIterable B env x=pure x)(cf:(∃x p,h=.Name x p)\/ef=ae/\∃A dm p,h=.Tuple A dm p)(dG:a_.length<=1000000)
  (S:SR H X L aW env n aH lv s.heap)
  (iC:∀O j(D a:ay)z v m R c9,bS s O->Le aW j->gb env->aQ H X L j env n aH bK m R O.heap->eW H L j env n R D->eW H L j env n R a->D≠a->
   O.heap.get? D=U (lo z v)->bq X j z a_->O.heap.Ns a c9->compPost (model i u) F bw ao aq (.ref D) a (.ok .next) O):
  wpAny (model i u) F (comprehension (two aK h y aS B aI aX d eF) d env lq (newList []) ak (eval y env) ao) aq bw s:=by
 have bX:∀p∈d.names,p.2=.free->(env.cells.lookup p.1).isSome=ae:=by
  intro p eM eT;refine cps λau kk=>?_;obtain⟨r,m,R,S⟩:=S;have aB:=sc.free p eM eT;obtain⟨k,aG,e⟩:=yL aB;have bQ:k<P.length:=by simp only [w.len];exact aG
  have aj:=w.at_ k _ p.1 (cP bQ) (by refine aZ (cP aG) ?_;rw [e]);have b7:P[k]<lv.length:=by simp only [S.len];exact(ck.mp aj).1
  obtain⟨kF,b8,_⟩:=S.vars _ _ _ aj (cP b7);refine kk ?_;rcases b8 with⟨q,_⟩|⟨_,mW,cy,_⟩
  .exact bE q (w.nl _ aB)
  .exact dc cy
 refine ael J cM (CC bX) sc.kind sc.names (iU L aW s _ _ S λt qR cA qQ cC qS qT m R cH cK r aM W cN cY aN di aO dz own=>(G4 (KJ sc.kind ?_)));have c:t.heap.objs.size<(t.heap.push (lo [] 0)).objs.size:=by simp only [l0];exact eH _
 obtain⟨dN,dU⟩:=MI (ol:=lo [] 0) sc w r aM aN aP J J J J;have dW:bG t.heap (pushCells ((t.heap.push (lo [] 0)).push {cls:=.type "dict",data:=.dict #[]}) d.names):=λb o e=>wC _ _ b o (eg _ (eg _ e));have T:=λb E=>aO b (W.sub b E);have bf:=W.frame 0 _ _ cY λb au o e=>dW b o e;have bh:t.heap.objs.size∉cC:=λq=>m5 _ (T _ q);refine aA (bV (t.heap.push (lo [] 0)).objs.size) λf Q e_=>?_;have bu:codeAny (model i u) F (.compLoop (two aK h y aS B aI aX d eF) 0 (.ref cA) (.ref t.heap.objs.size) (gK d (t.heap.push (lo [] 0)).objs.size env))
   (compPost (model i u) F bw ao aq (.ref t.heap.objs.size) (t.heap.push (lo [] 0)).objs.size) {t with heap:=pushCells ((t.heap.push (lo [] 0)).push {cls:=.type "dict",data:=.dict #[]}) d.names}:=by
  refine CE (M:=1000000) (FE:=[]) (n0:=0) dN (V5 J) (λ{lv mV az}fD=>?_) W cN bf di (λq=>(λb E=>fW (aO b E)) _ q J) bh dz own cf (aJ (f_ (l7 _)) dG) dU ?_ .nil e_ ?_ J
  .obtain⟨nR,p9,qP,fP,gx,gy⟩:=fD;exact Si (ek _) bh J fP gx (fq _) gy
  .exact wC _ _ _ _ (eg _ (eN _ J))
  .intro O j gz qU z v eL gZ q l bj iD iE G;refine ve (MH sc w aM aN aP c l bj) λbB i6 iT jk=>?_;rw [Q]at bB;refine iC _ j _ _ z v _ _ gz ((cH.trans q).trans (b_ eL gZ J)) (cK.trans l) r (bB.JU jk G) i6 iT (fW c) (G _ _ (λq=>m5 _ (T _ q)) iD) iE (cps λau kk=>?_);refine iL (bj.ns) λo A jU Q gA=>?_;exact kk ((kq o A jU (G _ o (λq=>m5 _ (kI c (T _ q))) Q) gA))
 exact aef bu (W.self 0 _ _ _ bf bu)
end
section
variable{c:Cx O}{gC:Y (AV O)}
theorem ab1{H:Type}(F:Fm c.env (x::h::n) (k+2) o)(a:AV O)(A X:H->T)(q:H->bl):∀(z:Y H)(v:AV O),(∀B∈z,EC c (x::h::n) (k+2) (a::.t (A B)::gC) b (a::.t (A B)::gC) (q B))->
  (∀B∈z,q B=ae->EE c (x::h::n) (k+2) (a::.t (A B)::gC) s (a::.t (A B)::gC) (X B))->
  mh c.B c.prog c.w c.A c.ρ c.env (x::h::n) (k+2) [b] (wK c.B c.prog c.w c.A c.ρ c.env (x::h::n) (k+2) s) (λm t S=>h_ c.B c.prog c.w c.A c.ρ c.env (x::h::n) (k+2) m (.Name h p) t S) (z.map A) (a::v::gC) ((z.filter q).map X) (a::qs v (z.map A)::gC):=λi=>i.rec
 (λv y y=>⟨J,J⟩)
 (λt j f v R w=>by
  have r:=f (.t (A t)) (λB d=>R B (.tail _ d)) λB d=>w B (.tail _ d);have e:=R t (.head _);have Q:=(jj (lv:=a::v::gC) (p:=p) (τ:=A t) F 1 J (GN (cS k))).1;cases u:q t with
  |true=>
   rw [u]at e;rw [uE u];exact .go Q (zT e.1) ⟨X t,J,(w t (.head _) u).1⟩ r J
  |false=>
   rw [u]at e;rw [uD (by simp [u])]
   exact .skip Q (zT e.1) r)
theorem acg{e H:Type}(F:Fm c.env (x::h::n) (k+2) p)(A:e->T)(z:e->Y H)(E:H->T)(X:e->H->T)(q:e->H->bl):∀(j:Y e)(Q v:AV O),
  (∀B∈j,∀v,EI g c (x::h::n) (k+2) (.t (A B)::v::gC) L (.t (A B)::v::gC) ((z B).map E))->
  (∀B∈j,∀s∈z B,EC c (x::h::n) (k+2) (.t (A B)::.t (E s)::gC) b (.t (A B)::.t (E s)::gC) (q B s))->
  (∀B∈j,∀s∈z B,q B s=ae->EE c (x::h::n) (k+2) (.t (A B)::.t (E s)::gC) o (.t (A B)::.t (E s)::gC) (X B s))->
  ∃u G,mh c.B c.prog c.w c.A c.ρ c.env (x::h::n) (k+2) [] (zg c.B c.prog c.w c.A c.ρ c.env (x::h::n) (k+2) o (.Name h i) L [b]) (λm t S=>h_ c.B c.prog c.w c.A c.ρ c.env (x::h::n) (k+2) m (.Name x P) t S) (j.map A) (Q::v::gC) (j.flatMap λB=>((z B).filter (q B)).map (X B)) (u::G::gC):=λl=>l.rec
 (λQ v y y y=>b_ Q v ⟨J,J⟩)
 (λt j f Q v R w a=>by
  refine gD (f _ _ (λB d=>R B (.tail _ d)) (λB d=>w B (.tail _ d)) λB d=>a B (.tail _ d)) λu G r=>b_ u G (.go (jj F 0 J (cS _)).1 zS (.mk g _ _ (R t (.head _) v).1 (ab1 F _ E _ _ _ v (w t (.head _)) (a t (.head _))) (.inl ⟨h,i,J⟩)) r ?_)
  exact BK)
end
section
variable{c:Cx O}{gC:Y (AV O)}
theorem ab0{H:Type}(F:Fm c.env (x::h::n) (k+2) o)(a:AV O)(A X:H->T):∀(z:Y H)(v:AV O),(∀B∈z,EE c (x::h::n) (k+2) (a::.t (A B)::gC) b (a::.t (A B)::gC) (X B))->
  mh c.B c.prog c.w c.A c.ρ c.env (x::h::n) (k+2) [] (wK c.B c.prog c.w c.A c.ρ c.env (x::h::n) (k+2) b) (λm t S=>h_ c.B c.prog c.w c.A c.ρ c.env (x::h::n) (k+2) m (.Name h p) t S) (z.map A) (a::v::gC) (z.map X) (a::qs v (z.map A)::gC):=λi=>i.rec
 (λv y=>⟨J,J⟩)
 (λt j f v w=>.go (jj F 1 J (GN (cS k))).1 zS ⟨X t,J,(w t (.head _)).1⟩ (f _ λB d=>w B (.tail _ d)) J)
theorem acf{e H:Type}(F:Fm c.env (x::h::n) (k+2) q)(A:e->T)(z:e->Y H)(E:H->T)(X:e->H->T):∀(j:Y e)(Q v:AV O),
  (∀B∈j,∀v,EI l c (x::h::n) (k+2) (.t (A B)::v::gC) L (.t (A B)::v::gC) ((z B).map E))->
  (∀B∈j,∀s∈z B,EE c (x::h::n) (k+2) (.t (A B)::.t (E s)::gC) o (.t (A B)::.t (E s)::gC) (X B s))->
  ∃u G,mh c.B c.prog c.w c.A c.ρ c.env (x::h::n) (k+2) [] (zg c.B c.prog c.w c.A c.ρ c.env (x::h::n) (k+2) o (.Name h i) L []) (λm t S=>h_ c.B c.prog c.w c.A c.ρ c.env (x::h::n) (k+2) m (.Name x p) t S) (j.map A) (Q::v::gC) (j.flatMap λB=>(z B).map (X B)) (u::G::gC):=λb=>b.rec
 (λQ v y y=>b_ Q v ⟨J,J⟩)
 (λt j f Q v R a=>by
  refine gD (f _ _ (λB d=>R B (.tail _ d)) λB d=>a B (.tail _ d)) λu G r=>b_ u G (.go (jj F 0 J (cS _)).1 zS (.mk l _ _ (R t (.head _) v).1 (ab0 F _ E _ _ v (a t (.head _))) (.inl ⟨h,i,J⟩)) r ?_)
  exact BK)
end
section
variable{os:Y ai}
theorem IW(bf:m_ d os e)(aO:i8 B n e P)
  (bu:nf bV H h b F X B n t m s g cA)(aX:∀i∈P,∀k,g[i]?≠U (.own k))
  (bQ:∀a,∃r,oF os P g r=cz/\mh H h b F X (gK d a B) (os++e) os.length g7 (zg H h b F X (gK d a B) (os++e) os.length S aj j az) (λm bF bK=>h_ H h b F X (gK d a B) (os++e) os.length m q bF bK) cA (ou os P g) G r)
  (bX:∀x,foldedSetIterable s B x=pure x)(b8:∀B x,foldedSetIterable j B x=pure x)(cy:(∃x p,q=.Name x p)\/bV=ae/\∃A cC p,q=.Tuple A cC p)(cH:G.length<=1000000)
  (cY:n[i]?=U x)(dz:i<t)(c9:B.kindOf x=U .local)
  (aG:swapsWith (two S q s aj j g7 az d aH) (U (.Name x aI)) p.line B=pure ae):
  gB H h b F X B n t m (.Assign [.Name x aI] (two S q s aj j g7 az d aH) p) (cz.set i (.own G)) .next:=by
 intro aK eM eT eF eL aP aS aW;refine lX (aeg _ _ _ _ aG) (aE (kK (aE ?_)));refine aE (i0 (Rv bf aO bu aX bQ bX b8 cy cH aS λO a_ E a bh bj eY R bw bB k T ao f v c b7 aM w=>?_) (λy O aN=>bD (bD aN)) λy y l=>l);have Q:(O.heap.get? a).isSome=ae:=by refine iL w λo y y L y=>?_;rw [L];rfl
 refine m8 (gu (hB:=aK.add [a] O.heap) (av:=.own G) T aP (ao.enter (λaq hb=>cD.mp hb▸v) (λaq hb=>(cD.mp hb).symm▸Q)) cY dz (.inl c9) ⟨E,bh,bj,J,b7,aM,J⟩ (.oE ({f with hb:=by exact aZ (fS (by simpa using c)) (f.hb)})) λcK cM cN au=>?_);have cf:cK.heap.get? a=O.heap.get? a:=by
  exact bC (fc.mp Q) λo L=>L▸au.kept a o (by refine aZ (gn (.head _)) ?_;exact L)
 have di:=au.leave (λy y y l=>l) (λaq hb=>(aL _ (cD.mp hb)).trans v.hb) ao.Dx;have dm:∀u,u<n.length->a∉bT R i [E] u:=λu dG z=>by
  by_cases dU:u=i
  .subst dU;rw [show bT R u [E] u=[E]from bx J]at z;exact c (cD.mp z).symm
  .rw [show bT R i [E] u=R u from bA ‹_›]at z;exact v.fp u dG z
 refine aR bw ?_ (λdN dW=>?_)
 .exact iL w λo A ef L aB=>kq o A ef (cf.trans L) aB
 .exact aW _ a_ .next ((bB.trans cN).trans (b_ dN _ J)) k ⟨T,cM,_,di.iu ({v with fp:=dm}) dW⟩ trivial
end
section
variable{c:Cx O}
theorem Nk{i':aa}{b H:Type}{us:Y b}{g:b->T}{vs:b->Y H}{g':H->T}(x O:ai)(h:Y ai)(P:Y aa)(X:b->H->T)(q:b->H->bl)(F:Fm c.env n k o)(Q:rB d [x,O] h=ae)(w:rz o n h P=ae)(l:oh d.names (x::O::h) 2=ae)(r:EI bu c n k aW y e (us.map g))(aB:noOwn e P=ae)
  (aG:∀a,Fm (c.fB d a).env (x::O::h) 2 d.names->∀B∈us,∀v,EI bw (c.fB d a) (x::O::h) 2 (.t (g B)::v::P.map λi=>e[i]?.getD .un) L (.t (g B)::v::P.map λi=>e[i]?.getD .un) ((vs B).map g'))
  (m:∀a,Fm (c.fB d a).env (x::O::h) 2 d.names->∀B∈us,∀s∈vs B,EC (c.fB d a) (x::O::h) 2 (.t (g B)::.t (g' s)::P.map λi=>e[i]?.getD .un) f (.t (g B)::.t (g' s)::P.map λi=>e[i]?.getD .un) (q B s))
  (p:∀a,Fm (c.fB d a).env (x::O::h) 2 d.names->∀B∈us,∀s∈vs B,q B s=ae->EE (c.fB d a) (x::O::h) 2 (.t (g B)::.t (g' s)::P.map λi=>e[i]?.getD .un) E (.t (g B)::.t (g' s)::P.map λi=>e[i]?.getD .un) (X B s))
  (A:oC y=ae)(G:oC L=ae)(aj:(us.flatMap λB=>((vs B).filter (q B)).map (X B)).length<=1000000)(ao:n[i]?=U s)(aq:i<k)(au:o[i']?=U (s,.local))(az:R.line=z.line)(aH:(d.names.any λ(j,u)=>j==s&&(u==.local||u==.cell))=ak):
  ES c n k aW (.Assign [.Name s R] (two E (.Name x bB) y (.Name O bF) L [] [f] d z) bK) (e.set i (.own (us.flatMap λB=>((vs B).filter (q B)).map (X B)))) .next:=by
 refine⟨λaK aM aN aO aP aI S aX=>?_⟩;have aS:c.env.blockKind=.function:=by
  have:=S.1.kind;unfold BH;simp [this,GU]
 have t:=F.kn i' au nofun;refine IW (os:=[x,O]) (xe Q) (w6 F w) r.1 (ya aB) (λa=>(gD (acg (mq l) g vs g' X q us .un .un (aG a (mq l)) (m a (mq l)) (p a (mq l))) λbf a_ bh=>aR _ (vM (pre:=[bf,a_]) J) bh)) (rY A) (λbj x=>rY G x) (.inl (b_ _ _ J)) aj ao aq t ?_ aK aM aN aO aP aI S aX
 .show(pure (c.env.blockKind==.function&&c.env.kindOf s==U .local&&R.line==z.line&&!(d.names.any λ(j,k)=>j==s&&(k==.local||k==.cell))))=pure ae;refine aS▸t▸az▸aH▸?_;simp
end
noncomputable def dj:Y (ai×fe):=("script",.local)::("numbers",.local)::("places",.cell)::("gap",.cell)::("keys",.cell)::("orders",.local)::("turn",.local)::("key",.local)::("made",.cell)::("row",.cell)::("octets",.local)::("stream",.local)::("signs",.cell)::("place",.local)::("sign",.cell)::("text",.local)::("sorter",.local)::("found",.cell)::("waits",.cell)::("passed",.cell)::("home",.cell)::("way",.local)::("plain",.local)::("pattern",.local)::("ahead",.cell)::("ring",.local)::("due",.local)::("least",.local)::("groups",.cell)::("rounds",.local)::("handed",.local)::("_law_keys",.globalImplicit)::("range",.globalImplicit)::("_law_made",.globalImplicit)::("_law_moved",.globalImplicit)::("_law_stream",.globalImplicit)::("read_uint1",.globalImplicit)::("read_string1",.globalImplicit)::("TopologicalSorter",.globalImplicit)::("ord",.globalImplicit)::("len",.globalImplicit)::("_law_takes",.globalImplicit)::("translate",.globalImplicit)::("CycleError",.globalImplicit)::("sum",.globalImplicit)::("max",.globalImplicit)::[]
noncomputable def bP:Y ai:=["script","numbers","places","gap","keys","orders","turn","key","made","row","octets","stream","signs","place","sign","text","sorter","found","waits","passed","home","way","plain","pattern","ahead","ring","due","least","groups","rounds","handed"]
noncomputable abbrev bH(i:aa):b9:=e5 (cZ (bz 27)) i
noncomputable abbrev gR(os:Y (Y aa)):Y T:=os.map λo=>nL o
noncomputable def nC(e:Y aa)(os:Y (Y aa)):Y (Y aa):=os.flatMap λo=>(e.filter λx=>!decide (x∈o)).map λx=>o++[x]
section
variable{c:Cx O}{keys:Y aa}{os:Y (Y aa)}
theorem LV:gR (nC keys os)=os.flatMap λo=>(keys.filter λx=>!decide (x∈o)).map λx=>nL (o++[x]):=by
 refine aZ wj (aL ((os.flatMap)) (funext λo=>?_));refine aZ (d5) ?_;rfl
theorem X5(F:Fm c.env bP 31 dj)(H:m.length=31)(h:m[4]?=U (.t (nL keys)))(e:m[5]?=U (.own (gR os)))(L:∀o∈os,o.length<=1000)(f:(nC keys os).length<=1000000):
  ES c bP 31 m (e5 (i4 (U (bH 4))) 0) (m.set 5 (.own (gR (nC keys os)))) .next:=by
 have q:(m.set 5 (AV.t (.list (gR os))))[4]?=U (.t (nL keys)):=by exact aZ (iV (jN J)) (h)
 rw [((yN ..).symm),LV];exact Nk (i':=5) "order" "key" ["keys"] [4] _ _ F J J J (lg (kD F 5 J e)) (AI q J) (λa S o z v=>lg (zv S 2 J (by simp [q])))
  (λa S o z x j=>zC (zv S 1 J J) (zv S 0 J J) (CD x o) J)
  (λa S o z x j y=>sq (dw (zv S 0 J J) (oQ (zr (zv S 1 J J) cR J) J) (yi (by rw [b5];exact jH (aJ (L o z) (aC J))))) (aL T.list (dO (f:=λx:aa=>T.int x) (l₁:=o) (l₂:=[x])).symm)) J J (by rw [<-LV,b5];exact f) J (by decide) J J J
end
noncomputable def kY(e:Y aa):aa->Y (Y aa)->Y (Y aa)
 |0,os=>os
 |g+1,os=>kY e g (nC e os)
theorem X6{os:Y (Y aa)}(h:∀o∈os,o.length<=E):∀o∈nC e os,o.length<=E+1:=λo L=>by
 refine aA (qZ.mp L) λH R w=>?_;obtain⟨x,y,rfl⟩:=eG.mp w;rw [dM];exact jH (h H R)
theorem X7(l:e.length<=4):∀os,(nC e os).length<=os.length*4:=λi=>i.rec (ek _) λo os f=>by
 show(_++nC e os).length<=_;rw [dM,b5,m4,Nat.succ_mul,l6];exact gk f (aJ (BP _ _) l)
section
variable{c:Cx O}{keys:Y aa}{tl:Y (AV O)}
theorem X4(F:Fm c.env bP 31 dj)(l:keys.length<=4)(x:tl.length=24):∀(o:Y T)(os:Y _)(u:AV O)(E:aa),(∀e∈os,e.length<=E)->os.length<=4^E->E+o.length<=4->
  ∃H,i9 c bP 31 (mu (U (bH 4))) (i4 (U (bH 4))) o (s::k::n::g::.t (nL keys)::.own (gR os)::u::tl) (s::k::n::g::.t (nL keys)::.own (gR (kY keys o.length os))::H::tl) .next:=λi=>i.rec
 (λos u E y y y=>⟨u,lZ⟩)
 (λt o b os u E R w h=>by
  simp only [m4]at h;have f:(nC keys os).length<=4^(E+1):=aJ (X7 l os) (adM 4 w);have a:=aJ (ly (jH (iY _)) E) h;obtain⟨H,r⟩:=b (nC keys os) _ _ (X6 R) f (by rw [adD];exact h)
  exact⟨H,mU (jj F 6 J (by decide)) (cX (X5 F (by simp [x]) J J (λe L=>aJ (R e L) (aJ (adH a) (by decide))) (aJ f (aJ (Nat.pow_le_pow_right (by decide) a) (by decide)))) J) r⟩)
theorem X3(F:Fm c.env bP 31 dj)(l:keys.length<=4)(a:tl.length=24):∃H,ES c bP 31 (p0::p1::p2::p3::.t (nL keys)::.own (gR [[]])::a6::tl) (bH 4) (p0::p1::p2::p3::.t (nL keys)::.own (gR (kY keys 4 [[]]))::H::tl) .next:=by
 exact bC (X4 F l a _ [[]] a6 0 (λo L=>by exact(cD.mp L)▸(ek _)) (aC J) (aC J)) λH r=>⟨H,kC (qO F 32 J (zr (zi 4) cR J) J J J) r J J⟩
end
section
noncomputable def om(G:SG)(l:Y aa):Prop:=∃Q∈G.bU,Q.key=l
noncomputable def uS(G:SG):Prop:=∀Q∈G.bU,∀s∈Q.succ,om G s
theorem vO(q:G.kn)(v:uS G):∀(r:Rs)(P:Kv){o:aY _}{t:Rs}{k:Kv},k4 (jC G.al) r P=U (o,t,k)->(∀x∈r,om G x.1)->(∀l,o=U l->om G l)/\(o=af->t=[])/\(∀x∈t,om G x.1)/\t.length<=r.length/\k.length<=P.length:=λi=>i.rec
 (λP o t k h z=>by cases h;exact(kW nofun (λy=>J) nofun (ek _) (ek _)))
 (λ(w,p)r f P o t k h z=>by
  refine aA (z (w,p) gj) λQ c e=>?_;subst e;refine bC (qa c) λu d=>?_;have h:=L7.symm.trans h;rw [Bk q d]at h;cases O:Q.succ[p]? with
  |some l=>
   simp only [O]at h;cases h;refine(kW (λA e=>bg e▸(v Q c _ (cL O))) nofun (λx j=>?_) (ek _) (ek _));rcases cQ.mp j with rfl|j
   .exact(aR Q c J)
   .exact z x (fF _ j)
  |none=>
   rw [O]at h;dsimp only at h
   split at h
   .exact tE (f _ h λx j=>z x (fF _ j)) λa b s e X=>(kW a b s (yO e) (aJ X (BP _ _)))
   .exact aU J (h))
theorem Ir(P:Kv)(l:Y aa)(s:aF):(pF P l s).length<=P.length+1:=by delta pF;split<;>simp
noncomputable def endsF(G:SG):Y (Y aa)⊕(Y (Y aa)×Kv)->Y (AV Ob)->fg->Prop
 |.inl b,m,A=>A=.ret (.list (b.map .str))/\m[0]?=U (.obj (.b6 2 G))
 |.inr (s,P),m,A=>A=.next/\∃Q,m=mz G [] P s Q
set_option tactic.hygienic true in
theorem Mt(z:bJ c.B c.prog c.w aB)(g:jI c aM)(F:Fm c.env fk fk.length AD)(K:Fast c.B c.prog c.w aB G)(u:uS G):∀(n:aa)(L:Y aa)(r:Rs)(P:Kv)(seen:Y _){i:Y _⊕(Y _×Kv)},k7 (jC G.al) n L r P seen=U i->om G L->(∀x∈r,om G x.1)->r.length<=801->P.length<=801->
  ∃S j,EW c fk fk.length (jD rG) (k9 rG) [] n (mz G r P seen L) S j/\endsF G i S j:=λaj=>aj.rec
 (λy y y y y h y y y y=>aU J (h))
 (λn ao L r P seen i h aG A R w=>by
  have cond:EC c fk fk.length (mz G r P seen L) (jD rG) _ ae:=j6 (zb ae) J λy=>J;have m:EC c fk fk.length _ (oj (dZ 0 (k9 rG))) (mz G r P seen L) _:=Nu z F 4 (zv F 6 J J) J J;have X:∀(q:Rs)(e:Kv)(p:Y (Y aa)),ES c fk fk.length (mz G r P seen L) (Eg 0 (k9 rG)) (mz G q e p L) .next->(∀x∈q,om G x.1)->q.length<=801->e.length<=801->
    (match k4 (jC G.al) q e with|U (U l,t,k)=>k7 (jC G.al) n l t k p|U (af,_,k)=>U (.inr (p,k))|af=>af)=U i->
    ∃S j,EW c fk fk.length (jD rG) (k9 rG) [] (n+1) (mz G r P seen L) S j/\endsF G i S j:=by
   intro q e p d o T E h
   split at h
   .rename_i l t k O;exact tE (vO K.kn u q e O o) λa y aH aP aN=>dS (ao l t k p h (a l J) aH (aJ ‹_› ‹_›) (aJ ‹_› ‹_›)) λS j aq au=>(gh S j (lj cond (zx d (zx (jT (L8 z g F K q e L O o T E)) eS)) aq) au)
   .rename_i k O;cases h;refine gg (vO K.kn u q e O o) λy az y=>?_;cases az J;exact(g8 _ _ (BD cond (zx d (ux (jT (L8 z g F K q e L O o T E))))) J ⟨L,J⟩)
   .exact aU J (h)
  have h:=Ms.symm.trans h
  by_cases b:L∈seen
  .rw [bx b]at h;simp only [decide_eq_true b]at m;cases f:jv P L with
   |some aK=>
    simp only [f]at h;cases h;refine(gh _ _ (NU cond (fU (cJ m (fU (cJ (gY (Nt z F 5 (zv F 6 J J) J J) (dc f)) (fU (iS (dw (j8 (kD F 2 J J) (iB (abQ z F 5 J J (sC F 6 J J) f J)) oR (r8 (by simp;exact aJ R (aC J)) J)) (oQ (zr (zv F 6 J J) cR J) J) (yi ?_))))))))) ?_)
    .simp [cut];exact dg 0 (.v 0) (.a (.n 999999) (.v 1)) (.v 0) (.n 801) J [_,_] R
    .refine⟨?_,J⟩;simp only [RA,dO];rfl
   |none=>
    rw [f]at h;exact X r P seen (cJ m (zx (cJ (b:=ak) (gY (Nt z F 5 (zv F 6 J J) J J) (aL _ f)) eS) eS)) A R w h
  .rw [bA b]at h;simp only [decide_eq_false b]at m
   split at h
   .rename_i H;refine aA aG λQ v aI=>?_;subst aI
    refine bC (qa v) λaO B=>X ((Q.key,0)::r) (pF P Q.key r.length) (seen++[Q.key]) (cJ m (zx (acj z F 4 J J (zv F 6 J J) J J J (aJ H.2.2 (aC J)))
     (zx (ab4 z F 3 8 J J J (uw z (K.info v) (FL (EL z (i:=0) J J K.map) (zv F 1 J J) (zv F 6 J J) B J) .su J) (K.list v) J J J (by simp [rK];exact aJ R (aC J)))
      (zx (abR (z:=r.length) z F 5 J (sq (Nv F 2 9 J J J (eE (by simp;exact aJ R (aC J)))) (by simp)) J (sC F 6 J J) (aJ w (aC J)) J)
       (cX (uu F 2 J J (zv F 6 J J) J J J (eE (by simp;exact aJ R (aC J)))) ?_))))) (λx s=>?_) (by simp;exact H.1) (by have:=Ir P Q.key r.length;exact g_ 0 (.v 1) (.n 801) (.v 0) (.n 800) (.v 1) (.a (.v 0) (.n 1)) J [_,_] H.2.1 this) h
    .simp [mz,rK,(MP K.kn B)]
    .rcases cQ.mp s with rfl|s
     .exact(aR Q v J)
     .exact A x s
   .exact aU J (h))
end
section
variable{B:br O}
structure Turn(B:br O)(tl:Y ay):Prop where
 tab:∀L∈tl,L∈B.tabs
 dat:∀f h,B.inv f h->∀L∈tl,∃o,h.get? L=U o/\∀vs,o.data≠.fields vs
 sl:∀f h h',B.inv f h->(∀P∈B.tabs,∀o,h.get? P=U o->h'.get? P=U o\/(P∈tl/\∃sl,h'.get? P=U {o with slots:=sl}))->B.inv f h'
noncomputable def Slots(A:Y ay)(h T:cu):Prop:=∀m∈A,∃o l,h.get? m=U o/\T.get? m=U {o with slots:=l}
noncomputable def br.fr(B:br O)(A:Y ay)(h:cu):br O:=
 {B with
  tabs:=B.tabs++A
  inv:=λX T=>B.inv X T/\Slots A h T
  live:=λ{X p}k P G=>by
   rcases e8.mp G with G|G
   .exact B.live k.1 P G
   .exact dS (k.2 P G) λo l y e=>dc e
  tN:=λ{X j p i}k a q=>⟨B.tN k.1 a λP G=>q P (fV _ G),λm F=>dS (k.2 m F) λo l e f=>gh o l e (q m (iX _ F) _ f)⟩}
theorem Slots.refl(H:∀m∈A,∃o,h.get? m=U o/\∀z,o.data≠.fields z):Slots A h h:=λm F=>aA (H m F) λo L y=>(gh o o.slots L L)
theorem Turn.fr(T:Turn B Q)(h:∀m∈A,m∉B.tabs)(H:∀m∈A,∃o,x.get? m=U o/\∀z,o.data≠.fields z):Turn (B.fr A x) (A++Q)where
 tab:=λm F=>by
  rcases e8.mp F with F|F
  .exact iX _ F
  .exact fV _ (T.tab m F)
 dat:=λX p k m F=>by
  rcases e8.mp F with F|F
  .refine dS (k.2 m F) λo sl e f=>aA (H m F) λb j c=>?_;rw [e]at j;obtain rfl:=bg j;exact(aR _ f c)
  .exact T.dat X p k.1 m F
 sl:=λX p a k q=>⟨T.sl X p a k.1 λP G o L=>by
   rcases q P (fV _ G) o L with e|⟨E,e⟩
   .exact .inl e
   .rcases e8.mp E with E|E
    .exact bE G (h P E)
    .exact .inr ⟨E,e⟩,
  λm F=>by
   refine dS (k.2 m F) λo sl e f=>?_;rcases q m (iX _ F) _ f with O|⟨_,i,O⟩
   .exact(gh o sl e O)
   .exact(gh o i e O)⟩
theorem Turn.up(T:Turn B Q)(l:bG B.bO A):Turn (B.up A l) Q:=⟨T.tab,T.dat,T.sl⟩
theorem jI.turn(n:jI c Q):Turn c.B Q:=⟨n.tab,n.dat,n.sl⟩
structure Ci(B:br O)(fz:Fz)(h:cu)(fp:Y ay)(A:cI)(fl tl:Y ay):Prop where
 fr:∃outer,A.frames=U outer/\∀e∈outer,e.scope.kind≠.module/\∃L∈fl++tl,e.frame=U L
 ok:∀L∈fl,fz L=af/\B.bO.get? L=af/\L∉B.tabs/\L∉fp
 dat:∀L∈fl,∃o,h.get? L=U o/\∀vs,o.data≠.fields vs
 turn:Turn B tl
inductive PZ(g h:cu)(e:ay)(cls a0:aD):Prop
 |mk(Tb:ay)(oT:bN)(ts:jo aD)(c5:g.get? Tb=af)(c6:Tb≠e)(c7:h.get? Tb=U oT)(c8:oT.data=.fields ts)(mv:∀g':cu,g'.get? Tb=af->h.TracedW g' e cls a0)
theorem M4{A h:cu}{e:ay}{l t:aD}(w:h.TracedW A e l t):PZ A h e l t:=by
 refine cps λy r=>?_;refine R0 (w) λS z B s o R m a i P x n g b=>?_;exact r (⟨B,s,o,P,x,n,g,λE q=>⟨S,z,B,s,o,R,m,a,i,q,x,n,g,b⟩⟩)
noncomputable def Px(X:Mk)(f:Fz)(h a:cu)(l:aD)(y:Y ay):aY T->Result->Prop
 |U w,r=>∃v,r=.ok (.ret v)/\Den X f v w
 |af,r=>∃e t A,r=.error (.ref e)/\A.get? e=af/\a.TracedW A e l t/\(∀b,(h.get? b).isSome=ae->(A.get? b).isSome=ae)/\(∀b∈y,(A.get? b).isSome=ae)/\Le f A.get?
noncomputable def o8(B:br O)(l:bZ)(u:bR)(g:aa)(i:aD)(o:O)(R:Y T)(k:aD)(w:O->aY T->Prop):Prop:=
 ∀(F:cI)(X:Mk)(f:Fz)(e:aD)(z:Y aD)(n:Result->aT->Prop)(s:aT)(p A Q:Y ay),Ci B f s.heap p F A Q->dB F g->Ready B f s->B.ob.at_ o e s.heap p->(∀b∈p,f b=af/\B.bO.get? b=af/\b∉B.tabs)->bq X f z R->
  (∀h j y H r a,w H r->bS s h->Le f j->(∀b,b∉p->b∉B.tabs->b∉A->∀x,s.heap.get? b=U x->h.heap.get? b=U x)->Slots A s.heap h.heap->B.inv j h.heap->Le j h.heap.get?->(∀b x,j b=U x->f b=U x\/s.heap.get? b=af\/b∈p)->
   B.ob.at_ H e h.heap y->(∀b∈y,(b∈p\/s.heap.get? b=af)/\j b=af)->Px X j s.heap h.heap k y r a->n a h)->codeAny (model l u) F (.call i ⟨e::z,[]⟩) n s
noncomputable def zm(s:Y ay)(F:cI):Prop:=∃b,F.frames=U b/\∀e∈b,e.scope.kind≠.module/\∃m∈s,e.frame=U m
theorem Ready.fr(r:Ready B f s)(K:Ci B f s.heap p F A Q):Ready (B.fr A s.heap) f s where
 bI:=r.bI
 base:=r.base
 inv:=⟨r.inv,Slots.refl K.dat⟩
 ji:=λP G=>by
  rcases e8.mp G with G|G
  .exact r.ji P G
  .exact(K.ok P G).2.1
 mT:=λP G=>by
  rcases e8.mp G with G|G
  .exact r.mT P G
  .exact(K.ok P G).1
theorem QL(h:∀A Q h,Turn (B.fr A h) (A++Q)->Cd (zm (A++Q)) (B.fr A h) d u E X o aq λH r=>w H (U r)):o8 B d u E X o aq aK w:=by
 intro F a f i z x s p A Q K l k j n v c;refine h A Q s.heap (K.turn.fr (λm g=>(K.ok m g).2.2.1) K.dat) F a f i z x s p K.fr l (k.fr K) j (λb t=>(c_ ((n b t).1) ((n b t).2.1) (λq=>?_))) v λO S L G H r P R aj y e au az ao aG aB=>?_
 .rcases e8.mp q with q|q
  .exact(n b t).2.2 q
  .exact(K.ok b q).2.2.2 t
 .exact c O S G H _ _ P R aj (λb aH aI T=>y b aH λq=>(e8.mp q).elim aI T) e.2 e.1 au az ao aG (aR L J aB)
theorem fy.fr(G:fy B d r):fy (B.fr A h) d r:=⟨G.g,G.b,G.nolimit⟩
theorem kh.fr(E:kh B a Q k L n):kh (B.fr A h) a Q k L n:=⟨E.ho,E.hd,E.z4,E.z3,E.z5,E.xE,E.hg,E.hb⟩
end
theorem bJ.fr(z:bJ H i u c):bJ (H.fr A h) i u c:=⟨z.ob,z.iw,z.ok⟩
section
noncomputable def Kl(G:SG)(P:Kv)(seen:Y (Y aa))(v:AV Ob):Y (AV Ob):=[.obj (.b6 2 G),.t (.bY (.ref G.D)),.own [],.obj (.c3 []),.obj (.set seen),.obj (.kO P),v]
noncomputable def Sl(G:SG):aY (Y (Y aa))->fg->Prop
 |U b,A=>A=.ret (.list (b.map .str))
 |af,A=>A=.next
set_option tactic.hygienic true in
theorem Vu(q:G.kn)(v:uS G):∀(n:aa)(L:Y aa)(r:Rs)(P:Kv)(seen:Y _){s:Y _}{k:Kv},k7 (jC G.al) n L r P seen=U (.inr (s,k))->om G L->(∀x∈r,om G x.1)->P.length<=801->k.length<=801:=λm=>m.rec
 (λy y y y y y h y y y=>aU J h)
 (λn f L r P seen s k h c z w=>by
  have h:=Ms.symm.trans h
  split at h
  .split at h
   .exact nc Sum.ctorIdx (bg h) J
   .split at h
    .rename_i l t e O;exact tE (vO q v r P O z) λa y d b X=>f l t e seen h (a l J) d (aJ ‹_› ‹_›)
    .rename_i e O;refine tE (vO q v r P O z) λy y y y X=>bM (l_ (Sum.inr.inj (bg h))) λu j=>?_;subst u j;exact aJ ‹_› ‹_›
    .exact aU J h
  .split at h
   .rename_i H;have o:∀x∈(L,0)::r,om G x.1:=λx i=>by
     rcases cQ.mp i with rfl|i
     .exact c
     .exact z x i
    have E:=Ir P L r.length
    split at h
    .rename_i l t e O;exact tE (vO q v _ _ O o) λa y d b X=>f l t e _ h (a l J) d (rW 0 (.v 2) (.n 801) (.v 0) (.n 800) (.v 1) (.a (.v 0) (.n 1)) (.v 2) (.v 1) J [_,_,_] H.2.1 E X)
    .rename_i e O;refine tE (vO q v _ _ O o) λy y y y X=>bM (l_ (Sum.inr.inj (bg h))) λu j=>?_;subst u j;exact rW 0 (.v 2) (.n 801) (.v 0) (.n 800) (.v 1) (.a (.v 0) (.n 1)) (.v 2) (.v 1) J [_,_,_] H.2.1 E X
    .exact aU J h
   .exact aU J h)
set_option tactic.hygienic true in
theorem TS(i:bJ c.B c.prog c.w B)(t:jI c R)(F:Fm c.env fk fk.length AD)(K:Fast c.B c.prog c.w B G)(k:uS G)(E:aa):∀(o:Y _)(seen:Y _)(P:Kv)(a:AV Ob){e:aY _},ql (jC G.al) E o seen P=U e->(∀x∈o,om G x)->P.length<=801->
  ∃S j,i9 c fk fk.length (mu zU) (i4 zU) (o.map .str) (Kl G P seen a) S j/\Sl G e j/\S[0]?=U (.obj (.b6 2 G)):=λw=>w.rec
 (λseen P a e h y y=>bg h▸((g8 _ _ lZ J J)))
 (λx o f seen P a e h z l=>by
  have m:EC c fk fk.length (mz G [] P seen x) (oj (dZ 0 (i4 zU))) _ _:=Nu i F 4 (zv F 6 J J) J J;have h:=TR.symm.trans h
  split at h
  .rename_i r;simp only [decide_eq_true r]at m;exact jw (f seen P _ h (λO s=>z O (fF _ s)) l) λS j p X v=>(g8 S j (abS (jj F 6 J (eH _)) (NV (cJ m (NV abN))) p) X v)
  .rename_i r;simp only [decide_eq_false r]at m;have b:=z x gj
   split at h
   .rename_i L T;obtain rfl:=bg h;refine cps λy n=>dS (Mt i t F K k E x [] P seen T b (λy q=>nomatch q) (by simp) l) λS j g X=>bM (X) λu v=>?_;subst u;exact n ((g8 S _ (Nn (jj F 6 J (eH _)) (zx (cJ m eS) (fU (jT g)))) J v))
   .rename_i d H T;refine cps λy n=>dS (Mt i t F K k E x [] P seen T b (λy q=>nomatch q) (by simp) l) λS j g X=>bM X λu A=>?_;subst u;obtain⟨Q,rfl⟩:=A;exact jw (f d H (.t _) h (λO s=>z O (fF _ s)) (Vu K.kn k _ _ _ _ _ T b (λy q=>nomatch q) l)) λS j p X v=>n ((g8 S j (mU (jj F 6 J (eH _)) (zx (cJ m eS) (zx (jT g) eS)) p) X v))
   .exact aU J h)
end
noncomputable def zK:aY (Y (Y aa))->T
 |U b=>.list (b.map .str)
 |af=>.none
noncomputable def nr(m:Y AN)(E:aa):aY (aY (Y (Y aa))):=ql (jC m) E (m.map (·.1)) [] []
section
variable{y:Ly Ob}{f:ay}
noncomputable def Ly.fr(y:Ly q)(A:Y ay)(h:cu):Ly q:=⟨y.B.fr A h,y.prog,y.w,y.mg,y.mb,y.G.fr,y.bi⟩
theorem d6.rest{v:aD}(d:d6 i u B 0 G v h p):∃y,d6 i u B q G v h y/\∀b∈y,b∈p:=by
 have ob:=d.ob;rw [tZ i u B q G]at ob;exact(aR _ ⟨d.v,d.sm,d.nd,ob.sub (l:=[])⟩ (λb t=>by simp only [d.ob.ad,tZ i u B q G,dO];exact fV _ t))
theorem d6.apart{v j:aD}{p y:Y ay}(d:d6 i u B 0 G v h p)(A:d6 i u B q G j h' y):∀b∈(qC i u B q G).map (·.1),b∈p/\b∉y:=λb t=>by
 have nd:=d.ob.nd;rw [d.ob.ad,tZ i u B q G,dO,f9]at nd;refine⟨by simp only [d.ob.ad,tZ i u B q G,dO];exact iX _ t,λE=>?_⟩;simp only [A.ob.ad]at E;exact nd.2.2 b E b t J
theorem Fast.up(K:Fast H i u B G)(l:bG H.bO A):Fast (H.up A l) i u B G:=⟨K.sm,K.kn,K.st.keep λb y o e=>l b o e⟩
theorem I_(h:zm s F)(p:c.A=F.deeper c.env)(T:Turn c.B s)(own:c.env.frame=U c.env.locals)(kd:c.env.scope.kind=.function):jI c s where
 fr:=aA h λb e h=>(aR b ((aL _ p).trans (N2 e)) h)
 own:=own
 kd:=by rw [kd];decide
 tab:=T.tab
 dat:=T.dat
 sl:=T.sl
theorem abc(z:bJ y.B y.prog y.w aq)(T:Turn y.B u)(E:ic y.B f 7 8 bj k fk)(aj:uS G)(x:aa){a:aY _}(i:nr G.al x=U a)(K:Fast y.B y.prog y.w aq G):
  Cd (zm u) y.B y.prog y.w (n+1) (.ref f) (.b6 2 G) [] λaB aM=>aB=.b6 2 G/\aM=zK a:=by
 refine HU y.G E.d (dQ J) (.plain λg H=>?_) (λb=>(aR _ b (λao t=>t))) (λP R w=>?_) (λ{aS b aX a_ aN}l h h h h m j d r B=>?_) λP h h O h h=>(g8 _ _ P O (λao t=>.inl t))
 .exact bind1 (λaP=>(qe E.ar E.df _).trans J) g H
 .refine bM P λQ h=>?_;subst Q;rw [z.ob]at R w;simp only [R.v,w.v]
 .have F:Fm (callEnvC k m f) fk fk.length AD:=ko (J) (by show k.scope.names=_;exact aL _ E.sc)
  let c:=(y.up aN l).c (j.deeper (callEnvC k m f)) d (callEnvC k m f) n B.deeper
  have o:=z.up l;have e:=K.up l;have au:G.al.map (·.1)=G.bU.map (·.key):=by simp [SG.al]
  unfold nr at i;simp only [au]at i
  obtain⟨az,bf,p,X,v⟩:=TS o (I_ (c:=c) r J (T.up l) J (by show k.scope.kind=_;exact aL _ E.sc)) F e aj x (G.bU.map (·.key)) [] [] .un i (λaW S=>by
   refine aA (eG.mp S) λaH aI aK=>?_
   subst aK;exact(aR aH aI J)) (by simp)
  rw [d5]at p;refine XP.ev (c:=c) (XP.mono (Φ:=λaG A=>aG[0]?=U (.obj (.b6 2 G))/\u6 A (zK a)) ?_ λaz A P=>(my _ _ P.1 P.2 J J));have L:∀{q s},EX c fk fk.length (Kl G [] [] .un) [Eg 5 (cZ (fm 7 8)),Eg 6 (cZ (fm 7 8))] q s->EX c fk fk.length (lN (.b6 2 G) fk []) (cZ (fm 7 8)) q s:=λaO=>
   zx (dD F 1 J (dQ J) (j7 o (j4 o (i:=0) J J) (jE o F 0 J J) .tW J) J)
    (zx (oS F 2 J (dQ J) (p7 cR J) J) (zx (ab3 o F 3 J (dQ J) J) (zx (acm o F 4 7 J (dQ J) J J) (zx (abP o F 5 J (fH _ _) J) aO))))
  cases a with
  |some bh=>
   subst(X);exact EX.xp (L (fU (kC (Nr (zv F 1 J J) e.sm e.map) p J J))) ⟨v,.inl J⟩
  |none=>
   have X:=X;subst X;exact EX.xp (L (zx (kC (Nr (zv F 1 J J) e.sm e.map) p J J) (fU (iS zn)))) ⟨v,.inl J⟩
end
section
variable{c:Cx Ob}
theorem Yk{A:Y DictEntry}(p:iy G (dictOf A g)):iy {G with cO:=U a,rl:=l} (dictOf (putL "_ready_nodes" L (.str "_ready_nodes" m) (.ref a) A) S):=by
 obtain⟨h,i,k,s,e,H,R,w,t,f,T⟩:=p;obtain rfl:=zM e;exact⟨_,S,k,s,J,by exact(Eu A ⟨_,w⟩)▸(H),by rw [mw W'];exact R,z0 A,by rw [mw (iZ KP)];exact t,by rw [mw (iZ KQ)];exact f,λx a b c d=>by rw [mw b];exact T x a b c d⟩
theorem aci(z:bJ c.B c.prog c.w aj)(aB:Fm c.env n k bQ)(i:aa)(j:n[i]?=U l)(S:EF c n k lv e aV (ao.map .str))(az:aV[i]?=U (.obj (.b6 2 G)))(aG:G.cO=af)
  (aH:swapsWith e (U (.Attribute (.Name l aK) "_ready_nodes" aM)) aO.line c.env=pure ak):
  SP c n k lv (.Assign [.Attribute (.Name l aK) "_ready_nodes" aM] e aO) λaS aX=>∃a,aS=aV.set i (.obj (.b6 2 {G with cO:=U a,rl:=ao}))/\aX=.next:=by
 constructor;intro aI bj aN bK cf cy bw bB;refine wB (S.1 aI bj aN _ _ bw λcH u a H E B R L T y X Fr aq au=>(bM (iR z X j az) λs d=>(ez (ew y X.ns s ?_) (aB.eJ j)))) aH;have t:("_ready_nodes":ai)∈(["_node2info","_ready_nodes","_npassedout","_nfinished"]:Y ai):=by simp
 refine aA (d.ob.dJ (G.self,λo=>o=instObj aj.C G.d) (mJ (by simp [fO]))) λb8 v O=>aA (d.ob.dJ (G.d,iy G) (mJ (cL (i:=1) J))) λcA F h=>?_;dsimp only at O v F h;refine cps λbF aW=>?_;subst O;refine jw (h.has t) λcz g a_ bf aP=>?_;subst a_;have ad:R i=[G.self,G.d]:=by refine aZ (d.ob.ad) ?_;simp [LK,fO,aG]
 have A:=(ck.mp j).1;have r:G.d∈R i:=by exact(ad)▸(.tail _ (.head _))
 have f:G.self∈R i:=ad.symm▸.head _;have w:=X.fp i A;have x:=Fr.fp i A;refine aW ?_;refine A_ (z.iw X.base) (⟨v,J,J,F⟩) J z.ok.sa z.ok.po (by delta takerIn;rw [z.ok.at_ _ t,yS]) z.ok.hd aP (aJ bf (aC J)) λbu bV bX b7 rJ bh=>?_;have p:∀{b},b∉R i->b≠G.d:=λ{b}g q=>g (by exact(q)▸(r));have Q:=d.ob.nd;rw [ad]at Q x;exact bB _ u .next _ .next (aR a J J) (L.trans (b_ bu _ J)) T ⟨y,B,_,X.vX j (λb g cC o e=>(rJ.2 b (p g)).trans e) (br.gO X.inv λP m o e=>(rJ.2 P (p ((X.tab P m).2.2.2.2 i A))).trans e) (Le.refl _) (λb o e=>(rJ.2 b λq=>(aU ((aL _ q).trans ((w G.d r).2.1)) e)).trans (X.bI b o e)) (λb o e=>.inl e) s ⟨.ref G.self,J,z.ob.symm▸(⟨J,d.sm,d.nd,⟨bL (aR _ ((rJ.2 G.self (pO Q 0 1 J J J)).trans v) J) (bL (aR _ bh (Yk h)) (bL (aR _ ((rJ.2 a λq=>x (q▸dH 1 J)).trans aq) ⟨H,E,J,iI.of au⟩) eu)),J,bU Q x⟩⟩)⟩ (bL ⟨.inl f,(w _ f).2.1⟩ (bL ⟨.inl r,(w _ r).2.1⟩ (bL ⟨.inr Fr,Fr.fz⟩ eu)))⟩ trivial
theorem MG(z:Slots A h h')(F:L∈A)(g:h.Ns L E):h'.Ns L E:=by
 refine jb g λo a H i e r=>dS (z _ F) λb l x f=>?_;cases bg (i.symm.trans x);exact(Aa _ a H f e r)
theorem aQ.I5(n:jI c Q)(S:aQ c.B c.ρ j f c.env x k l b R h)(A:i<x.length):Ci c.B f h (R i) c.A [c.env.locals] Q where
 fr:=aA n.fr λs e h=>(aR _ e (λa X=>(cQ.mp X).elim (λq=>q.symm▸⟨n.kd,_,.head _,n.own⟩) λX=>match h a X with|⟨k,m,F,p⟩=>⟨k,m,fF _ F,p⟩))
 ok:=λm F=>(cD.mp F).symm▸(kU S.nL.2 (S.b0 S.nL.1) (λq=>(S.tab _ q).2.2.1 J) (λq=>(S.fp i A _ q).2.2.1 J))
 dat:=λm F=>(cD.mp F).symm▸jb S.ns λo y y L E y=>(aR o L (λy q=>nc ad1 (E.symm.trans q) J))
 turn:=n.turn
theorem WC(z:bJ c.B c.prog c.w aX)(bh:jI c aq)(az:Fm c.env n k cM)(i:aa)(e:n[i]?=U aB)(aG:m[i]?=U (.obj (.b6 q G))){w:Ob->aY T->Prop}(bB:(t,o)∈aX.fs)(aK:t∉(["_node2info","_ready_nodes","_npassedout","_nfinished"]:Y ai))
  (L:∀{h},bG c.B.bO h->h.get? o=U aj)(aM:aj.data=.func cK){u:Ob}(bj:∀{B h p},c.B.ob.at_ (.b6 q G) B h p->c.B.ob.at_ u B h p)(aP:o8 c.B c.prog c.w c.n (.ref o) u [] c9 w)(bf:(bu.endLine==bw.line)=ae)
  (a_:SR c.B c.ρ a f c.env n k m s.heap)
  (ao:∀O j v H r,w H (U r)->bS s O->Le f j->SR c.B c.ρ a j c.env n k (m.set i (.obj H)) O.heap->Den c.ρ j v r->aH v O)
  (aI:∀O j H x(g:aD),w H af->bS s O->Le f j->SR c.B c.ρ a j c.env n k (m.set i (.obj H)) O.heap->aN (.ref x) O):
  wpAny (model c.prog c.w) c.A (eval (.Call (.Attribute (.Name aB cN) t bu) [] [] bw) c.env) aH aN s:=by
 obtain⟨y,aS,cY,X⟩:=a_;refine bM (iR z X e aG) λl E=>Aw z az e y X l E bB aK J (aC J) bf (yY ⟨⟨L X.base,aM⟩,i7 (aP c.A c.ρ f _ [] _ s _ [c.env.locals] aq (X.I5 bh (jz e)) c.R X.ready (bj (z.ob.symm▸E)) (X.vg (jz e)) .nil λO j di H r cH P S A bF bK bQ aO bV aW d F=>?_)⟩);have Q:SR c.B c.ρ a j c.env n k (m.set i (.obj H)) O.heap:=
  ⟨y,aS,_,X.yn e (λb b7 b8 cf bX L=>bF b b7 b8 (λq=>cf (cD.mp q)) bX L) (MG bK (.head _) X.ns) bQ A aO bV l ⟨.ref G.self,J,aW⟩ λb R=>⟨(d b R).1.imp id X.free,(d b R).2⟩⟩
 cases r with
 |some cz=>
  refine aA F λv cy cA=>?_;subst cy;exact ao O j v H cz P S A Q cA
 |none=>
  refine iL F λx g cC au cC=>?_;subst au;exact aI O j H x g P S A Q
end
section
variable{B:br O}{prog:bZ}{w:bR}{A:cI}{ρ:Mk}{env:cG}{xs:Y ai}{k:aa}{lv:Y (AV O)}{cls:aD}{st:b9}
noncomputable def uW(B:br O)(prog:bZ)(w:bR)(A:cI)(ρ:Mk)(env:cG)(xs:Y ai)(k:aa)(lv:Y (AV O))(st:Y b9)(cls:aD)(y:Y (AV O)->fg->Prop)(i:Y (AV O)->Prop):Prop:=
 ∀(L:HB)(f:Fz)(s:aT)(Q:Flow->aT->Prop)(P:aD->aT->Prop),L.lk=[]->SR B ρ L f env xs k lv s.heap->
  (∀h j X S e,y S e->bS s h->Le f j->SR B ρ L j env xs k S h.heap->FD ρ j X e->Q X h)->
  (∀h j S T a z,i S->bS s h->Le f j->SR B ρ L j env xs k S h.heap->Heap.MadeExcOf h.heap T a cls z->P (.ref a) {h with heap:=T})->wpAny (model prog w) A (execs st env) Q P s
theorem FA(R:zl B prog w A ρ env xs k lv o Ψ)(e:∀g h,Ψ g h->h=.next/\uW B prog w A ρ env xs k g b cls y s):uW B prog w A ρ env xs k lv (o::b) cls y s:=by
 intro L f j Q P l S G v;refine g4 (R L f j _ _ l S λt u X g h p q c T d=>(bM (e g h p) λn e=>?_));subst n;obtain rfl:=d.nx;exact e L u t Q P l T (λx F X H h p i z a d=>G x F X H h p (q.trans i) (c.trans z) a d) λx F H m r O p i z a E=>v x F H m r O p (q.trans i) (c.trans z) a E
theorem Nc{b:bl}(a:fX B prog w A ρ env xs k lv e aV b)(R:b=ae->uW B prog w A ρ env xs k aV n cls y l)(o:b=ak->y aV .next)(Q:∀lv X,y lv X->True):uW B prog w A ρ env xs k lv [.If e n [] p] cls y l:=by
 intro L f s P aj v S G m;cases b with
 |false=>
  refine g4 (yZ (a L f s _ _ S λt u q c T=>q4 (q4 (G t u .next _ .next (o J) q c T trivial))))
 |true=>
  refine g4 (yZ (a L f s _ _ S λt u q c T=>(R J L u t _ _ v T (λx F X H g p i z h d=>?_) λx F H E e r p i z h O=>m x F H E e r p (q.trans i) (c.trans z) h O)));have j:=G x F X H g p (q.trans i) (c.trans z) h d;cases X<;>first|exact q4 j|exact j
theorem QN(F7:fy B aex acC){bF n8:O->aY T->Prop}(gz:kh B au lq L dN xs)(dW:ef.length+1<=xs.length)(sH:∀h i,Binds (B.fr h i) prog w L xs uy ef)
  (p9:∀{e i p},B.ob.at_ o e i p->∃z,B.ob.at_ o₁ e i z/\∀b∈z,b∈p)(mW:∀{e i p cK aI y f r},n8 f r->B.ob.at_ o₁ e i p->B.ob.at_ f cK aI y->cK=e/\∀b∈p,b∈y)
  (sE:∀{e i p z b8 h Q aG}(aP:bG (B.fr h aG).bO b8),Turn (B.fr h aG) (h++Q)->B.ob.at_ o e i p->B.ob.at_ o₁ e i z->(∀b x,i.get? b=U x->b∉(B.fr h aG).tabs->b∉z->b8.get? b=U x)->(∀b∈p,b∉(B.fr h aG).tabs)->∀m A ρ,zm (h++Q) A->dB A (sF+1)->
   uW ((B.fr h aG).up b8 aP) prog w (A.deeper (callEnvC L m au)) ρ (callEnvC L m au) xs xs.length (lN o₁ xs ef) dN cls (λS h=>∃f r,S[0]?=U (.obj f)/\u6 h r/\n8 f (U r)) λS=>∃f,S[0]?=U (.obj f)/\n8 f af)
  (sG:∀{e i p z aI cf f r},n8 f r->B.ob.at_ o e i p->B.ob.at_ o₁ e i z->B.ob.at_ f e aI cf->(∀b∈p,b∉z->∀x,i.get? b=U x->aI.get? b=U x)->(∀b∈cf,b∈z\/i.get? b=af)->∃H y,bF H r/\B.ob.at_ H e aI y/\∀b∈y,b∈cf\/(b∈p/\b∉z)):
  o8 B prog w (sF+1) (.ref au) o uy cls bF:=by
 intro A ρ sN e b7 acw s p h Q K iC aO aS bj F5 dG;refine aA (p9 aS) λz aH sub=>?_;have dU:=K.turn.fr (λm ao=>(K.ok m ao).2.2.1) K.dat;have R:kh (B.fr h s.heap) au lq L dN xs:=gz.fr
 have aX:=λb t=>(c_ ((bj b t).1) ((bj b t).2.1) (λq=>by
  rcases e8.mp q with q|q
  .exact(bj b t).2.2 q
  .exact(K.ok b q).2.2.2 t))
 refine HR F7.fr R.ho R.hd R.z4 R.z3 R.z5 R.xE R.hg R.hb dW (sH h s.heap) iC (aO.fr K) aH (λb t=>aX b (sub b t)) F5 λaP m sD eL eM eT iU nR ao=>?_;have dz:∀{a:aT}{c:Fz}{S:Y (AV O)}{f:O}{r:aY T},S[0]?=U (.obj f)->n8 f r->SR ((B.fr h s.heap).up _ aP) ρ ⟨(rest s.heap ((B.fr h s.heap).tabs++z)).get?,[],eL,[]⟩ c (callEnvC L m au) xs xs.length S a.heap->
   Hh (B.fr h s.heap) sN c s.heap a.heap p z m e (λH=>bF H r)/\(B.fr h s.heap).inv c a.heap/\Le c a.heap.get?/\∀b,(s.heap.get? b).isSome=ae->(a.heap.get? b).isSome=ae:=by
  intro a c S f r az P l;refine cps λF cY=>?_;obtain⟨_,F1,aet,l⟩:=l;have gZ:=eU (cS _) dW;obtain⟨aew,_,cK,rfl,a_⟩:=l.vars 0 _ _ (cP gZ) az;refine bM (mW P aH a_) λF8 iT=>cY ?_;subst F8;exact(kU (L2 (B:=B.fr h s.heap) aS aH sub (λb t=>⟨(aX b t).1,(aX b t).2.2⟩) iU ao l gZ a_ (sG P aS aH a_)) l.inv l.bI (λb t=>(bC (fc.mp t) λx j=>((uA (b∈z)).elim (λbK=>B.ob.live a_ b (iT b bK)) λbK=>(uA (b∈(B.fr h s.heap).tabs)).elim ((B.fr h s.heap).live l.inv b) λbf=>dc (l.kept b x (yg j bf bK))))))
 refine sE aP dU aS aH (λb x n d u=>yg n d u) (λb t=>(aX b t).2.2) m A ρ K.fr iC _ eL sD _ _ J nR (λa c acy S aeu P q bV l aq=>?_) λa c S cH n aev P q bV l g=>?_
 .refine jw P λf r az mV P=>ve (dz az P l) λcz eF aN F=>?_;obtain⟨H,y,bw,bB,bu,aW,bQ,_⟩:=cz;have eY:=λe_ aq=>dG a c y H (U r) _ bw (eM.trans q) (eT.trans bV) (λb d u E x n=>bB b (λq=>d (sub b q)) (λq=>(e8.mp q).elim u E) x n) eF.2 eF.1 aN bu aW bQ (aR e_ J aq);rcases mV with rfl|⟨rfl,rfl⟩
  .obtain⟨e_,rfl,aq⟩:=aq.rt;exact eY _ aq
  .obtain rfl:=aq.nx;exact eY _ .none
 .refine aA P λf az P=>cps λF cY=>ve (dz az P l) λcz i6 aN jk=>?_;obtain⟨H,y,bw,bB,bu,aW,bQ,jU,kF,dm,F1,fD⟩:=cz;have fP:∀b,b∉p->b∉B.tabs->b∉h->∀x,s.heap.get? b=U x->a.heap.get? b=U x:=λb d u E x n=>bB b (λq=>d (sub b q)) (λq=>(e8.mp q).elim u E) x n;refine bM i6 λbX gx=>aA K.fr λqP qQ qR=>jL g.there λqS qT acD NY=>cY ?_;have NZ:m≠n:=λq=>iL fD λo F F aj F=>aU ((aL _ q).trans g.new) aj;have gy:∀G∈m::(h++Q),∃o,cH.get? G=U o/\∀b7,o.data≠.fields b7:=λG v=>by
   rcases cQ.mp v with rfl|v
   .exact jb fD λo acz acE aj sI F=>(aR o (g.keeps _ _ aj) (λb7 q=>by rw [sI]at q;contradiction))
   .exact dU.dat _ _ (br.gO (B:=B.fr h s.heap) ⟨bX,gx⟩ λP F o n=>g.keeps _ _ n) G v
  have sJ:cH.FunFrames (rest cH (n::m::(h++Q))) (callEnvC L m au::qP):=C3 (λG v=>sR _ (fF _ v)) gy λenv cy=>by
   rcases cQ.mp cy with rfl|cy
   .exact⟨by show L.scope.kind≠_;rw [gz.xE.kind];decide,_,gj,J⟩
   .refine bM (qR env cy) λk sM=>?_;refine aA (sM) λG v X=>?_;exact⟨k,G,fF _ v,X⟩
  refine wpAny_leaving_firstW (N2 qQ) sJ J qT (t9 _) (sR _ gj) J J J λcA v_=>ve v_ λyD acF F0 cC=>?_;have aB:∀b,b≠m->b∉h->b∉Q->∀x,a.heap.get? b=U x->cA.get? b=U x:=λb d u E x j=>by
   refine yD b x (nF (g.keeps _ _ j) ?_);simp only [cQ,e8,not_or];exact(kU (λq=>(by rw [q,g.new]at j;exact aU J j)) d u E)
  have bh:=K.turn.tab;refine dG {a with heap:=cA} c y H af _ bw ((eM.trans q).trans (b_ _ a.toks J)) (eT.trans bV) (λb d u E x j=>aB b (λq=>aU ((aL _ q).trans ao) j) E (λq=>u (bh b q)) x (fP b d u E x j)) (λG v=>?_) ?_ (λb x j=>aB b (λq=>?_) (λq=>?_) (λq=>?_) x (aN b x j)) bu (B.frame aW (λb x j=>?_) λb t x j=>?_) bQ (Ab n (.ref qS) a.heap J g.new ?_ jk (λb t=>B.ob.live aW b t) aN)
  .refine dS (gx G v) λo qU fq F3=>aA (K.dat G v) λF4 aK cN=>?_;rw [aK]at fq;obtain rfl:=bg fq;exact bC (cC G _ (g.keeps _ _ F3) cN) λcM aM=>(gh _ cM aK aM)
  .refine K.turn.sl _ a.heap cA bX λP gA o aj=>?_
   by_cases X:P∈Q
   .refine aA (K.turn.dat _ _ bX P X) λF4 aK cN=>?_;rw [aj]at aK;obtain rfl:=bg aK;exact bC (cC P _ (g.keeps _ _ aj) cN) λcM aM=>.inr ⟨X,cM,aM⟩
   .exact .inl (aB P (λq=>(bC (fc.mp (B.live aO.inv P gA)) λN1 F6=>(aU ((aL _ q).trans ao) F6))) (λq=>(K.ok P q).2.2.1 gA) X o aj)
  .exact aU ((aL _ q).trans kF) j
  .exact aU (dm b (iX _ q)) j
  .exact aU (dm b (fV _ (bh b q))) j
  .have bf:b∉B.tabs:=λq=>aU (aO.ji b q) j;have iD:=aO.base b x j;have X:b∉h:=λq=>aU ((K.ok b q).2.1) j;exact aB b (λq=>aU ((aL _ q).trans ao) iD) X (λq=>bf (bh b q)) x (fP b (λq=>(aU ((bj b q).2.1) j)) bf X x iD)
  .have:=jU b t;exact aB b this.1 (λq=>this.2 (iX _ q)) (λq=>this.2 (fV _ (bh b q))) x j
  .obtain⟨c9,acA,acB,F2,F_,Ga,Gb,F9⟩:=M4 F0;refine F9 _ (iO λo Ge=>?_)
   by_cases iE:c9∈m::(h++Q)
   .refine aA (gy c9 iE) λGd Gf di=>bC (cC c9 Gd Gf di) λqU aM=>?_;cases bg (Ga.symm.trans aM);exact di _ Gb
   .exact aU F2 (nF (g.keeps _ _ Ge) λq=>(cQ.mp q).elim F_ iE)
end
section
theorem abW(h:EE c n k m e g (.str l)):EE c n k m (.JoinedStr [e] p) g (.str l):=⟨λL f s Q P S G=>PySem.wpAny_JoinedStr_one (h.1 L f s Q P S G)⟩
theorem abC(F:Fm c.env xs k az)(u:aa)(d:az[u]?=U (x,.globalImplicit))(o:OwnCls x a i n c.mg c.B.bO)(w:ExcBaseFacts bf n bj i)(h:ER c xs k m cpos A g e)(R:A.all dX=ae)(H:e.length<=1000):
  uW c.B c.prog c.w c.A c.ρ c.env xs k m [.Raise (U (.Call (.Name x np) A [] cpos)) af pos] (.ref a) Φ λb=>b=g:=by
 intro bu aO a_ bw aP aW S bh v;refine cps λ_ r=>?_;obtain⟨aS,j,t,q,G,B,f,sub,p,X,z,l,O,s,Q,aj,aX,ao,aq,au,y⟩:=o.obj
 refine r (g4 (wpAny_Raise_call_subT (nm:=t) (q:=q) (N:=j) (bs:=G) (hdct:=B) (sn:=f) (sub:=sub) (ab:=p) (col:=X) (dd:=z) (k0:=l) (k1:=O) (k2:=s) (k3:=Q) (k5:=aj)
  w (y.hasType w.hasBase) c.R.handled (kA A (mH R)) au (pN c.G S.1 S.ready.base (F.kn u d nofun) o.bound (F.kg u d) ⟨J,(jY (mH R) h.1 S λL aG aH aI aB T aM=>?_)⟩)))
 have P:=T.ready.base;exact(xF J (aM.length.symm▸o6.symm▸(aJ H (aC J))) (P _ _ ao) (aq.keeps P) (y.keeps P) (λaK aN E=>v L aG _ aK aN aH J aI aB T E))
end
section
theorem ab9(E:bJ c.B c.prog c.w d)(S:jI c bX)(F:Fm c.env n k b8)(i u:aa)(L:n[i]?=U x)(f:m[i]?=U (.obj (.b6 q z)))(A:(X,e)∈d.fs)(Q:X∉(["_node2info","_ready_nodes","_npassedout","_nfinished"]:Y ai))
  (aH:∀{h},bG c.B.bO h->h.get? e=U au)(aN:au.data=.func bf)(v:o8 c.B c.prog c.w c.n (.ref e) (.b6 q z) [] bh o)(G:∀H r,o H r->H=.b6 q p/\r=U y)(T:(b.endLine==w.line)=ae)
  (s:n[u]?=U O)(g:u<k)(R:swapsWith (.Call (.Attribute (.Name x aj) X b) [] [] w) (U (.Name O ao)) aq.line c.env=pure ak):
  ES c n k m (.Assign [.Name O ao] (.Call (.Attribute (.Name x aj) X b) [] [] w) aq) ((m.set i (.obj (.b6 q p))).set u (.t y)) .next:=by
 constructor;intro bj bB bF bK b7 t az aB;refine lC (WC E S F i L f A Q aH aN (λh=>h) v T az (λaG j aI H r P aK aM a aO=>?_) λaG j H bu bw P=>?_) R
 .refine bM (G _ _ P) λaP aS=>?_;subst aP;cases aS;obtain⟨l,bQ,bV,a⟩:=a;exact gu (av:=.t y) l t a s g (F.loc s g) ⟨J,aI,J,aO⟩ .nil λaX aW a_ B=>aB aX j .next (aK.trans a_) aM ⟨l,aW,_,B⟩ trivial
 .exact aU J ((G _ _ P).2)
theorem ZP(v:d6 i u B 0 G e x p)(R:d6 i u B 2 G e x z)(w:d6 i u B 2 {G with cO:=U a,rl:=l} e h' g)(T:G.cO=af)
  (d:∀b∈p,b∉z->∀j,x.get? b=U j->h'.get? b=U j)(L:∀b∈g,b∈z\/x.get? b=af):
  ∃y,d6 i u B 0 {G with cO:=U a,rl:=l} e h' y/\∀b∈y,b∈g\/(b∈p/\b∉z):=by
 have n:=tZ i u B 2 G;have c:qC i u B 2 {G with cO:=U a,rl:=l}=qC i u B 2 G:=by
  rfl
 have O:=tZ i u B 2 {G with cO:=U a,rl:=l};simp only [c]at O;have h:=v.apart R;have k:=v.ob.nd;simp only [v.ob.ad,n,dO]at k;refine(aR _ (⟨w.v,w.sm,w.nd,⟨λs f=>?_,J,?_⟩⟩) (λb t=>?_))
 .rw [O]at f;rcases e8.mp f with f|f
  .exact w.ob.dJ s f
  .refine aA (v.ob.dJ s (by rw [n];exact iX _ f)) λo r H=>?_;have:=h s.1 (fG f);exact(aR o (d s.1 this.1 this.2 o r) H)
 .rw [O,dO,f9];refine(c_ (by have:=w.ob.nd;rw [w.ob.ad]at this;exact this) ((f9.mp k).2.1) (λb t Q E q=>?_));subst q;have:=h b E;rw [<-w.ob.ad]at t;rcases L b t with q|q
  .exact this.2 q
  .have m:=v.ob.live b this.1;rw [q]at m;exact cW J m
 .rw [O,dO]at t;rcases e8.mp t with t|t
  .left;rw [w.ob.ad];exact t
  .exact .inr (h b t)
end
noncomputable def Xj:Y (ai×fe):=[("self",.local),("cycle",.local),("ValueError",.globalImplicit),("CycleError",.globalImplicit)]
noncomputable def oM:Y ai:=["self","cycle"]
noncomputable def gT(m:Y AN):Y (Y aa):=(m.filter λa=>decide (a.2.1=0)).map (·.1)
noncomputable def UU(m:Y AN)(l:Y aa):bl:=m.any λa=>decide (a.1=l)
noncomputable def qh(m:Y AN):bl:=m.all λa=>a.2.2.all λs=>UU m s
theorem Rk(h:qh G.al=ae):uS G:=λQ c s r=>D3 (e7.mp (e7.mp h (Q.key,Q.np,Q.succ) (eG.mpr (aR Q c J))) s r)
noncomputable def AX:aY (Y (Y aa))->aY T
 |U _=>af
 |af=>U .none
noncomputable def rZ:aY (Y (Y aa))->bl
 |U b=>!b.isEmpty&&decide (b.length<=1000)
 |af=>ae
section
variable{y:Ly Ob}{f g7:ay}{al:Y AN}
theorem ic.fr{H:br Ob}(E:ic H a i u Q k n):ic (H.fr A h) a i u Q k n:=⟨E.d.fr,E.ar,E.sc,E.df,E.kd⟩
theorem ic.up{H:br Ob}(E:ic H a i u Q k n)(l:bG H.bO A):ic (H.up A l) a i u Q k n:=⟨E.d.up l,E.ar,E.sc,E.df,E.kd⟩
theorem Fast.fr{H:br Ob}(K:Fast H i u B G):Fast (H.fr A h) i u B G:=⟨K.sm,K.kn,K.st⟩
theorem QM{H:br Ob}{i:bZ}{w:bR}{cl:Cl}{f:aD}(z:bJ H i w cl)
  (h:∀G:SG,G.abs=.b3 x al rd po g->G.kn->o8 H i w b f (.b6 0 G) R k t):o8 H i w b f (.b3 x al rd po g) R k t:=by
 intro F X e B l n s p A Q K o j a q v c;rw [z.ob]at a;obtain⟨G,m,d⟩:∃G:SG,G.abs=.b3 x al rd po g/\d6 i w cl 0 G B s.heap p:=a;exact h G m (DE d.nd) F X e B l n s p A Q K o j (z.ob.symm▸d) q v c
set_option maxHeartbeats 1000000
theorem abl(z:bJ y.B y.prog y.w B)(E:ic y.B f 7 3 lq q oM)(S:ic y.B g7 7 8 nR i6 fk)(dm:(("_find_cycle":ai),g7)∈B.fs)(gx:OwnCls "CycleError" e dW eM y.mg y.B.bO)(eT:ExcBaseFacts mV eM jk dW)
  (fP:qh al=ae)(bV:aa)(gA:nr al bV=U res)(X:rZ res=ae)(iC:al.length<=800):
  o8 y.B y.prog y.w (aS+2) (.ref f) (.b3 aX al af bf bh) [] (.ref e) λH r=>H=.b3 aX al (U (gT al)) bf bh/\r=AX res:=by
 refine QM z λG cf bj=>?_;obtain⟨cz,cC,O,cN,dG⟩:G.self=aX/\G.al=al/\G.cO=af/\G.po=bf/\G.fi=bh:=by
  injection cf with a bB eL d f
  exact(kW a bB (by simpa using eL) d f)
 subst cC;refine QN y.G (o₁:=.b6 2 G) (n8:=λb r=>(∃a,b=.b6 2 {G with cO:=U a,rl:=gT G.al})/\r=AX res) E.d (dQ J) (λfl s=>.plain λt c9=>?_)
  (λ{k s n}v=>?_) (λ{k s n mW x i b r}P h1 w=>?_) (λ{k s n b8 a_ fl cy di}l cH v h1 cM cY u R aj eF aK=>?_) (λ{k s n b8 x kF b r}P v w h1 fq aM=>?_)
 .exact bind1 (λa=>(qe E.ar E.df _).trans J) t c9
 .rw [z.ob]at v;have v:=v;obtain⟨i,s,j⟩:=v.rest;exact(aR i (z.ob.symm▸s) j)
 .obtain⟨⟨a,rfl⟩,_⟩:=P;rw [z.ob]at h1 w;have h1:=h1;have w:=w;refine⟨by simp only [h1.v,w.v],λbB A=>?_⟩;rw [h1.ob.ad]at A;rw [w.ob.ad];simp only [nB,AR,LK,fO,O,iW,GG,cQ,dP,or_false]at A⊢;exact A.elim .inl λcA=>.inr (.inl cA)
 .have F:Fm (callEnvC q u f) oM oM.length Xj:=ko (J) (by show q.scope.names=_;exact aL _ E.sc)
  let bu:=(y.fr fl di).up a_ l
  let c:=bu.c (R.deeper (callEnvC q u f)) aj (callEnvC q u f) (aS+1) aK.deeper
  have bw:=z.fr.up l;have o:bJ c.B c.prog c.w B:=bw;simp only [z.ob]at v h1;have v:=v;have aW:ro (qC y.prog y.w B 2 G) a_:=λbF bK=>by
   have bQ:=v.apart (h1) bF.1 (fG bK);refine aA (v.ob.dJ bF (by rw [tZ y.prog y.w B 2 G];exact iX _ bK)) λdz aM p=>?_;exact(aR dz (cM _ _ aM (cY _ bQ.1) bQ.2) p)
  have g:Fast c.B c.prog c.w B G:=(⟨v.sm,bj,aW⟩);have dN:jI c (fl++cy):=I_ (c:=c) eF J (cH.up l) J (by show q.scope.kind=_;exact aL _ E.sc);have dU:∀a,o8 c.B c.prog c.w c.n (.ref g7) (.b6 2 {G with cO:=U a,rl:=gT G.al}) [] .none λH r=>H=.b6 2 {G with cO:=U a,rl:=gT G.al}/\r=U (zK res):=λa=>
   QL λm jU x ef=>by
    have:=abc (y:=bu.fr m x) (n:=aS) (bw.fr) ef ((S.fr.up l).fr) (G:={G with cO:=U a,rl:=gT G.al}) (Rk fP) bV gA (⟨v.sm,bj,aW⟩);intro R aj ao k t aK j n aq au az aB eY cK e_;exact this R aj ao k t aK j n aq au az aB eY cK λL aH fD i H r P=>e_ L aH fD i H r ⟨P.1,aL U P.2⟩
  refine FA (Ψ:=λaI f=>aI=lN (.b6 2 G) oM []/\f=.next) (ES.ev (c:=c) (cJ (b:=ak) (zC (j7 o (j4 o (i:=0) (q:=2) J J) (jE o F 0 J J) (.Mg O) J) zn J J) ⟨i3⟩)|>.p ⟨J,J⟩) λbX m P=>?_;obtain⟨rfl,rfl⟩:=P;refine⟨J,?_⟩;have gy:(gT G.al).map T.str=(G.bU.filter λQ=>decide (Q.np=0)).map λQ=>T.str Q.key:=by
   simp only [gT,SG.al,yK,d5];rfl
  have gz:EF c oM oM.length (lN (.b6 2 G) oM []) (zy (dZ 1 (cZ (fm 7 3)))) (lN (.b6 2 G) oM []) ((gT G.al).map .str):=by
   simp only [gy];exact uv (us:=G.bU) (g:=λQ=>.bY (.ref Q.i)) "i" [] [] (λQ=>.str Q.key) (λQ=>decide (Q.np=0)) F (J) (J) (J)
    (abZ (j7 o (j4 o (i:=0) (q:=2) J J) (jE o F 0 J J) .tW J) g.sm g.map J J) J
    (λe aG Q aN=>zC (uw (c:=c.fB _ e) o (Fast.info (c:=c.fB _ e) g aN) (zv aG 0 J J) .np J) (zi 0) J J)
    (λe aG Q aN h=>uw (c:=c.fB _ e) o (Fast.info (c:=c.fB _ e) g aN) (zv aG 0 J J) .node J) J (by exact aJ (by simpa [SG.al]using iC) (aC J))
  refine FA (SP.ev (c:=c) (aci o F 0 J gz J O J)) λbX m P=>?_;obtain⟨a,rfl,rfl⟩:=P;refine⟨J,(FA (Ψ:=λaI f=>aI=[.obj (.b6 2 {G with cO:=U a,rl:=gT G.al}),.t (zK res)]/\f=.next) (ES.ev (c:=c) (ab9 o dN F 0 1 J J dm (by exact nofun) (S.fr.up l).d.ho (S.fr.up l).d.hd (dU a) (λH r P=>P) J J (by exact eH _) J)|>.p ⟨J,J⟩) λbX m P=>?_)⟩;obtain⟨rfl,rfl⟩:=P;refine⟨J,?_⟩;cases res with
  |none=>
   refine Nc (b:=ak) (aV:=[.obj (.b6 2 {G with cO:=U a,rl:=gT G.al}),.t .none]) (EC.ev (c:=c) (j6 (zv F 1 J J) J λh=>J)) nofun (λh=>(my _ _ J (.inr ⟨J,J⟩) ⟨a,J⟩ J)) λh h h=>trivial
  |some b7=>
   simp only [rZ,yE,decide_eq_true_eq]at X;refine Nc (b:=ae) (aV:=[.obj (.b6 2 {G with cO:=U a,rl:=gT G.al}),.t (.list (b7.map .str))]) (EC.ev (c:=c) (j6 (zv F 1 J J) (A7 (by simp;exact aJ X.2 (aC J)) (by simpa using X.1)) λh=>J)) (λh=>?_) nofun λh h h=>trivial;have:=abC (c:=c) (k:=oM.length) (xs:=oM) (x:="CycleError") (np:=⟨48,18,48,28⟩) (cpos:=⟨48,18,48,60⟩) (pos:=⟨48,12,48,60⟩) (Φ:=λaO fl=>∃b r,aO[0]?=U (AV.obj b)/\u6 fl r/\(∃a,b=.b6 2 {G with cO:=U a,rl:=gT G.al})/\U r=af) F 3 J (gx.keeps l) eT
    (zr (abW (p:=⟨48,29,48,52⟩) (zs (kk:=0) (p:=⟨48,31,48,51⟩) _ (cB ['n','o','d','e','s',' ','a','r','e',' ','i','n',' ','a',' ','c','y','c','l','e']))) (zr (zv (p:=⟨48,54,48,59⟩) (lv:=[.obj (.b6 2 {G with cO:=U a,rl:=gT G.al}),.t (.list (b7.map .str))]) F 1 J J) cR J) J) J (by exact cE _ _)
   exactλiD ao j gZ iT aq au az aB=>this iD ao j gZ iT aq au az λL aH aO x d t P=>aB L aH aO x d t (by exact(P)▸((i12 _ J ⟨a,J⟩ J)))
 .obtain⟨⟨a,rfl⟩,rfl⟩:=P;rw [z.ob]at v h1 w;refine aA (ZP (v) (w) (h1) O fq aM) λi iE iU=>?_;refine(g8 _ i ⟨J,J⟩ ?_ iU);exact(z.ob)▸(cz)▸(cN)▸(dG)▸(((aR _ J iE):∃aP:SG,aP.abs=.b3 G.self G.al (U (gT G.al)) G.po G.fi/\d6 y.prog y.w B 0 aP k x i))
end
section
variable{prog:bZ}{w:bR}{A:cI}{a:aa}
theorem Ke(z:s.heap.MapOf (intKind prog w) d X)(l:X a=U (.str x B))(h:∀e,Q (.text x) {s with toks:=e}):
  wpAny (model prog w) A (acN (.ref d) a) Q P s:=by
 exact aE (wpAny_attempt (aE (wpAny_mkInt (Pp (intKind_is ..) z l (aE (g5 (J) (aE (g5 (J) (bD (h _))))))))))
theorem Kf(g:A.handled=af)(E:(d==sysModules)=ak)(z:s.heap.MapOf (intKind prog w) d X)(l:X a=af)(e:∀T h,bG s.heap T->Q .keep {s with heap:=T,toks:=h}):
  wpAny (model prog w) A (acN (.ref d) a) Q P s:=by
 exact aE (wpAny_attempt (aE (wpAny_mkInt (wpAny_getItem_missing_of (intKind_is ..) E g z l λT k r=>(jw r.there λx b R i y=>aE (Pq (b:=ae) (aR _ R i) (J) ((bx J).symm▸(aE (wF (bD (e _ _ r.keeps)))))))))))
theorem I7(b:H)(A:aa->H->Sem _):(forIn #[a] b A)=A a b>>=λr=>match r with|.done b=>pure b|.yield b=>pure b:=J
theorem aa6(b:a<128)(z:s.heap.MapOf (intKind prog w) d X)(g:A.handled=af)(E:(d==sysModules)=ak)(i:(X a=af/\r=[a])\/(∃B,X a=U (.str (cj r) B)/\r.length=2))
  (h:∀T R n,bG s.heap T->Q (.done (.ret (.str (cj r) R))) {s with heap:=T,toks:=n}):wpAny (model prog w) A (Builtin.«str.translate» ⟨[.str ⟨#[a]⟩ l,.ref d],[]⟩) Q P s:=by
 refine aE (g5 (J) ?_);refine o7 J (aE (lX (I7 _ _) (aE (o7 J (wpAny_ite_true (by simp [b]) ?_)))));rcases i with⟨v,rfl⟩|⟨B,v,e⟩
 .refine aE (Kf g E z v λT L k=>(aE (bD (bD (bD ?_)))));exact aE (q5 (bD (h T _ _ k)) (show 1<=sizeLine by decide))
 .refine gD (show∃x O,r=[x,O]from Ar (P:=λr=>∃x O,r=[x,O]) (λx O=>⟨x,O,J⟩) r e) λx O c=>?_;subst c;refine aE (Ke z v λL=>?_);refine aE (bD (aE (wF (aE (Ke (s:={s with toks:=L}) z v λL=>(bD (bD ?_)))))));exact aE (q5 (bD (h s.heap _ _ (bG.refl _))) (show 2<=sizeLine by decide))
end
section
theorem abJ(F:Fm c.env n k o)(u i:aa)(d:o[u]?=U (x,.globalImplicit))(t:u9[i]?=U (x,v)):EE c n k m (.Name x p) m (.bY v):=
 ⟨λL f s Q P S G=>nA c.G S.1 S.ready.base (F.kn u d nofun) (c.bi i _ _ t).1 (c.bi i _ _ t).2 (F.kg u d) (G s f v (bS.refl s) (Le.refl _) S (.bY _))⟩
end
section
structure Co(y:Ly O):Prop where
 ex:∃d f,y.mg "_special_chars_map"=U (.ref d)/\(d==sysModules)=ak/\(∀{h},bG y.B.bO h->h.MapOf (intKind y.prog y.w) d f)/\∀a:aa,a<256->(a∉lV/\f a=af)\/(a∈lV/\∃u,f a=U (.str (cj [92,a]) u))
theorem YN{H:br q}{u:bR}{a d:aa}{X:aF->aY aD}(n:dB F g)(Q:a<128)(E:(d==sysModules)=ak)(z:∀{h},bG H.bO h->h.MapOf (intKind i u) d X)
  (p:(a∉lV/\X a=af)\/(a∈lV/\∃B,X a=U (.str (cj [92,a]) B)))(o:Den e f t (.str [a])):PO H (model i u) F e (call (.builtin "str.translate") [t,.ref d]) f (.str (ie a)):=by
 refine bC (ja o) λm j=>?_;subst j;intro s b P r G;have k:(X a=af/\ie a=[a])\/(∃B,X a=U (.str (cj (ie a)) B)/\(ie a).length=2):=by
  unfold ie;rcases p with⟨R,w⟩|⟨R,B,w⟩
  .exact(bA R).symm▸(.inl ⟨w,J⟩)
  .exact(bx R).symm▸(.inr (aR B w J))
 exact i7 (o5 B4.plain ad5 (B4.check _ _ _ _ _ _ _ _ (sT _ _ _) (ad3 _ _) (aa6 Q (z r.base) n.handled E k λT v x l=>(G _ _ _ (cg.keeps (t:=x) r l) (.str _ _)))))
noncomputable def n7:Y (ai×fe):=[("pattern",.local),("isinstance",.globalImplicit),("str",.globalImplicit),("_special_chars_map",.globalImplicit)]
noncomputable def x7:Y ai:=["pattern"]
end
noncomputable abbrev aaJ(n:jo aD):bN:={cls:=.none,data:=.fields n}
inductive lF(h:cu)(c P:ay):Prop
 |mk(o:bN)(vs:jo aD)(file:ai)(tf:fK)(flags:aF)(tg:fK)(UW:bl)(text:aF)(tt:fK)(e1:h.get? c=U o)(e2:o.cls=.type "code")(e3:o.data=.fields vs)(e4:vs[11]?=U (.ref P))(f3:vs.getD 11 .none=.ref P)(f4:vs.getD 18 .none=.str file tf)
  (f5:vs.getD 7 .none=.int flags tg)(f6:vs.getD 9 .none=.bool UW)(f7:vs.getD 10 .none=.int text tt)(f8:c≠P)
noncomputable def TabAt(h:cu)(P:ay)(n:jo aD):Prop:=h.get? P=U (aaJ n)/\TriplesOk n.toList
section
theorem lF.keeps(x:lF h c P)(k:∀b o,h.get? b=U o->h'.get? b=U o):lF h' c P:=by
 cases x with|mk o z g s a q l e j O i n v H f m r p t=>exact .mk o z g s a q l e j (k _ _ O) i n v H f m r p t
theorem lF.tab(x:lF h c P)(w:TabAt h P n):h.TableAt c P n:=by
 cases x with|mk o z _ _ _ _ _ _ _ O b i v=>exact⟨(my o z O b i v),w.1⟩
theorem lF.code(x:lF h c P)(w:TabAt h P n):h.IsCode c P n:=by
 cases x with|mk o z g s a q l e j O b i v H f m r p t=>exact⟨o,z,g,s,a,q,l,e,j,_,O,i,H,f,m,r,p,w.1,J,w.2,t⟩
end
noncomputable abbrev zX(name y:ai)(params:y_)(body:FuncBody)(scope:g6)(R:Y (ai×ay))(doc u A z:aD):bN:=
 {cls:=.type "function",data:=.func {name,qualname:=y,params,body,scope,globals:=mainGlobals,closure:=R,closureTuple:=z,code:=A,builtins:=builtinsNs,defaults:=.none,kwdefaults:=.none,annotations:=af,pyModule:=u,doc}}
section
variable{s:aT}
inductive sY(h h':cu)(pos:fR)(q:ai)(ps Ma:jo aD)(cv:aD):Prop
 |vm(e:codeAmong pos ps.toList=U cv)(p:Ma=ps)
 |new(c':ay)(e:codeAmong pos ps.toList=af)(v:cv=.ref c')(n:h.objs.size<=c')(r:h'.CodeRec cv q)(p:Ma.toList=ps.toList++[rawInt pos.line,rawInt pos.col,.ref c'])
theorem sY.up(x:sY h h' w q ps S A)(g:X.objs.size<=h.objs.size):sY X h' w q ps S A:=by
 cases x with
 |vm e p=>exact .vm e p
 |new l e v E r p=>exact .new l e v (aJ g E) r p
theorem H_(v:B.code=.ref c)(a:lF s.heap c P)(k:TabAt s.heap P n)
  (G:∀A T m S,mX P s.heap T->s.heap.objs.size<=T.objs.size->TabAt T P S->sY s.heap T w q n S A->Q A {s with heap:=T,toks:=m}):
  wpAny g F (functionCode B w u t q o d L) Q f s:=by
 cases p:codeAmong w n.toList with
 |some A=>exact wpAny_functionCode_hit v (a.code k) p (G A s.heap s.toks n (λy y y e=>e) (ek _) k (.vm p J))
 |none=>
  refine wpAny_functionCodeX v (a.code k) (a.tab k) p λl T m j h x y i b y=>G _ T m _ j (gm (iH h x)) ⟨b.2,?_⟩ (.new l p J h i (by simp));have H:(n++#[rawInt w.line,rawInt w.col,uN l]).toList=n.toList++[rawInt w.line,rawInt w.col,.ref l]:=by simp
  simp only [H];exact TriplesOk_snoc _ _ _ _ k.2
theorem WI(Q:closureFor d B=pure R)(aB:B.globals=mainGlobals)(u:s.heap.Ns mainGlobals aq)(q:B.code=.ref aK)(f:lF s.heap aK P)(k:TabAt s.heap P ao)(v:mainGlobals≠P)(au:s.heap.BuiltinsAt aq P)
  (h:∀A aN aP aj T m S,mX P s.heap T->s.heap.objs.size<=T.objs.size->TabAt T P S->sY s.heap T az y ao S A->
   aG (.ref T.objs.size) {s with heap:=T.push (zX G y aI L d R aP aj A aN),toks:=m}):
  wpAny bj bu (makeFunction G y aI L d B [] [] [] az aX) aG a_ s:=by
 rw [makeFunction_eq];simp only [List.zip_nil_right,List.filterMap_nil,List.isEmpty_nil,if_true,pure_bind];refine IB au λbf bh r E aS z O H x l=>?_
 delta makeTail
 rw [Q,aB];refine aE (bD ?_);cases R with
 |nil=>
  refine aE (bD (aE (H_ q f k λA T m S j t g c=>?_)));have F:=u.extBut j v;refine aE (Po F r E (j _ _ z O) H x l (aE (Ps F ?_)));cases L with
  |expr e=>exact aE (bD (q6 (h A _ .none _ T m S j t g c) (by size_fits)))
  |stmts b=>
   dsimp only;cases aM:docOf b with
   |none=>exact aE (bD (q6 (h A _ .none _ T m S j t g c) (by size_fits)))
   |some aH=>exact aE (y9 (q6 (h A _ _ _ T _ S j t g c) (by size_fits)))
 |cons bw aW=>
  refine aE (wpAny_newTextTuple ?_);have i:∀a b o,s.heap.get? b=U o->(s.heap.push a).get? b=U o:=λa b o e=>eg _ e;refine aE (H_ q (f.keeps (i _)) ⟨i _ _ _ k.1,k.2⟩ λA T m S j t g c=>?_);have X:mX P s.heap T:=λb o aO e=>j b o aO (i _ b o e);have w:∀a:bN,s.heap.objs.size<=(s.heap.push a).objs.size:=λa=>by simp only [l0];exact fH _ _
  have n:=c.up (w _);have F:=u.extBut X v;refine aE (Po F r E (X _ _ z O) H x l (aE (Ps F ?_)));have p:=aJ (w _) t;cases L with
  |expr e=>exact aE (bD (q6 (h A _ .none _ T m S X p g n) (by size_fits)))
  |stmts b=>
   dsimp only;cases aM:docOf b with
   |none=>exact aE (bD (q6 (h A _ .none _ T m S X p g n) (by size_fits)))
   |some aH=>exact aE (y9 (q6 (h A _ _ _ T _ S X p g n) (by size_fits)))
end
section
noncomputable def Cf(X:Fz)(q:ai)(A:aD):Prop:=∃b o z w,A=.ref b/\X b=U o/\o.data=.fields z/\z[1]?=U (.str q w)
noncomputable def q_(X:Fz)(F:Y (fR×ai))(n:jo aD):Prop:=∀x∈F,∀A,codeAmong x.1 n.toList=U A->Cf X x.2 A
theorem q_.le(x:q_ X F n)(l:zo X j):q_ j F n:=λO s A e=>zQ (x O s A e) λb o z w h a i v=>(qp b o z w h (l b o z i a) i v)
theorem HC{p:fR}(h:TriplesOk l)(e:codeAmong p (l++[rawInt a,rawInt b,c])=U A):codeAmong p l=U A\/A=c/\(a)=p.line/\b=p.col:=by
 fun_induction TriplesOk l with
 |case1=>
  have e:(if a==(p.line:aF)&&b==(p.col)then U c else af)=U A:=e
  split at e
  .rename_i q;exact .inr ⟨(bg e).symm,eq_of_beq (cU.mp q).1,eq_of_beq (cU.mp q).2⟩
  .exact aU J (e)
 |case2 L i Q B x rest f=>
  have e:(if L==(p.line)&&Q==(p.col)then U x else codeAmong p (rest++[rawInt a,rawInt b,c]))=U A:=e
  split at e
  .exact .inl ((bx ‹_›).trans e)
  .exact(f h e).imp (λq=>(bA ‹_›).trans q) id
 |case3 l R w=>exact h.elim
structure jq(B:br O)(mg:ai->aY aD)(c P:ay)(ks:Y (fR×ai)):Prop where
 tab:P∈B.tabs
 hd:∀{h},bG B.bO h->lF h c P
 at_:∀{f h},B.inv f h->∃ps,TabAt h P ps/\q_ f ks ps
 put:∀{f f' h h'},B.inv f h->zo f f'->(∀Q∈B.tabs,Q≠P->∀o,h.get? Q=U o->h'.get? Q=U o)->(∃ps,TabAt h' P ps/\q_ f' ks ps)->B.inv f' h'
 ne:mainGlobals≠P
 bm:∀{h},bG B.bO h->h.BuiltinsAt mg P
theorem zG(h:∀x∈d.names,x.2≠.free):closureFor d B=pure []:=by
 rw [closureFor]
 rw [forIn_yield_id [] (λx j c=>by
  obtain⟨g,e⟩:=x;have:(e==BU)=ak:=by simpa using h _ j
  simp only [this,Bool.false_eq_true,if_false])]
 rfl
structure G7(h:cu)(f:Fz)(a P:ay)(pos:fR)(q:ai)(ks:Y (fR×ai))(cv:aD):Prop where
 kn:(∃x∈ks,x.1=pos)->Cf f q cv
 nw:(∀ps,TabAt h P ps->codeAmong pos ps.toList=af)->∃c' o vs t,cv=.ref c'/\h.get? c'=af/\c'≠a/\f c'=U o/\o.data=.fields vs/\vs[1]?=U (.str q t)
theorem Kz{d:g6}{R:Y _}
  (aX:fy H bF dG)(K:jq H bF b7 aM au)(az:∀x∈au,(G.line:aF)=x.1.line->(G.col:aF)=x.1.col->x.2=y)(bQ:B.code=.ref b7)(cy:closureFor d B=pure R)(cz:gb B)(S:aQ H cC cA f B bf bh bu bw bB s.heap)
  (aG:∀A z h u T m a i,bS s {s with heap:=T,toks:=m}->Le f i->aQ H cC cA i B bf bh bu bw bB T->T.get? a=U (zX ao y aB aq d R h u A z)->s.heap.get? a=af->kL H s.heap T->G7 s.heap i a aM G y au A->(∀b o,i b=U o->f b=U o\/s.heap.get? b=af/\b≠a)->
   Q (.ref a) {s with heap:=T,toks:=m}):
  wpAny (model dz cM) cN (makeFunction ao y aB aq d B [] [] [] G c9) Q di s:=by
 refine aA (K.at_ S.inv) λdm aj X=>WI cy cz.globals (aX.g S.base) bQ (K.hd S.base) aj K.ne (K.bm S.base) λA z h u T m L j aN g aW=>?_;have P:∀b,b≠aM->∀o,s.heap.get? b=U o->(T.push (zX ao y aB aq d R h u A z)).get? b=U o:=λb a_ o e=>eg _ (j b o a_ e);have n:kL H s.heap _:=λb bj o e=>P b (λq=>bj (q▸K.tab)) o e;have w:∀{b},s.heap.objs.size<=b->s.heap.get? b=af:=λ{b}c=>by
  cases q:s.heap.get? b with
  |none=>rfl
  |some o=>exact bE (fQ q) (fJ.mpr c)
 cases aW with
 |vm e p=>
  subst p;exact aG A z h u _ m _ f (b_ _ _ J) (Le.refl _) (S.grow n (K.put S.inv (λ_ _ _ _ e=>e) (λQ bK E o e=>P Q E o e) (aR L ⟨eg _ g.1,g.2⟩ X)) (Le.refl _) λb o e=>.inl e) (eN _ J) (w aN) n
   ⟨λbV=>aA bV λx j O=>((az x j (aL (λp:fR=>(p.line:aF)) O.symm) (aL (λp:fR=>(p.col:aF)) O.symm))▸X x j A (O▸e)),λb8=>aU (b8 L aj) e⟩ λb o e=>.inl e
 |new l e v c cf p=>
  refine rF cf λcY k aH aI bX aK F=>?_;obtain rfl:=jn (v.symm.trans bX);have t:=w c;have r:Le f (kT f l k):=xx (iO λo q=>aU t (S.bI _ _ q));have aO:Cf (kT f l k) y A:=qp l k aH aI v qm F.1 F.2;have aP:=fQ aK;refine aG A z h u _ m _ _ (b_ _ _ J) r (S.grow n (K.put S.inv (λb o _ _ e=>r b o e) (λQ bK E o e=>P Q E o e) (aR L ⟨eg _ g.1,g.2⟩ λx j cH q=>?_)) r λb o q=>qn q (λq cK=>.inr (q▸cK▸⟨t,eg _ aK⟩)) .inl) (eN _ J) (w aN) n
   ⟨λ_=>aO,λ_=>(UM l k aH aI v t (fW aP) qm F.1 F.2)⟩ λb o q=>qn q (λq _=>.inr (q▸⟨t,fW aP⟩)) .inl
  rw [p]at q;rcases HC aj.2 q with q|⟨q,O,aS⟩
  .exact(X.le λb o _ _ e=>r b o e) x j cH q
  .exact(az x j O aS)▸(q)▸(v)▸(aO)
theorem DN{f:Fz}{B:cG}{k:aa}{m:Y _}{h t:ai->aY aD}{c P:ay}{r:y_}{d:g6}{i:Y _}{s:aT}{p:aD->aT->Prop}{Q:aD->aT->Prop}{E:ai->aY aD}{R:aa->Y ay}
  (G:fy H h t)(K:jq H h c P F)(g:∀x∈F,(w.line:aF)=x.1.line->(w.col:aF)=x.1.col->x.2=B.qual++"<lambda>")(v:B.code=.ref c)(ao:closureFor d B=pure i)(O:defaultsOf r B=([],[]))(y:gb B)(S:aQ H X L f B n k m E R s.heap)
  (l:∀A z q u T e a j,bS s {s with heap:=T,toks:=e}->Le f j->aQ H X L j B n k m E R T->T.get? a=U (zX "<lambda>" (B.qual++"<lambda>") r (.expr aj) d i q u A z)->s.heap.get? a=af->kL H s.heap T->G7 s.heap j a P w (B.qual++"<lambda>") F A->(∀b o,j b=U o->f b=U o\/s.heap.get? b=af/\b≠a)->Q (.ref a) {s with heap:=T,toks:=e}):
  wpAny (model au az) aq (eval (.Lambda r aj d w) B) Q p s:=by
 rw [arm_eval_Lambda,O];exact aE (bD (aE (e9 (bD (Kz G K g v ao y S l)))))
end
section
open Builtin.Re
noncomputable def xm:aa->B6->aY B6
 |0,_=>af
 |g+1,E=>let h:=E.runFor reTurnSteps;if h.outcome.isSome then U h else xm g h
noncomputable def CT:aY O6->bl
 |U .failed=>ae
 |_=>ak
noncomputable def tX(code:jo aa)(e:jo aa)(a:aa):bl:=(xm 1000 (yV code e a 0 e.size ak)).any λE=>CT E.outcome
theorem I1{o:aY O6}(h:CT o=ae):o=U .failed:=by
 cases o with
 |none=>exact cW J h
 |some x=>cases x with
  |failed=>rfl
  |_=>exact cW J h
theorem MF:Slot "function" "__call__" "function.__call__":=
 .of (owner:="function") (n:="__call__") (by kernel_rfl) (J) (J) (J)
  (by first|exact .inl (J)|exact .inr _) (by exact J)
theorem vR:Slot "re.Pattern" "sub" "re.Pattern.sub":=
 .of (owner:="re.Pattern") (n:="sub") (by kernel_rfl) (J) (J) (J)
  (by first|exact .inl _|exact .inr (J)) (by kernel_rfl)
theorem M7:typeOf (.builtin "re.Pattern.sub")=pure (.type "method_descriptor"):=by kernel_rfl
theorem IS:entryFor table "re.Pattern.sub"=U Builtin.«re.Pattern.sub»:=yX (J)
theorem CP:entryFor table "re.Pattern.sub.loop"=U Builtin.«re.Pattern.sub.loop»:=yX (J)
theorem HF(a b d:aD):argsOk "re.Pattern.sub" ⟨[a,b,d],[]⟩:=by kernel_rfl
section
variable{prog:bZ}{w:bR}{A:cI}{E:aD->aT->Prop}
theorem zO:∀(g r:aa)(e:B6),g<=r->xm g e=U a->Q a s->wpAny (model prog w) A (reDrive r e) Q E s
 |0,_,_,_,h,_=>aU J h
 |g+1,0,_,c,_,_=>by omega
 |g+1,r+1,e,c,h,S=>by
  have h:@ite _ _ _ _ _=U _:=h;show wpAny _ _ (@ite _ _ _ _ _) _ _ _
  split
  .rename_i q;rw [bx q]at h;exact bg h▸(bD S)
  .rename_i q;rw [bA q]at h;exact aE (wF (zO g r _ (uG ‹_›) h S))
theorem EB{X:aa->bl}{h:aa->String}:∀l:Y aa,Q ⟨⟩ s->wpAny (model prog w) A (forIn l O0 λi y=>if X i=ae then do rule (h i);pure (qW O0)else pure (qW O0)) Q E s:=λe=>e.rec
 (λS=>by exact bD S)
 (λi l f S=>by
  rw [adf];refine aE ?_
  split
  .exact aE (wF (bD (f S)))
  .exact bD (f S))
set_option tactic.hygienic true in
theorem Zv{code:jo aa}(h:tX code e a=ae)(S:Q af s):wpAny (model prog w) A (reRunToEnd (yV code e a 0 e.size ak)) Q E s:=by
 refine aA ((GO _ _).mp h) λi z L=>?_;exact aE (zO 1000 _ _ (cE _ _) z (aE (EB _ ((I1 L).symm▸(bD S)))))
inductive n6(h:cu)(p:ay)(code:Y aa)(groups:aa):Prop
 |mk(o:bN)(a b:aD)(d:fK)(e:aD)(ct:ay)(oc:bN)(n:aa)(h1:h.get? p=U o)(h2:o.cls=.type "re.Pattern")(h3:o.dict=af)(h4:o.data=.fields #[a,b,.int groups d,e,.none,.ref ct,.int 0 0])(h5:h.get? ct=U oc)(h6:oc.data=.seq (code.map λ(x:aa)=>rawInt (x:aF)).toArray n)
theorem n6.keeps{p:ay}{code:Y aa}{A:aa}(x:n6 h p code A)(k:∀b o,h.get? b=U o->h'.get? b=U o):n6 h' p code A:=by
 obtain⟨o,a,b,d,e,m,B,g,R,w,t,f,T,h6⟩:=x;exact⟨o,a,b,d,e,m,B,g,k _ _ R,w,t,f,k _ _ T,h6⟩
theorem yq{code:Y aa}{l:Y aa}(P:n6 s.heap p code h)(e:Q ⟨.ref p,.str (cj l) a,code.toArray,l.toArray,0,h,0,l.length⟩ s):
  wpAny (model prog w) A (reWholeTarget (.ref p) (.str (cj l) a)) Q E s:=by
 obtain⟨o,b,j,d,q,m,B,g,R,k,t,f,T,n⟩:=P;refine aE (wpAny_fieldsOf R f (aE (g5 (a:=(l.toArray,0)) (J) ?_)));refine aE (g5 (J) (aE (aE (wG T n (bD (bD ?_))))));have O:(((U (eO (λ(x:aa)=>rawInt (x)) code).toArray).getD #[]).map reRawOf).map (λx=>x.toNat)=code.toArray:=by
  show((code.map λ(x:aa)=>rawInt x).toArray.map reRawOf).map _=_;simp only [adp];exact aL gJ (code.rec J λx r i=>aL (x::·) i)
 exact O.symm▸e
theorem Bc(e:x.extract i u=l.toArray)(r:l.length<=sizeLine)(h:Q (.str (cj l) s.toks) {s with toks:=s.toks+1}):wpAny (model prog w) A (reSlice x 0 i u) Q E s:=by
 refine lX (bx (J)) ?_;rw [e];exact q5 h r
theorem Fo(H:s.heap.get? d=U (lo z v))(f:z.length<=sizeLine)(a:∀t S,mX d s.heap t->t.get? d=U (lo (z++[x]) S)->Q () {s with heap:=t}):wpAny (model prog w) A (updateSeq d λh=>h.push x) Q E s:=by
 have e:∃S,m6 (λh=>h.push x) (lo z v)=lo (z++[x]) S:=⟨_,by simp [m6,lo];rfl⟩;exact bC e λS e=>wpAny_updateSeq H J (a _ S (λb o g q=>(nU ..).2 b g|>.trans q) ((oV _ H J).trans (aL U e))) f (aJ (f_ (Array.size_push _)) (jH f))
theorem V3{code:Y aa}{l:Y aa}{h:fK}{Q:aD->aT->Prop}(P:n6 s.heap p code x)(c:tX code.toArray l.toArray x=ae)(v:l≠[])(t:l.length<=100000)(H:s.heap.get? d=U (lo [] k))
  (e:∀T R n,mX d s.heap T->Q (.str (cj l) R) {s with heap:=T,toks:=n}):
  wpAny (model prog w) A (Builtin.«re.Pattern.sub.loop» ⟨[.ref p,.str (cj l) h,.ref X,rawInt 1,rawInt 0,rawInt 0,rawInt 0,rawInt 0,.bool ak,.ref d,.bool ak],[]⟩) (λj O=>∃r,j=.done (.ret r)/\Q r O) E s:=by
 refine aE (yq P (aE (Zv (c) ?_)));refine lX (bx ((adm.mpr v))) ?_;refine aE (Bc (l:=l) (by simp) (aJ t (aC J)) (aE (Fo H (iY _) λb S i u=>?_)));refine aE (Bc (l:=[]) (by simp) (iY _) (aE (wG u J (aE (O3 (ys:=[cj l]) (items:=[B7 (cj l) s.toks].toArray) (i12 _ u J ⟨S,J⟩) (.cons _ _ .nil) ?_ λL m=>?_)))))
 .simp only [str_len];simp [str_len];exact aJ t (aC J)
 .refine lX (bA (BF)) ?_;have a:GV (cj []) [cj l]=cj l:=by
   have:=join_nil [l];simpa using this
  exact a.symm▸(bD (aR _ J (e b L m i)))
theorem aaz{code:Y aa}{a:aa}(P:n6 s.heap p code a)(L:s.heap.get? X=U o)(m:o.cls=.type "function")(c:tX code.toArray l.toArray a=ae)(v:l≠[])(t:l.length<=100000)
  (k:∀T R n,bG s.heap T->Q (.str (cj l) R) {s with heap:=T,toks:=n}):wpAny (model prog w) A (call (.builtin "re.Pattern.sub") [.ref p,.ref X,.str (cj l) u]) Q E s:=by
 refine i7 (o5 vR.plain IS (vR.check _ _ _ _ _ _ _ _ (by obtain⟨o,d,b,z,e,H,B,S,f,i,_⟩:=P;exact(aR o f i)) (HF _ _ _) ?_));refine aE (g5 (a:=[U (.ref X),U (.str (cj l) u),af]) (J) ?_);refine aE (bD (aE (wH (aR o L m) MF.lookup (aE (bD (aE (bD ?_)))))));refine aE (e9 (yq P (aE (aE (Pq (T:="str") (b:=ak) (sT _ _ _) (by rw [isSubtype_type];exact J) (bD (aE (G4 (bD ?_)))))))));have h:bG s.heap (s.heap.push (lo [] 0)):=bG.push _ _;refine⟨yH _ (by decide+kernel),yW CP (i0 (Q:=λj O=>∃r,j=.done (.ret r)/\Q r O) (V3 (s:={s with heap:=s.heap.push (lo [] 0)}) (P.keeps h) c v t (eN _ J) λT R n g=>?_) (λj O x=>by refine aA x λr e q=>?_;subst e;exact q) λy y x=>x)⟩;refine k T R n λb o e=>g b o (λq=>?_) (h b o e);subst q;exact bE (fQ e) (m5 _)
end
example:[42,63,91].all (λa=>tX #[14,14,4,1,1,9,0,64,0,1342177280,0,0,0,0,0,17,0,13,11,9,0,64,0,1342177280,0,0,0,0,0,17,1,1] #[a] 1)=ae:=by decide+kernel
end
section
open Builtin.Re
theorem L5:PlainAttrs "re.Pattern":=
 ⟨(aR ("object.__getattribute__") (by kernel_rfl) (J)),by kernel_rfl⟩
section
theorem nJ(X:dX e=ae)(h:wpAny (model i u) F (eval e B) (λv t=>wpAny (model i u) F (spliced (backTo w (starEach A B))) (λz x=>Q (v::z) x) P t) P s):
  wpAny (model i u) F (spliced (backTo w (starEach (e::A) B))) Q P s:=(lI (fY X)).symm▸(nY h)
theorem tu(X:dX e=ae)(h:wpAny (model i u) F (spliced (backTo w (starEach (e::A) B))) (λz O=>Q ⟨z,[]⟩ O) P s):wpAny (model i u) F (evalArgs a ae (backTo w (starEach (e::A) B)) []) Q P s:=by
 rw [lI (fY X)]at h⊢;exact uO h
end
section
structure u4(y:Ly O):Prop where
 ex:∃p,y.mg "_twin_re_1"=U (.ref p)/\∀{h},bG y.B.bO h->n6 h p [14,14,4,1,1,9,0,64,0,1342177280,0,0,0,0,0,17,0,13,11,9,0,64,0,1342177280,0,0,0,0,0,17,1,1] 1
noncomputable abbrev w7:Y aa:=[14,14,4,1,1,9,0,64,0,1342177280,0,0,0,0,0,17,0,13,11,9,0,64,0,1342177280,0,0,0,0,0,17,1,1]
noncomputable def tG:bW->bW×g6×y_×fR
 |.Lambda p e s q=>(e,s,p,q)
 |.GeneratorExp e _ s q=>(e,s,default,q)
 |_=>(default,default,default,default)
noncomputable def Aq:bW:=(xV pn).1
noncomputable def DK:fR:=(tG Aq).2.2.2
noncomputable def lM:Y (fR×ai):=[(DK,"_translate.<locals>.<lambda>")]
theorem J'{B:cG}(S:B.qual="_translate.<locals>."):∀x∈lM,(DK.line:aF)=x.1.line->(DK.col:aF)=x.1.col->x.2=B.qual++"<lambda>":=λx j _ _=>by
 rw [cD.mp j,S];decide+kernel
theorem aay{O:Ly ao}{B:cG}{h:cI}(a:u4 O)(K:jq O.B O.mg k aH lM)(n:dB h g)(F:Fm B x9 13 n9)(f:B.code=.ref k)(i:B.qual="_translate.<locals>."){l:Y aa}(c:tX w7.toArray l.toArray 1=ae)(v:l≠[])(e:l.length<=100000){m:Y _}(H:m[9]?=U (.t (.str l))):
  EE (O.c h a_ B g n) x9 13 m pn m (.str l):=by
 refine aA a.ex λbu L G=>?_;constructor;intro aI aK aM aN aW S x;obtain⟨y,E,b,S⟩:=S;obtain⟨o,_,_,_,_,_,_,_,R,w,s,_⟩:=G S.base;refine lE J (nS _) J L5 vR M7 (pN O.G y S.base (F.kn 15 J nofun) L (F.kg 15 J) (c_ (aR o R w) (λbj j=>by obtain rfl:=jn j;exact(aR o R s)) (j_ (J) (tu J (nJ J (DN O.G K (J' i) f (zG ?_) ?_ y S λbF bK aq au az aB aG u q d T p aO aP _ _=>?_))))))
 .decide
 .rfl
 .refine nJ J (cps λaS z=>?_);obtain⟨aX,X,bf,bh,rfl,r⟩:=T.vars 9 "stuff" _ J H;refine z (ez (ew y T.ns X (kJ (bC (ja r) λt P=>?_))) (F.eJ (i:=9) J));subst P;refine aaz (G T.base) p J c v e λbw bB Q aj=>?_;have A:=cg.keeps (t:=Q) (T.ready) aj;exact x _ u _ (q.trans A.same) d ⟨y,E,b,T.step A⟩ (.str _ _)
end
end
section
set_option tactic.hygienic true
theorem CW:typeLookup (.type "function") "read"=pure af:=by kernel_rfl
theorem TM:typeLookup (.type "function") "__getattr__"=pure af:=by kernel_rfl
theorem yl:Slot "function" "__getattribute__" "object.__getattribute__":=
 .of (owner:="object") (n:="__getattribute__") (by kernel_rfl) (J) (J) (J)
  (by first|exact .inl (J)|exact .inr _) (by exact J)
section
variable{os:OsState}
theorem Y7(j:h.get? a=U ⟨.type "function",U p,.func k,e⟩)(z:h.Ns p E)(l:E "read"=U v)(S:Q (.done (.ret v)) ⟨h,A,d,w,os⟩):
  wpAny (model i u) F (Builtin.«object.__getattribute__» ⟨[.ref a,.str "read" m],[]⟩) Q P ⟨h,A,d,w,os⟩:=by
 have R:(⟨h,A,d,w,os⟩:aT).TypeIs (.ref a) "function":=(aR _ j J);have f:=CW
 repeat(any_goals(first|assumption|(with_reducible refine Ps z ?_;rw [l])|wp_step))
 trace_state
theorem Y6(j:h.get? a=U ⟨.type "function",U p,.func k,e⟩)(z:h.Ns p E)(l:E "read"=U v)(g:handedIn v=ae)(S:Q v ⟨h,A,d,w,os⟩):
  wpAny (model i u) F (getAttrBy (.ref a) (.str "read" m) ae ak) Q P ⟨h,A,d,w,os⟩:=by
 have R:(⟨h,A,d,w,os⟩:aT).TypeIs (.ref a) "function":=(aR _ j J);have G:=yl.lookup;have H:=yl.bind (.ref a)
 repeat(any_goals(first|assumption|wp_step))
 exact o5 yl.plain ad4 (yl.check _ _ _ _ _ _ _ _ R (ad2 _ _) (Y7 j z l (handed_on g S)))
theorem Y4(j:h.get? a=U ⟨.type "function",U p,.func k,e⟩)(z:h.Ns p E)(l:E "read"=U v)(g:handedIn v=ae)(S:Q v ⟨h,A,d,w+1,os⟩):
  wpAny (model i u) F (getAttr (.ref a) "read") Q P ⟨h,A,d,w,os⟩:=aE (y9 (Y6 j z l g S))
theorem Y9(j:h.get? a=U ⟨.type "function",U p,.func k,x⟩)(z:h.Ns p E)(l:E "read"=U v)(g:handedIn v=ae)(S:Q (v,[]) ⟨h,A,d,w+1,os⟩):
  wpAny (model i u) F (getMethod (.ref a) "read" e) Q P ⟨h,A,d,w,os⟩:=by
 have R:(⟨h,A,d,w,os⟩:aT).TypeIs (.ref a) "function":=(aR _ j J);refine aE (wH R yl.lookup ?_);show wpAny (model i u) F (if(Manifest.canonical "object.__getattribute__"!="object.__getattribute__")=ae then _ else _) Q P _;exact aE (wH R TM (aE (wH R CW (aE (Y4 j z l g (bD S))))))
end
end
section
open Builtin Builtin.ObjectAttr
set_option tactic.hygienic true
theorem E1:Slot "function" "__setattr__" "object.__setattr__":=
 .of (owner:="object") (n:="__setattr__") (by kernel_rfl) (J) (J) (J)
  (by first|exact .inl (J)|exact .inr _) (by exact J)
theorem WM:mroOf (.type "function")=pure [.type "function",.type "object"]:=by exact J
theorem aeq:typeHasDict (.type "function")=ae:=J
section
theorem aah(j:s.heap.get? a=U ⟨.type "function",af,.func k,l⟩)
  (S:∀T m,mX a s.heap T->T.get? a=U ⟨.type "function",U s.heap.objs.size,.func k,l⟩->(T.Ns s.heap.objs.size λx=>if x="read"then U v else af)->Q (.done (.ret .none)) {s with heap:=T,toks:=m}):
  wpAny (model c u) F (Builtin.«object.__setattr__» ⟨[.ref a,.str "read" m,v],[]⟩) Q P s:=by
 rw [osa_eq,refuse_eq];refine aE (aE (Pu (aR _ j J) (aE (g5 WM (bD (aE (Pu (aR _ j J) (aE (g5 CW (aE (g5 (by rfl) (aE (g5 (a:=()) (J) (aE (m:=ownDictForStores (.ref a)) ?_))))))))))))));refine aE (G3 j ?_);dsimp only;refine aE (wpAny_alloc ?_);have h:(s.heap.push emptyDict).get? a=U ⟨.type "function",af,.func k,l⟩:=eg _ j;have p:=q1 (fQ j);refine aE (wpAny_update h ?_);have y:=oV (λo=>{cls:=o.cls,dict:=U s.heap.objs.size,data:=o.data,slots:=o.slots}) h J;have n:gI a (s.heap.push emptyDict) ((s.heap.push emptyDict).update a λo=>{cls:=o.cls,dict:=U s.heap.objs.size,data:=o.data,slots:=o.slots}):=nU ..;have z:=(n.2 _ p).trans (eN _ J);have f:∀b o,b≠a->s.heap.get? b=U o->((s.heap.push emptyDict).update a λo=>{cls:=o.cls,dict:=U s.heap.objs.size,data:=o.data,slots:=o.slots}).get? b=U o:=λb o g e=>(n.2 b g).trans (eg _ e);generalize((s.heap.push emptyDict).update a λo=>{cls:=o.cls,dict:=U s.heap.objs.size,data:=o.data,slots:=o.slots})=t at y z f;refine g5 (J) ?_;dsimp only;refine aE (g5 (a:=()) (J) (aE (aE (aE (Pn (bD (aE (y9 (aE (G3 z ?_))))))))));dsimp only;have e:=putName_dict "read" (q2 u.params "read") (.str "read" s.toks) v [] 0;have d:(t.update s.heap.objs.size (OZ "read" (q2 u.params "read") (.str "read" s.toks) v)).get? s.heap.objs.size=U (dictOf [⟨q2 u.params "read",.str "read" s.toks,v⟩] (putN "read" [] 0)):=by
  refine aZ (oV _ z (J)) ?_;exact aL U e
 have r:gI s.heap.objs.size t (t.update s.heap.objs.size (OZ "read" (q2 u.params "read") (.str "read" s.toks) v)):=nU ..;refine Pw z (aE (wpAny_lookBehind d (pastItsLine_dict (by exact cS _)) (bD (S _ _ (λb o g e=>(r.2 b λq=>?_).trans (f b o g e)) ((r.2 a p.symm).trans y) (nu _ _ _ d J (λe X=>?_) (λx=>?_))))))
 .subst q;exact bE (fQ e) (m5 _)
 .simp only [adt,cD]at X;subst X;exact(b_ _ _ J)
 .delta nsFind findBy
  by_cases q:x="read"
  .subst q;exact J
  .have:((Str.ofString "read")==x)=ak:=by rw [beq_eq_false_iff_ne];exact iZ q
   refine aZ (aL (l9 acQ) (Array.find?_singleton (p:=λe:DictEntry=>e.key.isStr x))) ?_;exact(aL (l9 acQ) (bA (show¬(Value.isStr (.str "read" s.toks) x)=ae fromλi=>BF (this.symm.trans i)))).trans (bA q).symm
theorem aae(j:s.heap.get? a=U ⟨.type "function",af,.func k,l⟩)
  (S:∀T m,mX a s.heap T->T.get? a=U ⟨.type "function",U s.heap.objs.size,.func k,l⟩->(T.Ns s.heap.objs.size λh=>if h="read"then U v else af)->Q () {s with heap:=T,toks:=m}):
  wpAny (model e u) F (setAttr (.ref a) "read" v) Q P s:=by
 have R:s.TypeIs (.ref a) "function":=(aR _ j J);exact aE (y9 (aE (aek R E1 (i7 (o5 E1.plain ad9.entry (E1.check _ _ _ _ _ _ _ _ R (ad9.args _ _ _) (aah j λT m O i x=>(bD (S T m O i x)))))))))
end
end
noncomputable def Xl:Y (ai×fe):=[("size",.local),("at",.free),("octets",.free),("bytes",.globalImplicit)]
noncomputable def xR:Y ai:=["size","octets","at"]
noncomputable def nT(l:Y aa):Y T:=l.map λi:aa=>.int (i:aF)
theorem JH:∀{l:Y aa}{z:Y aD},bq X f z (nT l)->IntsAre z (l.map λi:aa=>(i))
 |[],_,d=>d.jg (P:=λz=>IntsAre z []) .nil
 |_::_,_,d=>d.ju (P:=λz=>IntsAre z _) λy A a b=>a.gG (P:=λv=>IntsAre (v::A) _) λw=>.cons _ w (JH b)
theorem kc.pC{z:Y aD}{l:Y aa}(h:kc z l):bq ρ fz z (nT l):=kc.rec .nil (λy i=>.cons (.int _ _) i) h
theorem kc.of:∀{l:Y aa}{z:Y aD},bq X f z (nT l)->kc z l
 |[],_,d=>d.jg (P:=λz=>kc z []) .nil
 |_::_,_,d=>d.ju (P:=λz=>kc z _) λy A a b=>a.gG (P:=λv=>kc (v::A) _) λy=>.cons (kc.of b)
noncomputable def lJ(l:Y aa):jo UInt8:=byteArr (l.map λi:aa=>(i:aF))
section
theorem ach(F:Fm c.env h k o)(u:aa)(d:o[u]?=U (("bytes":ai),.globalImplicit))(s:EE c h k ao e g (.list (nT l)))(aB:∀i∈l,i<256)(t:l.length<=1000)(R:dX e=ae):
  SP c h k ao (.Return (U (.Call (.Name "bytes" p) [e] [] j)) j) λy L=>∃w,y=g/\L=.ret (.bY (.bytes (lJ l) w)):=by
 constructor;intro aP bu a_ bf bj aS S G;have a:∀f∈[e],∀x p,f≠.Starred x p:=λf P=>by exact(cD.mp P)▸(fY R)
 refine bM (c.bi 8 "bytes" (.type "bytes") J) λB q=>Ph (lD (nA c.G S.1 S.ready.base (F.kn u d nofun) B q (F.kg u d) (B5 (kA [e] a) (jY a (pH s.1 kS (fY R)) S λbw m z E X T b=>?_))));obtain⟨v,z,rfl,O,r⟩:=b.ju (P:=λaj=>∃v A,aj=v::A/\Den _ _ v _/\bq _ _ A _) λv A x aq=>⟨v,A,J,x,aq⟩;obtain rfl:=r.jg J;refine jb (qj O) λbh z n au az H=>?_;subst au;refine call_bytes_ints (gP T.ready.bI az) (JH H) (λn Q=>?_) ?_ c.R.handled λaW w k aH=>?_
 .refine aA (eG.mp Q) λi aI aK=>?_;subst aK;have:=aB i aI;exact⟨mZ.mpr (lO (.n 0) (.v 0) J [_]),jF.mpr (this)⟩
 .simp only [H.length,o6];simp [nT];exact aJ t (aC J)
 .obtain⟨aG,aN,aM,aO⟩:=T;exact G _ m _ g _ (aR w J J) (E.trans (b_ _ _ J)) X ⟨aG,aN,aM,aO.vh aH (Le.refl _) λbB aX e=>.inl e⟩ (.bY _)
end
section
variable{n:aa}
theorem Qv(k n:aa):qd .Add (.int k) (.int n)=U (.int (k+n:aa)):=J
theorem subNat(k n:aa):kN .Sub (.int (k+n:aa)) (.int n)=U (.int k):=by
 have:((k+n):aF)-(n)=(k):=by omega
 exact this.symm▸J
theorem Y5(F:Fm c.env xR 1 Xl)(h:∀i∈G,i<256)(l:k+n<=G.length)(H:G.length<=1000):
  XP c xR 1 [.t (.int n),.t (.list (nT G)),.own [.int k]] (cZ ue) λS A=>∃t,A=.ret (.bY (.bytes (lJ ((G.drop k).take n)) t))/\S=[.t (.int n),.t (.list (nT G)),.own [.int (k+n:aa)]]:=by
 have z:cut (U ((k):aF)) (U ((k+n:aa))) (nT G)=nT ((G.drop k).take n):=by
  simp only [CF,Gw,show k+n-k=n by exact lz (dg 0 (.v 2) (.v 1) (.a (.v 2) (.v 0)) (.a (.v 0) (.v 1)) J [_,_,_] ((vD (lO (.v 0) (.a (.v 0) (.v 1)) J [_,_])))) (dg 0 (.v 1) (.v 2) (.a (.v 0) (.v 1)) (.a (.v 2) (.v 0)) J [_,_,_] x8)];unfold nT;simp only [wm,BQ]
 refine⟨Bw (abF F 2 J J (zi 0) J J (zv F 0 J J) J (τ:=.int (k+n:aa)) (Qv k n) J J (λy y y=>J)).1 (yt (ach F 3 J (l:=(G.drop k).take n) (sq (j8 (zv F 1 J J) (iB (dw (qL F 2 J J (sA 0) J J) (zv F 0 J J) (subNat k n))) (iB (qL F 2 J J (sA 0) J J)) (r8 (by simp [nT];exact aJ H (aC J)) z)) J) (λi e=>h i (ads (GI e))) (by simp;exact rW 0 (.v 3) (.n 1000) (.a (.v 0) (.v 1)) (.v 2) (.v 2) (.n 1000) (.v 3) (.v 1) J [_,_,_,_] l H W9) J).1 λg A q=>?_)⟩;obtain⟨t,rfl,rfl⟩:=q;exact .inr ⟨nofun,t,J,J⟩
end
theorem gc.put(Q:gc l h p)(i:aa){P w:bN->Prop}{H:bN}(A:l[i]?=U (a,P))(k:∀b∈p,b≠a->∀o,h.get? b=U o->h'.get? b=U o)(c:h'.get? a=U H)(O:w H):gc (l.set i (a,w)) h' p:=by
 have e:∀{u:aa}{s:ay×(bN->Prop)},l[u]?=U s->p[u]?=U s.1:=λf=>Q.ad▸(hU.trans (aL _ f));refine⟨λs f=>?_,Q.ad.trans ?_,Q.nd⟩
 .refine bC (qa f) λu d=>?_
  by_cases q:i=u
  .subst q;exact bg ((iF (ck.mp A).1).symm.trans d)▸(aR H c O)
  .have d:=(iV q).symm.trans d;exact aA (Q.dJ s (cL d)) λo L x=>(aR o (k s.1 (cL (e d)) (λr=>q (pP Q.nd (e A) ((e d).trans (aL U r)))) o L) x)
 .refine ac_ λu=>?_;refine aZ (hU) ?_;rw [hU]
  by_cases q:i=u
  .subst q;rw [A,iF (ck.mp A).1];rfl
  .rw [iV q]
noncomputable def ye(k:q7)(m a:ay):cG:=newEnv k.scope m k.globals k.closure (k.qualname++".<locals>.") (U a) k.code af k.builtins
structure zq(st d rd c1 a c2 oc cc:ay)(bs:Y aa)(k:aa)(h:cu)(fd:q7)(sl:jo (aY aD))(vs:Y aD)(nn:aa):Prop where
 rd:h.get? rd=U ⟨.type "function",af,.func fd,sl⟩
 R:Hj fd c1 c2 cc
 q:fd.qualname="_law_stream.<locals>._law_read"
 c1:h.IsCell c1 (U (.ref a))
 a:∃t n,h.get? a=U (lo [.int (k:aF) t] n)
 c2:h.IsCell c2 (U (.ref oc))
 oc:h.get? oc=U (lo vs nn)
 vs:kc vs bs
 cd:h.CodeRec fd.code fd.qualname
section
variable{st:ay}
theorem aam(o:gc (vS st d w R a m B f G e) h H):∃k l z v,zq st d w R a m B f G e h k l z v:=by
 refine cps λc F=>?_;refine aA (o.dJ _ (dH 2 J)) λy t i=>?_;obtain⟨k,l,rfl,n,q⟩:=i;refine aA (o.dJ _ (dH 4 J)) λy T i=>?_;obtain⟨x,g,rfl⟩:=i;refine aA (o.dJ _ (dH 6 J)) λy Q i=>?_;obtain⟨z,v,rfl,b⟩:=i;refine aA (o.dJ _ (dH 7 J)) λu r i=>?_;refine dS (i) λs S p j=>?_;refine F ?_;exact⟨k,l,z,v,t,n,q,o.dJ _ (dH 3 J),(b_ x g T),o.dJ _ (dH 5 J),Q,b,f,u,s,S,n.code,r,p,q▸j⟩
end
structure rj(en:cG)(c1 c2:ay):Prop where
 k0:en.kindOf "size"=U .local
 k1:en.kindOf "octets"=U .free
 k2:en.kindOf "at"=U .free
 l1:en.cells.lookup ("octets":ai)=U c2
 l2:en.cells.lookup ("at":ai)=U c1
section
theorem rj.n1(P:rj S R m):S.kindOf "octets"≠U .local:=λq=>nc lA (bg (P.k1.symm.trans q)) J
theorem rj.n2(P:rj S R m):S.kindOf "at"≠U .local:=λq=>nomatch P.k2.symm.trans q
theorem rj.rA(P:rj S R m){h:Prop}(j:xR[i]?=U x)(c:S.kindOf x≠U .local)(v:S.cells.lookup x=U b)(e:i=1->b=m->h)(w:i=2->b=R->h):h:=
 match i,j with
 |0,j=>bE P.k0 (bg j▸c)
 |1,j=>e J (bg ((bg j▸v).symm.trans P.l1))
 |2,j=>w J (bg ((bg j▸v).symm.trans P.l2))
 |_+3,j=>aU J j
end
section
variable{B:br Ob}{s:aT}{st:ay}{n:aa}
theorem Z'(r:Ready B g s)(aB:gc (vS st b8 cf R a m k b7 aI aq) s.heap fp)(f:∀b∈fp,g b=af/\B.bO.get? b=af/\b∉B.tabs)(T:zq st b8 cf R a m k b7 aI aq s.heap cH c9 aK az)(P:rj S R m)(F:s.heap.get? S.locals=af)
  (bf:aM.Ns S.locals aN)(cy:aN "size"=U (.int n t))(l:bG s.heap aM):
  aQ B cC ⟨tJ B.tabs a s.heap,[],kT g k (lo aK az),[]⟩ (kT g k (lo aK az)) S xR 1 [.t (.int n),.t (.list (nT aI)),.own [.int aq]] aN (λi=>if i=2 then [a]else []) aM:=by
 have ad:=aB.ad.symm;refine cps λcK bK=>?_;subst ad;have Q:=aB.nd;have X:=f R (dH 3 J);have L:=f a (dH 4 J);have O:=f m (dH 5 J);have aW:R≠a:=pO Q 3 4 J J J;have au:m≠a:=pO Q 5 4 J J J;have aX:m≠R:=pO Q 5 3 J J J;refine aA T.c1 λbh z bj=>aA T.c2 λbu aj bw=>gD T.a λbB bF aG=>?_;have aH:∀b o,kT g k _ b=U o->s.heap.get? b=U o:=λb o e=>qn e (λq E=>q▸E▸T.oc) (r.bI b o);have p:∀{i b},b∈(if i=2 then [a]else [])->i=2/\b=a:=λ{i b}h=>by
  split at h
  .exact⟨‹_›,cD.mp h⟩
  .exact bE (h) dP
 refine bK ?_;exact{
     len:=J
     base:=λb o e=>l b o (r.base b o e)
     kept:=λb o e=>l b o (Ju e)
     bI:=λb o e=>l b o (aH b o e)
     ns:=bf
     nL:=⟨Uv F,(iO λx e=>aU F (aH _ x e))⟩
     fT:=λb o e=>tK (r.base b o e) (λq=>aU (r.ji b q) e) (eP L.2.1 e)
     vars:=λi x cM j w=>match i,j with
      |0,j=>bg j▸bg w▸⟨_,.inl ⟨P.k0,J⟩,J,_,cy,.int _ _⟩
      |1,j=>bg j▸bg w▸⟨_,.inr ⟨.inr ⟨P.k1,J⟩,m,P.l1,bu,l _ _ aj,bw⟩,J,_,J,.list qm T.vs.pC⟩
      |2,j=>bg j▸bg w▸⟨_,.inr ⟨.inr ⟨P.k2,J⟩,R,P.l2,bh,l _ _ z,bj⟩,a,[.int aq bB],bF,J,l _ _ aG,.cons (.int _ _) .nil,J⟩
      |_+3,j=>aU J j
     own:=λi x H A j c v=>P.rA j c v (λq y=>bE (q▸A) (m5 1)) λq y=>bE (q▸A) (OU (aC J))
     jt:=λi x H A j v c=>P.rA j c v (λy q=>⟨_,q▸tK aj O.2.2 au⟩) λy q=>⟨_,q▸tK z X.2.2 aW⟩
     cell:=λi x H j c v=>P.rA j c v (λy q=>q▸⟨eP F aj,(qo (pO Q 5 6 J J J) O.1)⟩) λy q=>q▸⟨eP F z,(qo (pO Q 3 6 J J J) X.1)⟩
     qf:=λi x A j=>match i,j,A with
      |1,j,_=>bg j▸P.n1
      |2,j,_=>bg j▸P.n2
      |_+3,j,_=>aU J j
     inj:=λi d x cY H j aO bQ aP bX aS=>P.rA j bQ bX (λe q=>P.rA aO aP aS (λao y=>e.trans ao.symm) λy E=>bE (q.symm.trans E) aX) λe q=>P.rA aO aP aS (λy E=>bE (E.symm.trans q) aX) λao y=>e.trans ao.symm
     nodup:=λi d x A bV=>pP (by decide) A bV
     fp:=λi y b h=>(p h).2.symm▸(kU Uu (qo (pO Q 4 6 J J J) L.1) (eP F aG) (λd x j c v=>P.rA j c v (λy q=>au q.symm) λy q=>aW q.symm))
     inv:=br.vp (xx (f k (dH 6 J)).1) r.inv λu y o e=>l u o e
     tab:=λu G=>(kW (Uw G) (qo (λq=>(f k (dH 6 J)).2.2 (q▸G)) (r.mT u G)) (λq=>aU F (adT (q▸B.live r.inv u G))) (λd x j c v=>P.rA j c v (λy q=>O.2.2 (q▸G)) λy q=>X.2.2 (q▸G)) (λi y q=>L.2.2 ((p q).2▸G)))
     c3:=λb h=>bE (h) dP
     new:=λb o e=>.inl e
     lock:=λcN cz=>bE (cz) dP
     apart:=λi d y y cA b h a_=>cA ((p h).1.trans (p a_).1.symm)}
theorem Y0(T:zq st d w R a m oc f G k s.heap h e z v):rj (ye h L w) R m:=by
 have k:∀{x q},(eK ue).names.lookup x=q->(ye h L w).kindOf x=q:=((aL (λc:g6=>c.names.lookup _) T.R.scope).trans);have l:∀{x q},([(("octets"),m),(("at"),R)]:Y (ai×ay)).lookup x=q->(ye h L w).cells.lookup x=q:=((aL _ T.R.nj).trans);exact⟨k (J),k (J),k (J),l J,l J⟩
theorem Za{y:Ly Ob}(c:dB A (S+1))(r:Ready y.B f s)(Q:gc (vS st d w c1 a H oc cc G k) s.heap p)(z7:∀b∈p,f b=af/\y.B.bO.get? b=af/\b∉y.B.tabs)(T:zq st d w c1 a H oc cc G k s.heap fd cA b7 b8)
  (hb:∀au∈G,au<256)(az:k+n<=G.length)(aj:G.length<=1000)
  (bK:∀O L u,bS s O->(∀b,b∉p->b∉y.B.tabs->∀o,s.heap.get? b=U o->O.heap.get? b=U o)->y.B.inv u O.heap->Le f u->Le u O.heap.get?->(∀b o,u b=U o->f b=U o\/s.heap.get? b=af)->gc (vS st d w c1 a H oc cc G (k+n)) O.heap p->aq (.ok (.ret (.bytes (lJ ((G.drop k).take n)) L))) O):
  codeAny (model y.prog y.w) A (.call (.ref w) ⟨[.int n t],[]⟩) aq s:=by
 have g:=T.R.scope;refine aee c.d T.rd J (g▸J) (g▸J) T.R.body T.cd ?_;have aG:bindArgs fd ⟨[O7 n t],[]⟩=pure [(("size":ai),O7 n t)]:=(qe T.R.params T.R.RN _).trans J;refine lX (aG) ?_;refine bD (aeo (λl h=>?_) (λl h=>?_) (λbw X C9=>⟨(y.G.nolimit r.base).fresh _ C9,codeAny_func ?_⟩) (g▸J))
 .rw [g]at h
  revert l;decide+kernel
 .rw [g,cD.mp h];show(eK ue).names.lookup ("size":ai)=_;decide+kernel
 generalize R:s.heap.objs.size=m at X C9;have Jr:=R▸fM s;have i:=Y0 (L:=m) T;refine(Y5 (c:=y.c (A.deeper (ye fd m w)) ⟨0,0⟩ (ye fd m w) S c.deeper) (ko (J) ((aL Scope.names g).trans J)) hb az aj).1 _ _ _ _ _ J ⟨⟨(aL Scope.kind g).trans J,T.R.Ud,T.R.QH⟩,_,_,(Z' r Q z7 T i Jr X J λb o e=>C9.extBut b o (eP Jr e) (eg _ e))⟩ λO j cf cH cK P q v S' d=>?_;refine cps λaB F=>?_;obtain⟨L,rfl,rfl⟩:=P;obtain⟨aH,rfl,aI⟩:=d.rt;obtain rfl:=aI.inv;refine F ?_;refine cps λaB F=>?_;obtain⟨_,cy,cz,S'⟩:=S';obtain⟨aK,aM,c9,dz,aN,aO,aP,aS,ao⟩:=S'.vars 2 "at" _ J J;have ad:=Q.ad.symm;subst ad;refine aA (T.c1) λcC x aX=>?_;have x:=S'.kept _ _ (tK x (z7 c1 (dH 3 J)).2.2 (pO Q.nd 3 4 J J J));have a_:aK=U (.ref a):=by
  rcases aM with⟨q,_⟩|⟨_,di,bf,bh,bj,bu⟩
  .exact bE q i.n2
  .cases bg (i.l2.symm.trans bf);cases bg (x.symm.trans bj);exact(acP (aX.symm.trans bu)).symm
 have aW:=O9 (bg (a_.symm.trans aO));subst aW;obtain⟨aH,rfl,bB⟩:=aS.jS;obtain⟨bF,rfl⟩:=nq bB;have z:=z7 oc (dH 6 J);have E:∀{b o},(if b=oc then af else j b)=U o->b≠oc/\j b=U o:=λ{b o}e=>by
  by_cases q:b=oc
  .rw [bx q]at e;exact aU J (e)
  .rw [bA q]at e;exact⟨q,e⟩
 refine aA (Q.dJ _ (dH 6 J)) λcM cN cY=>?_;refine F ?_;refine bK O L (λb=>if b=oc then af else j b) (bS.trans (b_ bw _ J) q) (λb bV bQ o e=>S'.kept b o (tK e bQ λq=>bV (q▸dH 4 J))) (y.B.tN S'.inv (λb o dm bX e=>(bA λq=>?_).trans e) λP dG o e=>e) (λb o e=>(bA (eP z.1 e)).trans (v _ _ (tI (eP z.1 e) e))) (λb o e=>S'.bI _ _ (E e).2) (λb o e=>bM (E e) λn e=>(S'.new b o e).elim (λq=>.inl ((bA n).symm.trans q)) λq=>.inr (iO λbh B=>aU q (tK B (S'.mT e) λr=>aU ((S'.fp 2 (aC J) a (ao▸.head _)).2.1) (r▸e)))) (Q.put 4 J (λb hb n o e=>S'.kept b o (tK e (z7 b hb).2.2 n)) aP (b_ bF aN J));subst q;have:=bg ((v _ _ qm).symm.trans e);subst this;exact nomatch bX
end
noncomputable abbrev Cx.y(c:Cx q):Ly q:=⟨c.B,c.prog,c.w,c.mg,c.mb,c.G,c.bi⟩
section
variable{K:aa}{st:ay}{n:aa}
theorem Y_(z:bJ c.B c.prog c.w dN)(aq:1<=c.n)(au:Fm c.env h K cy)(i:aa)(j:h[i]?=U x)(aW:m[i]?=U (.obj (.bz st G k)))(aP:EP c h K m e (.int n))(R:dX e=ae)(bF:(bX.endLine==S.line)=ae)
  (t:∀i∈G,i<256)(F:k+n<=G.length)(aj:G.length<=1000)(ao:SR c.B c.ρ v f c.env h K m s.heap)
  (aS:∀O L u,bS s O->Le f u->SR c.B c.ρ v u c.env h K (m.set i (.obj (.bz st G (k+n)))) O.heap->p (.bytes (lJ ((G.drop k).take n)) L) O):
  wpAny (model c.prog c.w) c.A (eval (.Call (.Attribute (.Name x dG) "read" bX) [e] [] S) c.env) p cf s:=by
 refine cps λH r=>?_;obtain⟨y,E,a,X⟩:=ao;obtain⟨cM,l,cH,rfl,q⟩:=X.vars i x _ j aW;refine r ?_;rw [z.ob]at q;refine cps λcN az=>?_;obtain⟨aB,aG,aH,aI,aK,aM,aN,aO,Q⟩:=(q);subst aB;refine ID (aam Q) λg B dm dz T=>?_;refine az ?_;refine aE (ez (ew y X.ns l (aE (kK ?_))) (au.eJ j))
 delta methodCall
 rw [xQ (kA [e] (λcA aX=>by exact(cD.mp aX)▸(fY R))) (aC J)];refine aE (e9 (cps λH r=>(aA (Q.dJ _ gj) λcK a_ bf=>?_)));obtain⟨cY,c9,rfl⟩:=bf;refine aA (Q.dJ _ (fF _ gj)) λdi bh bj=>r ?_;refine Y9 a_ (bj _ _ bh) (bx J) J (aE (g5 (KA bF) (B8 (fd:=g) (o:=⟨.type "function",af,.func g,B⟩) ?_)));rw [(lI (fY R))];refine uO (nY (aP.1 v f {s with toks:=s.toks+1} _ _ ⟨y,E,a,X⟩ λbu cz bw=>(bC (nq bw) λcC bB=>?_)));subst bB;refine kJ (⟨⟨T.rd,J⟩,?_⟩);have d:=X.vg (jz j);show wpAny _ c.A _ p cf {s with toks:=bu};exact i7 (Za (y:=c.y) (c.R.less aq) (aQ.ready X) Q d T t F aj λO L u bK bQ bV A b7 P b8=>(aS O L u (bS.trans (b_ _ _ J) bK) A ⟨y,E,_,X.p5 j bQ bV A b7 (λb o e=>(P b o e).imp id .inl) l ⟨_,J,(z.ob.symm▸((⟨J,aG,aH,aI,aK,aM,aN,aO,b8⟩:wV st G (k+n) (.ref st) O.heap (a i))))⟩ λb t=>⟨.inl t,iO λo e=>(P b o e).elim (aU (d b t).1) λw=>cW (aL l8 w) (Q.live b t)⟩⟩))
theorem NM(z:bJ c.B c.prog c.w aG)(q:1<=c.n)(F:Fm c.env h K aI)(i u:aa)(aj:h[i]?=U x)(H:m[i]?=U (.obj (.bz st G k)))(aq:EP c h K m e (.int n))(R:dX e=ae)(T:(b.endLine==w.line)=ae)
  (l:∀i∈G,i<256)(j:k+n<=G.length)(o:G.length<=1000)(f:h[u]?=U s)(g:u<K)(r:swapsWith (.Call (.Attribute (.Name x v) "read" b) [e] [] w) (U (.Name s d)) p.line c.env=pure ak):
  SP c h K m (.Assign [.Name s d] (.Call (.Attribute (.Name x v) "read" b) [e] [] w) p) λS A=>∃t,S=(m.set i (.obj (.bz st G (k+n)))).set u (.t (.bY (.bytes (lJ ((G.drop k).take n)) t)))/\A=.next:=by
 constructor;intro aK aM aS aW aH X L O;refine lC (Y_ z q F i aj H aq R T l j o L λaP Q P E ao a=>?_) r;obtain⟨y,aN,aO,a⟩:=a;exact gu (av:=.t _) y X a f g (F.loc f g) ⟨J,_,J,.bY _⟩ .nil λaz au aB B=>O az P .next _ .next (aR Q J J) (E.trans aB) ao ⟨y,au,_,B⟩ trivial
end
structure Inv(tabs:Y ay)where
 I:Fz->cu->Prop
 live:∀{f h},I f h->∀P∈tabs,(h.get? P).isSome=ae
 of:∀{f f' h h'},I f h->zo f f'->(∀P∈tabs,∀o,h.get? P=U o->h'.get? P=U o)->I f' h'
noncomputable def br.re(B:br q)(V:Inv B.tabs):br q:={B with inv:=V.I,live:=V.live,tN:=V.of}
section
theorem aQ.re(S:aQ B ρ L f e n k m E R h)(i:V.I f h):aQ (B.re V) ρ L f e n k m E R h:=
 {S with vars:=λi x y j w=>match S.vars i x y j w with|⟨F,a,t⟩=>⟨F,a,t⟩,inv:=i}
theorem fy.re(G:fy B d r):fy (B.re V) d r:=⟨G.g,G.b,G.nolimit⟩
end
section
theorem WX(e:r.defaults=[])(a:r.kw_defaults=[])(Q:annTrees r af B=[])
  (h:wpAny g F (makeFunction G (qualnameIn B G G) r (.stmts L) d B [] [] [] w w.line) (λv O=>wpAny g F (storeName B G v) (λy p=>i .next p) P O) P s):
  wpAny g F (exec (.FunctionDef G r L [] af [] d af G w) B) i P s:=by
 simp only [exec_def];refine aE (kK (aE (e9 ?_)));rw [defaultsOf_eq,e,a,Q];exact aE (bD (aE (e9 (bD (e9 (aE (bD (i0 h (λv O T=>aE (kK (aE (wpAny_bindName (i0 T (λy y z=>bD z) λy y x=>x))))) λy y x=>x))))))))
end
noncomputable def Xk:Y (ai×fe):=[("octets",.cell),("_law_read",.local),("stream",.local),("at",.cell)]
noncomputable def um:Y ai:=["octets","_law_read","stream","at"]
theorem aaK(a:TabAt h P n)(b:TabAt h P e):n=e:=by
 have:=a.1.symm.trans b.1;injection this with this
 injection this with _ _ this _
 exact(Data.fields.inj this)
section
variable{B:br Ob}{st:ay}
theorem aal(S:aQ B bX L X e um 4 s au aH h)(d:e.kindOf "octets"≠U .local)(T:e.kindOf "at"≠U .local)(i:e.cells.lookup ("octets":ai)=U m)(O:e.cells.lookup ("at":ai)=U R)(bf:s[0]?=U (.t (.bY (.ref bF))))(aO:s[3]?=U (.own [.int 0]))
  (F:eW B L X e um cz st)(y:h.get? st=U ⟨.type "function",cM,.func cK,b8⟩)(x:X w=U cA)(u:X f=U cf)(aS:w≠f)(A:h.get? E=af)(bw:L.b w=af)(bB:w∉B.tabs)(bu:L.b f=af)(bK:f∉B.tabs):
  ∃a t g,h.get? a=U (lo [.int 0 t] g)/\h.IsCell R (U (.ref a))/\h.IsCell m (U (.ref bF))/\(a≠st/\R≠st/\m≠st)/\[st,E,w,R,a,m,f].Nodup/\∀l∈[st,E,w,R,a,m,f],L.b l=af/\l∉B.tabs:=by
 refine cps λbV az=>?_;obtain⟨cC,aB,a,cy,aG,rfl,n,aI,ao⟩:=S.vars 3 "at" _ J aO;obtain⟨b7,aK,_,v,rfl,aM⟩:=S.vars 0 "octets" _ J bf;refine aA aI.jS λcH j aN=>?_;subst j;refine bC (nq aN) λt j=>?_;subst j;have z:∀{b:ai}{v:aD}{c:ay},e.kindOf b≠U .local->e.cells.lookup b=U c->eA e au h b _->h.IsCell c (U v):=λg aP a=>a.elim (λq=>bE q.1 g) λ⟨_,_,aq,aX⟩=>bg (aP.symm.trans aq)▸aX;refine aA (z T O aB) λa_ p bh=>aA (z d i aK) λbj o aW=>az ?_;have r:a∈aH 3:=ao▸.head _;have G:=S.fp 3 (aC J) a r;have k:=S.cell 3 "at" R J T O;have Q:=S.cell 0 "octets" m J d i;have H:a≠st:=λq=>nc ad1 (aL OX (bg (n.symm.trans ((aL h.get? q).trans y)))) J;have P:R≠st:=λq=>F.cell 3 "at" J T (q▸O);have aj:m≠st:=λq=>F.cell 0 "octets" J d (q▸i);refine(Ab a t aG n (aR a_ p bh) (aR bj o ((aM.inv)▸aW)) (c_ H P aj) ?_ ?_)
 .exact .cons (bL (eP A y) (bL (eP F.fz x).symm (bL P.symm (bL H.symm (bL aj.symm (bL (eP F.fz u).symm eu))))))
   (.cons (bL (eP A (S.bI _ _ x)).symm (bL (eP A p).symm (bL (eP A n).symm (bL (eP A o).symm (bL (eP A (S.bI _ _ u)).symm eu)))))
   (.cons (bL (eP k.2 x) (bL (eP G.2.1 x) (bL (eP Q.2 x) (bL aS eu))))
   (.cons (bL (λq=>G.2.2.2 3 "at" J T (q▸O)) (bL (λq=>bE (S.inj 0 3 _ _ R J J d T (q▸i) O) nofun) (bL (eP k.2 u).symm eu)))
   (.cons (bL (λq=>G.2.2.2 0 "octets" J d (q▸i)) (bL (eP G.2.1 u).symm eu))
   (.cons (bL (eP Q.2 u).symm eu) (.cons eu .nil))))))
 .exact bL ⟨F.hb,F.tab⟩ (bL ⟨iO λb bQ=>aU A (S.kept _ _ bQ),λq=>aU A (adT (B.live S.inv _ q))⟩ (bL ⟨bw,bB⟩ (bL ⟨S.own 3 "at" _ (aC J) J T O,λq=>(S.tab _ q).2.2.2.1 3 "at" J T O⟩
   (bL ⟨G.1,λq=>(S.tab _ q).2.2.2.2 3 (aC J) r⟩ (bL ⟨S.own 0 "octets" _ (aC J) J d i,λq=>(S.tab _ q).2.2.2.1 0 "octets" J d i⟩ (bL ⟨bu,bK⟩ eu))))))
end
section
variable{y:Ly Ob}{env:cG}
theorem aaq(cH:dB bf dG)(ao:∀{X dN i},v.I X i->v.I dN i)(K:jq (y.B.re v) y.mg gy aG [])(aO:env.code=.ref gy)(gx:env.qual="_law_stream.<locals>.")(F:Fm env um 4 Xk)(gz:SR y.B gZ L fz env um 4 [.t (.bY (.ref bh)),.un,.un,.un] l.heap)(P:L.lk=[])
  (aM:L.b bh=U (lo aN iC))(qT:kc aN sE)(cA:∀{X i},y.B.inv X i->TabAt i aG #[]/\v.I X i)
  (cN:∀O st d w R x m f,bS l O->(∀b o,L.b b=U o->O.heap.get? b=U o)->v.I fz O.heap->ro (vS st d w R x m bh f sE 0) O.heap->[st,d,w,R,x,m,f].Nodup->(∀b∈[st,d,w,R,x,m,f],L.b b=af/\b∉y.B.tabs)->bB (.ret (.ref st)) O):
  wpAny (model y.prog y.w) bf (execs (cZ (bz 21)) env) bB F4 l:=by
 refine g4 ((oS (c:=y.c bf gZ env dG cH) F 3 J (by decide) (p7 (zr (zi 0) cR J) J) J).1 L fz l _ _ P gz λbK F5 X cf acy T d=>?_);obtain rfl:=d.nx;refine cps λQ r=>?_;obtain⟨a,ef,Ga,T⟩:=T;refine bM (cA T.inv) λeL eM=>?_;have T:=T.re eM;have bV:=F.kn 0 J nofun;have b7:=F.kn 3 J nofun;have aq:env.kindOf "octets"≠U .local:=λq=>nc lA (bg (bV.symm.trans q)) J;have aj:env.kindOf "at"≠U .local:=λq=>nc lA (bg (b7.symm.trans q)) J;have aI:∀{s:ai}{iD:aY aD},env.kindOf s≠U .local->eA env ef bK.heap s iD->∃G,env.cells.lookup s=U G:=λg x=>x.elim (λq=>bE q.1 g) λ⟨_,G,qP,_⟩=>⟨G,qP⟩;refine bC (match T.vars 0 "octets" _ J J with|⟨_,E,_⟩=>aI aq E) λm c=>bC (match T.vars 3 "at" _ J J with|⟨_,E,_⟩=>aI aj E) λR A=>r ?_;have bQ:closureFor (eK ue) env=pure [(("octets":ai),m),(("at"),R)]:=by
  refine(CC (λB F6 v_=>?_)).trans ?_
  .have:B.1="octets"\/B.1="at":=by revert B;decide+kernel
   exact this.elim (λq=>q.symm▸c.symm▸J) λq=>q.symm▸A.symm▸J
  .show pure [(("octets":ai),(env.cells.lookup ("octets":ai)).getD 0),(("at":ai),(env.cells.lookup ("at":ai)).getD 0)]=_;rw [A,c];rfl
 have b8:qualnameIn env "_law_read" "_law_read"="_law_stream.<locals>._law_read":=by
  unfold qualnameIn;rw [F.kn 1 J nofun,gx];decide+kernel
 refine g4 (WX J J J (b8.symm▸Kz (fy.re y.G) K (λs j=>nomatch j) aO bQ a T λF3 F8 Gd Ge Gf NY w au cy cz az cC aH cK cM aB=>(RY (cM.nw λF7 cY=>by rw [aaK cY eL];rfl) λf F_ c9 di dm dz n S dU dW=>?_)));have z:=T.free aH;have aK:=T.free dz;have eF:au w=af:=iO λo e=>(aB w o e).elim (λq=>aU z.fz q) λq=>q.2 J;have p:=T.grow (jx:=kT au w _) cK (ao az.inv) (cz.trans (xx eF)) λb o e=>qn e (λq eT=>q▸eT▸.inr ⟨aH,cC⟩) λe=>(aB b o e).elim .inl λq=>.inr ⟨q.1,az.bI _ _ e⟩;refine gu (av:=.t (.bY (.ref w))) (fp:=[]) a P p (i:=1) J (by decide) (.inl (F.kn 1 J nofun)) ⟨J,_,J,.bY _⟩ .nil λNZ N1 eY p=>g4 (lC (DN (fy.re y.G) K (λs j=>nomatch j) aO (zG λs j=>bE (j) dP) J a p λacB acE yD F0 F1 F2 st e_ bF u aP fq fD F9 _ fP=>?_) J);have aS:=p.free fD;have H:eW _ L e_ env um _ st:={aS with fz:=iO λo e=>(fP st o e).elim (λq=>aU aS.fz q) λq=>q.2 J};refine G6 (F.kn 2 J nofun) aP.ns (λaX bX a_=>?_) (a.kind.symm▸J);have k:=aP.A0 P (i:=2) (x:="stream") J (F.kn 2 J nofun) bX a_ (av:=.t (.bY (.ref st))) (fp:=[]) ⟨J,_,J,.bY _⟩ .nil;have aW:=(a_.2 st H.loc).trans fq;refine cps λQ r=>?_;obtain⟨acw,iE,_,acz,rfl,iT⟩:=k.vars 1 "_law_read" _ J J;obtain⟨acC,iU,_,acF,rfl,i6⟩:=k.vars 2 "stream" _ J J;refine r ?_;have jk:=iT.inv;have jU:=i6.inv;subst jk jU;refine cps λQ r=>IC (aal k aq aj c A J J H aW (u _ _ qm) (u _ _ (tI n S)) n.symm (fM {l with heap:=aX}) z.hb z.tab aK.hb aK.tab) λx t g kF lq mV mW nR p9=>?_;refine gg (mW) λgA qQ qR=>?_;refine r (g4 (wB (ez (ew a k.ns iE (ez (ew a k.ns iU (aae aW λqS Gb bj qU sD=>(g4 (Ph (ez (G2 a.kind (F.kn 2 J nofun) (Ed k.ns (bj _ · H.loc.symm)) (bx J) ?_) (J)))))) (J))) (J)) J));have h:∀{b o},aX.get? b=U o->b≠st->qS.get? b=U o:=λe g=>bj _ _ g e
 exact cps λQ r=>iL sD λbu sG sH sI sF=>aA lq λacA sM sJ=>aA mV λacD sN uy=>r (cN _ st _ w R x m f (cf.trans (cy.trans (eY.trans (bF.trans (b_ _ _ J))))) (λb o e=>h (k.kept b o e) (eP H.hb e)) (ao (v.of k.inv (λ_ _ _ _ e=>e) λaG bw o e=>h e λq=>H.tab (q▸bw)))
  (bL (aR _ qU ⟨_,_,J⟩) (bL (aR bu sI (λi b e=>(kq bu sG sH e sF))) (bL (aR _ (h (k.bI _ _ (u _ _ qm)) (eP H.fz (u _ _ qm))) ⟨_,_,J,⟨J,J,J,J,J,J,dm,J,J⟩,J⟩) (bL (aR _ (h sM qQ) sJ) (bL (aR _ (h kF gA) ⟨t,g,J⟩) (bL (aR _ (h sN qR) uy)
   (bL (aR _ (h (k.kept _ _ aM) (eP H.hb aM)) ⟨aN,iC,J,qT⟩) (bL (aR _ (h (k.bI _ _ (u _ _ (tI n S))) (eP H.fz (u _ _ (tI n S)))) ⟨c9,di,dU,dW⟩) eu)))))))) nR p9)
end
section
variable{c:Cx Ob}
end
section
open PySem.Builtin
theorem HE(a b:aD):argsOk "bytes.decode" ⟨[a,b],[]⟩:=by
 delta argsOk;kernel_rfl
noncomputable abbrev qt:ai:=⟨[108,97,116,105,110,45,49].toArray⟩
section
theorem Zm{id:String}:_codecs.decodeRoad id b qt af []=(_codecs.runDecoder id _codecs.latin1Decoder af ae b 0 []>>=λr=>mkStr ⟨r.1⟩):=J
theorem Ww(E:∀id,_codecs.runDecoder id _codecs.latin1Decoder af ae b 0 []=pure (x.cps,g)):
  Meets («_codecs.decode.text» ⟨[.bytes b w,.str qt R,.none,.str e a],[]⟩) (λy n s=>x.length<=sizeLine/\n (.ok (.ret (.str x s.toks))) {s with toks:=s.toks+1}):=by
 refine .of_wp λi u F n s d=>bM d λt h=>?_;show wpAny _ _ (Bytes.bytesLike _ _>>=λr=>_) _ _ s;refine aE (g5 KBd.like_eq (aE (g5 KBd.held_eq ?_)));simp only [Zm,E];exact aE (aE (bD (q5 (bD (aR _ J h)) t)))
theorem RE:«bytes.decode» ⟨[.bytes (c::h).toArray w,.str qt B],[]⟩=(mkStr (aea "utf-8")>>=λy=>mkStr qt>>=λe=>mkStr (aea "bytes.decode")>>=λd=>
  call (.builtin "_codecs.decode.text") [.bytes (c::h).toArray w,e,.none,d]>>=λv=>ret v):=by kernel_rfl
theorem Wv(E:∀id,_codecs.runDecoder id _codecs.latin1Decoder af ae (c::e).toArray 0 []=pure (x.cps,g)):
  Meets («bytes.decode» ⟨[.bytes (c::e).toArray w,.str qt B],[]⟩) (λy n s=>x.length<=sizeLine/\∀L k,n (.ok (.ret (.str x L))) {s with toks:=k}):=by
 refine .of_wp λi u F n s d=>bM d λt h=>?_;exact(RE)▸(aE (q5 (aE (q5 (aE (q5 (aE (call_function_meets KBd.kind_text KBd.plain_text KBd.entry_text (KBd.args_text _ _ _ _) (Ww E) ⟨t,bD (aR _ J (h _ _))⟩)) (cE _ _))) (cE _ _))) (cE _ _)))
theorem Zo(a:UInt8)(id:String):_codecs.runDecoder id _codecs.latin1Decoder af ae [a].toArray 0 []=pure (#[a.toNat],1):=by kernel_rfl
theorem Zp(a b:UInt8)(id:String):_codecs.runDecoder id _codecs.latin1Decoder af ae [a,b].toArray 0 []=pure (#[a.toNat,b.toNat],2):=by kernel_rfl
theorem Zq(a b c:UInt8)(id:String):_codecs.runDecoder id _codecs.latin1Decoder af ae [a,b,c].toArray 0 []=pure (#[a.toNat,b.toNat,c.toNat],3):=by kernel_rfl
theorem RI(E:∀id,_codecs.runDecoder id _codecs.latin1Decoder af ae (c::h).toArray 0 []=pure (x.cps,g))(t:x.length<=16777216)(e:∀L k,Q (.str x L) {s with toks:=k}):
  wpAny (model i u) F (call (.builtin "bytes.decode") [.bytes (c::h).toArray w,.str qt B]) Q P s:=
 wA Oe (GY _ _ _) acV (HE _ _) (Wv E) ⟨by assumption,e⟩
theorem u8{i:aa}(h:i<256):((i:aF).toNat.toUInt8).toNat=i:=by
 exact jm h
end
noncomputable def uL(l:Y aa):Y UInt8:=l.map λi:aa=>((i:aF).toNat.toUInt8)
theorem Cy(l:Y aa):lJ l=(uL l).toArray:=by exact aL _ d5
theorem Zu(l:Y aa)(h:∀i∈l,i<256)(R:1<=l.length)(t:l.length<=3)(id:String):_codecs.runDecoder id _codecs.latin1Decoder af ae (uL l).toArray 0 []=pure (l.toArray,l.length):=by
 have m:∀g,g<3->l.length=g+1->_codecs.runDecoder id _codecs.latin1Decoder af ae (uL l).toArray 0 []=pure (l.toArray,l.length):=Kh
  (λe=>DO (P:=λl=>(∀i∈l,i<256)->_codecs.runDecoder id _codecs.latin1Decoder af ae (uL l).toArray 0 []=pure (l.toArray,l.length)) (λa h=>by have:=Zo ((a:aF).toNat.toUInt8) id;rw [u8 (h a (dH 0 J))]at this;exact this) l e h)
  (λe=>Ar (P:=λl=>(∀i∈l,i<256)->_codecs.runDecoder id _codecs.latin1Decoder af ae (uL l).toArray 0 []=pure (l.toArray,l.length)) (λa b h=>by have:=Zp ((a:aF).toNat.toUInt8) ((b:aF).toNat.toUInt8) id;rw [u8 (h a (dH 0 J)),u8 (h b (dH 1 J))]at this;exact this) l e h)
  (λe=>DP (P:=λl=>(∀i∈l,i<256)->_codecs.runDecoder id _codecs.latin1Decoder af ae (uL l).toArray 0 []=pure (l.toArray,l.length)) (λa b c h=>by have:=Zq ((a:aF).toNat.toUInt8) ((b:aF).toNat.toUInt8) ((c:aF).toNat.toUInt8) id;rw [u8 (h a (dH 0 J)),u8 (h b (dH 1 J)),u8 (h c (dH 2 J))]at this;exact this) l e h)
 exact m _ (iH (Nat.sub_le_sub_right t 1) (aC J)) (sP R).symm
section
variable{c:Cx O}
theorem abH(R:EE c n k m o g (.bY (.bytes (lJ [b]) w)))(t:b<256):EE c n k m (.Subscript o (.Constant (.int 0) r p) X) g (.int b):=by
 constructor;intro L f s Q P S G;refine wz (R.1 L f s _ _ S λi u d q a T h=>(zi 0).1 L u i _ _ T λA F v x z B H=>?_);obtain rfl:=h.inv;refine bC (nq H) λE j=>?_;subst j;refine uK (GY _ _ _) FB.slot_bytes_getitem.lookup ?_ (vV λy y y y l=>nc PySem.Expr.ctorIdx l J);refine getItem_bytes (cS _) (by decide) (by simp [uL]) ?_;have e:=u8 t;exact e.symm▸(G _ F _ ((q.trans x).trans (b_ _ _ J)) (a.trans z) B (.int _ _))
theorem abI(F:Fm c.env n k o)(u:aa)(d:o[u]?=U (("len":ai),.globalImplicit))(h:EE c n k m e g (.bY (.bytes (lJ l) i)))(t:l.length<=1000)(R:dX e=ae):EE c n k m (.Call (.Name "len" p) [e] [] w) g (.int l.length):=by
 refine bM (c.bi 0 "len" _ J) λB s=>⟨IY c.G (F.kn u d nofun) B s (F.kg u d) (mH (by simp [R])) (zr h cR R).1 λf z b=>?_⟩;obtain⟨v,z,rfl,a,y⟩:=b.ju (P:=λj=>∃v A,j=v::A/\Den _ _ v _/\bq _ _ A _) λv A x O=>⟨v,A,J,x,O⟩;obtain rfl:=y.jg J;obtain rfl:=a.inv;refine PO.give λq Q P r G=>?_;have e:(lJ l).size=l.length:=by rw [Cy];exact b5 _
 exact len_bytes (by exact(e)▸(aJ t (aC J))) (e.symm▸(G _ _ (.int _ _)))
theorem zbC(h:EE c n k m e g (.bY (.bytes (lJ l) w)))(H:1<=l.length)(t:l.length<=1000)(X:∀i,isTrue e c.env i=(do let v<-i;standAt e.pos;holding [v] (truthy v))):EC c n k m e g ae:=by
 constructor;intro L f s Q P S G;rw [X];refine aE (h.1 L f s _ _ S λb u j a x T d=>aE (kK (e9 ?_)));obtain rfl:=d.inv;have e:(lJ l).size=l.length:=by rw [Cy];exact b5 _
 refine truthy_bytes (by exact(e)▸(aJ t (aC J))) ?_;have:(((lJ l).size:aF)!=0)=ae:=by rw [e];simp;intro q;rw [q]at H;contradiction
 exact this.symm▸(G _ u (a.trans (b_ _ _ J)) x T)
end
end
noncomputable def Ly.FO(O:Ly q)(g:aa)(X:ai)(o:q)(R:Y T)(r:T)(H:q):Prop:=
 ∃a Q k,O.mg X=U (.ref a)/\(∀{h},bG O.B.bO h->h.get? a=U Q)/\Q.data=.func k/\Cb O.B O.prog O.w g (.ref a) o R r H
section
variable{y:Ly Ob}{k:aa}{st:ay}{bs:Y aa}
theorem zz(z:bJ y.B y.prog y.w e){k i:aa}(a:y.B.ob.at_ (.bz st bs k) B h p)(b:y.B.ob.at_ (.bz st bs i) P h' vf):P=B:=by
 rw [z.ob]at a b;simp only [a.v,b.v]
theorem Ks(E:y.D X i)(g:yh (eK (bz i)) xs=ae):∃a o u code x,y.mg X=U (.ref a)/\kh y.B a o (docDef X (ik (bz i)) (cZ (bz i)) (eK (bz i)) u code x) (cZ (bz i)) xs:=IH E λa o u code x R w t f=>(UP a o u code x R ⟨w,t,f,J,J,lU g,J,J⟩)
noncomputable def WR:Y (ai×fe):=[("f",.local),("data",.local),("ValueError",.globalImplicit)]
noncomputable def Fv:Y ai:=["f","data"]
theorem M9(z:bJ y.B y.prog y.w B)(E:y.D "read_uint1" 18)(r:∀f∈bs,f<256)(H:bs.length<=1000)(t:bs[k]?=U b):y.FO (S+2) "read_uint1" (.bz st bs k) [] (.int b) (.bz st bs (k+1)):=by
 refine IG (Ks (xs:=Fv) E (J)) λa o u code x R g=>(nu a o _ R g.ho g.hd (ff.ob (ry y.G g (dQ J) (.plain λe H=>?_) (λP R w=>?_) λ{A}h m l X n=>?_)))
 .exact bind1 (λa=>J) e H
 .refine bM P λj s=>?_;subst j;exact zz z R w
 .have F:Fm (callEnvC (docDef "read_uint1" (ik (bz 18)) (cZ (bz 18)) (eK (bz 18)) u code x) m a) Fv Fv.length WR:=ko (J) J
  let c:=(y.up A h).c l X (callEnvC (docDef "read_uint1" (ik (bz 18)) (cZ (bz 18)) (eK (bz 18)) u code x) m a) _ n
  have q:(bs.drop k).take 1=[b]:=by
   have:=(ck.mp t);simp only [uC this.1,this.2];rfl
  refine yt (NM (c:=c) (z.up h) (cS _) F 0 1 J J (sA ((1))) J J r ((ck.mp t).1) H J (eH _) J).1 λT p v=>aA v λL d i=>?_;subst d i;rw [q];exact .inl ⟨J,(eV.p (EX.ev (c:=c) (fU (cJ (b:=ae) (zbC (l:=[b]) (zv F 1 J J) (ek _) (dQ J) (λs=>J)) (fU (iS (abH (zv F 1 J J) (r b (cL t)))))))) (my _ _ J (.inl J) J J))⟩
noncomputable def WS:Y (ai×fe):=[("f",.local),("n",.local),("data",.local),("read_uint1",.globalImplicit),("len",.globalImplicit),("ValueError",.globalImplicit)]
noncomputable def Fw:Y ai:=["f","n","data"]
theorem T_(g:aa):gp .GtE (.int g) (.int 0)=U ae:=J
theorem o9.upd(E:o9 H d X i)(l:bG H.bO A):o9 (H.up A l) d X i:=E.up l
end
section
variable{fz:Fz}
theorem FW{i u:aF}(R:EE c n k m a g (.int i))(w:EE c n k g b H (.int u))(d:u≠0):EE c n k m (.BinOp a .Mod b p) H (.int (i.fmod u)):=by
 constructor;intro L fz s Q P S G;refine B_ (R.1 L fz s _ _ S λt h j q e T o=>w.1 L h t _ _ T λf F v x z B E=>?_);obtain⟨r,rfl⟩:=nq o;obtain⟨l,rfl⟩:=nq E;exact adZ d (G _ F _ ((q.trans x).trans (b_ _ _ J)) (e.trans z) B (.int _ _))
theorem eW.upd(F:eW H L fz B n R d)(i:aa):eW H L fz B n (bT R i []) d:=
 ⟨F.hb,F.fz,F.loc,F.cell,λu e h=>by
  delta bT at h
  split at h
  .cases h
  .exact F.fp u e h,F.tab,F.h0⟩
end
noncomputable def vH(s:Y aF):Y aF:=(s.take 6++[4,600,63,93,38,42]).take 6
noncomputable def yb(s:Y aF):Y aa:=(vH s).map λx=>(x.fmod 1000000).toNat
theorem KZ(s:Y aF):(vH s).length=6:=GD.trans (BW (dM▸cE 6 _))
theorem Xn(s:Y aF):∀x∈yb s,x<1000000:=λx j=>by
 obtain⟨O,y,rfl⟩:=eG.mp j;exact(Int.toNat_lt (acY _ (by decide))).mpr (Int.fmod_lt_of_pos _ (by decide))
theorem TJ(x:aF):(x.fmod 1000000).toNat=x.fmod 1000000:=Gu (acY x (by decide))
theorem P6:(10:aF)^(6:aF).toNat=1000000:=J
section
variable{c:Cx O}{tl:Y (AV O)}
theorem WU(s:Y aF):(vH s).map (λx=>T.int ((x.fmod 1000000).toNat))=nT (yb s):=by delta nT yb;simp only [d5];rfl
theorem s0(F:Fm c.env bP 31 dj)(s:Y aF)(r:s.length<=100):
  ES c bP 31 (.t (.list (s.map .int))::a1::tl) (bH 0) (.t (.list (s.map .int))::.own (nT (yb s))::tl) .next:=by
 have O:cut af (U ((6:aa))) (s.map T.int)=(s.take 6).map T.int:=by simp only [xh,wm]
 have b:cut af (U ((6:aa))) ((s.take 6).map T.int++[.int 4,.int 600,.int 63,.int 93,.int 38,.int 42])=(vH s).map T.int:=by rw [xh];delta vH;simp
 rw [<-WU];refine Nl "x" [] [] (λx=>T.int ((x.fmod 1000000).toNat)) (us:=vH s) F (J) (J) (J) (lg (j8 (dw (j8 (zv F 0 J J) oR (iB (zi 6)) (r8 (by simp;exact aJ r (aC J)) O)) (oQ (zr (zi 4) (zr (zi 600) (zr (zi 63) (zr (zi 93) (zr (zi 38) (zr (zi 42) cR J) J) J) J) J) J) J) (yi (by simp;exact aJ (OR _ _) (aC J)))) oR (iB (zi 6)) (r8 (by simp;exact aJ (OR _ _) (aC J)) b))) J
  (λa S B y=>sq (FW (zv S 0 J J) (dw (zi 10) (zi 6) (ZU (Qz (cE _ _)) (by decide) (by decide))) (nofun)) ?_) J (by rw [KZ];exact cE _ _) (i:=1) J (cE _ _) (i':=1) J J (J)
 simp only [P6,TJ]
end
theorem MQ{px L:fR}(s:B.kindOf O=U .cell):swappedStores [.Tuple [.Name x px,.Name O L] S E] (.Tuple [a,h] Q t7) B=pure af:=by
 refine tO (tO (bx (acJ.mpr (.inl ?_))));have b:=ada (l:=[]) (a:=yI O L) (f:=λe=>match e with|.Name id w=>if B.kindOf id==U .local&&w.line==px.line then U id else af|_=>af) (bA λq=>nc NameKind.ctorIdx (bg (s.symm.trans (beq_iff_eq.mp (cU.mp q).1))) J)
 by_cases q:(B.kindOf x==U NameKind.local&&px.line==px.line)=ae
 .exact aL (λl:Y ai=>l.length !=2) ((Ot (a:=yI x px) (bx q)).trans (aL _ b))
 .exact aL (λl:Y ai=>l.length !=2) ((ada (a:=yI x px) (bA q)).trans b)
section
variable{c:Cx O}{tl:Y (AV O)}
theorem abD(F:Fm c.env n k o)(i u r:aa)(j:n[i]?=U x)(A:i<k)(s:n[u]?=U y)(d:u<k)(UJ:o[r]?=U (y,.cell))(h:ER c n k m p [a,b] g [q,f]):
  ES c n k m (.Assign [.Tuple [.Name x e,.Name y L] S z] (.Tuple [a,b] Q p) w) ((g.set i (.t q)).set u (.t f)) .next:=
 ⟨CR (xt h.1 J) (CL c.R.handled j A (F.loc j A) s d (F.loc s d)) J (MQ (F.kn r UJ nofun))⟩
noncomputable def pJ:Y aa:=[93,45,92,94,33,38]
theorem s1(F:Fm c.env bP 31 dj)(v:n0<1000000)(u:pJ[n0/3%6]?=U A):
  ES c bP 31 (a0::.own (nT (n0::ns))::a2::a3::tl) (bH 1) (a0::.own (nT (n0::ns))::.t (.int (4+n0%3:aa))::.t (.str [A])::tl) .next:=by
 exact abD F 2 3 3 J (by decide) J (by decide) J
  (zr (dw (zi 4) (dw (qL F 1 J J (sA 0) (iA (cS _) J) J) (zi (3:aa)) (nH (eU v (by decide+kernel)) (cS _))) J)
   (zr (ee (zs pJ (cB [']','-','\\','^','!','&'])) (dw (dw (qL F 1 J J (sA 0) (iA (cS _) J) J) (zi (3:aa)) (A6 (eU v (by decide+kernel)) (cS _))) (zi (6:aa)) (nH (iH (Nat.div_le_self _ _) (eU v (by decide+kernel))) (cS _))) (iP (eU (er _ (cS _)) (aC J)) u) J) cR J) J)
end
section
variable{c:Cx O}{tl:Y (AV O)}
theorem s2(F:Fm c.env bP 31 dj)(H:l.length<=1000)(k:CN c "_law_keys" [nL l,.str [A]] (nL (nv A l))):
  ES c bP 31 (t::.own (nT (d::i::l))::h::.t (.str [A])::X::tl) (bH 2) (t::.t (.list (nT (d::i::l)))::h::.t (.str [A])::.t (nL (nv A l))::tl) .next:=by
 have e:(nT (d::i::l)).length<=1000000:=by
  delta nT;rw [b5];exact aJ (jH (jH H)) (by decide)
 exact dD F 4 J (by decide) (oO F 31 J (zr (j8 (kD F 1 J J) (iB (zi 2)) oR (r8 e (xg _ 2))) (zr (zv F 3 J J) cR J) J) k J) J
theorem s3(F:Fm c.env bP 31 dj):
  ES c bP 31 (t::j::d::m::X::n::tl) (bH 3) (t::j::d::m::X::.own (gR [[]])::tl) .next:=
 oS F 5 J (by decide) (p7 (zr (oQ cR J) cR J) J) J
end
section
variable{c:Cx O}{tl:Y (AV O)}
theorem xO(h:g<1000000):g<2^2000:=eU h (by decide+kernel)
theorem s5(F:Fm c.env bP 31 dj){d P:aa}{os:Y _}(R:i<1000000)(L:os[i%24]?=U o)(s:CN c "_law_made" [nL o,.int P] (.list (rL n))):
  ES c bP 31 (t::.t (.list (nT (d::i::l)))::.t (.int P)::m::X::.own (gR os)::u::e::h::tl) (bH 5) (t::.t (.list (nT (d::i::l)))::.t (.int P)::m::X::.t (.list (gR os))::u::e::.t (.list (rL n))::tl) .next:=by
 exact dD F 8 J (by decide) (oO F 33 J (zr (ee (kD F 5 J J) (dw (ee (zv F 1 J J) (zi _) (iA (aC J) J) J) (zi (24:aa)) (nH (xO R) (aC J))) (iA (eU (er _ (cS _)) (aC J)) (by refine aZ (hU) ?_;rw [L];rfl)) J) (zr (zv F 2 J J) cR J) J) s J) J
theorem s6(F:Fm c.env bP 31 dj)(v:d<1000000)(R:i<1000000)(G:0<P)
  (s:CN c "_law_moved" [.list (rL n),.int (i/24%P:aa),.int (i/144%P:aa),.int (d/18%2:aa)] (.list (rL x))):
  ES c bP 31 (t::.t (.list (nT (d::i::l)))::.t (.int P)::m::X::e::u::a::.t (.list (rL n))::L::tl) (bH 6) (t::.t (.list (nT (d::i::l)))::.t (.int P)::m::X::e::u::a::.t (.list (rL n))::.t (.list (rL x))::tl) .next:=by
 have q:∀{g k:aa},g<1000000->g/k<2^2000:=λh=>iH (Nat.div_le_self _ _) (xO h)
 exact dD F 9 J (aC J) (oO F 34 J (zr (zv F 8 J J) (zr (dw (dw (ee (zv F 1 J J) (zi (1:aa)) (iA (by decide) J) J) (zi _) (A6 (xO R) (by decide))) (zv F 2 J J) (nH (q R) G)) (zr (dw (dw (ee (zv F 1 J J) (zi (1:aa)) (iA (by decide) J) J) (zi _) (A6 (xO R) (aC J))) (zv F 2 J J) (nH (q R) G))
  (zr (dw (dw (ee (zv F 1 J J) (zi (0:aa)) (iA (aC J) J) J) (zi _) (A6 (xO v) (aC J))) (zi _) (nH (q v) (aC J))) cR J) J) J) J) s J) J
end
noncomputable def jh(r:aF):Y aa:=if 0<=r then [1,r.toNat]else [0]
theorem LP(r:aF):(jh r).length<=2:=by delta jh;split;exact ek 2;exact uH 1
section
variable{c:Cx O}{tl:Y (AV O)}
theorem s7(F:Fm c.env bP 31 dj){P:aa}:
  ES c bP 31 (t::j::.t (.int P)::m::X::n::u::e::h::L::A::tl) (bH 7) (t::j::.t (.int P)::m::X::n::u::e::h::L::.own (nT [P])::tl) .next:=
 oS F 10 J (aC J) (p7 (zr (zv F 2 J J) cR J) J) J
theorem XN(F:Fm c.env bP 31 dj)(e:B.length<=1000):
  ES c bP 31 (t::j::d::m::X::n::u::.t (.int r)::a::L::.own (nT B)::tl) (e5 (i4 (U (bH 8))) 0) (t::j::d::m::X::n::u::.t (.int r)::a::L::.own (nT (B++jh r))::tl) .next:=by
 have h:d_ (nT B).length=ae:=eE (by delta nT;rw [b5];exact aJ e (aC J))
 delta jh
 by_cases T:0<=r
 .obtain⟨g,rfl⟩:=acX T;exact bx T▸(show nT (B++[1,((g):aF).toNat])=nT B++nT [1,g]from dO)▸FH F 10 J (by decide) J (qM (zC (zv F 7 J J) (zi 0) (yj (decide_eq_true T)) J) (oQ (zr (zi 1) (zr (zv F 7 J J) cR J) J) J)) J h J
 .exact bA T▸(show nT _=nT B++nT [0]from dO)▸FH F 10 J (by decide) J (qM (zC (zv F 7 J J) (zi 0) (yj (decide_eq_false T)) J) (oQ (zr (zi 0) cR J) J)) J h J
theorem XO(F:Fm c.env bP 31 dj):∀(b:Y aF)(B:Y aa)(e:AV O),B.length+2*b.length<=1000->
  ∃a,i9 c bP 31 (mu (U (bH 8))) (i4 (U (bH 8))) (rL b) (t::j::d::m::X::n::u::e::i::L::.own (nT B)::tl) (t::j::d::m::X::n::u::a::i::L::.own (nT (B++b.flatMap jh))::tl) .next:=λx=>x.rec
 (λB e y=>⟨e,by rw [List.flatMap_nil,nV];exact lZ⟩)
 (λr b f B e h=>by
  obtain⟨a,q⟩:=f _ _ (by rw [dM];exact aJ (f_ (l5 _ _ _)) (aJ (ly (aJ (wq (LP r) _) (f_ (l6 2 _))) _) h));rw [kG]at q
  exact⟨a,mU (jj F 7 J (by decide)) (cX (XN F (aJ (fH _ _) h)) J) q⟩)
theorem s8(F:Fm c.env bP 31 dj)(h:row.length<=100):
  ∃a,ES c bP 31 (a0::a1::a2::a3::a4::a5::a6::a7::a8::.t (.list (rL row))::.own (nT [P])::tl) (bH 8) (a0::a1::a2::a3::a4::a5::a6::a::a8::.t (.list (rL row))::.own (nT (P::row.flatMap jh))::tl) .next:=by
 exact bC (XO F row [P] a7 (aJ (ly (uI 2 h) 1) (aC J))) λa q=>⟨a,kC (lg (zv F 9 J J)) q J J⟩
end
noncomputable def AW(A:aa)(s:Y aa):Y aa:=if s=[]then [A]else s
section
variable{c:Cx O}{tl:Y (AV O)}
theorem Zy(F:Fm c.env bP 31 dj){ss:Y _}(r:ss.length<=1000)(e:(ss.map (AW g)).flatten.length<=1000):
  ES c bP 31 (a0::a1::a2::.t (.str [g])::a4::a5::a6::a7::a8::a9::iJ::jr::.own (ss.map .str)::wX::wY::P0::tl) (bH 11) (a0::a1::a2::.t (.str [g])::a4::a5::a6::a7::a8::a9::iJ::jr::.t (.list (ss.map .str))::wX::wY::.t (.str (ss.map (AW g)).flatten)::tl) .next:=by
 refine dD F 15 J (aC J) (FT (zs [] (cB [])) (sq (zf (zcm "sign" ["gap"] [3] (λs=>T.str _) F J J J (lg (kD F 12 J J)) J (λa S s r=>?_) J (aJ r (aC J)))) (aL T.list d5.symm)) J J J (aJ e (aC J))) J
 delta AW
 by_cases h:s=[]
 .rw [bx h];exact qM (zC (zv S 0 J J) (zs [] (cB [])) (nG (beq_iff_eq.mpr h)) J) (zv S 1 J J)
 .rw [bA h];exact qM (zC (zv S 0 J J) (zs [] (cB [])) (nG (beq_eq_false_iff_ne.mpr h)) J) (zv S 0 J J)
end
section
open PySem.Builtin
theorem RH:«bytes.decode» ⟨[.bytes #[] w,.str qt B],[]⟩=rule "bytes.decode.empty">>=λ_=>retStr Str.empty>>=λx=>pure x:=by kernel_rfl
theorem Wx:Meets («bytes.decode» ⟨[.bytes #[] w,.str qt B],[]⟩) (λy n s=>∀L k,n (.ok (.ret (.str ⟨#[]⟩ L))) {s with toks:=k}):=by
 exact .of_wp λi u F n s h=>RH▸aE (wF (aE (aE (q5 (bD (bD (aR _ J (h _ _)))) (iY _)))))
theorem RJ(h:∀L k,Q (.str ⟨#[]⟩ L) {s with toks:=k}):wpAny (model i u) F (call (.builtin "bytes.decode") [.bytes #[] w,.str qt B]) Q P s:=
 wA Oe (GY _ _ _) acV (HE _ _) Wx h
section
variable{c:Cx O}
theorem abG(j:EE c n k m o g (.bY (.bytes (lJ l) S)))(H:∀x∈l,x<256)(t:l.length<=3)(q:attributeBase o "decode" c.env (eval o c.env)=eval o c.env)(T:(E.endLine==w.line)=ae):
  EE c n k m (.Call (.Attribute o "decode" E) [.Constant (.str "latin-1") r p] [] w) g (.str l):=by
 have X:EE c n k g (.Constant (.str "latin-1") r p) g _:=zs _ J;refine⟨CS q (mH J) (dQ J) T FB.plainAttrs_bytes Oe FB.type_bytes_decode j.1 (zr X cR J).1 (λf v h i d=>?_) λf v z d b=>?_⟩
 .obtain rfl:=d.inv;exact⟨GY _ _ _,λa e=>nc yU e J⟩
 .obtain rfl:=d.inv;obtain⟨v,z,rfl,s,y⟩:=b.ju (P:=λu=>∃v A,u=v::A/\Den _ _ v _/\bq _ _ A _) λv A B O=>⟨v,A,J,B,O⟩;obtain rfl:=y.jg J;obtain⟨F,rfl⟩:=ja s;refine PO.give λh Q P i G=>?_;have e:=Cy l;rw [e];clear e X
  revert H t
  cases l with
  |nil=>intro _ _;exact RJ λL k=>G _ _ (.str _ _)
  |cons a l=>
   intro H t;exact RI (x:=⟨(a::l).toArray⟩) (Zu (a::l) H (jH (iY _)) t) (by show(a::l).toArray.size<=_;exact aJ t (aC J)) λL k=>G _ _ (.str _ _)
end
end
section
open PySem.Builtin
section
variable{y:Ly Ob}{k:aa}{st:ay}{bs:Y aa}
theorem abn(z:bJ y.B y.prog y.w aq)(s:y.D "read_uint1" 18)(E:y.D "read_string1" 19)(r:∀i∈bs,i<256)(H:bs.length<=1000)(e:bs[k]?=U l.length)(T:(bs.drop (k+1)).take l.length=l)(O:l.length<=3):
  y.FO (n+3) "read_string1" (.bz st bs k) [] (.str l) (.bz st bs (k+1+l.length)):=by
 refine IG (Ks (xs:=Fw) E J) λa b u code x R g=>?_;have p:k+1+l.length<=bs.length:=by
  have:=aL BN T;rw [GD,GC]at this;exact rW 0 (.a (.a (.v 0) (.n 1)) (.v 2)) (.v 1) (.v 2) (.v 4) (.v 4) (.v 3) (.a (.v 3) (.a (.v 0) (.n 1))) (.v 1) J [_,_,_,_,_] ((qv this)) KO ((vD ((ck.mp e).1)))
 refine(nu a b _ R g.ho g.hd (ff.ob (ry y.G g (dQ J) (.plain λq H=>?_) (λP R w=>?_) λ{A}h m f X v=>?_)))
 .exact bind1 (λa=>J) q H
 .refine bM P λd aG=>?_;subst d;exact zz z R w
 .have F:Fm (callEnvC (docDef "read_string1" (ik (bz 19)) (cZ (bz 19)) (eK (bz 19)) u code x) m a) Fw Fw.length WS:=ko (J) J
  let c:=(y.up A h).c f X (callEnvC (docDef "read_string1" (ik (bz 19)) (cZ (bz 19)) (eK (bz 19)) u code x) m a) (n+2) v
  have o:=z.up h;refine pG (M9 (y:=y.up A h) o (o9.upd s h) r H e) λaH aI au S L B G=>Bw (dD F 1 J (by exact fH _ _) ⟨IZ c.G c.R (i:=0) (F.kn 3 J nofun) S (F.kg 3 J) L B J (F.eJ (i:=0) J) J (mH J) kS J G λR w=>zz (y:=y.up A h) o R w⟩ J).1 (Bw (yu (c:=c) (zC (zv F 1 J J) (zi 0) (T_ _) J)).1 (yt (NM (c:=c) o (cS _) F 0 2 J J (sC F 1 J J) J J r p H J (eH _) J).1 λaz aB Q=>(aA Q λt aj ao=>?_)));subst aj ao;rw [T];exact .inl ⟨J,(eV.p (aV:=[.obj (.bz st bs (k+1+l.length)),.t (.int l.length),.t (.bY (.bytes (lJ l) t))]) (fl:=.ret (.str l)) (EX.ev (c:=c) (fU (cJ (b:=ae) (zC (abI F 4 J (zv F 2 J J) (by exact aJ O (aC J)) J) (zv F 1 J J) (aL U (beq_self_eq_true _)) J) (fU (iS (abG (zv F 2 J J) (λi j=>r i (ads (GI (by exact(T)▸(j))))) O J J)))))) (my _ _ J (.inl J) J J))⟩
end
end
section
variable{st:ay}
theorem NL(z:bJ c.B c.prog c.w B)(F:Fm c.env n k o)(i u:aa)(d:o[u]?=U (X,.globalImplicit))(j:n[i]?=U x)(H:m[i]?=U (.obj (.bz st G E)))(v:c.y.FO c.n X (.bz st G E) [] y (.bz st G e)):
  EE c n k m (.Call (.Name X p) [.Name x s] [] l) (m.set i (.obj (.bz st G e))) y:=pG v λq Q b R w t f=>⟨IZ c.G c.R (F.kn u d nofun) R (F.kg u d) w t j (F.eJ j) H (mH J) kS H f λa h=>zz (y:=c.y) z a h⟩
end
noncomputable def u5(G:Y aa):aa->Y (Y aa)->Prop
 |_,[]=>True
 |E,l::s=>G[E]?=U l.length/\(G.drop (E+1)).take l.length=l/\l.length<=3/\u5 G (E+1+l.length) s
noncomputable def A1:aa->Y (Y aa)->aa
 |E,[]=>E
 |E,l::s=>A1 (E+1+l.length) s
section
variable{c:Cx Ob}{st:ay}{tl:Y (AV Ob)}{bs:Y aa}
theorem Y8(z:bJ c.B c.prog c.w B)(F:Fm c.env bP 31 dj)(v:∀{k:aa}{l:Y aa},bs[k]?=U l.length->(bs.drop (k+1)).take l.length=l->l.length<=3->c.y.FO c.n "read_string1" (.bz st bs k) [] (.str l) (.bz st bs (k+1+l.length))):
  ∀(s:Y _)(o:Y T)(x:Y _)(E:aa)(b:AV Ob),o.length=s.length->x.length+s.length<=1000->u5 bs E s->
  ∃r,i9 c bP 31 (mu (U (bH 10))) (i4 (U (bH 10))) o (p::j::d::m::X::a::u::i::t::L::A::.obj (.bz st bs E)::.own (x.map .str)::b::tl) (p::j::d::m::X::a::u::i::t::L::A::.obj (.bz st bs (A1 E s))::.own ((x++s).map .str)::r::tl) .next:=λf=>f.rec
 (λo x E b h y y=>by
  obtain rfl:=adk.mp h
  exact⟨b,by rw [nV];exact lZ⟩)
 (λl s g o x E b h e n=>by
  cases o with
  |nil=>exact nomatch h
  |cons w o=>
   obtain⟨r,q⟩:=g o (x++[l]) _ _ (BY h) (by rw [dM];exact aJ (f_ ((l5 _ _ _).trans (aL _ (l6 1 _)))) e) n.2.2.2;rw [kG]at q
   refine⟨r,mU (jj F 13 J (by decide)) (cX (uu F 12 J J (NL z F 11 37 J J J (v n.1 n.2.1 n.2.2.1)) J J J (eE (by rw [b5];exact aJ (aJ (fH _ _) e) (aC J)))) (by rw [dO];rfl)) q⟩)
end
section
variable{c:Cx Ob}{st:ay}{tl:Y (AV Ob)}{bs:Y aa}
theorem Zx(z:bJ c.B c.prog c.w B)(F:Fm c.env bP 31 dj){P:aa}(y:c.y.FO c.n "read_uint1" (.bz st bs 0) [] (.int P) (.bz st bs 1))
  (a:∀{k:aa}{l:Y aa},bs[k]?=U l.length->(bs.drop (k+1)).take l.length=l->l.length<=3->c.y.FO c.n "read_string1" (.bz st bs k) [] (.str l) (.bz st bs (k+1+l.length)))
  (G:(pW (0,(P),1)).length=s.length)(L:pV (0,(P),1)=ae)(H:s.length<=1000)(n:u5 bs 1 s):
  ∃r,ES c bP 31 (a0::a1::a2::a3::a4::a5::a6::a7::a8::a9::iJ::.obj (.bz st bs 0)::.own []::wX::tl) (bH 10) (a0::a1::a2::a3::a4::a5::a6::a7::a8::a9::iJ::.obj (.bz st bs (A1 1 s))::.own (s.map .str)::r::tl) .next:=by
 exact bC (Y8 z F a s _ [] 1 wX G (aJ (f_ (l7 _)) H) n) λr q=>⟨r,kC (qO F 32 J (zr (NL z F 11 36 J J J y) cR J) J L J) q J J⟩
end
structure uR(cl:Cl)(a:ay):Prop where
 sp:specialIn cl.K (.ref a) "__get__"=U (U (.builtin "function.__get__"))
 ta:takesIn cl.K (.ref a)=U ak
 fn:fnIn cl.K a=ae
noncomputable def zk(c:Cx Ob)(n:Y ai)(k:aa)(m:Y (AV Ob))(w:fR)(A:Y bW)(S:Y (AV Ob))(E:Y T):Prop:=
 ∀(X:aD)(L:HB)(f:Fz)(s:aT)(Q:Args->aT->Prop)(P:aD->aT->Prop),SR c.B c.ρ L f c.env n k m s.heap->
  (∀O j z,bS s O->Le f j->SR c.B c.ρ L j c.env n k S O.heap->bq c.ρ j z E->Q ⟨z,[]⟩ O)->wpAny (model c.prog c.w) c.A (evalArgs X ae (backTo w (starEach A c.env)) []) Q P s
section
variable{c:Cx Ob}
theorem aai(a:EE c n k m e g (.list o))(r:o.length<=1000)(S:SR c.B c.ρ L f c.env n k m s.heap)
  (G:∀O j z,bS s O->Le f j->SR c.B c.ρ L j c.env n k g O.heap->bq c.ρ j z o->Q z O):wpAny (model c.prog c.w) c.A (eval e c.env) (λv t=>StarOf (model c.prog c.w) c.A P v Q t) P s:=by
 refine a.1 L f s _ _ S λt u v q i T d=>jb (qj d) λx z A p B b=>?_;subst p;have h:=T.ready.bI _ _ B;refine aE (wH ((aR _ h J)) PySem.F.slot_list_iter.lookup (bD ⟨J,(wpAny_collect_seq x (.inl J) h J J (λw l=>?_) (by simp only [nW,b.length];exact aJ r (aC J)))⟩));obtain⟨y,E,R,X⟩:=T;exact G _ u z (q.trans (b_ w _ J)) i ⟨y,E,R,X.vh l (Le.refl _) λF H e=>.inl e⟩ b
theorem Qm(i:EE c n k m P g y)(h:EE c n k g e H (.list o))(t:o.length<=1000)(R:dX P=ae):zk c n k m w [P,.Starred e p] H (y::o):=by
 intro X L f s Q A S G;rw [lI (fY R)];refine uO (nY (i.1 L f s _ _ S λu r E q a T d=>(ks_spliced (aai h t T λO j z x l v b=>kJ ?_))));rw [nV];exact G O j _ (q.trans x) (a.trans l) v (.cons (d.mono l) b)
theorem A5(z:bJ c.B c.prog c.w B)(S:aQ c.B c.ρ L f c.env n k m E R h)(j:n[i]?=U x)(H:m[i]?=U (.obj (.b3 sf p u po g))):
  eA c.env E h x (U (.ref sf))/\c.B.ob.at_ (.b3 sf p u po g) (.ref sf) h (R i)/\∃G,G.self=sf/\d6 c.prog c.w B 0 G (.ref sf) h (R i):=by
 refine cps λs r=>?_;obtain⟨F,Q,v,rfl,l⟩:=S.vars i x _ j H;refine r ?_;have a:=l;rw [z.ob]at l;obtain⟨G,e,y⟩:∃G:SG,G.abs=.b3 sf p u po g/\d6 c.prog c.w B 0 G v h _:=l;have O:G.self=sf:=by injection e
 have b:=y.v;rw [O]at b;subst b;exact(c_ Q a ⟨G,O,y⟩)
theorem WD(z:bJ c.B c.prog c.w B)(cz:Fm c.env n m gA)(i:aa)(b:n[i]?=U x)(aM:aj[i]?=U (.obj (.b3 h aI aH p S)))(cy:(X,a)∈B.fs)(t:uR B a)(aX:X∉(["_node2info","_ready_nodes","_npassedout","_nfinished"]:Y ai))(bh:copiedNames.contains X=ak)
  (gx:∀{l},bG c.B.bO l->l.get? a=U bu)(fq:bu.data=.func gZ)(l:zk c n m aj w A L bV)(bX:L[i]?=U (.obj (.b3 h aI aH p S)))(cf:ff c.B c.prog c.w c.n (.ref a) (.b3 h aI aH p S) bV aN)(R:(backTo w (starEach A c.env)).any (·.1)=ae)
  (bf:SR c.B c.ρ Q f c.env n m aj s.heap)
  (bQ:∀O j v H k,aN H k->bS s O->Le f j->SR c.B c.ρ Q j c.env n m (L.set i (.obj H)) O.heap->Den c.ρ j v k->cA v O):
  wpAny (model c.prog c.w) c.A (eval (.Call (.Attribute (.Name x cK) X c9) A [] w) c.env) cA fD s:=by
 refine cps λy r=>?_;obtain⟨o,aS,aW,e⟩:=bf;refine gg (A5 z e b aM) λa_ y q=>?_;refine aA (q) λG bj d=>?_;refine r (aE (ez (ew o e.ns a_ (aE (kK ?_))) (cz.eJ b)));have bw:methodCallForm (A.length+([]:Y Keyword).length) (backTo w (starEach A c.env)) (backToKw w (keywordEach [] c.env))=ak:=by
  show((backTo w (starEach A c.env)).all (λx=>!x.1)&&_&&_)=ak;have:(backTo w (starEach A c.env)).all (λx=>!x.1)=ak:=by
   simpa using R
  simp only [this];rfl
 have bB:methodCallPos ak (.Name x cK) c.env c9 w=pure w:=by unfold methodCallPos;simp
 unfold methodCall;rw [bw];refine cps λy r=>aA (d.ob.dJ (G.self,λP=>P=instObj B.C G.d) (mJ (.head _))) λeT g ao=>aA (d.ob.dJ (G.d,iy G) (mJ (cL (i:=1) J))) λfP aq au=>r ?_;dsimp only at ao g aq au;subst ao;rw [bj]at g;refine cps λy r=>dS (au.none aX) λgy gz q eY=>?_;subst q;refine bM (z.ok.fs _ cy) λb7 b8=>r ?_;have F:=z.iw e.base
 refine aE (e9 (aE (get_bind F (⟨g,J,J,aq⟩) (uP (z.ok.pg X)).1 (findObj_fn z.ok.hd b7 t.sp t.ta bh (by assumption)) (uP (z.ok.pg X)).2
  (i7 (fn_get F (beq_iff_eq.mp b8) (handed_on J (bD (aE (g5 bB ?_)))))))))
 have aB:=fM s;have aO:=e.free aB;have aG:Le f (kT f s.heap.objs.size (methodObj (.ref a) (.ref h))):=xx aO.fz;refine ks_call R (keeps_M t.fn) (l _ Q _ _ _ _ ⟨o,aS,aW,(e.vh (h':=s.heap.push (methodObj (.ref a) (.ref h))) (bG.push _ _) aG λaz P cC=>qn cC (λcH E=>cH.symm▸E▸.inr ⟨aB,eN _ J⟩) .inl)⟩ λbK cM bF cY u T di=>⟨⟨T.ready.bI _ _ (u _ _ qm),z.iw T.ready.base⟩,(cps λy r=>?_)⟩);obtain⟨_,dm,dz,T⟩:=T;refine gg (A5 z T b bX) λdG cN y=>r (i7 (method_call (T.ready.bI _ _ (u _ _ qm)) (cf c.A c.ρ cM (.ref h) bF _ bK (dz i) c.R T.ready cN (λaz t=>?_) di λO j v e_ H k dU E aK dW ef dN eL eF eM aP=>?_)))
 .exact T.vg ((ck.mp b).1) az t
 .exact bQ O j v H k dU ((bS.trans (b_ _ _ J) cY).trans E) (aG.trans (u.trans aK)) ⟨o,dm,_,T.p5 b dW ef aK dN eL dG ⟨.ref h,J,eF⟩ eM⟩ aP
end
section
theorem NP(z:bJ c.B c.prog c.w B)(F:Fm c.env n k aH)(i:aa)(r:n[i]?=U x)(j:m[i]?=U (.obj (.b3 sf p u po g))){H:Ob}(f:(X,a)∈B.fs)(t:uR B a)(s:X∉(["_node2info","_ready_nodes","_npassedout","_nfinished"]:Y ai))(l:copiedNames.contains X=ak)
  (L:∀{h},bG c.B.bO h->h.get? a=U Q)(q:Q.data=.func aG)(h:zk c n k m w A e E)(v:e[i]?=U (.obj (.b3 sf p u po g)))(d:ff c.B c.prog c.w c.n (.ref a) (.b3 sf p u po g) E λb y=>b=H/\y=.none)(R:(backTo w (starEach A c.env)).any (·.1)=ae)
  (T:swapsWith (.Call (.Attribute (.Name x o) X G) A [] w) af P.line c.env=pure ak):
  ES c n k m (.Expr (.Call (.Attribute (.Name x o) X G) A [] w) P) (e.set i (.obj H)) .next:=by
 constructor;intro aK aM aP aS aW aX S aj;refine sU (WD z F i r j f t s l L q h v d R S λao O aN b aO au aq az aB aI=>?_) (by delta interactive;exact S.1.kind.symm▸J) T;obtain⟨rfl,_⟩:=au;exact aj ao O .next aq az aB trivial
theorem NN(z:bJ c.B c.prog c.w B)(F:Fm c.env n k bX)(i:aa)(j:n[i]?=U x)(H:m[i]?=U (.obj (.b3 ao au aK po g)))(p:(h,a)∈B.fs)(s:h∉(["_node2info","_ready_nodes","_npassedout","_nfinished"]:Y ai))
  (L:∀{e},bG c.B.bO e->e.get? a=U Q)(t:Q.data=.func bK)(hc:ff c.B c.prog c.w c.n (.ref a) (.b3 ao au aK po g) [] λu q=>u=o/\q=f)(T:(v.endLine==w.line)=ae):
  EE c n k m (.Call (.Attribute (.Name x bj) h v) [] [] w) (m.set i (.obj o)) f:=by
 constructor;intro bf E S bV bh O P;refine cps λbw R=>?_;obtain⟨y,aj,bu,X⟩:=O;refine gg (A5 z X j H) λC7 l aq=>aA aq λG az r=>?_;refine R ?_;subst az
 exact Aw z F j y X C7 r p s J (aC J) T (yY ⟨⟨L X.base,t⟩,i7 (hc c.A c.ρ E (.ref G.self) [] _ S _ c.R X.ready l (X.vg (jz j)) .nil λaB jx d bB u bF aH aI A aM aN aG aP aS aO aX=>by
  refine cps λbQ aW=>?_;refine bM aH λa_ b=>?_;subst a_ b
  refine aW ?_;exact P aB jx d aI A ⟨y,aj,_,X.p5 j aM aN A aG aP C7 ⟨.ref G.self,J,aS⟩ aO⟩ aX)⟩)
end
structure qc(B:br Ob)(ρ:Mk)(hB:HB)(fz:Fz)(env:cG)(xs:Y ai)(k:aa)(lv:Y (AV Ob))(m:ai->aY aD)(dY:aa->Y ay)(h:cu)(o:Ob)(v:aD)(fp:Y ay):Prop where
 S:aQ B ρ hB fz env xs k lv m dY h
 ob:B.ob.at_ o v h fp
 fr:∀b∈fp,eW B hB fz env xs dY b
section
theorem qc.keep(r:qc H X L f B n k m E R a o v p)(h:bG a h'):qc H X L f B n k m E R h' o v p:=
 ⟨r.S.vh h (Le.refl _) λb o e=>.inl e,H.frame r.ob (λb o e=>h b o (r.S.base b o e)) λb _ o e=>h b o e,r.fr⟩
theorem qc.ok(r:qc H X L f B n k m E R h o v p):ng H L f B n R i p:=
 ⟨λb t=>kU (r.fr b t).hb (r.fr b t).fz (r.fr b t).loc (r.fr b t).cell,λu _ d b t=>(r.fr b t).fp u d,λP G t=>(r.fr P t).tab G⟩
theorem qc.no(r:qc H X L f B n k m E R h o v p)(e:h.get? b=af):b∉p:=λq=>cW (aL l8 e) (H.ob.live r.ob b q)
theorem eW.v3(F:eW H L X B n A d)(i:aa)(h:d∉l):eW H L X B n (bT A i l) d:=
 ⟨F.hb,F.fz,F.loc,F.cell,λu e q=>by
  delta bT at q
  split at q
  .exact h q
  .exact F.fp u e q,F.tab,F.h0⟩
theorem D8(h:∀m,wpAny g F (spliced n) (λz x=>Q (.ref s.heap.objs.size::z) x) P {s with heap:=s.heap.push (lo [] 0),toks:=m}):
  wpAny g F (spliced ((ak,eval (.List [] p) B)::n)) Q P s:=
 nY (Pg (kJ ⟨kB J,h _⟩))
end
section
variable{c:Cx Ob}
theorem aar(dU:bJ c.B c.prog c.w eT)(cf:1<=c.n)(bw:c.y.DC "_law_stream" 21 (.ref y))(K:jq (c.B.re v) c.mg y bX [])(b7:∀{k cz h},v.I k h->v.I cz h)(S:∀{k h},c.B.inv k h->TabAt h bX #[]/\v.I k h)
  (F:Fm c.env n P b8)(q i:aa)(aP:b8[q]?=U (("_law_stream":ai),.globalImplicit))(j:n[i]?=U x)(bh:aq[i]?=U (.own (nT az)))
  (aM:gb c.env)(X:aQ c.B c.ρ aO E c.env n P aq di a s.heap)
  (bf:∀O st bj,bS s O->qc (c.B.re v) c.ρ aO E c.env n P (aq.set i .un) di (bT a i []) O.heap (.bz st az 0) (.ref st) bj->bu (.ref st) O):
  wpAny (model c.prog c.w) c.A (eval (.Call (.Name "_law_stream" eY) [.Name x bB] [] bF) c.env) bu bQ s:=by
 refine cps λ_ bV=>zQ bw λau o aB aG cy aH H c9=>?_;obtain⟨e_,cY,B,dG,ef,rfl,aK,aX,u⟩:=X.vars i x _ j bh;refine bV ?_;have A:=(ck.mp j).1;refine lD (pN c.G aM X.base (F.kn q aP nofun) cy (F.kg q aP) (B8 (fd:=docDef "_law_stream" (ik (bz 21)) (cZ (bz 21)) (eK (bz 21)) aB (.ref y) aG) (o:=o) ?_));have p:=lI (pos:=bF) (env:=c.env) (e:=.Name x bB) (es:=[]) nofun;rw [p];refine uO (nY (ez (ew aM X.ns cY (kJ ⟨⟨aH X.base,H⟩,?_⟩)) (F.eJ j)));show wpAny (model c.prog c.w) c.A (call (.ref au) [.ref B]) _ bQ s;have l:=X.fp i A B (by exact(u)▸(OH B));have T:B∉c.B.tabs:=λh=>(X.tab B h).2.2.2.2 i A (by exact(u)▸(OH B));have Q:=c.R.less cf;refine i7 (Pb Q.d (aH X.base) H (c.G.nolimit X.base) (c9 X.base) J (binds:=[(("octets":ai),uN B)]) J J (λG z=>?_) λbK aj=>?_)
 .rw [cD.mp z];have ao:(eK (bz 21)).names.lookup ("octets":ai)=U .cell:=J;exact .inr ⟨ao,u_ _ _ [] (.inl ao)⟩
 refine aaq (y:=c.y) Q.deeper b7 K J (J) (ko (J) J) (E5 (ρ:=c.ρ) (xs:=um) (wc:=[.bY (.ref B)]) (vs:=[.ref B]) (fd:=docDef "_law_stream" (ik (bz 21)) (cZ (bz 21)) (eK (bz 21)) aB (.ref y) aG) (a:=au) (s:=s) (s₁:=bK) (lU (show yh (eK (bz 21)) um=ae by decide+kernel)) J J X.ready (.cons (.bY _) .nil) (dQ J) aj) J (show(if B∈c.B.tabs then af else s.heap.get? B)=U (lo dG ef)by exact(bA T).trans aK) (kc.of aX) S λO st d w R L m f cA cC cH cK a_ cN=>?_;have aI:∀b∈[st,d,w,R,L,m,f],s.heap.get? b=af:=λb t=>bM (cN b t) λp dm=>p▸((bA dm).symm);refine dS aj.done λfq fD dN fP=>?_;have cM:=bS.trans (bS.of dN) cA;have aN:=X.forget (i:=i);have g:=λb t=>aN.free (aI b t);have dz:eW c.B aO E c.env n (bT a i []) B:=by
  refine⟨l.1,l.2.1,l.2.2.1,l.2.2.2,λr dW h=>?_,T,X.b0 l.1⟩
  by_cases e:r=i
  .have e:bT a i [] r=[]:=bx e;rw [e]at h;exact bE (h) dP
  .have q:bT a i [] r=a r:=bA e;exact X.apart i r A dW (iZ e) B (u▸.head _) (q▸h)
 have eF:=bL (g st (dH 0 J)) (bL (g d (dH 1 J)) (bL (g w (dH 2 J)) (bL (g R (dH 3 J)) (bL (g L (dH 4 J)) (bL (g m (dH 5 J)) (bL dz (bL (g f (dH 6 J)) eu)))))));have aS:∀{b},b∈[st,d,w,R,L,m,f]->b≠B:=λt h=>aU (h▸aI _ t) aK;refine bf O st [st,d,w,R,L,m,B,f] cM ⟨(aN.re (S X.inv).2).grow (h':=O.heap) (λb t o e=>cC b o (by show(if b∈c.B.tabs then af else s.heap.get? b)=U o;exact(bA t).trans e)) cH (Le.refl _) λb o e=>.inl e,?_,λb t=>?_⟩
 .show c.B.ob.at_ _ _ _ _;rw [dU.ob];refine(⟨J,d,w,R,L,m,B,f,cK,J,?_⟩:wV st az 0 (.ref st) O.heap [st,d,w,R,L,m,B,f]);have e:[st,d,w,R,L,m,f]=[st,d,w,R,L,m]++[f]:=J;exact gg (f9.mp (e▸a_)) λeL eM aW=>(f9 (l₁:=[st,d,w,R,L,m]) (l₂:=[B,f])).mpr (c_ eL (.cons (bL (aS (dH 6 J)).symm eu) eM) (λx j G z=>(cQ.mp z).elim (λq=>q.symm▸aS (e▸fV _ j)) (aW x j G)))
 .have F:=eF b t;exact⟨F.hb,F.fz,F.loc,F.cell,F.fp,F.tab,F.h0⟩
theorem s9(z:bJ c.B c.prog c.w aI)(b:1<=c.n)(E:c.y.DC "_law_stream" 21 (.ref k))(K:jq (c.B.re v) c.mg k R [])(ao:∀{X j h},v.I X h->v.I j h)(A:∀{X h},c.B.inv X h->TabAt h R #[]/\v.I X h)
  (F:Fm c.env bP 31 dj)(B:m[10]?=U (.own (nT bs)))(l:L.lk=[])(S:SR c.B c.ρ L f c.env bP 31 m s.heap)
  (G:∀O st,bS s O->SR (c.B.re v) c.ρ L f c.env bP 31 (((m.set 10 .un).set 11 (.obj (.bz st bs 0))).set 12 (.own [])) O.heap->Q .next O):
  wpAny (model c.prog c.w) c.A (exec (bH 9) c.env) Q aK s:=by
 obtain⟨y,aM,az,q⟩:=S;refine O1 (Pk ?_) J (MQ (F.kn 12 J nofun));rw [lI (fY J)];refine nY (aar z b E K ao A F 35 10 J J B y q λt st aH g r=>?_);refine D8 λaG=>kJ ⟨by simp only [o6];simp,?_⟩;have d:=r.keep (bG.push t.heap (lo [] 0));have FD:=r.S.free (fM t);refine GZ c.R.handled (i12 _ (eN _ J) J ⟨0,J⟩) J J λT p=>?_;have e:bG ((t.heap.push (lo [] 0)).push _) T:=λn o a=>p n o (fW (fQ a)) a;have i:=(d.keep (bG.push _ _)).keep e;have P:=e _ _ (eg _ (eN _ J));have u:=F.kn 11 J nofun
 exact aE (e9 (m8 (G6 u i.S.ns (λaB H w=>
  (aE (e9 (m8 (gu (av:=.own []) y l (i.S.A0 l (i:=11) J u H w (av:=.obj (.bz st bs 0)) ⟨.ref st,J,i.ob⟩ i.ok) (i:=12) (by rfl) (by decide) (.inr (F.kn 12 J nofun)) ⟨_,[],0,J,(w.2 _ FD.loc).trans P,.nil,J⟩ (.oE (FD.v3 11 (r.no (fM t)))) λaj aq au x=>bD (G aj st (g.trans (bS.trans (b_ _ _ J) au)) ⟨y,aq,_,x⟩)))))) (y.kind.symm▸J))))
end
section
theorem Bf{h:br Ob}(y:gb B)(l:L.lk=[])(S:aQ h X L f B n k g aG R s.heap)(j:n[i]?=U x)(E:i<k)
  (t:B.kindOf x=U .local\/B.kindOf x=U .cell)(a:Holds h X f s.heap av (U w) p)(z:ng h L f B n R i p)
  (G:∀O m,bS s O->aQ h X L f B n k (g.set i av) m (bT R i p) O.heap->(∀d o,eW h L f B n R d->s.heap.get? d=U o->O.heap.get? d=U o)->Q () O):wpAny (model aj aB) aq (storeName B x w) Q au s:=by
 rcases t with H|H
 .exact G6 H S.ns (λT c r=>G _ _ (b_ _ _ J) (S.A0 l j H c r a z) λd o F e=>(r.2 d F.loc).trans e) (y.kind.symm▸J)
 .have A:=S.len▸(ck.mp j).1;obtain⟨ao,u,_⟩:=S.vars i x _ j (cP A);rcases u with⟨q,_⟩|⟨_,az,v,P⟩
  .rw [H]at q;exact nc lA (bg q) J
  .exact aep y.kind H v P λT c r=>G _ _ (b_ _ s.toks J) (S.Md l j E H v c r a z) λd o F e=>(r.2 d λq=>F.cell i x j (λb=>nc lA (bg (H.symm.trans b)) J) (q▸v)).trans e
end
section
variable{c:Cx Ob}{tl:Y (AV Ob)}
theorem Zz(z:bJ c.B c.prog c.w B)(aj:aS+2<=c.n)(F:Fm c.env bP 31 dj)(b:c.mg "TopologicalSorter"=U (.ref B.C))(o:(("__init__":ai),G)∈B.fs)(P:∀x ao,ff c.B c.prog c.w (aS+1) (.ref G) (.ir x ao 0) [] λau aH=>au=.b3 x [] af 0 0/\aH=.none):
  SP c bP 31 m (bH 12) λS a=>∃x,S=(((m.set 16 (.obj (.b3 x [] af 0 0))).set 17 (.t (.bool ae))).set 18 (.own [])).set 19 (.own [])/\a=.next:=by
 constructor;intro L cM cz cA cK l a_ bh;obtain⟨y,E,R,X⟩:=a_;refine O1 (Pk ?_) J J;rw [lI (fY J)];refine nY (lD (pN c.G y X.base (F.kn 38 J nofun) b (F.kg 38 J) (callWith_K0 (z.iw X.base) z.ok.J4 (Wq z (c.R.less aj) o P X λt u x p w H T O Fr=>?_))));have r:qc c.B c.ρ L u c.env bP 31 m E R t.heap (.b3 x [] af 0 0) (.ref x) p:=⟨T,O,Fr⟩;rw [lI (fY J)];refine nY (PyProof.Rows.Constant_bool ?_);rw [lI (fY J)];refine D8 λbV=>?_;refine D8 λcN=>kJ ⟨by simp only [o6];simp,?_⟩;have n:=r.keep (bG.push t.heap (lo [] 0));have FD:=r.S.free (fM t);have A:=r.no (fM t);have f:(t.heap.push (lo [] 0)).get? t.heap.objs.size=U (lo [] 0):=eN _ J;have s:(t.heap.push (lo [] 0)).get? (t.heap.push (lo [] 0)).objs.size=af:=fM {t with heap:=t.heap.push (lo [] 0)};have k:=n.S.free s;have v:=n.no s;have aq:(t.heap.push (lo [] 0)).objs.size≠t.heap.objs.size:=λq=>aU (q▸s) f;have az:((t.heap.push (lo [] 0)).push (lo [] 0)).get? (t.heap.push (lo [] 0)).objs.size=U (lo [] 0):=eN _ J;refine GZ c.R.handled (i12 _ (eN _ J) J ⟨0,J⟩) J J λaB aG=>?_;have h:bG (((t.heap.push (lo [] 0)).push (lo [] 0)).push _) aB:=λaI aK e=>aG aI aK (fW (fQ e)) e;have i:=((n.keep (bG.push _ _)).keep (bG.push _ _)).keep h;have aM:=h _ _ (eg _ az);have aN:=h _ _ (eg _ (eg _ f));refine aE (e9 (m8 (Bf (av:=.obj (.b3 x [] af 0 0)) y l i.S (i:=16) (by rfl) (by decide) (.inl (F.kn 16 J nofun)) ⟨.ref x,J,i.ob⟩ i.ok λbX b7 aO Q j=>(aE (e9 (m8 (Bf (av:=.t (.bool ae)) y l Q (i:=17) (by rfl) (by decide) (.inr (F.kn 17 J nofun)) ⟨J,_,J,.bool _⟩ .nil λcC cH aW aX g=>?_)))))));have bf:=(FD.v3 16 A).upd 17;have d:=(k.v3 16 v).upd 17;refine aE (e9 (m8 (Bf (av:=.own []) y l aX (i:=18) (by rfl) (by decide) (.inr (F.kn 18 J nofun)) ⟨_,[],0,J,g _ _ (FD.v3 16 A) (j _ _ FD aN),.nil,J⟩ (.oE bf) λb8 cf aP bu bw=>?_)));have bB:=d.v3 18 (l:=[t.heap.objs.size]) λq=>aq (cD.mp q);exact aE (e9 (m8 (Bf (av:=.own []) y l bu (i:=19) (by rfl) (by decide) (.inr (F.kn 19 J nofun)) ⟨_,[],0,J,bw _ _ d (g _ _ (k.v3 16 v) (j _ _ k aM)),.nil,J⟩ (.oE bB) λbj bK bF bQ cy=>bD (bh bj u .next _ .next (aR x J J) (w.trans (bS.trans (b_ _ _ J) (aO.trans (aW.trans (aP.trans bF))))) H ⟨y,bK,_,bQ⟩ trivial))))
end
noncomputable def gM(P p h:aa):aa:=(p+P-h)%P
noncomputable def e6(P k p:aa):Y aa:=(ej (gM P p (k%P))).map λu=>(k%P+u)%P
noncomputable def jB(b:Y aF):Y (Y aa):=b.map λr=>if 0<=r then [r.toNat]else []
noncomputable def dK(b:Y aF)(q:aa):bl:=decide (0<=b.getD q (-1))
noncomputable def d8(b:Y aF)(q:aa):aa:=(b.getD q (-1)).toNat
noncomputable def kj(b:Y aF)(h:Y aa):Y aa:=(h.filter (dK b)).map (d8 b)
noncomputable def t6(k:aa):Y aa:=if k∈[42,63,91]then [91,k,93]else [k]
noncomputable def vP(P A k p:aa):Y aa:=(dF (k%P) [63]).flatten++(dF (gM P p (k%P)) [91,33,A,93]).flatten++t6 k++[42]
noncomputable def lS(P A k p:aa):Y Pc:=dF (k%P) af++(dF (gM P p (k%P)) (U (ae,A))++[U (ak,k)])
noncomputable def gH(A:aa)(b:Y aF):Y aa:=b.map λr=>if 0<=r then r.toNat else A
structure Pl where
 fd:bl
 al:Y AN
 ws:Y (aa×Y aa)
 ps:Y aa
noncomputable def zc(c:Cx Ob)(B:Cl)(X:ai)(o:Ob)(E:Y T)(w:Ob->T->Prop):Prop:=
 ∃a Q k,(X,a)∈B.fs/\uR B a/\(∀{h},bG c.B.bO h->h.get? a=U Q)/\Q.data=.func k/\ff c.B c.prog c.w c.n (.ref a) o E w
structure u7(c:Cx Ob)(cl:Cl):Prop where
 ad:∀sf al(node:Y aa)(AZ:Y (Y aa)),al.length+AZ.length<=900->(∀a∈al,a.2.2.length+AZ.length<=900)->zc c cl "add" (.b3 sf al af 0 0) (.str node::AZ.map .str) λo' r=>o'=.b3 sf (jX al node AZ) af 0 0/\r=.none
 gr:∀sf al(rl:Y (Y aa))po fi,rl.length<=900->(∀p∈rl,∃a∈al,a.1=p)->zc c cl "get_ready" (.b3 sf al (U rl) po fi) [] λo' r=>o'=.b3 sf (gS al rl) (U []) (po+rl.length) fi/\r=.tup (rl.map .str)
 ia:∀sf al(rl:Y (Y aa))po fi,rl.length<=900->zc c cl "is_active" (.b3 sf al (U rl) po fi) [] λo' r=>o'=.b3 sf al (U rl) po fi/\r=.bool (decide (fi<po)||!rl.isEmpty)
 dn:∀sf al rl po fi(ps:Y (Y aa)),ps.length<=900->qz (al,rl) ps=ae->zc c cl "done" (.b3 sf al (U rl) po fi) (ps.map .str) λo' r=>o'=.b3 sf (kQ (al,rl) ps).1 (U (kQ (al,rl) ps).2) po (fi+ps.length)/\r=.none
theorem qk(G:0<P):gM P p h<P:=er _ G
theorem Iu{P p:aa}(g:h<P):((p)-(h:aF)).fmod (P)=(gM P p h):=by
 delta gM
 simp only [ac1,Int.ofNat_sub (aJ (gm g) (cE P p)),Gq,Gn _ (jl P)];simp only [show(p:aF)+P-h=p-h+P from Int.add_right_comm _ _ _,Int.add_emod_right]
theorem vy{a K:aa}(h:a<P)(n:P<=6)(k:Nat.ble 6 K=ae):a<=K:=aJ (gm (eU h n)) (aC k)
theorem DU(Q:a<P)(t:b<P):a+b<2*P:=Nat.two_mul P▸OJ Q t
theorem AU{Q:aa->Prop}(f:4<=P)(n:P<=6)(a:Q 4)(b:Q 5)(d:Q 6):Q P:=
 (adG f).elim (λq=>q▸a) λh=>(adG h).elim (λq=>q▸b) λh=>lz h n▸d
theorem Ey(g:aa):pW (0,(g),1)=(ej g).map λ(u:aa)=>T.int u:=by
 have e:p_ 0 (g) 1=g:=by
  cases g with
  |zero=>rfl
  |succ g=>exact(bx (by decide)).trans ((bx (Int.natCast_pos.mpr (cS g))).trans (by rw [Int.ediv_one,Int.sub_zero,Int.sub_add_cancel]))
 show(ej (p_ 0 _ 1).toNat).map _=_;simp only [e,Gs];exact jG λu _=>aL T.int ((Int.zero_add _).trans (Int.mul_one _))
theorem EK:kN .Sub (.int a) (.int b)=U (.int (a-b)):=J
section
variable{c:Cx Ob}{tl:Y (AV Ob)}{P g k p:aa}{row:Y aF}
noncomputable abbrev Av:Y b9:=i4 (U (bH 13))
noncomputable abbrev rR:Y b9:=vo (U (e5 Av 1))
theorem v8(h:EI B c xs n m e aV o)(q:o=j):EI B c xs n m e aV j:=q▸h
theorem acs{p:fR}(h:EE c xs n m pI aV (.bool b))(w:EE c xs n aV O aV (.bool Q)):EE c xs n m (.BoolOp .And [pI,O] p) aV (.bool (b&&Q)):=by
 cases b with
 |true=>exact acr h w
 |false=>exact acu h
theorem V'(F:Fm c.env bP 31 dj)(l:k<256)(G:0<P):
  ES c bP 31 (t::j::.t (.int P)::m::X::n::u::e::h::L::A::a::r::b::.t (gU k)::i::x::o::s::y::E::tl) (e5 rR 0)
   (t::j::.t (.int P)::m::X::n::u::e::h::L::A::a::r::b::.t (gU k)::i::x::o::s::y::.t (.int (k%P:aa))::tl) .next:=
 dD F 20 J (by decide) (dw (BC F 39 J (zv F 14 J J) J) (zv F 2 J J) (nH (eU l (by decide+kernel)) G)) J
theorem Wc(F:Fm c.env bP 31 dj)(G:0<P)(v:P<=6):
  ES c bP 31 (t::j::.t (.int P)::m::X::n::u::e::h::L::A::a::r::.t (.int p)::i::x::b::o::s::y::.t (.int (k%P:aa))::Cr::tl) (e5 rR 1)
   (t::j::.t (.int P)::m::X::n::u::e::h::L::A::a::r::.t (.int p)::i::x::b::o::s::y::.t (.int (k%P:aa))::.own (nT (e6 P k p))::tl) .next:=by
 have z:=er k G;have E:=qk (p:=p) (h:=k%P) G;have l:nT (e6 P k p)=(ej (gM P p (k%P))).map λq=>T.int ((k%P+q)%P:aa):=by refine aZ (d5) ?_;rfl
 rw [l];refine Nl "j" ["home","places"] [20,2] _ (i:=21) (i':=21) F J J J (v8 (qO F 32 J (zr (sq (FW (dw (zv F 13 J J) (zv F 20 J J) EK) (zv F 2 J J) (λf=>q1 G (BJ f))) (aL T.int (Iu z))) cR J) J ?_ J) (Ey _)) J (λg S B d=>?_) J (oX▸vy E v J) J (by decide) J J J
 .show(decide _&&decide _&&_)=ae;have:((gM P p _):aF).natAbs<2^40:=eU E (aJ v (aC J));rw [decide_eq_true this];rfl
 .exact dw (dw (zv S 1 J J) (zv S 0 J J) (lT J)) (zv S 2 J J) (nH (eU (show k%P+B<100 from eU (OJ z (kI (fx.mp d) E)) (aJ (gk v v) (aC J))) (by decide+kernel)) G)
theorem Wb(F:Fm c.env bP 31 dj):
  ES c bP 31 (t::j::d::m::X::n::u::e::a::L::A::jr::r::b::.t (gU k)::i::x::o::s::y::E::q::l::tl) (e5 rR 2)
   (t::j::d::m::X::n::u::e::a::L::A::jr::r::b::.t (gU k)::i::x::o::s::y::E::q::.t (.str (t6 k))::tl) .next:=by
 delta t6
 by_cases h:k∈[42,63,91]
 .rw [bx h];exact dD F 22 J (by decide) (qM (zC (zv F 14 J J) (zs [42,63,91] (cB ['*','?','['])) (EH (decide_eq_true h)) J) (dw (dw (zs [91] (cB ['['])) (zv F 14 J J) J) (zs [93] (cB [']'])) J)) J
 .rw [bA h];exact dD F 22 J (by decide) (qM (zC (zv F 14 J J) (zs [42,63,91] (cB ['*','?','['])) (EH (decide_eq_false h)) J) (zv F 14 J J)) J
theorem Wa(F:Fm c.env bP 31 dj)(G:0<P)(v:P<=6):
  ES c bP 31 (t::m::d::.t (.str [g])::X::w::u::S::O::Q::A::x::r::b::s::n::j::o::f::y::.t (.int (k%P:aa))::.own (nT (e6 P k p))::.t (.str (t6 k))::R::tl) (e5 rR 3)
   (t::m::d::.t (.str [g])::X::w::u::S::O::Q::A::x::r::b::s::n::j::o::f::y::.t (.int (k%P:aa))::.t (.list (nT (e6 P k p)))::.t (.str (t6 k))::.t (.str (vP P g k p))::tl) .next:=by
 have z:=er k G;have E:=qk (p:=p) (h:=k%P) G;have H:(nT (e6 P k p)).length=gM P p (k%P):=by delta nT e6;simp only [b5,oX]
 have e:∀(h:aa)(l:Y aa),h<=6->l.length<=4->(dF h l).flatten.length<=24:=λh l L B=>by
  simp only [adl,OG,List.sum_replicate_nat];exact Nat.mul_le_mul L B
 have i:(t6 k).length<=3:=by delta t6;split<;>simp
 have a:=e _ [63] (vy z v J) (by simp);have q:=e _ ([91,33]++[g]++[93]) (vy E v J) (by simp);refine dD F 23 J (aC J) (dw (dw (dw (zsmul (zs [63] (cB ['?'])) (zv F 20 J J) (by decide) (vy z v J)) (zsmul (l:=[91,33]++[g]++[93]) (dw (dw (zs [91,33] (cB ['[','!'])) (zv F 3 J J) (ua (by simp))) (zs [93] (cB [']'])) (ua (by simp))) (sq (v9 F 40 J (kD F 21 J J) (eE (by rw [H];exact vy E v J)) J) (aL (λh:aa=>T.int h) H)) (by simp) (vy E v J)) (ua ?_)) (zv F 22 J J) (ua ?_)) (zs [42] (cB ['*'])) (ua ?_)) J
 .exact aJ (gk a q) (aC J)
 .rw [dM];exact aJ (gk (gk a q) i) (aC J)
 .rw [dM,dM];exact aJ (wq (gk (gk a q) i) 1) (aC J)
end
theorem M_(G:0<P):∀q∈e6 P k p,q<P:=λq h=>aA (eG.mp h) λu y e=>e▸er _ G
theorem abr:(e6 P k p).length=gM P p (k%P):=(b5 _).trans oX
theorem Fs(G:0<P):(e6 P k p).length<=P:=gm (iH (f_ abr) (qk G))
theorem Hw(b:Y aF)(h:Y aa):(kj b h).length<=h.length:=aJ (f_ (b5 _)) (BP _ _)
theorem EU{q:aa}(h:q<b.length):((jB b).map T.str)[q]?=U (.str (if dK b q then [d8 b q]else [])):=by
 delta jB dK d8
 refine aZ (hU) ?_;rw [hU,fE,cP h];show U (T.str (ite _ _ _))=U _;rw [ite_congr decide_eq_true_eq.symm (λ_=>J) λ_=>J]
 rfl
theorem aaI(h:B.kindOf s=U .cell):swapsWith (.ListComp b e d z) (U (.Name s R)) a B=pure ak:=by
 show pure _=pure ak;rw [h];cases B.blockKind==.function<;>rfl
section
variable{c:Cx Ob}{tl:Y (AV Ob)}{P g k p:aa}{row:Y aF}
structure wR(c:Cx Ob)(cl:Cl)(P g:aa)(row:Y aF):Prop where
 tr:∀k p,k<256->k≠g->p<P->CN c "translate" [.str (vP P g k p)] (.str (nK (lS P g k p)))
 tk:∀k p,k<256->p<P->CN c "_law_takes" [.str (nK (lS P g k p)),.str (gH g row++gH g row)] (.bool (lW (lS P g k p) (gH g row++gH g row)))
 sr:u7 c cl
theorem V_(F:Fm c.env bP 31 dj)(m:wR c B P g row)(l:k<256)(u:k≠g)(O:p<P)(T:row.length<=1000):
  ES c bP 31 (t::j::d::a::X::n::i::x::e::L::A::s::r::o::q::.t (.str (gH g row))::b::.t (.bool f)::v::y::E::z::w::.t (.str (vP P g k p))::tl) (e5 rR 4)
   (t::j::d::a::X::n::i::x::e::L::A::s::r::o::q::.t (.str (gH g row))::b::.t (.bool (lW (lS P g k p) (gH g row++gH g row)&&f))::v::y::E::z::w::.t (.str (vP P g k p))::tl) .next:=
 dD F 17 J (aC J) (acs (oO F 41 J (zr (oO F 42 J (zr (zv F 23 J J) cR J) (m.tr k p l u O) J) (zr (dw (zv F 15 J J) (zv F 15 J J) (ua (by
  have h:(gH g row).length<=1000:=aJ (f_ (b5 _)) T
  exact aJ (gk h h) (aC J)))) cR J) J) (m.tk k p l O) J) (zv F 17 J J)) J
theorem V8(F:Fm c.env bP 31 dj)(G:0<P)(v:P<=6)(T:row.length=P):
  ES c bP 31 (z::w::m::H::X::Q::u::e::a::L::A::i::.t (.list ((jB row).map .str))::b::x::s::l::o::n::y::E::.t (.list (nT (e6 P k p)))::j::t::R::tl) (e5 rR 5)
   (z::w::m::H::X::Q::u::e::a::L::A::i::.t (.list ((jB row).map .str))::b::x::s::l::o::n::y::E::.t (.list (nT (e6 P k p)))::j::t::.own ((kj row (e6 P k p)).map gU)::tl) .next:=by
 have g:(kj row (e6 P k p)).map gU=((e6 P k p).filter (dK row)).map λq=>gU (d8 row q):=by refine aZ d5 ?_;rfl
 have f:∀{B},B∈e6 P k p->B<row.length:=λh=>T▸M_ G _ h;have r:∀{B},B∈e6 P k p->B<2^60:=λh=>eU (M_ G _ h) (aJ v (aC J));rw [g]
 refine oS F 24 J (aC J) (uv "spot" ["signs"] [12] _ _ F J J J (lg (zv F 21 J J)) J
  (λO S B d=>gY (zC (ee (zv S 1 J J) (zv S 0 J J) (iA (r d) (EU (f d))) J) (zs [] (cB [])) (qD J) J) (by cases dK row B<;>rfl))
  (λO S B d q=>ee (zv S 1 J J) (zv S 0 J J) (iA (r d) ((EU (f d)).trans (by rw [q];rfl))) J) J (aJ (Fs G) (aJ v (aC J)))) (aaI (F.kn 24 J nofun))
theorem V7(z:bJ c.B c.prog c.w B)(F:Fm c.env bP 31 dj)(e:u7 c B){p:Y AN}(H:p.length+h.length<=900)(S:∀a∈p,a.2.2.length+h.length<=900):
  ES c bP 31 (t::j::d::m::X::n::u::i::b::L::A::jr::r::s::.t (gU k)::l::.obj (.b3 x p af 0 0)::o::q::y::E::f::v::w::.own (h.map gU)::tl) (e5 rR 6)
   (t::j::d::m::X::n::u::i::b::L::A::jr::r::s::.t (gU k)::l::.obj (.b3 x (jX p [k] (h.map λa=>[a])) af 0 0)::o::q::y::E::f::v::w::.t (sL h)::tl) .next:=by
 have g:(h.map λa=>[a]).length=h.length:=b5 _;refine xn (e.ad x p [k] _ (g.symm▸H) λa Q=>g.symm▸S a Q) λa ao aj R G O P T=>?_;simp only [d5]at T;exact NP z F 16 J J R G (by decide) J O P (Qm (zv F 14 J J) (kD F 24 J J) (by rw [b5];exact aJ (cE _ _) (aJ H (aC J))) J) J T J J
theorem V9(F:Fm c.env bP 31 dj)(g:A.length<=1000)(O:n.length<=1000)(s:(e6 P k p).length<=1000):
  EX c bP 31 (t::j::d::m::X::e::u::a::i::L::x::b::r::l::.t (gU k)::o::q::f::.own (A.map nM)::.own (nT n)::E::.t (.list (nT (e6 P k p)))::v::y::.t (sL h)::tl) (rR.drop 7)
   (t::j::d::m::X::e::u::a::i::L::x::b::r::l::.t (gU k)::o::q::f::.own ((A++[(k,h)]).map nM)::.own (nT (n++e6 P k p))::E::.t (.list (nT (e6 P k p)))::v::y::.t (sL h)::tl) .next:=dO▸(show nT (n++e6 P k p)=nT n++nT _ from dO)▸zx (uu F 18 J J (FZ (zr (zv F 14 J J) (zr (zv F 24 J J) cR J) J) J) J J J (eE (by rw [b5];exact aJ g (aC J)))) (cX (FH F 19 J (by decide) J (zv F 21 J J) J (eE (by delta nT;rw [b5];exact aJ O (aC J))) (eE (by delta nT;rw [b5];exact aJ s (aC J)))) J)
end
theorem Je(m:Y AN)(l:Y aa):(gE m l).length<=m.length+1:=by delta gE;split<;>simp
theorem P1(m:Y AN)(L:Y aa):∀(s:Y _),(jX m L s).length<=m.length+1+s.length:=by
 intro s
 delta jX
 have v:(lP (gE m L) L s.length).length<=m.length+1:=by delta lP;rw [b5];exact Je m L
 generalize lP _ L s.length=g at v;have:∀(n:Y (Y aa))(g:Y AN)(k:aa),g.length<=k->(n.foldl (λm p=>jR (gE m p) p L) g).length<=k+n.length:=by
  intro n
  induction n with
  |nil=>intro g k h;simpa using h
  |cons p n f=>
   intro g k h;have:=f (jR _ p L) (k+1) (by delta jR;rw [b5];have:=Je g p;exact g_ 0 (.v 2) (.a (.v 1) (.n 1)) (.v 0) (.v 1) (.v 2) (.a (.v 0) (.n 1)) J [_,_,_] h this);exact dg 0 (.v 0) (.a (.v 1) (.a (.v 2) (.n 1))) (.v 0) (.a (.a (.v 1) (.n 1)) (.v 2)) J [_,_,_] this
 exact this s g _ v
theorem P5(L:Y aa)(s:Y _)(h:∀a∈m,a.2.2.length<=k):∀a∈jX m L s,a.2.2.length<=k+s.length:=by
 have u:∀(g:Y AN)(l:Y aa)(k:aa),(∀a∈g,a.2.2.length<=k)->∀a∈gE g l,a.2.2.length<=k:=λg l k h a Q=>by
  delta gE at Q
  split at Q
  .exact h a Q
  .rcases e8.mp Q with Q|Q
   .exact h a Q
   .rw [cD.mp Q];simp
 have c:∀a∈lP (gE m L) L s.length,a.2.2.length<=k:=λa Q=>by
  refine aA (eG.mp Q) λb t i=>?_;subst i;have:=u m L k h b t
  split<;>exact this
 delta jX
 generalize lP _ L s.length=g at c;have:∀(n:Y (Y aa))(g:Y AN)(k:aa),(∀a∈g,a.2.2.length<=k)->∀a∈n.foldl (λm p=>jR (gE m p) p L) g,a.2.2.length<=k+n.length:=by
  intro n
  induction n with
  |nil=>intro g k h;simpa using h
  |cons p n f=>
   intro g k h a Q
   have:=f (jR _ p L) (k+1) (λa Q=>by
    refine aA (eG.mp Q) λb t i=>?_;subst i;have:=u g p k h b t
    split
    .simp;exact this
    .exact dg 0 (.v 0) (.a (.v 1) (.n 1)) (.v 0) (.v 1) J [_,_] this) a Q
   exact dg 0 (.v 0) (.a (.v 1) (.a (.v 2) (.n 1))) (.v 0) (.a (.a (.v 1) (.n 1)) (.v 2)) J [_,_,_] this
 exact this s g k c
noncomputable def r6(P A:aa)(b:Y aF)(s:Pl)(p:aa):Pl:=
 if dK b p then⟨lW (lS P A (d8 b p) p) (gH A b++gH A b)&&s.fd,jX s.al [d8 b p] ((kj b (e6 P (d8 b p) p)).map λa=>[a]),s.ws++[(d8 b p,kj b (e6 P (d8 b p) p))],s.ps++e6 P (d8 b p) p⟩else s
structure ri(n:aa)(s:Pl):Prop where
 al:s.al.length<=n
 su:∀a∈s.al,a.2.2.length<=n
 ws:s.ws.length<=n
 ps:s.ps.length<=n
theorem L4(H:ri e s)(G:0<P)(v:P<=6):ri (e+7) (r6 P A b s p):=by
 delta r6
 by_cases h:dK b p=ae
 .rw [bx h];have g:=aJ (Fs (k:=d8 b p) (p:=p) G) v;have z:((kj b _).map λa=>[a]).length<=6:=aJ (f_ (b5 _)) (aJ (Hw b (e6 P (d8 b p) p)) g)
  exact⟨aJ (P1 _ _ _) (show _<=e+1+6 from gk (jH H.al) z),λa q=>aJ (P5 _ _ H.su a q) (ly (yO z) _),
   aJ (f_ dM) (gk H.ws (aC J)),aJ (f_ dM) (gk H.ps (yO g))⟩
 .rw [bA h];exact⟨aJ H.al (fH _ _),λa q=>aJ (H.su a q) (fH _ _),aJ H.ws (fH _ _),aJ H.ps (fH _ _)⟩
section
variable{c:Cx Ob}{tl:Y (AV Ob)}{P g:aa}{row:Y aF}
noncomputable abbrev FP(t j X n u e c L A a:AV Ob)(P g:aa)(row:Y aF)(x:ay)(tl:Y (AV Ob))(s:Pl)(b p E q l k h:AV Ob):Y (AV Ob):=
 t::j::.t (.int P)::.t (.str [g])::X::n::u::e::c::L::A::a::.t (.list ((jB row).map .str))::b::p::.t (.str (gH g row))::.obj (.b3 x s.al af 0 0)::.t (.bool s.fd)::.own (s.ws.map nM)::.own (nT s.ps)::E::q::l::k::h::tl
noncomputable abbrev sW(t j X n u e c L A h:AV Ob)(P g:aa)(row:Y aF)(x:ay)(tl:Y (AV Ob))(s:Pl)(b:aa->AV Ob):Y (AV Ob):=FP t j X n u e c L A h P g row x tl s (b 0) (b 1) (b 2) (b 3) (b 4) (b 5) (b 6)
theorem I8{st:Y b9}(h:EX c bP 31 m st (FP t j X n u e a L A x P g row b tl s l B k p o y H) .next):∃q,EX c bP 31 m st (sW t j X n u e a L A x P g row b tl s q) .next:=⟨λi=>[l,B,k,p,o,y,H].getD i .un,h⟩
theorem Yz(z:bJ c.B c.prog c.w B)(F:Fm c.env bP 31 dj)(m:wR c B P g row)(G:0<P)(v:P<=6)(T:row.length=P)(O:p<P)(k:dK row p=ae->d8 row p<256/\d8 row p≠g)(H:ri 800 s):
  ∃b,EX c bP 31 (FP a0 a1 a4 a5 a6 a7 a8 a9 iJ jr P g row sf tl s (.t (.int p)) wY Hq Cr Hr Hs Ht) Av (sW a0 a1 a4 a5 a6 a7 a8 a9 iJ jr P g row sf tl (r6 P g row s p) b) .next:=by
 have n:ES c bP 31 (FP a0 a1 a4 a5 a6 a7 a8 a9 iJ jr P g row sf tl s _ wY Hq Cr Hr Hs Ht) (e5 Av 0) _ .next:=
  dD F 14 J (by decide) (ee (zv F 12 J J) (zv F 13 J J) (iA (eU O (aJ v (aC J))) (EU (T.symm▸O))) J) J
 delta r6
 by_cases h:dK row p=ae
 .rw [bx h]at n⊢;have S:=k h;have a:=S.1;have e:=aJ (Fs (k:=d8 row p) (p:=p) G) v;have Q:=aJ (Hw row _) e;exact I8 (zx n (cX (cJ (zC (zv F 14 J J) (zs [] (cB [])) (qD J) J) (zx (V' F a G) (zx (Wc F G v) (zx (Wb F) (zx (Wa F G v) (zx (V_ F m a (S.2) O (aJ (f_ T) (aJ v (aC J)))) (zx (V8 F G v T) (zx (V7 z F m.sr (aJ (gk H.al Q) (aC J)) λi q=>aJ (gk (H.su i q) Q) (aC J)) (V9 F (aJ H.ws (aC J)) (aJ H.ps (aC J)) (aJ e (aC J))))))))))) J))
 .rw [bA h]at n⊢;exact I8 (zx n (cX (cJ (zC (zv F 14 J J) (zs [] (cB [])) (qD J) J) eS) J))
theorem Yy(z:bJ c.B c.prog c.w B)(F:Fm c.env bP 31 dj)(E:wR c B P g row)(G:0<P)(v:P<=6)(O:row.length=P)(y:∀p,dK row p=ae->d8 row p<256/\d8 row p≠g):
  ∀(l:Y aa)(s:Pl)(h:aa)(a:aa->AV Ob),(∀p∈l,p<P)->ri h s->h+7*l.length<=800->∃b,
   i9 c bP 31 (mu (U (bH 13))) Av (l.map λ(p:aa)=>T.int p) (sW t j X n u k o L A x P g row f tl s a) (sW t j X n u k o L A x P g row f tl (l.foldl (r6 P g row) s) b) .next:=λd=>d.rec
 (λs h a aj H e=>⟨a,lZ⟩)
 (λp l w s h a m H e=>by
  have i:=aJ (fH h _) e;refine bC (Yz (a0:=t) (a1:=j) (a4:=X) (a5:=n) (a6:=u) (a7:=k) (a8:=o) (a9:=L) (iJ:=A) (jr:=x) (sf:=f) (tl:=tl) (wY:=a 1) (Hq:=a 2) (Cr:=a 3) (Hr:=a 4) (Hs:=a 5) (Ht:=a 6) z F E G v O (m p (.head _)) (y p) (⟨aJ H.al i,λa q=>aJ (H.su a q) i,aJ H.ws i,aJ H.ps i⟩)) λb S=>bC (w (r6 P g row s p) _ b (λq Q=>m q (.tail _ Q)) (L4 H G v) (by rw [m4,Nat.mul_succ,l6 _ 7,<-l5]at e;exact e)) λR r=>?_
  exact⟨R,mU (jj F 13 J (aC J)) S r⟩)
noncomputable def eB(P g:aa)(row:Y aF):Pl:=(ej P).reverse.foldl (r6 P g row) ⟨ae,[],[],[]⟩
theorem Zk(f:4<=P)(n:P<=6):pW ((P)-1,-1,-1)=(ej P).reverse.map (λ(p:aa)=>T.int p)/\pV ((P)-1,-1,-1)=ae:=AU (Q:=λP=>pW ((P:aF)-1,-1,-1)=(ej P).reverse.map _/\pV ((P)-1,-1,-1)=ae) f n ⟨J,J⟩ ⟨J,J⟩ ⟨J,J⟩
theorem ZA(z:bJ c.B c.prog c.w B)(F:Fm c.env bP 31 dj)(m:wR c B P g row)(f:4<=P)(v:P<=6)(T:row.length=P)(k:∀p,dK row p=ae->d8 row p<256/\d8 row p≠g)(a:aa->AV Ob):
  ∃b,ES c bP 31 (sW t j X n u e h L A i P g row sf tl ⟨ae,[],[],[]⟩ a) (bH 13) (sW t j X n u e h L A i P g row sf tl (eB P g row) b) .next:=
 bM (Zk f v) λO x=>bC (Yy z F m (eU (aC J) f) v T k (ej P).reverse _ 0 a (λp s=>fx.mp (BS.mp s)) ⟨ek _,λa q=>bE q dP,ek _,ek _⟩ (by rw [adn,oX];exact aJ (f_ (l7 _)) (aJ (uI 7 v) (aC J)))) λb r=>
  ⟨b,kC (v8 (qO F 32 J (zr (dw (zv F 2 J J) (zi 1) EK) (zr (yC (zi 1)) (zr (yC (zi 1)) cR J) J) J) J x J) O) r J J⟩
end
section
set_option tactic.hygienic true
section
theorem Ba{T:Type}{l:Y T}{x:T}(h:l[i]?=U x):l.set i x=l:=by
 refine bC (ck.mp h) λA j=>?_;subst j;exact List.set_getElem_self A
theorem Xc{T:Type}{a b d O:T}(R:O≠a)(w:O≠b)(t:O≠d):O∉[a,b,d]:=λh=>(cQ.mp h).elim R λh=>(cQ.mp h).elim w λh=>t (cD.mp h)
theorem Yj{x:String}(o:OwnCls x a q h d X)(w:ExcBaseFacts c h JE q)(k:bG X s.heap)(R:s.heap.get? e=U S)(b:S.cls=.ref a)(i:Q ae s):
  wpAny L F (excMatches (.ref e) (.ref a)) Q P s:=by
 refine cps λ_ r=>?_;obtain⟨l,j,t,f,G,B,v,sub,m,g,p,u,O,z,H,E,A,n,T,aj,y⟩:=o.obj;exact r (wpAny_excMatches_sub_self (k _ _ n) R b (y.hasType w.hasBase) i)
theorem YR(az:bJ c.B c.prog c.w kF)(n:jI c [])(s:Fm c.env xs k di)(i j q:aa)(hx:xs[i]?=U bh)(jU:lv[i]?=U (.obj (.b3 E p af po fi)))(dN:(au,aK)∈kF.fs)(iE:au∉(["_node2info","_ready_nodes","_npassedout","_nfinished"]:Y ai))
  (L:∀{x},bG c.B.bO x->x.get? aK=U p9)(qT:p9.data=.func F6)(sF:o8 c.B c.prog c.w c.n (.ref aK) (.b3 E p af po fi) [] (.ref aN) λaP r=>aP=.b3 E p (U w) po fi/\r=AX d)(eY:(bj.endLine==bu.line)=ae)
  (aB:di[q]?=U (("CycleError":ai),.globalImplicit))(bB:OwnCls "CycleError" aN fP gx c.mg c.B.bO)(iU:ExcBaseFacts N1 gx F5 fP)(b7:xs[j]?=U cz)(cC:j<k)(sI:lv[j]?=U (.t (.bool ak)))(cK:i≠j)
  (dU:swapsWith (.Call (.Attribute (.Name bh eF) au bj) [] [] bu) af fD.line c.env=pure ak)(iD:swapsWith (.Constant (.bool ae) kk jk) (U (.Name cz sG)) cY.line c.env=pure ak):
  ES c xs k lv (.Try [.Expr (.Call (.Attribute (.Name bh eF) au bj) [] [] bu) fD] [.ExceptHandler (U (.Name "CycleError" Gd)) af [.Assign [.Name cz sG] (.Constant (.bool ae) kk jk) cY] NY] [] [] NZ)
   ((lv.set i (.obj (.b3 E p (U w) po fi))).set j (.t (.bool d.isSome))) .next:=by
 constructor;intro aG dW aH F2 F1 e_ fq aI;refine cps λ_ kk=>?_;obtain⟨y,Q,aM,X⟩:=fq;refine gg (A5 az X hx jU) λg mW nR=>?_;obtain⟨G,rfl,qP⟩:=nR;refine kk ?_;have z:=jz hx;have m:=X.fp i z;refine Pj (g4 (sU (Aw az s hx y X g qP dN iE J (aC J) eY (yY ⟨⟨L X.base,qT⟩,i7 (sF c.A c.ρ dW (.ref G.self) [] _ aH (aM i) [c.env.locals] [] (X.I5 n z) c.R X.ready mW (X.vg z) .nil λO S sE aP r Gb P aO A R dm aS aW H aX xC a_=>(bM P λef bf=>?_))⟩)) (by unfold interactive;exact y.kind.symm▸J) dU));subst ef;have aq:=MG dm (.head _) X.ns;cases r with
 |some t=>
  refine aA a_ λF0 eT F8=>?_;subst eT;cases d<;>first|(cases bf;done)|skip
  refine q4 (q4 (aI O S .next aO A ?_ trivial));have e:(lv.set i (.obj (.b3 G.self p (U w) po fi))).set j (.t (.bool (af:aY (Y (Y aa))).isSome))=lv.set i (.obj (.b3 G.self p (U w) po fi)):=Ba ((iV cK).trans sI);exact e.symm▸⟨y,Q,_,X.yn hx (λb a u T o L=>R b a u (λq=>T (cD.mp q)) o L) aq aS A aW H g ⟨.ref G.self,J,aX⟩ λb h=>⟨(xC b h).1.imp id X.free,(xC b h).2⟩⟩
 |none=>
  refine IC a_ λe gy gz gA gZ iC bF bK iT=>?_;subst gA;cases d<;>first|(cases bf;done)|skip
  refine cps λ_ kk=>?_;obtain⟨B,F4,F7,i6,F9,F_,Ga,cM⟩:=M4 iC;refine aA n.fr λc9 dz dG=>kk ?_;have l:∀{b},(gz.get? b).isSome=ae->b≠e/\b≠B:=λh=>⟨λq=>cW (aL l8 gZ) (q▸h),λq=>cW (aL l8 i6) (q▸h)⟩;have bQ:∀{b o},aH.heap.get? b=U o->b≠e/\b≠B:=λL=>l (bF _ (dc L));have eM:Heap.FlyingW (rest O.heap [e,B,c.env.locals]) (c.env::c9) e (.ref aN) gy O.heap:=
   ⟨t9 _,sR _ (.head _),C3 (λbV F=>sR _ (cD.mp F▸dH 2 J)) (λbV F=>(cD.mp F).symm▸jb aq λo bX bX L lq bX=>⟨o,L,λ_ q=>nomatch lq.symm.trans q⟩)
    λeL ao=>(cQ.mp ao).elim (λq=>q.symm▸⟨n.kd,_,.head _,n.own⟩) λao=>match dG eL ao with|⟨_,bV,F,_⟩=>(bE (F) dP),
    cM _ (sR _ (dH 1 J))⟩
  have bw:∀{b o},b≠e/\b≠B->b≠c.env.locals->O.heap.get? b=U o->(rest O.heap [e,B,c.env.locals]).get? b=U o:=λa u L=>nF L (Xc a.1 a.2 u);have cf:∀{x},(rest O.heap [e,B,c.env.locals]).StaysIn x->bG c.B.bO x:=λk b o q=>by
   have h:=X.fT b o q;have cy:=eP X.nL.1 h;exact k b o (bw (bQ (X.base b o q)) cy (R b (λr=>aU (m b r).1 h) (X.ji h) (λr=>cy (cD.mp r)) o (X.base b o q)))
  refine wpAny_looks_onW dz n.own eM λGe qQ qR=>wpAny_landsW qQ λqS aj qU=>aA aj.there λF3 sD mV=>?_;have b8:=cf aj.1;refine wpAny_handleBy_cons (codeAny_handlers_test (pN (s:={O with heap:=qS}) c.G y b8 (s.kn q aB nofun) bB.bound (s.kg q aB) (Yj bB iU b8 sD mV (codeAny_handlers_suite (lands_againW aj λf cA sH=>?_))))) nofun;have v:∀{b o},b≠e/\b≠B->b≠c.env.locals->O.heap.get? b=U o->f.get? b=U o:=λa u L=>cA.1 _ _ (bw a u L);have sJ:aQ c.B c.ρ aG S c.env xs k (lv.set i (.obj (.b3 G.self p (U w) po fi))) Q (bT aM i sE) f:=
   X.yn hx (λb a u T o L=>v (bQ L) T (R b a u (λq=>T (cD.mp q)) o L)) (((qR.trans qU).trans sH).ns aq)
    (br.gO aS λP cH o L=>v (l (bF P (c.B.live X.inv P cH))) (X.tab P cH).2.2.1 L) A (λb o L=>v (l (dc (iT b o L))) ((H b o L).elim (λq=>eP X.nL.2 q) λq=>q.elim (λq r=>cW (aL l8 (r▸q)) (AL X.ns)) λq=>(m b q).2.2.1) (aW b o L)) H g
    ⟨.ref G.self,J,c.B.frame aX (cf cA.1) λb h o L=>v (l (bK b h)) ((λ_ r q=>r.elim (λr=>(m _ r).2.2.1 q) λr=>cW (aL l8 (q▸r)) (AL X.ns)) (bK b h) (xC b h).1) L⟩ λb h=>⟨(xC b h).1.imp id X.free,(xC b h).2⟩
  refine g4 (IU b7 cC (s.loc b7 cC) (xr (τ:=.bool ae) J) iD aG S {O with heap:=f} _ _ e_ ⟨y,Q,_,sJ⟩ λsN uy Gf sM v_ yD cN=>?_);cases cN.nx;exact q4 (aI sN uy .next ((aO.trans ⟨f,_,J⟩).trans sM) (A.trans v_) yD trivial)
end
end
theorem MW{h:Type} [DecidableEq h](X:T->T->aY bl)(A:h->T)(e:∀x O,X (A x) (A O)=U (decide (x=O))):∀(l E:Y h),l.length=E.length->j5 X (l.map A) (E.map A)=U (decide (l=E))
 |[],[],_=>J
 |x::l,O::E,a=>(aaP (e x O) (MW X A e l E (BY a))).trans (aL U (by rw [oU];simp))
theorem Fc{h:Type} [DecidableEq h](g:aa)(A:h->T)(a:∀x O,fb g (A x) (A O)=U (decide (x=O)))(l E:Y h):fb (g+1) (.list (l.map A)) (.list (E.map A))=U (decide (l=E)):=by
 show(if(l.map A).length==(E.map A).length then j5 _ _ _ else U ak)=_;simp only [b5]
 by_cases e:l.length=E.length
 .exact aZ (bx (by exact decide_eq_true e)) (MW _ A a l E e)
 .refine aZ (bA (by simpa using e)) ?_;rw [decide_eq_false (λq=>e (by rw [q]))]
theorem aaN(g:aa)(a b:Y aa):fb (g+2) (nL a) (nL b)=U (decide (a=b)):=
 Fc (g+1) (λ(x:aa)=>T.int x) (λa b=>aL U (by rw [oU,decide_eq_true_eq];exact beq_iff_eq.trans Ol)) a b
theorem Fd(g:aa)(a b:Y aF):fb (g+2) (.list (rL a)) (.list (rL b))=U (decide (a=b)):=Fc _ T.int (λa b=>J) a b
theorem WV(a:Y _):gp .NotEq (.list (gR a)) (.list (gR a))=U ak:=
 (aL (l9 _) (Fc 5 _ (λa b=>aaN 3 a b) a a)).trans (aL (λb=>U (!b)) (decide_eq_true J))
noncomputable def LX(c:Cx Ob)(e:br Ob)(m:Y (AV Ob))(st:Y b9):Prop:=
 ∀(L:HB)(f:Fz)(s:aT)(Q:Flow->aT->Prop)(P:aD->aT->Prop),L.lk=[]->SR c.B c.ρ L f c.env bP 31 m s.heap->
  (∀O j S,bS s O->SR e c.ρ L j c.env bP 31 S O.heap->Q (.ret (.bool ae)) O)->wpAny (model c.prog c.w) c.A (execs st c.env) Q P s
section
variable{c:Cx Ob}{st:b9}{rest:Y b9}{lv aV:Y (AV Ob)}
theorem g9(h:ES c bP 31 lv o aV .next)(r:LX c e aV rest):LX c e lv (o::rest):=by
 intro L f s Q P l S G;refine g4 (h.1 L f s _ _ l S λt u X q b T d=>?_);obtain rfl:=d.nx;exact r L u t Q P l T λO j x i a=>G O j x (q.trans i) a
theorem Wj(h:SP c bP 31 lv o y)(r:∀S A,y S A->A=.next/\LX c e S rest):LX c e lv (o::rest):=by
 intro L f s Q P l i G;refine g4 (h.1 L f s _ _ l i λt u X aV A p q b T d=>?_);obtain⟨rfl,r⟩:=r aV A p;obtain rfl:=d.nx;exact r L u t Q P l T λO j S x a=>G O j S (q.trans x) a
theorem Wl(h:ES c bP 31 lv o aV (.ret (.bool ae))):LX c c.B lv (o::rest):=by
 intro L f s Q P l S G;refine g4 (h.1 L f s _ _ l S λt u X q e T d=>?_);obtain⟨v,rfl,d⟩:=d.rt;obtain rfl:=d.inv;exact G t u aV q T
theorem DW(i:aa)(H:lv[i]?=U (.own l))(r:LX c e (lv.set i (.t (.list l))) rest):LX c e lv rest:=by
 intro L f s Q P x S G;refine cps λ_ h=>?_;obtain⟨y,E,R,X⟩:=S;exact jL (X.freeze H) λj T b a=>h (r L j s Q P x ⟨y,E,_,a⟩ G)
end
section
variable{c:Cx O}
theorem abM{e:Type}{j:Y e}{A:e->T}(x:ai)(h:Y ai)(P:Y aa)(X:e->T)(q:e->bl){i':aa}(F:Fm c.env n k f)(aj:rB d [x] h=ae)(au:rz f n h P=ae)(l:oh d.names (x::h) 1=ae)(E:EI aP c n k m o g (j.map A))(aM:noOwn g P=ae)
  (G:∀a,Fm (c.fB d a).env (x::h) 1 d.names->∀B∈j,EC (c.fB d a) (x::h) 1 (.t (A B)::P.map λi=>g[i]?.getD .un) v (.t (A B)::P.map λi=>g[i]?.getD .un) (q B))
  (r:∀a,Fm (c.fB d a).env (x::h) 1 d.names->∀B∈j,q B=ae->EE (c.fB d a) (x::h) 1 (.t (A B)::P.map λi=>g[i]?.getD .un) p (.t (A B)::P.map λi=>g[i]?.getD .un) (X B))
  (y:oC o=ae)(w:j.length<=1000000)(H:n[i]?=U s)(L:i<k)(O:f[i']?=U (s,.local))(Q:R.line=z.line)(ao:(d.names.any λ(b,u)=>b==s&&(u==.local||u==.cell))=ak):
  ES c n k m (.Assign [.Name s R] (.ListComp p [⟨.Name x aS,o,[v],0⟩] d z) aO) (g.set i (.own ((j.filter q).map X))) .next:=by
 refine⟨λaG aH aq az aB aI S aK=>?_⟩;have aN:c.env.blockKind=.function:=by
  have:=S.1.kind
  delta BH;simp [this,GU]
 have t:=F.kn i' O nofun;refine IV (xe aj) (w6 F au) E.1 (ya aM) (λa=>NB (mq l) A X q j .un (G a (mq l)) (r a (mq l))) (rY y) (.inl (b_ _ _ J)) (decide_eq_true (by rw [b5];exact w)) (vM (pre:=[qs .un (j.map A)]) J) H L t ?_ aG aH aq az aB aI S aK
 .show pure (c.env.blockKind==.function&&c.env.kindOf s==U .local&&R.line==z.line&&!(d.names.any λ(b,k)=>b==s&&(k==.local||k==.cell)))=pure ae;refine aN▸t▸Q▸ao▸?_;simp
end
structure Hi(c:Cx Ob)(cl:Cl)(C:ay):Prop where
 pr:∀sf al(res:aY (Y (Y aa)))fuel,qh al=ae->nr al fuel=U res->rZ res=ae->al.length<=800->
  ∃a ob fd,(("prepare":ai),a)∈cl.fs/\(∀{h},bG c.B.bO h->h.get? a=U ob)/\ob.data=.func fd/\o8 c.B c.prog c.w c.n (.ref a) (.b3 sf al af 0 0) [] (.ref C) λo' r=>o'=.b3 sf al (U (gT al)) 0 0/\r=AX res
section
variable{c:Cx Ob}{tl:Y (AV Ob)}{P:aa}{os:Y (Y aa)}{ws:Y (aa×Y aa)}{fd:bl}{row:Y aF}
theorem gd{m:Y (AV Ob)}{i:aa}(h:m[i]?=U a):m[i]?.getD AV.un=a:=by rw [h];rfl
theorem x_{m:Y (AV Ob)}(h:m[i]?=U (.t a))(T:m[u]?=U (.t b)):noOwn m [i,u]=ae:=AI h (AI T J)
theorem ZB(F:Fm c.env bP 31 dj)(H:m.length=31):ES c bP 31 m (bH 14) (m.set 25 (.t (.bool ak))) .next:=dD F 25 J (by decide) (zb ak) J
theorem ZC(z:bJ c.B c.prog c.w B)(n:jI c [])(F:Fm c.env bP 31 dj){a:ay}{q:Y aD}{b h L:String}(K:Hi c B a)(o:OwnCls "CycleError" a q h c.mg c.B.bO)(w:ExcBaseFacts b h L q)
  (v:qh p=ae)(i:nr p E=U e)(l:rZ e=ae)(H:p.length<=800)(j:m[16]?=U (.obj (.b3 x p af 0 0)))(s:m[25]?=U (.t (.bool ak))):
  ES c bP 31 m (bH 15) ((m.set 16 (.obj (.b3 x p (U (gT p)) 0 0))).set 25 (.t (.bool e.isSome))) .next:=pG (K.pr x p e E v i l H) λk Q fd R t f T=>YR z n F 16 25 43 J j R (by decide) t f T J J o w J (dQ J) s (nofun) J J
theorem ZD(F:Fm c.env bP 31 dj)(K:∀Q d,∀o∈os,CN (c.fB Q d) "_law_keeps" [nL o,.list (ws.map nM)] (.bool (jd o ws)))(h:os.length<=1000)(T:lv[5]?=U (.t (.list (gR os))))(e:lv[17]?=U (.t (.bool fd)))(i:lv[18]?=U (.t (.list (ws.map nM)))):
  ES c bP 31 lv (bH 16) (lv.set 26 (.own (gR (os.filter λo=>fd&&jd o ws)))) .next:=
 abM (i':=26) "order" ["found","waits"] [17,18] _ _ F J J J (lg (zv F 5 J T)) (x_ e i)
  (λa S o L=>gY (gX (j6 (zv S 1 J (aL U (gd e))) J λ_=>J) λ_=>gX (j6 (oO S 2 J (zr (zv S 0 J J) (zr (zv S 2 J (aL U (gd i))) cR J) J) (K _ a o L) J) J λ_=>J) λ_=>nQ) (by rw [uz])) (λa S o L y=>zv S 0 J J) J (aJ h (aC J)) J (by decide) J J J
end
theorem gs{m:Y (AV Ob)}(h:m[i]?=U a)(c:j≠i):(m.set j x)[i]?=U a:=(iV c).trans h
theorem Ez{P:aa}(f:4<=P)(n:P<=6):pW (0,(P),1)=(ej P).map (λ(p:aa)=>T.int p)/\pV (0,(P),1)=ae:=AU (Q:=λP=>pW (0,(P:aF),1)=(ej P).map _/\pV (0,(P),1)=ae) f n ⟨J,J⟩ ⟨J,J⟩ ⟨J,J⟩
theorem KI(a b:bl):gp .NotEq (.bool a) (.bool b)=U (a !=b):=J
noncomputable def Ax(P:aa)(n:Y aa):Y aa:=(ej P).filter λu=>!decide (u∈n)
noncomputable def ku(P:aa)(h:Y aF):Y aF:=((ej P).filter (dK h)).map λ(p:aa)=>((p)-h.getD p (-1)).fmod P
section
variable{c:Cx Ob}{lv:Y (AV Ob)}{P:aa}{os Iv:Y (Y aa)}{ps:Y aa}{fd ring:bl}{row made:Y aF}
theorem ZE(F:Fm c.env bP 31 dj)(K:∀Q d,∀o∈os,CN (c.fB Q d) "_law_made" [nL o,.int P] (.list (rL (e0 P o))))(e:os.length<=1000)(w:lv[2]?=U (.t (.int P)))(T:lv[5]?=U (.t (.list (gR os))))(b:lv[9]?=U (.t (.list (rL row))))(i:lv[26]?=U (.own (gR (os.filter λo=>decide (e0 P o=row))))):
  ES c bP 31 lv (bH 17) (lv.set 26 (.t (.list (gR (os.filter λo=>decide (e0 P o=row)))))) .next:=by
 have g:=gs (x:=.t (.list (gR (os.filter λo=>decide (e0 P o=row))))) (j:=26) w (by decide);have h:=gs (x:=.t (.list (gR (os.filter λo=>decide (e0 P o=row))))) (j:=26) b (by decide)
 exact cJ (b:=ak) (zC (kD F 26 J i) (zf (uv (us:=os) (g:=λo=>nL o) "order" ["places","row"] [2,9] (λo=>nL o) (λo=>decide (e0 P o=row)) F J J J (lg (zv F 5 J (gs T (by decide)))) (x_ g h)
  (λa S o L=>zC (oO S 2 J (zr (zv S 0 J J) (zr (zv S 1 J (aL U (gd g))) cR J) J) (K _ a o L) J) (zv S 2 J (aL U (gd h))) (Fd 4 _ _) J) (λa S o L y=>zv S 0 J J) J (aJ e (aC J)))) (WV _) J) eS
theorem ZF(F:Fm c.env bP 31 dj)(f:4<=P)(n:P<=6)(w:lv[2]?=U (.t (.int P)))(i:lv[19]?=U (.t (.list (nT ps))))(s:lv[25]?=U (.t (.bool ring)))(T:ring=(Ax P ps).isEmpty):
  ES c bP 31 lv (bH 18) lv .next:=by
 have h:=Ez f n;refine cJ (b:=ak) (gY (zC (zv F 25 J s) (sy (zf (uv "place" ["passed"] [19] _ _ F J J J (v8 (qO F 32 J (zr (zv F 2 J w) cR J) J (h.2) J) (h.1)) (AI i J)
  (λa S u d=>zC (zv S 0 J J) (zv S 1 J (aL U (gd i))) (CD u ps) J) (λa S u d y=>zv S 0 J J) J (by exact(oX)▸(aJ n (aC J))))) (oQ cR J) (Rm _) J) (KI _ _) J) ?_) eS
 simp only [GB,T];exact bne_self_eq_false _
theorem ZG(F:Fm c.env bP 31 dj)(f:4<=P)(n:P<=6)(z:made.length=P)(w:lv[2]?=U (.t (.int P)))(s:lv[8]?=U (.t (.list (rL made))))(H:lv.length=31):
  ES c bP 31 lv (bH 19) (lv.set 27 (.t (.int (ku P made).sum))) .next:=by
 refine bM (Ez f n) λO b=>?_;have r:∀{B},B∈ej P->B<P/\B<2^60:=λh=>⟨fx.mp h,eU (fx.mp h) (aJ n (aC J))⟩
 exact dD F 27 J (aC J) (aco F 44 J (sq (zf (uv "place" ["made","places"] [8,2] (λu:aa=>T.int _) (dK made) F J J J (v8 (qO F 32 J (zr (zv F 2 J w) cR J) J b J) O) (x_ s w)
  (λa S u d=>zC (ee (zv S 1 J (aL U (gd s))) (zv S 0 J J) (iA (r d).2 (xA (z.symm▸(r d).1))) J) (zi 0) (yj J) J)
  (λa S u d y=>FW (dw (zv S 0 J J) (ee (zv S 1 J (aL U (gd s))) (zv S 0 J J) (iA (r d).2 (xA (z.symm▸(r d).1))) J) EK) (zv S 2 J (aL U (gd w))) (by omega)) J (by exact(oX)▸(aJ n (aC J))))) (aL T.list (by unfold ku;simp only [d5];rfl))) (ints_map _) J) J
theorem ZH(F:Fm c.env bP 31 dj)(O:ps.length<=1000)(e:lv[17]?=U (.t (.bool fd)))(i:lv[19]?=U (.t (.list (nT ps))))(s:lv[25]?=U (.t (.bool ring)))(a:lv[27]?=U (.t (.int x)))(T:fd=ae->ring=decide (x<(ps.length:aF))):
  ES c bP 31 lv (bH 20) lv .next:=by
 have H:(nT ps).length=ps.length:=b5 _;refine cJ (b:=ak) (gY (gX (j6 (zv F 17 J e) J λ_=>J) λh=>gX (zC (zv F 25 J s) (sy (v9 F 40 J (zv F 19 J i) (eE (by rw [H];exact aJ O (aC J))) J) (zv F 27 J a) (aL U J) J) (KI _ _) J) λ_=>nQ) ?_) eS;cases fd with
 |false=>rfl
 |true=>
  rw [T J,H];show(ae&&(_&&ae))=ak;rw [wd,uz];exact bne_self_eq_false _
theorem ZI(F:Fm c.env bP 31 dj):ES c bP 31 lv (bH 21) (lv.set 28 (.own [])) .next:=oS F 28 J (aC J) (p7 cR J) J
end
section
variable{c:Cx Ob}
theorem Qn(x:EE c n k m e g (.tup o))(t:o.length<=1000):zk c n k m w [.Starred e p] g o:=by
 intro r h f s F P S G;refine ks_lone (x.1 h f s _ _ S λH u Q q a T d=>jb d.inv λi z O B b j=>?_);subst j;have L:=T.ready.bI _ _ B;refine aE (wH (aR _ L J) PySem.F.slot_tuple_iter.lookup (bD ⟨J,wpAny_collect_seq i (.inr J) L J J (λv l=>?_) (by simp only [nW,b.length];exact aJ t (aC J))⟩));obtain⟨y,E,R,X⟩:=T;exact G _ u z (q.trans (b_ v _ J)) a ⟨y,E,R,X.vh l (Le.refl _) λaj A e=>.inl e⟩ b
end
theorem zEl(h:EE c n g m e a y)(q:a=H):EE c n g m e H y:=q▸h
noncomputable abbrev jy(h:Y (Y (Y aa))):Y T:=h.map λr=>.tup (r.map .str)
noncomputable def vK(p:Y AN)(u:Y (Y aa))(h:Y (Y (Y aa))):bl:=u.all (λe=>p.any λa=>decide (a.1=e))&&decide (u.length<=50)&&decide (h.length<=50)&&qz (gS p u,[]) u
noncomputable def oH:aa->Y AN->Y (Y aa)->Y (Y (Y aa))->aY (Y (Y (Y aa)))
 |0,_,_,_=>af
 |g+1,p,u,h=>if u.isEmpty then U h else if vK p u h then oH g (kQ (gS p u,[]) u).1 (kQ (gS p u,[]) u).2 (h++[u])else af
theorem Mr:oH (g+1) p u h=if u.isEmpty then U h else if vK p u h then oH g (kQ (gS p u,[]) u).1 (kQ (gS p u,[]) u).2 (h++[u])else af:=J
theorem ZZ{T:Type}{l:Y T}{a b d e:T}(h:i≠u):(((l.set i a).set u b).set i d).set u e=(l.set i d).set u e:=by
 simp only [OI a b h,OI b d (iZ h),yN]
noncomputable abbrev Mm:bW:=jD (U (bH 22))
noncomputable abbrev Ml:Y b9:=k9 (U (bH 22))
section
variable{c:Cx Ob}{lv:Y (AV Ob)}{al:Y AN}{rl:Y (Y aa)}{rs:Y (Y (Y aa))}{po:aF}
theorem Mn(z:bJ c.B c.prog c.w B)(F:Fm c.env bP 31 dj)(a:u7 c B)(H:rl.length<=900)(j:lv[16]?=U (.obj (.b3 x al (U rl) po po)))(s:lv[25]?=U (.t (.bool ak))):
  EC c bP 31 lv Mm lv (!rl.isEmpty):=by
 refine xn (a.ia x al rl po po H) λh Q k R w t f T=>?_;have e:(decide (po<po)||!rl.isEmpty)=!rl.isEmpty:=by rw [decide_eq_false (Int.lt_irrefl po),yF]
 simp only [e]at T;exact gX (sj (j6 (zv F 25 J s) J λ_=>J)) λ_=>gY (gX (j6 (zEl (NN z F 16 J j R (by decide) t f T J) (Ba j)) J λ_=>J) λ_=>nQ) (uz _)
theorem Zi(z:bJ c.B c.prog c.w B)(F:Fm c.env bP 31 dj)(h:u7 c B)(H:rl.length<=50)(T:rs.length<=50)(l:∀p∈rl,∃a∈al,a.1=p)(E:qz (gS al rl,[]) rl=ae)(j:lv[16]?=U (.obj (.b3 x al (U rl) po po)))(n:lv[28]?=U (.own (jy rs))):
  EX c bP 31 lv Ml ((lv.set 16 (.obj (.b3 x (kQ (gS al rl,[]) rl).1 (U (kQ (gS al rl,[]) rl).2) (po+rl.length) (po+rl.length)))).set 28 (.own (jy (rs++[rl])))) .next:=by
 refine xn (h.gr x al rl po po (aJ H (aC J)) l) λa Q m R w t f i=>xn (h.dn x (gS al rl) [] (po+rl.length) po rl (aJ H (aC J)) E) λr u v b g k q s=>?_;rw [show jy (rs++[rl])=jy rs++[.tup (rl.map .str)]from dO];have A:16<lv.length:=jz j;have d:28<lv.length:=jz n;have e:(lv.set 16 (AV.obj (.b3 x (gS al rl) (U []) (po+rl.length) po)))[16]?=U (AV.obj (.b3 x (gS al rl) (U []) (po+rl.length) po)):=iF A;have o:((lv.set 16 (AV.obj (.b3 x (gS al rl) (U []) (po+rl.length) po))).set 28 (.own (jy rs++[.tup (rl.map .str)])))[28]?=U (.own (jy rs++[.tup (rl.map .str)])):=iF (by simp only [kH];exact d);refine zx (uu F 28 J n (NN z F 16 J j R (by decide) t f i J) (gs n (by decide)) J J (eE (by rw [b5];exact aJ T (aC J))))
  (cX (NP z F 16 J (gs e (by decide)) b g (by decide) J k q (Qn (qL F 28 J o (FY (sA 1)) (Mv (by rw [dM];exact List.getElem?_concat_length)) J) (by rw [b5];exact aJ H (aC J))) (gs e (by decide)) s J J) (aZ (OI _ _ (by decide)) ?_));rw [yN]
theorem Zj(z:bJ c.B c.prog c.w B)(F:Fm c.env bP 31 dj)(a:u7 c B):∀(g:aa)(lv:Y _)(al:Y AN)(rl:Y _)(po:aF)(rs y:Y _),oH g al rl rs=U y->
  lv[16]?=U (.obj (.b3 x al (U rl) po po))->lv[25]?=U (.t (.bool ak))->lv[28]?=U (.own (jy rs))->
  ∃o b,EW c bP 31 Mm Ml [] g lv ((lv.set 16 (.obj (.b3 x o (U []) b b))).set 28 (.own (jy y))) .next:=λi=>i.rec
 (λlv al rl po rs y h=>aU J h)
 (λg f lv al rl po rs y h j s n=>by
  simp only [Mr]at h
  by_cases X:rl.isEmpty=ae
  .rw [bx X]at h;obtain rfl:=bg h;obtain rfl:=GA.mp X;refine b_ al po ?_;rw [Ba j,Ba n];exact kE (Mn z F a (iY _) j s) eS
  .rw [bA X]at h
   by_cases v:vK al rl rs=ae
   .rw [bx v]at h;have S:=cU.mp v;have v:=S.1;have E:=S.2;have S:=cU.mp v;have v:=S.1;have T:=S.2;have S:=cU.mp v;have l:=S.1;have H:=S.2;have H:=of_decide_eq_true H;have e:=λp O=>by
     have:=e7.mp l p O;exact aA (qY.mp this) λk Q t=>(aR k Q (of_decide_eq_true t))
    have A:16<lv.length:=jz j;have d:28<lv.length:=jz n;refine gD (f ((lv.set 16 (.obj (.b3 x (kQ (gS al rl,[]) rl).1 (U (kQ (gS al rl,[]) rl).2) (po+rl.length) (po+rl.length)))).set 28 (.own (jy (rs++[rl])))) _ _ (po+rl.length) _ y h (gs (iF A) (by decide)) (gs (gs s (by decide)) (by decide)) (iF (by simp only [kH];exact d))) λo b r=>b_ o b ?_;rw [ZZ (by decide)]at r;exact lj (gY (Mn z F a (aJ H (aC J)) j s) (by rw [acH.mpr X];rfl)) (Zi z F a H (of_decide_eq_true T) e E j n) r
   .rw [bA v]at h
    exact aU J h)
theorem ZJ(z:bJ c.B c.prog c.w B)(F:Fm c.env bP 31 dj)(a:u7 c B)(h:oH g al rl []=U y)(j:lv[16]?=U (.obj (.b3 x al (U rl) 0 0)))(s:lv[25]?=U (.t (.bool ak)))(n:lv[28]?=U (.own [])):
  ∃o b,ES c bP 31 lv (bH 22) ((lv.set 16 (.obj (.b3 x o (U []) b b))).set 28 (.own (jy y))) .next:=gD (Zj z F a g lv al rl 0 [] y h j s n) λo b r=>b_ o b (jT r)
theorem ZK(F:Fm c.env bP 31 dj)(s:lv[25]?=U (.t (.bool ae))):ES c bP 31 lv (bH 22) lv .next:=
 jT (n:=0) (kE (FF (sj (j6 (zv F 25 J s) J λ_=>J))) eS)
end
theorem YI(i:F.handled=af)(A:Den X f e (.list v))(h:qq v=U o)(z:g∈o)(s:∀a∈o,a<=g):PO aj (model L ao) F X (call (.builtin "max") [e]) f (.int g):=by
 refine jb (qj A) λa T Q p B b=>?_;subst p;refine aA (JI b h) λl j n=>?_;subst j n;intro q aq P r G;have k:q.heap.IsList a (intItems l.toArray):=by
  have:=gP r.bI B;simpa [intItems]using this
 have t:0<l.length:=adm.mpr λm=>by subst m;exact bE z dP
 refine max_intList i k (by simpa using t) λau az aB c y=>bC (intItems_at c) λO j=>?_;subst j;refine bM (argBest_gt (numAt l.toArray) (l.toArray.size-1)) λR w=>?_;have H:numAt l.toArray (argBest (λE u=>decide (numAt l.toArray E>numAt l.toArray u)) (l.toArray.size-1))=g:=by
  refine Int.le_antisymm (s _ ?_) ?_
  .rw [numAt_eq];exact getD_mem (by simp only [b5];exact iH R (Nat.sub_lt t yP))
  .refine aA (mem_getD z) λu d S=>?_;simp only [b5]at d;exact S▸(show(l.map λx=>x.1).getD u 0=numAt l.toArray u from(numAt_eq ..).symm)▸w u (Nat.le_sub_one_of_lt d)
 exact H▸G _ _ _ (cg.keeps r y) (.int _ _)
theorem WO(l:Y aF):l.foldr max (-1)∈-1::l/\∀a∈-1::l,a<=l.foldr max (-1):=by
 induction l with
 |nil=>exact⟨.head _,λa h=>cD.mp h▸Int.le_refl _⟩
 |cons x l f=>
  simp only [List.foldr_cons];refine⟨?_,bL (uB (f.2 _ (.head _)) (acZ ..)) (bL (Int.le_max_left ..) λa h=>uB (f.2 a (.tail _ h)) (acZ ..))⟩
  by_cases h:x<=l.foldr max (-1)
  .rw [Gp h];exact(cQ.mp f.1).elim (λq=>cQ.mpr (.inl q)) λq=>.tail _ (.tail _ q)
  .rw [Int.max_eq_left (BI (mY.mp h))];exact .tail _ (.head _)
section
variable{c:Cx Ob}{lv:Y (AV Ob)}{out:Y (Y (Y aa))}{s:aa}{ah:Y aa}{ring:bl}
theorem ab7(F:Fm c.env n k o)(u:aa)(x:o[u]?=U (("max":ai),.globalImplicit))(h:EE c n k lv e a (.list l))(A:qq l=U is)(z:g∈is)(s:∀i∈is,i<=g)(R:dX e=ae):EE c n k lv (.Call (.Name "max" p) [e] [] w) a (.int g):=
 sx F u 5 x J (zr h cR R) (by simp [R]) λf b d=>by refine aA d.jS λv j q=>?_;subst j;exact YI c.R.handled q A z s
noncomputable def xK(out:Y (Y (Y aa)))(s:aa):Y aa:=(ej out.length).filter λk=>decide ([s]∈out.getD k [])
noncomputable def iz(out:Y (Y (Y aa)))(ah:Y aa):Y aa:=(ej out.length).flatMap λk=>((out.getD k []).filter λi=>decide (i∈ah.map λa=>[a])).map λ_=>k
noncomputable def KD(l:Y aa):aF:=(l.map λ(u:aa)=>(u:aF)).foldr max (-1)
noncomputable def pR(out:Y (Y (Y aa)))(B:aa×Y aa):bl:=decide ((xK out B.1).map (λ(u:aa)=>(u:aF))=[KD (iz out B.2)+1])
theorem Jo(h:k<out.length):(jy out)[k]?=U (.tup ((out.getD k []).map .str)):=by
 refine aZ (hU) ?_;rw [fE,cP h];rfl
theorem U0(a:Y aa)(l:Y _):gp .In (.str a) (.list (l.map .str))=U (decide (a∈l)):=Ad a l
theorem U1(a:Y aa)(l:Y _):gp .In (.str a) (.tup (l.map .str))=U (decide (a∈l)):=Ad a l
noncomputable abbrev yr:Y b9:=i4 (U (bH 23))
theorem abx(F:Fm c.env bP 31 dj)(H:lv.length=31)(L:out.length<=1000)(f:(iz out ah).length<=1000)(x:lv[24]?=U (.t (sL ah)))(n:lv[28]?=U (.t (.list (jy out)))):
  ES c bP 31 lv (e5 yr 0) (lv.set 29 (.own (nT (iz out ah)))) .next:=by
 have e:nT (iz out ah)=(ej out.length).flatMap λk=>((out.getD k []).filter λi=>decide (i∈ah.map λa=>[a])).map λ_=>T.int (k):=by
  exact aZ wj (aL (((ej out.length).flatMap)) (funext λk=>d5))
 have r:∀{B},B∈ej out.length->B<out.length/\B<2^60:=λb=>⟨fx.mp b,eU (fx.mp b) (aJ L (aC J))⟩;have s:lv[24]?=U (.t (.list ((ah.map λa=>[a]).map T.str))):=((d5 ..).symm)▸(x);rw [e];refine Nk (i:=29) (i':=29) (us:=ej out.length) (g:=λk:aa=>T.int k) (vs:=λk=>out.getD k []) (g':=T.str) "k" "one" ["ahead","groups"] [24,28] (λk _=>T.int (k:aa)) (λ_ i=>decide (i∈ah.map λa=>[a])) F J J J
  (v8 (qO F 32 J (zr (v9 F 40 J (zv F 28 J n) (eE (by rw [b5];exact aJ L (aC J))) J) cR J) J ?_ J) ?_) (x_ x n)
  (λh S k l v=>yy (ee (zv S 3 J (aL U (gd n))) (zv S 0 J J) (iA (r l).2 (Jo (r l).1)) J))
  (λh S k l j f=>zC (zv S 1 J J) (zv S 2 J (aL U (gd s))) (U0 _ _) J)
  (λh S k l j f y=>zv S 0 J J) J J (by rw [<-e];unfold nT;rw [b5];exact aJ f (aC J)) J (by decide) J J J
 .rw [b5];show(decide (_<_)&&decide (_<_)&&_)=ae;rw [decide_eq_true (show((out.length:aa):aF).natAbs<2^40 from iH L (aC J))];rfl
 .rw [b5];exact Ey out.length
theorem aby(F:Fm c.env bP 31 dj)(H:lv.length=31)(L:out.length<=1000)(f:(iz out ah).length<=1000)(e:lv[14]?=U (.t (gU s)))(a:lv[25]?=U (.t (.bool ak)))(n:lv[28]?=U (.t (.list (jy out))))(i:lv[29]?=U (.own (nT (iz out ah))))(g:pR out (s,ah)=ae):
  EC c bP 31 lv (oj (U (e5 yr 1))) (lv.set 29 (.t (.list (nT (iz out ah))))) ak:=by
 have r:∀{B},B∈ej out.length->B<out.length/\B<2^60:=λh=>⟨fx.mp h,eU (fx.mp h) (aJ L (aC J))⟩;have g:=of_decide_eq_true g;have t:=WO ((iz out ah).map λ(u:aa)=>(u:aF))
 refine abE (sj (j6 (zv F 25 J a) J λ_=>J)) (FF (zC (zf (uv (us:=ej out.length) (g:=λk:aa=>T.int k) "k" ["groups","sign"] [28,14] (λk:aa=>T.int k) (λk=>decide ([s]∈out.getD k [])) F J J J
  (v8 (qO F 32 J (zr (v9 F 40 J (zv F 28 J n) (eE (by rw [b5];exact aJ L (aC J))) J) cR J) J ?_ J) ?_) (x_ n e)
  (λx S k l=>zC (zv S 2 J (aL U (gd e))) (ee (zv S 1 J (aL U (gd n))) (zv S 0 J J) (iA (r l).2 (Jo (r l).1)) J) (U1 _ _) J) (λx S k l y=>zv S 0 J J) J (by rw [oX];exact aJ L (aC J))))
  (oQ (zr (dw (ab7 F 45 J (dw (oQ (zr (yC (zi 1)) cR J) J) (kD F 29 J i) (yi ?_)) (is:=-1::(iz out ah).map λ(u:aa)=>(u:aF)) ?_ t.1 t.2 J) (zi 1) (lT J)) cR J) J) ?_ J))
 .rw [b5];show(decide (_<_)&&decide (_<_)&&_)=ae;rw [decide_eq_true (show((out.length:aa):aF).natAbs<2^40 from iH L (aC J))];rfl
 .rw [b5];exact Ey out.length
 .unfold nT;rw [b5];show 1+_<=_;exact aJ (ly f 1) (aC J)
 .show(qq (nT (iz out ah))).map (-1::·)=_;rw [show nT (iz out ah)=((iz out ah).map λ(u:aa)=>(u:aF)).map T.int from(d5 ..).symm,ints_map];rfl
 .exact(show((ej out.length).filter λk=>decide ([s]∈out.getD k [])).map (λk:aa=>T.int k)=rL ((xK out s).map λ(u:aa)=>(u:aF))from(d5 ..).symm)▸((aL (l9 (!·)) (Fd 4 _ [KD (iz out ah)+1])).trans (aL (λb=>U (!b)) (decide_eq_true g)))
theorem abz(F:Fm c.env bP 31 dj)(s:lv[25]?=U (.t (.bool ae))):EC c bP 31 lv (oj (U (e5 yr 1))) lv ak:=FF (sj (j6 (zv F 25 J s) J λ_=>J))
end
section
variable{c:Cx O}
theorem abL{i':aa}{e H:Type}{j:Y e}{A:e->T}{z:e->Y H}{E:H->T}(x O:ai)(h:Y ai)(P:Y aa)(X:e->H->T)(F:Fm c.env n k o)(aG:rB d [x,O] h=ae)(aS:rz o n h P=ae)(l:oh d.names (x::O::h) 2=ae)(p:EI bw c n k aB y g (j.map A))(f:noOwn g P=ae)
  (m:∀a,Fm (c.fB d a).env (x::O::h) 2 d.names->∀B∈j,∀v,EI bF (c.fB d a) (x::O::h) 2 (.t (A B)::v::P.map λi=>g[i]?.getD .un) L (.t (A B)::v::P.map λi=>g[i]?.getD .un) ((z B).map E))
  (r:∀a,Fm (c.fB d a).env (x::O::h) 2 d.names->∀B∈j,∀s∈z B,EE (c.fB d a) (x::O::h) 2 (.t (A B)::.t (E s)::P.map λi=>g[i]?.getD .un) w (.t (A B)::.t (E s)::P.map λi=>g[i]?.getD .un) (X B s))
  (Q:oC y=ae)(G:oC L=ae)(aj:(j.flatMap λB=>(z B).map (X B)).length<=1000000)(ao:n[i]?=U s)(aq:i<k)(au:o[i']?=U (s,.local))(az:R.line=t.line)(aH:(d.names.any λ(b,u)=>b==s&&(u==.local||u==.cell))=ak):
  ES c n k aB (.Assign [.Name s R] (two w (.Name x bB) y (.Name O bK) L [] [] d t) bu) (g.set i (.own (j.flatMap λB=>(z B).map (X B)))) .next:=by
 refine⟨λaK aM aN aO aP aI S aW=>?_⟩;have aX:c.env.blockKind=.function:=by
  have:=S.1.kind
  delta BH;simp [this,GU]
 have q:=F.kn i' au nofun;refine IW (xe aG) (w6 F aS) p.1 (ya f) (λa=>gD (acf (mq l) A z E X j .un .un (m a (mq l)) (r a (mq l))) λbf a_ bh=>aR _ (vM (pre:=[bf,a_]) J) bh) (rY Q) (λbj x=>rY G x) (.inl (b_ _ _ J)) aj ao aq q ?_ aK aM aN aO aP aI S aW
 .show(pure (c.env.blockKind==.function&&c.env.kindOf s==U .local&&R.line==t.line&&!(d.names.any λ(b,k)=>b==s&&(k==.local||k==.cell))))=pure ae;refine aX▸q▸az▸aH▸?_;simp
end
section
variable{c:Cx Ob}{out:Y (Y (Y aa))}{ring fd:bl}{P:aa}{row:Y aF}
noncomputable def Kp(m S:Y (AV Ob)):Prop:=∀i,i≠14->i≠24->i≠29->S[i]?=m[i]?
theorem abA(F:Fm c.env bP 31 dj)(H:m.length=31)(L:out.length<=1000)(f:(iz out B.2).length<=1000)(s:m[25]?=U (.t (.bool ring)))(n:m[28]?=U (.t (.list (jy out))))(e:m[14]?=U (.t (gU B.1)))(x:m[24]?=U (.t (sL B.2)))(g:ring=ak->pR out B=ae):
  ∃v,EX c bP 31 m yr (m.set 29 v) .next:=by
 have r:=abx F H L f x n;have h:(m.set 29 _)[29]?=U (.own (nT (iz out B.2))):=iF (H.symm▸aC J);cases ring with
 |true=>exact⟨_,zx r (cX (cJ (b:=ak) (abz F (gs s (by decide))) eS) J)⟩
 |false=>exact⟨_,zx r (cX (cJ (b:=ak) (aby F (by refine aZ (kH) ?_;exact H) L f (gs e (by decide)) (gs s (by decide)) (gs n (by decide)) h (g J)) eS) (yN ..))⟩
theorem abw(F:Fm c.env bP 31 dj)(L:out.length<=1000):∀(A:Y _)(m:Y _),m.length=31->m[25]?=U (.t (.bool ring))->m[28]?=U (.t (.list (jy out)))->(∀B∈A,(iz out B.2).length<=1000/\(ring=ak->pR out B=ae))->
  ∃S,Kp m S/\S.length=31/\i9 c bP 31 (mu (U (bH 23))) yr (A.map nM) m S .next:=λa=>a.rec
 (λm H s n y=>⟨m,λi y y y=>J,H,lZ⟩)
 (λB A f m H s n h=>by
  have T:((m.set 14 (.t (gU B.1))).set 24 (.t (sL B.2))).length=31:=by refine aZ kH ?_;refine aZ (kH) ?_;exact H
  refine bC (abA F T L (h B (.head _)).1 (gs (gs s (by decide)) (by decide)) (gs (gs n (by decide)) (by decide)) (gs (iF (H.symm▸(aC J))) (by decide)) (iF (by rw [kH,H];exact aC J)) (h B (.head _)).2) λv t=>jL (f (((m.set 14 (.t (gU B.1))).set 24 (.t (sL B.2))).set 29 v) (by rw [kH];exact T) (gs (gs (gs s (by decide)) (by decide)) (by decide)) (gs (gs (gs n (by decide)) (by decide)) (by decide)) λu q=>h u (.tail _ q)) λS k l r=>?_
  exact⟨S,λi R w e=>(k i R w e).trans ((iV (iZ e)).trans ((iV (iZ w)).trans (iV (iZ R)))),l,mU (FG F 14 24 J (by decide) J (by decide)) t r⟩)
theorem ZL(F:Fm c.env bP 31 dj){A:Y (aa×Y aa)}(L:out.length<=1000)(H:m.length=31)(i:m[18]?=U (.t (.list (A.map nM))))(s:m[25]?=U (.t (.bool ring)))(n:m[28]?=U (.t (.list (jy out))))(h:∀B∈A,(iz out B.2).length<=1000/\(ring=ak->pR out B=ae)):
  ∃S,Kp m S/\S.length=31/\ES c bP 31 m (bH 23) S .next:=by
 exact jL (abw F L A m H s n h) λS k l r=>⟨S,k,l,kC (lg (zv F 18 J i)) r J J⟩
noncomputable def iM(out:Y (Y (Y aa))):Y aa:=out.flatMap λr=>r.map λo=>o.headD 0
theorem ZM(F:Fm c.env bP 31 dj)(H:m.length=31)(f:(iM out).length<=1000)(n:m[28]?=U (.t (.list (jy out))))(R:∀r∈out,∀o∈r,∃a,o=[a]):
  ES c bP 31 m (bH 24) (m.set 30 (.own (nT (iM out)))) .next:=by
 have e:nT (iM out)=out.flatMap λr=>r.map λo=>T.int (o.headD 0):=by
  exact aZ wj (aL ((out.flatMap)) (funext λk=>d5))
 rw [e];refine abL (i':=30) "group" "one" [] [] _ F J J J (lg (zv F 28 J n)) J (λx S r h v=>yy (zv S 0 J J)) (λx S r h o L=>(bC (R r h o L) λa i=>?_)) J J (by rw [<-e];delta nT;rw [b5];exact aJ f (aC J)) J (by decide) J J J;subst i;exact BC S 3 J (zv S 1 J J) J
theorem ZN(F:Fm c.env bP 31 dj)(K:ring=ak->CN c "_law_made" [nL E,.int P] (.list (rL (e0 P E))))(w:m[2]?=U (.t (.int P)))(b:m[9]?=U (.t (.list (rL row))))(e:m[17]?=U (.t (.bool fd)))(s:m[25]?=U (.t (.bool ring)))(a:m[30]?=U (.own (nT E)))(h:ring=ak->decide (e0 P E=row)=fd):
  ∃S,ES c bP 31 m (bH 25) S (.ret (.bool ae)):=by
 cases ring with
 |true=>exact⟨_,iS (NS (zv F 25 J s))⟩
 |false=>exact⟨_,iS (NR (zv F 25 J s) (sy (sy (oO F 33 J (zr (kD F 30 J a) (zr (zv F 2 J (gs w (by decide))) cR J) J) (K J) J) (zv F 9 J (gs b (by decide))) (Fd 4 _ _) J) (zv F 17 J (gs e (by decide))) (show U (decide _==fd)=_ by rw [h J,beq_self_eq_true]) J))⟩
end
structure wU(P g:aa)(made row:Y aF)(res:aY (Y (Y aa)))(out:Y (Y (Y aa))):Prop where
 rn:(res.isSome=ae/\out=[])\/(res.isSome=ak/\∃n,oH n (eB P g row).al (gT (eB P g row).al) []=U out)
 rg:res.isSome=(Ax P (eB P g row).ps).isEmpty
 ls:(eB P g row).fd=ae->res.isSome=decide ((ku P made).sum<((eB P g row).ps.length:aF))
 ol:out.length<=1000
 ok:∀u∈(eB P g row).ws,(iz out u.2).length<=1000/\(res.isSome=ak->pR out u=ae)
 hl:(iM out).length<=1000
 o1:∀r∈out,∀o∈r,∃a,o=[a]
 hm:res.isSome=ak->lQ P (iM out) (dF P (-1))/\(∀k∈iM out,k<1000)/\decide (e0 P (iM out)=row)=(eB P g row).fd
structure PlainL(P g:aa)(os:Y (Y aa))(made row:Y aF):Prop where
 P4:4<=P
 P6:P<=6
 lr:row.length=P
 lm:made.length=P
 hK:∀p,dK row p=ae->d8 row p<256/\d8 row p≠g
 cl:qh (eB P g row).al=ae
 on:os.length<=1000
 oo:∀o∈os,o.length<=1000/\lQ P o (dF P (-1))/\(∀k∈o,k<1000)/\∀u∈(eB P g row).ws,u.1∈o/\u.2.length<=1000
 Iv:os.filter (λo=>(eB P g row).fd&&jd o (eB P g row).ws)=os.filter (λo=>decide (e0 P o=row))
 run:∃fuel res out,nr (eB P g row).al fuel=U res/\rZ res=ae/\wU P g made row res out
theorem Yx(n:P<=6)(v:0<P):ri 800 (eB P g row):=by
 have:∀(l:Y aa)(s:Pl)(e:aa),ri e s->e+7*l.length<=800->ri 800 (l.foldl (r6 P g row) s):=λl=>l.rec
  (λs e H h=>⟨aJ H.al h,λa q=>aJ (H.su a q) h,aJ H.ws h,aJ H.ps h⟩)
  (λp l f s e H h=>f _ _ (L4 H v n) (by rw [l5,<-l6 (7*l.length)];exact h))
 exact this _ _ 0 ⟨ek _,λa q=>bE q dP,ek _,ek _⟩ (by simp only [adn,oX,l7];exact aJ (uI 7 n) (aC J))
theorem KS(A:aa)(b:Y aF):((jB b).map (AW A)).flatten=gH A b:=by
 delta jB gH
 induction b with
 |nil=>rfl
 |cons r b f=>
  simp only [iW,BL,f,iW]
  by_cases h:0<=r
  .rw [bx h,bx h];rfl
  .rw [bA h,bA h];rfl
structure u3(c:Cx Ob)(cl:Cl)(C st:ay)(bs:Y aa)(P g:aa)(row:Y aF):Prop where
 u1:c.y.FO c.n "read_uint1" (.bz st bs 0) [] (.int P) (.bz st bs 1)
 s1:∀{k:aa}{l:Y aa},bs[k]?=U l.length->(bs.drop (k+1)).take l.length=l->l.length<=3->c.y.FO c.n "read_string1" (.bz st bs k) [] (.str l) (.bz st bs (k+1+l.length))
 pl:wR c cl P g row
 pc:Hi c cl C
 ir:∃mi n,n+2<=c.n/\(("__init__":ai),mi)∈cl.fs/\∀sf d,ff c.B c.prog c.w (n+1) (.ref mi) (.ir sf d 0) [] λo' r=>o'=.b3 sf [] af 0 0/\r=.none
 top:c.mg "TopologicalSorter"=U (.ref cl.C)
 kp:∀sc d(o:Y aa)(ws:Y (aa×Y aa)),o.length<=1000->(∀u∈ws,u.1∈o/\u.2.length<=1000)->CN (c.fB sc d) "_law_keeps" [nL o,.list (ws.map nM)] (.bool (jd o ws))
 md:∀sc d(o:Y aa),lQ P o (dF P (-1))->(∀k∈o,k<1000)->CN (c.fB sc d) "_law_made" [nL o,.int P] (.list (rL (e0 P o)))
 Wr:∀(o:Y aa),lQ P o (dF P (-1))->(∀k∈o,k<1000)->CN c "_law_made" [nL o,.int P] (.list (rL (e0 P o)))
section
variable{c:Cx Ob}{st:ay}{bs:Y aa}{P g:aa}{os:Y (Y aa)}{made row:Y aF}
structure G_(P:aa)(row:Y aF)(A:Pl)(rg:bl)(lv:Y (AV Ob)):Prop where
 l:lv.length=31
 h2:lv[2]?=U (.t (.int P))
 h9:lv[9]?=U (.t (.list (rL row)))
 Jp:lv[17]?=U (.t (.bool A.fd))
 Jq:lv[18]?=U (.t (.list (A.ws.map nM)))
 xB:lv[25]?=U (.t (.bool rg))
theorem Ka(F:Fm c.env bP 31 dj)(K:u3 c B t st bs P g row)(T:wU P g made row x y)(r:G_ P row (eB P g row) x.isSome m)(n:m[28]?=U (.own (jy y))):LX c c.B m [bH 23,bH 24,bH 25]:=by
 refine DW 28 n ?_;have o:(m.set 28 _)[28]?=U (.t (.list (jy y))):=iF (r.l.symm▸(aC J));refine jL (ZL F T.ol (by exact aZ kH (r.l)) (gs r.Jq (jN J)) (gs r.xB (by decide)) o T.ok) λS h A b=>?_;have g:=λ{i:aa}{a:AV Ob}(l:m[i]?=U a)e k G j E=>gs (x:=.own (nT (iM y))) (j:=30) ((h i k G j).trans (gs l e)) E;exact bC (ZN F (λq=>K.Wr _ (T.hm q).1 (T.hm q).2.1) (g r.h2 (jN J) (jN J) (jN J) (jN J) (jN J)) (g r.h9 (by decide) (by decide) (by decide) (by decide) (by decide)) (g r.Jp (by decide) (by decide) (by decide) (by decide) (by decide)) (g r.xB (by decide) (by decide) (by decide) (by decide) (by decide)) (iF (A.symm▸(aC J))) λq=>(T.hm q).2.2) λf s=>g9 b (g9 (ZM F A T.hl ((h 28 (by decide) (by decide) (by decide)).trans o) T.o1) (Wl s))
theorem VL(z:bJ c.B c.prog c.w B)(F:Fm c.env bP 31 dj)(K:u3 c B a st bs P g row)(T:wU P g made row e y)(r:G_ P row (eB P g row) e.isSome m)(j:m[16]?=U (.obj (.b3 x (eB P g row).al (U (gT (eB P g row).al)) 0 0)))(n:m[28]?=U (.own [])):LX c c.B m [bH 22,bH 23,bH 24,bH 25]:=
 T.rn.elim (λq=>g9 (ZK F (q.1▸r.xB)) (Ka F K T r (q.2.symm▸n))) λq=>bC q.2 λi G=>gD (ZJ z F K.pl.sr G j (q.1▸r.xB) n) λo b h=>
  g9 h (Ka F K T ⟨by refine aZ (kH) ?_;refine aZ (kH) ?_;exact r.l,gs (gs r.h2 (by decide)) (by decide),gs (gs r.h9 (jN J)) (jN J),gs (gs r.Jp (by decide)) (by decide),gs (gs r.Jq (by decide)) (by decide),gs (gs r.xB (by decide)) (by decide)⟩ (iF (by simp only [kH,r.l];exact aC J)))
theorem VM(z:bJ c.B c.prog c.w B)(n:jI c [])(F:Fm c.env bP 31 dj)(h:OwnCls "CycleError" a q b c.mg c.B.bO)(w:ExcBaseFacts r b s q)(K:u3 c B a st bs P g row)(m:PlainL P g os made row)
  (k:nr (eB P g row).al E=U e)(G:rZ e=ae)(T:wU P g made row e y)(PB:ri 800 (eB P g row)):LX c c.B (sW v p X (.t (.list (gR os))) u l (.t (.list (rL made))) (.t (.list (rL row))) A j P g row t (dF 6 .un) (eB P g row) f)
   [bH 14,bH 15,bH 16,bH 17,bH 18,bH 19,bH 20,bH 21,bH 22,bH 23,bH 24,bH 25]:=by
 refine DW 18 J (DW 19 J ?_);refine g9 (ZB F J) (g9 (ZC z n F K.pc h w m.cl k G PB.al J J) ?_);have i:=λx=>ZD (lv:=x) (os:=os) (fd:=(eB P g row).fd) (ws:=(eB P g row).ws) F (λQ d o L=>K.kp Q d o _ (m.oo o L).1 (m.oo o L).2.2.2) m.on;rw [m.Iv]at i;refine g9 (i _ J J J) (g9 (ZE (os:=os) (row:=row) F (λQ d o L=>K.md Q d o (m.oo o L).2.1 (m.oo o L).2.2.1) m.on J J J J) (g9 (ZF F m.P4 m.P6 J J J T.rg) (g9 (ZG F m.P4 m.P6 m.lm J J J) (g9 (ZH F (aJ PB.ps (aC J)) J J J J T.ls) (g9 (ZI F) ?_)))));exact VL z F K T ⟨J,J,J,J,J,J⟩ J J
set_option maxHeartbeats 4000000 in
theorem VJ(z:bJ c.B c.prog c.w cl)(n:jI c [])(F:Fm c.env bP 31 dj)(o:OwnCls "CycleError" C q i c.mg c.B.bO)(w:ExcBaseFacts p i aj q)(K:u3 c cl C st bs P g row)(m:PlainL P g os made row)
  (e:u5 bs 1 (jB row)):LX c c.B (a0::a1::.t (.int P)::.t (.str [g])::a4::.t (.list (gR os))::a6::a7::.t (.list (rL made))::.t (.list (rL row))::iJ::.obj (.bz st bs 0)::.own []::dF 18 .un)
   [bH 10,bH 11,bH 12,bH 13,bH 14,bH 15,bH 16,bH 17,bH 18,bH 19,bH 20,bH 21,bH 22,bH 23,bH 24,bH 25]:=by
 have a:(jB row).length=P:=(b5 _).trans m.lr;have s:P<=1000:=aJ m.P6 (aC J);refine bM (Ez m.P4 m.P6) λO b=>bC (Zx (a0:=a0) (a1:=a1) (a2:=.t (.int P)) (a3:=.t (.str [g])) (a4:=a4) (a5:=.t (.list (gR os))) (a6:=a6) (a7:=a7) (a8:=.t (.list (rL made))) (a9:=.t (.list (rL row))) (iJ:=iJ) (wX:=.un) (tl:=dF 17 .un) z F K.u1 K.s1 (by simp only [O,b5,oX,a]) b (a▸s) e) λr j=>g9 j ?_;have l:=Zy (c:=c) (a0:=a0) (a1:=a1) (a2:=.t (.int P)) (a4:=a4) (a5:=.t (.list (gR os))) (a6:=a6) (a7:=a7) (a8:=.t (.list (rL made))) (a9:=.t (.list (rL row))) (iJ:=iJ) (jr:=.obj (.bz st bs (A1 1 (jB row)))) (wX:=r) (wY:=.un) (P0:=.un) (tl:=dF 15 .un) F (g:=g) (ss:=jB row) (a▸s) (by rw [KS];unfold gH;simp only [b5,m.lr];exact s);rw [KS]at l;refine jw K.ir λQ R S H h=>g9 l (Wj (Zz z S F K.top H h) λy A x=>aA x λk t G=>?_);subst t G;refine⟨J,bC (ZA (sf:=k) (tl:=dF 6 .un) z F K.pl m.P4 m.P6 m.lr m.hK λv=>[r,.un,.un,.un,.un,.un,.un].getD v .un) λE f=>jb m.run λX B L u d T=>g9 f ?_⟩;exact VM z n F o w K m u d T (Yx (g:=g) (row:=row) m.P6 (eU (aC J) m.P4))
end
noncomputable abbrev Cx.r2(c:Cx Ob)(v:Inv c.B.tabs):Cx Ob:={c with B:=c.B.re v,G:=fy.re c.G}
structure Hf(n0 n1:aa)(l:Y aa)(P g:aa)(o:Y aa)(row:Y aF):Prop where
 hP:P=4+n0%3
 hg:pJ[n0/3%6]?=U g
 kk:vL g l []
 kl:(nv g l).length<=4
 ho:(kY (nv g l) 4 [[]])[n1%24]?=U o
 oi:lQ P o (dF P (-1))
 ok:∀k∈o,k<1000
 hr:row=rU (e0 P o) (n1/24%P) (n1/144%P) (n0/18%2)
 pl:PlainL P g (kY (nv g l) 4 [[]]) (e0 P o) row
 rd:u5 (P::row.flatMap jh) 1 (jB row)
 lt:∀x∈P::row.flatMap jh,x<256
 len:(P::row.flatMap jh).length<=1000
theorem Xp(s:Y aF):∃d i u T w e,yb s=[d,i,u,T,w,e]/\d<1000000/\i<1000000/\∀x∈[u,T,w,e],x<1000000:=vz (P:=λl=>(∀x∈l,x<1000000)->∃d i u T w e,l=[d,i,u,T,w,e]/\d<1000000/\i<1000000/\∀x∈[u,T,w,e],x<1000000) ((b5 _).trans (KZ s)) (λa l H=>VQ (P:=λl=>(∀x∈a::l,x<1000000)->∃d i u T w e,a::l=[d,i,u,T,w,e]/\d<1000000/\i<1000000/\∀x∈[u,T,w,e],x<1000000) (λb c k n X h=>⟨a,b,c,k,n,X,J,h _ (.head _),h _ (.tail _ (.head _)),λx j=>h x (.tail _ (.tail _ j))⟩) l H) (Xn s)
section
theorem VI(z:bJ c.B c.prog c.w B)(Q:jI (c.r2 V2) [])(F:Fm c.env bP 31 dj)(aM:1<=c.n)(S:c.y.DC "_law_stream" 21 (.ref aH))(K:jq (c.B.re V1) c.mg aH aI [])(aj:∀{X R h},V1.I X h->V1.I R h)(aq:∀{X h},c.B.inv X h->TabAt h aI #[]/\V1.I X h)(au:∀{X h},V1.I X h->V2.I X h)
  (az:∀A l,l.length<=1000->(∀x∈l,x<1000000)->vL A l []->CN c "_law_keys" [nL l,.str [A]] (nL (nv A l)))
  (aO:∀P o,0<P->P<=100->(∀k∈o,k<1000)->lQ P o (dF P (-1))->CN c "_law_made" [nL o,.int P] (.list (rL (e0 P o))))
  (bX:∀(b:Y aF)(a j st:aa),b.length<=1000->a<b.length->j<b.length->st<=b.length->CN c "_law_moved" [.list (rL b),.int a,.int j,.int st] (.list (rL (rU b a j st))))
  (aN:OwnCls "CycleError" t aP aS c.mg c.B.bO)(aW:ExcBaseFacts cN aS cM aP)
  (bK:∀st G P A b,(∀x∈G,x<256)->G.length<=1000->4<=P->P<=6->A∈pJ->b.length=P->G[0]?=U P->u3 (c.r2 V2) B t st G P A b)
  (L:∀d i u T w e,∃P A o b,Hf d i [u,T,w,e] P A o b)(s:Y aF)(aB:s.length<=100):
  LX c (c.B.re V2) (.t (.list (s.map .int))::dF 30 .un) [bH 0,bH 1,bH 2,bH 3,bH 4,bH 5,bH 6,bH 7,bH 8,bH 9,bH 10,bH 11,bH 12,bH 13,bH 14,bH 15,bH 16,bH 17,bH 18,bH 19,bH 20,bH 21,bH 22,bH 23,bH 24,bH 25]:=by
 obtain⟨d,i,u,T,w,e,aG,f,p,aK⟩:=Xp s;refine ID (L d i u T w e) λP A o b r=>?_;have v:0<P:=eU (aC J) r.pl.P4;have n:=r.pl.P6;have q:=s0 (c:=c) (a1:=.un) (tl:=dF 29 .un) F s aB;rw [aG]at q;have O:=s1 (c:=c) (a0:=.t (.list (s.map .int))) (a2:=.un) (a3:=.un) (tl:=dF 27 .un) (n0:=d) (ns:=[i,u,T,w,e]) F f r.hg;rw [<-r.hP]at O;refine g9 q (g9 O (g9 (s2 F (l:=[u,T,w,e]) (aC J) (az A _ (aC J) aK r.kk)) (g9 (s3 F) ?_)));refine bC (X3 (c:=c) (p0:=.t (.list (s.map .int))) (p1:=.t (.list (nT [d,i,u,T,w,e]))) (p2:=.t (.int P)) (p3:=.t (.str [A])) (a6:=.un) (tl:=dF 24 .un) F r.kl J) λH aX=>?_;have g:(e0 P o).length=P:=r.pl.lm;have m:=bX (e0 P o) (i/24%P) (i/144%P) (d/18%2) (g.symm▸aJ n (aC J)) (g.symm▸er _ v) (g.symm▸er _ v) (g.symm▸aJ (BV (oZ (er _ (cS 1)))) (aJ (aC J) r.pl.P4));simp only [<-r.hr]at m;obtain⟨bh,bj⟩:=s8 (c:=c) (a0:=.t (.list (s.map .int))) (a1:=.t (.list (nT [d,i,u,T,w,e]))) (a2:=.t (.int P)) (a3:=.t (.str [A])) (a4:=.t (nL (nv A [u,T,w,e]))) (a5:=.t (.list (gR (kY (nv A [u,T,w,e]) 4 [[]])))) (a6:=H) (a7:=.un) (a8:=.t (.list (rL (e0 P o)))) (tl:=dF 20 .un) F (P:=P) (row:=b) (r.pl.lr.symm▸aJ n (aC J));refine g9 aX (g9 (s5 F p r.ho (aO P o v (aJ n (aC J)) r.ok r.oi)) (g9 (s6 F f p v m) (g9 (s7 F) (g9 bj ?_))));intro bu bw cY bB bF y bQ bV;refine g4 (s9 z aM S K aj aq F (bs:=P::b.flatMap jh) J y bQ λbf st a_ b7=>?_);obtain⟨b8,cf,cy,E⟩:=b7;have cA:=VJ (c:=c.r2 V2) (st:=st) (cl:=B) (C:=t) (⟨z.ob,λk=>z.iw k,z.ok⟩) Q F aN aW (bK st _ P A b r.lt r.len r.pl.P4 n (cL r.hg) r.pl.lr J) r.pl r.rd (a0:=.t (.list (s.map .int))) (a1:=.t (.list (nT [d,i,u,T,w,e]))) (a4:=.t (nL (nv A [u,T,w,e]))) (a6:=H) (a7:=bh) (iJ:=.un);exact cA bu bw bf bB bF y ⟨b8,cf,cy,aQ.re (B:=c.B.re V1) (V:=V2) E (au E.inv)⟩ λcC cz cH cK ao=>bV cC cz cH (a_.trans cK) ao
end
section
open Builtin.Re
noncomputable def LQ:aY O6->bl
 |U .matched=>ae
 |_=>ak
theorem XV(h:LQ o=ae):o=U .matched:=by
 cases o with
 |none=>exact cW J h
 |some x=>cases x with
  |matched=>rfl
  |_=>exact cW J h
theorem E3:Slot "re.Match" "group" "re.Match.group":=
 .of (owner:="re.Match") (n:="group") (by kernel_rfl) J J J
  (by first|exact .inl _|exact .inr J) (by kernel_rfl)
theorem aa8:typeOf (.builtin "re.Match.group")=pure (.type "method_descriptor"):=by kernel_rfl
theorem Sn:entryFor table "re.Match.group"=U Builtin.«re.Match.group»:=yX (J)
theorem Qp(a b:aD):argsOk "re.Match.group" ⟨[a,b],[]⟩:=by kernel_rfl
theorem YA:PlainAttrs "re.Match":=
 ⟨aR ("object.__getattribute__") (by kernel_rfl) J,by kernel_rfl⟩
noncomputable def z9(code e:jo aa)(start i:aa):bl:=(xm 1000 (yV code e 1 start e.size ak)).any λE=>LQ E.outcome&&(E.start==i&&(E.handed==i+1&&(E.lastmark==1&&E.marks==#[U i,U (i+1)])))
noncomputable def xS(code e:jo aa)(start:aa):bl:=(xm 1000 (yV code e 1 start e.size ak)).any λE=>CT E.outcome
theorem Uy:z9 w7.toArray #[33,38] 0 1=ae:=J
theorem WE:xS w7.toArray #[33,38] 2=ae:=J
section
variable{prog:bZ}{w:bR}{A:cI}{E:aD->aT->Prop}{s:aT}
set_option tactic.hygienic true in
theorem Zt{code:jo aa}{start:aa}(h:xS code e start=ae)(S:Q af s):wpAny (model prog w) A (reRunToEnd (yV code e 1 start e.size ak)) Q E s:=by
 exact aA ((GO _ _).mp h) λa z L=>aE (zO 1000 _ _ (cE _ _) z (aE (EB _ ((I1 L).symm▸bD S))))
noncomputable def xD(E:B6)(i:aa):B6:={E with start:=i,handed:=i+1,marks:=#[U i,U (i+1)],lastmark:=1}
theorem Ux(w:m.start=i)(t:m.handed=i+1)(f:m.lastmark=1)(T:m.marks=#[U i,U (i+1)]):m=xD m i:=by
 delta xD
 rw [<-T,<-f,<-t,<-w]
set_option tactic.hygienic true in
theorem Zr{code:jo aa}{start:aa}(h:z9 code a start i=ae)(S:∀e,Q (U (xD e i)) s):wpAny (model prog w) A (reRunToEnd (yV code a 1 start a.size ak)) Q E s:=by
 refine aA ((GO _ _).mp h) λe z L=>bM (cU.mp L) λR h=>?_;refine bM (cU.mp h) λx h=>bM (cU.mp h) λt h=>?_;exact bM (cU.mp h) λf T=>aE (zO 1000 _ _ (cE _ _) z (aE (EB _ ((XV R).symm▸bD (Ux (eq_of_beq x) (eq_of_beq t) (eq_of_beq f) (eq_of_beq T)▸S e)))))
noncomputable abbrev Ay(a f:aD)(d k:aD):bN:={cls:=.type "re.Match",data:=.fields #[a,f,rawInt 0,rawInt 2,d,k]}
theorem WZ{i:aa}(b:∀d T X,bG s.heap T->s.heap.get? X=af->(∃h g,T.get? X=U (Ay a f d (.ref h))/\T.get? h=U {cls:=.type "tuple",data:=.seq [rawInt i,rawInt (i+1:aa),rawInt i,rawInt (i+1:aa)].toArray g})->Q (.ref X) {s with heap:=T}):
  wpAny (model prog w) A (reNewMatch f a 1 0 2 (xD x i)) Q E s:=by
 have e:reNewMatch f a 1 0 2 (xD x i)=newTuple [rawInt i,rawInt (i+1:aa),rawInt i,rawInt (i+1:aa)]>>=λh=>newFields "re.Match" [a,f,rawInt 0,rawInt 2,rawInt x.lastindex,h]:=by
  exact bA (show¬(ae&&decide _||ak)=ae by rw [decide_eq_false (fJ.mpr (uH _))];decide)
 refine lX e (aE (Pr ?_ (dQ J)));have O:=bG.push s.heap {cls:=.type "tuple",data:=.seq [rawInt i,rawInt (i+1:aa),rawInt i,rawInt (i+1:aa)].toArray};have u:=fM {s with heap:=s.heap.push {cls:=.type "tuple",data:=.seq [rawInt i,rawInt (i+1:aa),rawInt i,rawInt (i+1:aa)].toArray}};exact q6 (b _ _ _ (λl o e=>eg _ (O l o e)) (iO λo e=>aU u (O _ o e)) (gh s.heap.objs.size 0 (eN _ J) (eg _ (eN _ J)))) (dQ J)
theorem Uk{l:Y aa}{R:fK}{g i a:aa}(L:s.heap.get? X=U (Ay (.str (cj l) R) f d (.ref h)))(k:s.heap.get? h=U {cls:=.type "tuple",data:=.seq [rawInt i,rawInt (i+1:aa),rawInt i,rawInt (i+1:aa)].toArray g})(x:l[i]?=U a)
  (e:∀n m,Q (.str (cj [a]) n) {s with toks:=m}):wpAny (model prog w) A (call (.builtin "re.Match.group") [.ref X,.int 1 B]) Q E s:=by
 refine i7 (o5 E3.plain Sn (E3.check _ _ _ _ _ _ _ _ (aR _ L J) (Qp _ _) ?_));unfold Builtin.«re.Match.group»;refine aE (g5 (a:=()) (by rfl) ?_);dsimp only;refine aE (aE (wpAny_fieldsOf L J (aE (m:=reRawItems (.ref h)) (aE (wG k J (bD (bD ?_)))))));have O:Array.map reRawOf ((U #[rawInt (i:aF),rawInt (i+1:aa),rawInt (i:aF),rawInt (i+1:aa)]).getD #[])=#[(i:aF),(i+1:aa),(i:aF),(i+1:aa)]:=by
  show(gJ [rawInt (i:aF),rawInt (i+1:aa),rawInt (i:aF),rawInt (i+1:aa)]).map reRawOf=_;refine aZ (adp) ?_;rfl
 rw [O];refine aE (g5 (a:=1) (by rfl) (aE ?_));have H:=ck.mp x;have b:({cps:=(cj l).cps.extract i (i+1)}:ai)=cj [a]:=by
  show Str.mk (l.toArray.extract i (i+1))=_;simp only [List.extract_toArray,List.extract,nX,uC H.1,H.2]
  rfl
 show wpAny _ _ (mkStr {cps:=(cj l).cps.extract i (i+1)}) _ _ _;rw [b];exact q5 (bD (e _ _)) (dQ J)
end
end
section
open Builtin.Re
noncomputable def VD:y_:=(tG Aq).2.2.1
noncomputable def DJ:bW:=(tG Aq).1
noncomputable def J_:g6:=(tG Aq).2.1
section
variable{prog:bZ}{w:bR}{A:cI}{E:aD->aT->Prop}{s:aT}
theorem VF{g i:aa}(l:B.scope.kind=.function)(H:B.kindOf "_m"=U .local)(X:s.heap.Ns B.locals h)(z:h "_m"=U (.ref e))
  (L:s.heap.get? e=U (Ay (.str (cj x) R) v d (.ref k)))(t:s.heap.get? k=U {cls:=.type "tuple",data:=.seq [rawInt i,rawInt (i+1:aa),rawInt i,rawInt (i+1:aa)].toArray g})(o:x[i]?=U a)
  (b:∀n m,Q (.str (cj [92,a]) n) {s with toks:=m}):wpAny (model prog w) A (eval DJ B) Q E s:=by
 exact B_ (qV (O2 (lE J (nS _) J YA E3 aa8 (ez (G2 l H X z ⟨aR _ L J,λu q=>by obtain rfl:=jn q;exact aR _ L J,j_ J (tu J (nJ J (Pf (kJ (Uk L t o λn m=>P.truthy_str (show¬((1))>=2^63 by decide) (adX (x:=cj [92]) (y:=cj [a]) (λf j=>b f j) (dQ J)))))))⟩) J))))
noncomputable def oA(y:ai)(doc u A z:aD):q7:={name:="<lambda>",qualname:=y,params:=VD,body:=.expr DJ,scope:=J_,globals:=mainGlobals,closure:=[],closureTuple:=z,code:=A,builtins:=builtinsNs,defaults:=.none,kwdefaults:=.none,annotations:=af,pyModule:=u,doc}
theorem VE:bindArgs (oA qual doc pm cv ctv) ⟨[.ref g],[]⟩=pure [(("_m":ai),uN g)]:=J
noncomputable abbrev DL:g6:={kind:=.function,names:=[("_m",.local)],isGenerator:=ak,isCoroutine:=ak,more:=[]}
theorem DM:J_=DL:=J
theorem VH{k:q7}(h:k.scope=DL):(newEnv k.scope L gl cl q sf cd af bi).scope.kind=.function/\(newEnv k.scope L gl cl q sf cd af bi).kindOf "_m"=U .local:=h▸⟨J,J⟩
theorem VG{x u h z:aD}{az i v:aa}(c:A.depth<recursionLimit)(S:s.heap.get? X=U o)(B:o.data=.func (oA y x u h z))(L:s.heap.CodeRec h y)(aq:s.heap.NoLimit)
  (au:s.heap.get? f=U (Ay (.str (cj aB) aP) aN aO (.ref aG)))(aI:s.heap.get? aG=U {cls:=.type "tuple",data:=.seq [rawInt i,rawInt (i+1:aa),rawInt i,rawInt (i+1:aa)].toArray az})(aK:aB[i]?=U v)
  (g:∀T n e,bG s.heap T->Q (.str (cj [92,v]) n) {s with heap:=T,toks:=e}):wpAny (model prog w) A (call (.ref X) [.ref f]) Q E s:=by
 have r:(oA y x u h z).scope=DL:=DM;have O:(oA y x u h z).body=.expr DJ:=J;have F:(oA y x u h z).qualname=y:=J;have G:(oA y x u h z).code=h:=J;have P:(oA y x u h z).scope.isCoroutine=ak:=aL Scope.isCoroutine DM;have R:(oA y x u h z).scope.isGenerator=ak:=aL Scope.isGenerator DM;have aj:=VE (qual:=y) (doc:=x) (pm:=u) (cv:=h) (ctv:=z) (g:=f);generalize oA y x u h z=k at*;refine i7 (kla_callFunE c S B P R O (F.symm▸G.symm▸L) (lX (aj) ?_));refine bD (aeo (λd j=>?_) (λd j=>?_) (λp l a=>⟨aq.fresh _ a,kla_codeExpr ?_⟩) (r▸J))
 .rw [r]at j;exact cD.mp j▸nofun
 .rw [r,cD.mp j];rfl
 generalize ao:s.heap.objs.size=m at l a;have b:bG s.heap p:=λaH o t=>a.extBut aH o (eP (ao▸fM s) t) (eg _ t);have q:=VH (gl:=k.globals) (cl:=k.closure) (q:=k.qualname++".<locals>.") (sf:=U X) (cd:=k.code) (bi:=k.builtins) (L:=m) r;have H:(newEnv k.scope m k.globals k.closure (k.qualname++".<locals>.") (U X) k.code af k.builtins).locals=m:=J;generalize newEnv k.scope m k.globals k.closure _ _ k.code af k.builtins=aM at q H⊢;subst H;exact VF q.1 q.2 l J (b _ _ au) (b _ _ aI) aK λn e=>g p n e b
end
end
section
open Builtin.Re
section
variable{prog:bZ}{w:bR}{A:cI}{E:aD->aT->Prop}{s:aT}
theorem Tt(a b:aa):(gJ [a,b]).extract 0 1=[a].toArray:=J
theorem Tr(a b:aa):(gJ [a,b]).extract 0 0=[].toArray:=J
theorem VZ{code:Y aa}{a b c:aa}{i B v:fK}{Q:aD->aT->Prop}(P:n6 s.heap p code 1)(h:xS code.toArray (gJ [a,b]) 2=ae)(H:s.heap.get? d=U (lo [.str (cj [a]) B,.str (cj [c,b]) v] x))
  (l:∀R n,Q (.str (cj [a,c,b]) R) {s with toks:=n}):
  wpAny (model prog w) A (Builtin.«re.Pattern.sub.loop» ⟨[.ref p,.str (cj [a,b]) i,.ref X,rawInt 1,rawInt 0,rawInt 1,rawInt 2,rawInt 2,.bool ak,.ref d,.bool ak],[]⟩) (λj O=>∃r,j=.done (.ret r)/\Q r O) E s:=by
 refine aE (yq P (aE (Zt h (lX (bA (show¬we 2<BN [a,b]from m5 2)) ?_))));refine aE (Bc (Tr a b) (iY _) (aE (wG H J (aE (O3 (i12 _ H J ⟨x,J⟩) (.cons _ _ (.cons _ _ .nil)) ?_ λL m=>?_)))))
 .exact dQ J
 .have e:GV (cj []) [cj [a],cj [c,b]]=cj [a,c,b]:=join_nil [[a],[c,b]];exact e.symm▸bD (aR _ J (l L m))
theorem V0{code:Y aa}{b:aa}{a:aa}(aH:n6 s.heap p code 1)(v:z9 code.toArray (gJ [a,b]) 0 1=ae)(z:xS code.toArray (gJ [a,b]) 2=ae)(ao:s.heap.get? d=U (lo [] bu))
  (aK:m.in1.depth<recursionLimit)(q:s.heap.get? X=U o)(E:o.data=.func (oA qual doc pm cv ctv))(B:s.heap.CodeRec cv qual)(bQ:s.heap.NoLimit)(aq:X≠d)(aB:∀c,cv=.ref c->c≠d)(h:∀{T},mX d s.heap T->n6 T p code 1/\T.NoLimit)
  (aI:∀T R k,mX d s.heap T->n (.ok (.ret (.str (cj [a,92,b]) R))) {s with heap:=T,toks:=k}):
  codeAny (model prog w) m (.builtin "re.Pattern.sub.loop" ⟨[.ref p,.str (cj [a,b]) bw,.ref X,rawInt 1,rawInt 0,rawInt 0,rawInt 0,rawInt 0,.bool ak,.ref d,.bool ak],[]⟩) n s:=by
 refine yW CP ?_;rw [Around.under_plainId (by decide+kernel)];refine aE (yq aH (aE (Zr v λaN=>(lX (bx (show we 0<1 from yP)) ?_))));refine aE (Bc (Tt a b) (aC J) (aE (Fo ao (aC J) λbB aO H u=>(lX (bA (show¬((1:aF)==0)=ae by decide)) ?_))));refine aE (WZ λaX bh bj Q bK t=>(dS (t) λaP aS t A=>?_));refine aE (e9 (VG aK (Q _ _ (H _ _ aq q)) E ?_ ((h H).2.keeps Q) t A J λa_ k bf j=>?_))
 .refine rF B λL f S P O aj F=>xG L f S P O (Q _ _ (H _ _ (aB _ O) aj)) F
 refine aE (Fo (j _ _ (Q _ _ u)) (aC J) λG aW au az=>?_);have l:mX d s.heap G:=λb o g e=>au b o g (j _ _ (Q _ _ (H _ _ g e)));exact bD ⟨yH _ (by decide+kernel),yW CP (i0 (VZ (Q:=λr i=>n (.ok (.ret r)) i) (h l).1 z az λR aG=>aI G R aG l) (λbF i x=>aA x λr e aM=>by subst e;exact aM) λy y x=>x)⟩
end
end
section
open Builtin.Re
section
variable{prog:bZ}{w:bR}{A:cI}{E:aD->aT->Prop}{s:aT}
theorem aaA{code:Y aa}{a b:aa}{i u h z:aD}{o:bN}(P:n6 s.heap m code 1)(au:z9 code.toArray (gJ [a,b]) 0 1=ae)(aj:xS code.toArray (gJ [a,b]) 2=ae)
  (ao:A.depth<recursionLimit)(p:s.heap.get? X=U o)(H:o.cls=.type "function")(S:o.data=.func (oA y i u h z))(v:s.heap.CodeRec h y)(aB:s.heap.NoLimit)(q:∀{T},bG s.heap T->T.NoLimit)
  (Q:∀T R n,bG s.heap T->G (.str (cj [a,92,b]) R) {s with heap:=T,toks:=n}):wpAny (model prog w) A (call (.builtin "re.Pattern.sub") [.ref m,.ref X,.str (cj [a,b]) aq]) G E s:=by
 refine i7 (o5 vR.plain IS (vR.check _ _ _ _ _ _ _ _ (by obtain⟨o,a,b,aI,e,az,aH,aK,r,c,_⟩:=P;exact(aR o r c)) (HF _ _ _) ?_))
 delta Builtin.«re.Pattern.sub»reSubstitute
 refine aE (g5 (a:=[U (.ref X),U (.str (cj [a,b]) aq),af]) (J) ?_);dsimp only;refine aE (bD (aE (wH (aR o p H) MF.lookup (aE (bD (aE (bD ?_)))))));dsimp only;refine aE (e9 (yq P (aE (aE (Pq (T:="str") (b:=ak) (sT _ _ _) (by rw [isSubtype_type];exact J) (bD (aE (G4 (bD ?_)))))))));have l:bG s.heap (s.heap.push (lo [] 0)):=bG.push _ _;have d:s.heap.get? s.heap.objs.size=af:=fM s;have j:∀{T},mX s.heap.objs.size (s.heap.push (lo [] 0)) T->bG s.heap T:=λx b o e=>x b o (eP d e) (l _ _ e);refine⟨yH _ (by decide+kernel),V0 (s:={s with heap:=s.heap.push (lo [] 0)}) (qual:=y) (doc:=i) (pm:=u) (cv:=h) (ctv:=z) (P.keeps l) au aj (eN _ J) ?_ (l _ _ p) S ?_ (q l) (eP d p) (λaG e g=>?_) (λx=>⟨P.keeps (j x),q (j x)⟩) λT R n x=>Q T R n (j x)⟩
 .exact ao
 .refine rF v λL k t f O B F=>xG L k t f O (l _ _ B) F
 .refine rF v λL k t f O B F=>?_;obtain rfl:=jn (e.symm.trans O);exact eP d B g
end
theorem aav{O:Ly bX}(h:u4 O)(K:jq O.B O.mg i aO lM)(n:dB v g)(F:Fm B x9 13 n9)(f:B.code=.ref i)(a:B.qual="_translate.<locals>.")(H:m[9]?=U (.t (.str [33,38]))):
  EE (O.c v aK B g n) x9 13 m pn m (.str [33,92,38]):=by
 refine aA h.ex λbF L G=>?_;constructor;intro bK aH b7 aM bB S s;obtain⟨y,E,l,S⟩:=S;obtain⟨o,_,_,_,_,_,_,_,R,w,j,_⟩:=G S.base;refine lE J (nS _) J L5 vR M7 (pN O.G y S.base (F.kn 15 J nofun) L (F.kg 15 J) (c_ (aR o R w) (λb e=>by obtain rfl:=jn e;exact aR o R j) (j_ J (tu J (nJ J (DN O.G K (J' a) f (zG ?_) ?_ y S λaS a_ bf bh bj bu bw u x c T p aI k q _=>?_))))))
 .decide
 .rfl
 .refine nJ J (cps λaN r=>?_);obtain⟨aP,z,aW,aX,rfl,X⟩:=T.vars 9 "stuff" _ J H;refine r (ez (ew y T.ns z (kJ (bC (ja X) λt Q=>?_))) (F.eJ (i:=9) J));subst Q;refine zQ (q.kn ⟨_,OH _,J⟩) λb P aj d aq au ao aB=>aaA (G T.base) Uy WE n.d p J J (xG b P aj d aq (T.bI _ _ au) ⟨ao,aB⟩) (O.G.nolimit T.base) (λk=>O.G.nolimit λb o e=>k _ _ (T.base b o e)) λbQ bV az aG=>?_;have A:=cg.keeps (t:=az) (T.ready) aG;exact s _ u _ (x.trans A.same) c ⟨y,E,l,T.step A⟩ (.str _ _)
end
section
variable{c:Cx O}{l l':Y aa}
noncomputable abbrev Mq:b9:=e5 (kr (dZ 4 R9)) 1
theorem Mj{x a b:Y aa}{s:aT}(v:s.toks≠0)(A:((⟨a.toArray⟩:ai)==⟨b.toArray⟩)=ak)(j:x.length<=1000)(t:b.length<=14)(T:GW ⟨x.toArray⟩ ⟨a.toArray⟩ ⟨b.toArray⟩=⟨l'.toArray⟩)
  (G:∀L k,Q (.str ⟨l'.toArray⟩ L) {s with toks:=k}):wpAny (model i u) F (call (.builtin "str.replace") [.str ⟨x.toArray⟩ w,.str ⟨a.toArray⟩ s.toks,.str ⟨b.toArray⟩ (s.toks+1)]) Q P {s with toks:=s.toks+1+1}:=
 SC.replaceW v (yR _) (fW (eH _)) A (by exact aJ j (aC J)) (by exact t) (T.symm▸G)
theorem Xf(e:(N8 x y 0 x.length 1).isEmpty=ae)(h:Q (.bool ae) s):wpAny (model i u) F (compareOp .NotIn (.str y B) (.str x w)) Q a s:=P.notIn_str (e.symm▸h)
theorem Zd(F:Fm c.env x9 13 n9)(b:m[9]?=U (.t (.str l)))(e:45∉l)(H:l.length<=1000)(T:GW ⟨l.toArray⟩ ⟨#[92]⟩ ⟨#[92,92]⟩=⟨l'.toArray⟩):
  ES c x9 13 m Mq (m.set 9 (.t (.str l'))) .next:=by
 constructor;intro p f k Q P h S G;refine cps λn r=>?_;obtain⟨y,E,R,X⟩:=S;obtain⟨z,s,o,v,rfl,d⟩:=X.vars 9 "stuff" _ J b;refine r (bC (ja d) λt j=>?_);subst j;refine yZ (wD (qV (ez (ew y X.ns s (Xf (occ_none e 1 (ek 1)) (uQ (g4 (lC (lE J (nS _) J B3 GQ GR (ez (ew y X.ns s ⟨J,(λg q=>nc yU q J),j_ J (tu J (nJ J (qV (nJ J (qV (kJ ?_))))))⟩) (F.eJ (i:=9) J))) J))))) (F.eJ (i:=9) J))) J);exact Mj (a:=[92]) (b:=[92,92]) (yR _) J H (aC J) T λL u=>gu (av:=.t (.str l')) y h X (i:=9) (by rfl) (by decide) (.inl (F.kn 9 J nofun)) ⟨J,_,J,.str _ _⟩ .nil λx a i B=>q4 (G x f .next (bS.trans (b_ _ _ J) i) (Le.refl _) ⟨y,a,_,B⟩ trivial)
theorem Ze:GW ⟨gJ [33,92]⟩ ⟨#[92]⟩ ⟨#[92,92]⟩=⟨gJ [33,92,92]⟩:=by decide+kernel
theorem WG:∀l∈[[33,33],[33,93],[33,94],[33,92,92],[33,92,45],[42],[63],[91]],tX w7.toArray l.toArray 1=ae:=e7.mp (show([[33,33],[33,93],[33,94],[33,92,92],[33,92,45],[42],[63],[91]].all λl=>tX w7.toArray l.toArray 1)=ae by decide+kernel)
variable{pat:Y aa}{acc:Y T}{i:aa}
theorem aaY(F:Fm c.env x9 13 n9)(O:pat.length<=1000)(v:pat[i]?=U 91)(R:pat[i+1]?=U 33)(w:pat[i+2]?=U 92)(t:pat[i+3]?=U 93)(H:acc.length<=100000)
  (j:∀m,m[9]?=U (.t (.str [33,92,92]))->EE c x9 13 m pn m (.str [33,92,92])):
  EX c x9 13 (L9 pat acc i e h L A P r) B9 (L9 pat (acc++[.str (eZ (U (ae,92)))]) (i+4) (.t (.str [91])) (.t (.int (i+3:aa))) (.t (.str (94::ig 92))) A P r) .next:=
 Bp F O v R w t (zx (dD F 9 J (cE _ _) (j8 (zv F 0 J J) (iB (zv F 5 J J)) (iB (zv F 8 J J)) (qE (aJ O (aC J)) (zJ R w))) J)
  (zx (Zd F J (by decide) (aC J) Ze) (Bq F H j (aJ (GL (ck.mp t).1) O))))
theorem aaW(F:Fm c.env x9 13 n9)(O:pat.length<=1000)(v:pat[i]?=U 91)(R:pat[i+1]?=U 33)(w:pat[i+2]?=U 38)(t:pat[i+3]?=U 93)(H:acc.length<=100000)
  (j:∀m,m[9]?=U (.t (.str [33,38]))->EE c x9 13 m pn m (.str [33,92,38])):
  EX c x9 13 (L9 pat acc i e h L A P r) B9 (L9 pat (acc++[.str (eZ (U (ae,38)))]) (i+4) (.t (.str [91])) (.t (.int (i+3:aa))) (.t (.str (94::ig 38))) A P r) .next:=
 Bp F O v R w t (zx (dD F 9 J (cE _ _) (j8 (zv F 0 J J) (iB (zv F 5 J J)) (iB (zv F 8 J J)) (qE (aJ O (aC J)) (zJ R w))) J)
  (zx (cJ (zC (zs [45] (cB ['-'])) (zv F 9 J J) (aL U J) J) (cX (dD F 9 J (cE _ _) (FU (zv F 9 J J) (zs [92] (cB ['\\'])) (zs [92,92] (cB ['\\','\\'])) J J J J (occ_none (by decide) _ (cE _ _))) J) J))
   (Bq F H j (aJ (GL (ck.mp t).1) O))))
end
section
open Builtin.Str
section
variable{s:aT}
theorem T8(v:B.code=.ref c)(a:lF s.heap c P)(k:TabAt s.heap P n)
  (G:∀A T m S,mX P s.heap T->s.heap.objs.size<=T.objs.size->TabAt T P S->sY s.heap T w q n S A->Q A {s with heap:=T,toks:=m}):
  wpAny g F (genexprCode B w q d) Q t s:=by
 cases p:codeAmong w n.toList with
 |some A=>exact wpAny_genexprCode_hit v (a.code k) p (G A s.heap s.toks n (λy y y e=>e) (ek _) k (.vm p J))
 |none=>
  refine wpAny_genexprCodeX v (a.code k) (a.tab k) p λl T m j h x y i b y=>G _ T m _ j (gm (iH h x)) ⟨b.2,?_⟩ (.new l p J h i (by simp));have H:(n++#[rawInt w.line,rawInt w.col,uN l]).toList=n.toList++[rawInt w.line,rawInt w.col,.ref l]:=by simp
  simp only [H];exact TriplesOk_snoc _ _ _ _ k.2
end
theorem T9(x:q_ X F n)(k:TriplesOk n.toList)(r:sY i h' w q n S A)(a:∀x∈F,¬((w.line:aF)=x.1.line/\(w.col:aF)=x.1.col)):q_ X F S:=by
 cases r with
 |vm e p=>exact p.symm▸x
 |new l e v g h p=>
  intro O s o q;rw [p]at q;exact(HC k q).elim (x O s o) λq=>bE q.2 (a O s)
section
variable{prog:bZ}{w:bR}{A:cI}{E:aD->aT->Prop}{s:aT}
theorem Zg{x y z:Y aa}(e:(occurrences ⟨x.toArray⟩ ⟨y.toArray⟩ 0 x.length (x.length+1)).isEmpty=ae)(S:Q (.str ⟨x.toArray⟩ h) s):
  wpAny (model prog w) A (call (.builtin "str.replace") [.str ⟨x.toArray⟩ h,.str ⟨y.toArray⟩ B,.str ⟨z.toArray⟩ a]) Q E s:=by
 have v:((occurrences (⟨x.toArray⟩) ⟨y.toArray⟩ 0 (⟨x.toArray⟩:ai).length ((⟨x.toArray⟩:ai).length+1)).isEmpty||(⟨y.toArray⟩:ai).length==0&&(⟨z.toArray⟩:ai).length==0)=ae:=by
  simp only [str_len,e];rfl
 exact Pa acU (sT _ _ _) acS (acR _ _ _) (gives_str_replace _ _ _ h B a λq=>cW q v) ((bx v).symm▸S)
theorem Zc:GW ⟨gJ [33,45]⟩ ⟨gJ [45]⟩ ⟨gJ [92,45]⟩=⟨gJ [33,92,45]⟩:=by decide+kernel
noncomputable abbrev Jk:b9:=(dZ 6 (kr (U Mq))).getD (.Pass default)
noncomputable def C4:bW:=zy (U Jk)
noncomputable def C5:bW:=(xV C4).1
noncomputable def Jj:bW:=(tG C5).1
theorem Uh(l:B.scope.kind=.function)(H:B.kindOf "s"=U .local)(X:s.heap.Ns B.locals h)(z:h "s"=U (.str ⟨gJ [33,45]⟩ b)):
  wpAny (model prog w) A (eval Jj B) (λO a=>(∃i,O=.str ⟨gJ [33,92,45]⟩ i)/\Keeps s a) E s:=by
 exact lE J (nS _) J B3 GQ GR (lE J (nS _) J B3 GQ GR (ez (G2 l H X z ⟨J,λx q=>nc yU q J,j_ J (tu J (nJ J (qV (nJ J (qV (kJ (Zg (y:=[92]) (z:=[92,92]) (occ_none (by decide) _ (cE _ _)) ⟨J,λx q=>nc yU q J,j_ J (tu J (nJ J (qV (nJ J (qV (kJ (Mj (s:={s with toks:=s.toks+1+1}) (a:=[45]) (b:=[92,45]) (yR _) J (aC J) (aC J) Zc λL k=>⟨⟨L,J⟩,s.heap,k,J,λn o e=>e⟩)))))))⟩)))))))⟩) J))
end
end
section
open Builtin.Str
noncomputable def Jl:g6:=(tG C5).2.1
noncomputable def C6:fR:=(tG C5).2.2.2
noncomputable abbrev Ue:g6:={kind:=.function,names:=[(".0",.local),("s",.local)],isGenerator:=ae,isCoroutine:=ak,more:=[]}
theorem Ug:Jl=Ue:=J
theorem Uj:∀x∈lM,¬((C6.line:aF)=x.1.line/\(C6.col:aF)=x.1.col):=by
 intro x j;rw [cD.mp j];decide+kernel
theorem Qw(t:S.bare=ae)(z:GenOnlyQ G.size (G.push S) X):AllBare X=AllBare G:=propext ⟨λh O s=>by
 obtain⟨i,A,a⟩:=Array.mem_iff_getElem.mp s;have e:(G.push S)[i]?=U O:=(Array.getElem?_push_lt A).trans (aL U a)
 exact z.elim (λq=>h O (q▸acG e)) λq=>h O (acG ((q.1.2 i (fW A)).trans e)),λh=>(h.push t).moved z⟩
theorem XZ{p:aa->aa->Prop}{l:Y _}{T:ai}(h:ItemsOf (λu O=>∃i,p u i/\∃B,O=.str T B) (strValues l).toArray g)(c:g=1):l.map (·.1)=[T]:=by
 subst c;have R:=h.1;have w:=h.2;cases l with
 |nil=>exact bE R (jN J)
 |cons q r=>
  exact wg ((b5 _).symm.trans (BY R))▸aA (w 0 (.str q.1 q.2) J) λk y h=>bC h λP e=>aL (λs=>[s]) (PySem.Value.str.inj e).1
section
variable{c:Cx O}
theorem Ui(K:jq c.B c.mg aS P lM)(cy:Fm c.env x9 13 n9)(cM:c.env.code=.ref aS)(S:gb c.env)(X:aQ c.B c.ρ aW b7 c.env x9 13 r cC cK s.heap)(aK:r[10]?=U (.own [.str [33,45]]))
  (aP:∀O w,bS s O->aQ c.B c.ρ aW b7 c.env x9 13 r cC cK O.heap->Q (.str ⟨(gJ [33,92,45])⟩ w) O):wpAny (model c.prog c.w) c.A (eval C4 c.env) Q iU s:=by
 refine lE J (nS _) J B3 ad8 ad' (qV ⟨J,(λF q=>nc yU q J),j_ J (tu J (nJ J ?_))⟩);show wpAny _ _ (eval (.GeneratorExp Jj [⟨.Name "s" _,.Name "chunks" _,[],0⟩] Jl C6) c.env) _ _ _;rw [Ug];refine cps λy cN=>?_;obtain⟨iT,aB,E,jk,ao,rfl,m,bB,bX⟩:=X.vars 10 "chunks" _ J aK;refine cN (aA bB.jS λv h aI=>?_);subst h;refine bC (ja aI) λw h=>?_;subst h;have aH:s.heap.IsList E (gJ [B7 ⟨(gJ [33,45])⟩ w]):=i12 _ m J ⟨ao,J⟩;refine wpAny_GeneratorExp_walksQ c.R.handled J (zG (by decide)) (by decide) J J J c.R.d (ez (ew S X.ns aB (G5 aH ?_)) (cy.eJ (i:=10) J)) (λgZ=>J);have u:=bG.push s.heap {cls:=.type "list_iterator",data:=.fields #[.ref E,.int 0 0]};have T:=X.vh u (Le.refl _) λb o e=>.inl e;have H:=eN s.heap (o:={cls:=.type "list_iterator",data:=.fields #[.ref E,.int 0 0]}) J;generalize s.heap.push {cls:=.type "list_iterator",data:=.fields #[.ref E,.int 0 0]}=dW at u T H⊢;refine⟨c.G.nolimit T.base,aA (K.at_ T.inv) λef d aG=>T8 cM (K.hd T.base) d λgy a fD aM j fP aN aO=>?_⟩;have L:kL c.B dW a:=λb t o e=>j b o (λq=>t (q▸K.tab)) e;have B:=T.grow L (K.put T.inv (λ_ _ _ _ e=>e) (λQ y aX o e=>j Q o aX e) (aR aM aN (T9 aG d.2 aO Uj))) (Le.refl _) λb o e=>.inl e;refine IB (K.bm B.base) λiE i6 a_ bf y gx bh bj bu bw=>?_;have A:=fM s;have bF:s.heap.objs.size≠P:=aA (K.at_ X.inv) λef bK y=>(eP A bK.1).symm;have bQ:E≠s.heap.objs.size:=eP A m;have bV:E≠P:=λq=>(X.tab P K.tab).2.2.2.2 10 (aC J) (bX▸q▸.head _);have R:=j _ _ bF H;have aq:=j _ _ bV (u _ _ m);refine Po (S.globals.symm▸c.G.g B.base) a_ bf bh bj bu bw ?_;have b8:=c.G.nolimit B.base;refine⟨s.heap.objs.size,[s.heap.objs.size,E],[s.heap.objs.size],1,_,_,λ_=>ae,λ_ cf=>∃k,cf=.str ⟨(gJ [33,92,45])⟩ k,J,(λg p=>O_ p s.heap.objs.size E bQ (gJ [B7 ⟨(gJ [33,45])⟩ w])),⟨⟨_,R,J,J⟩,i12 _ aq J ⟨ao,J⟩⟩,bL (fQ R) (bL (fQ aq) eu),b8,λq=>?_,λgz n=>⟨λg cA i v f cH p G aj z cY=>?_,λg cA i v f cH p G y aj z cY=>?_⟩,λF c9 iC iD di x dm dz cz dN=>?_⟩
 .have t:=c.G.nolimit X.base;have:cStatics<s.heap.objs.size:=let⟨_,dU,_⟩:=t;dU.lt
  exact bE (cD.mp q) (fW this)
 .rw [List.forIn_nil];exact bD ⟨J,f.heap,f.toks,J,λb o e=>e⟩
 .have l:v=.str ⟨(gJ [33,45])⟩ w:=by
   cases i with
   |zero=>exact(bg G).symm
   |succ i=>exact aU J G
  subst l;exact Uh J J aj z
 .refine kJ (SC.joinGen cz.in4_2 (λi O st=>st.1.typeIs) dN (λb t=>?_) (.head _) (λi v l=>aA l λau y l=>bC l λk e=>b_ _ k e) (λO gA z eF=>?_) (aC J))
  .show b<c9.objs.size;have x:a.objs.size<F:=x;rw [dm];rcases cQ.mp t with q|t
   .exact q▸eH _
   .rcases cQ.mp t with q|t
    .exact q▸oZ x
    .exact oZ (kI (fx.mp t) x)
  .have dG:=XZ eF J;rw [dG];refine⟨J,λeM au=>aP _ eM ?_ ?_⟩
   .have eT:O.drawn=s.drawn:=z.drawn;have eL:O.os=s.os:=z.os;have e_:AllBare O.gens=AllBare s.gens:=Qw di z.gens;exact⟨O.heap,au,B0 (by cases O;subst eT eL;rfl) e_⟩
   .have n:∀{b o},a.get? b=U o->b≠s.heap.objs.size->O.heap.get? b=U o:=λ{b o}e eY=>z.heap b o (λq=>(cQ.mp q).elim (λq=>fW (fQ e) q) λq=>eY (cD.mp q)) (dz b o e);exact X.grow (h':=O.heap) (λb t o e=>n (L b t o (u _ _ e)) (eP A e)) (br.gO B.inv λfq az o e=>n e λq=>cW (aL l8 A) (q▸c.B.live X.inv fq az)) (Le.refl _) λb o e=>.inl e
end
end
section
open Builtin Builtin.Str
theorem Uc(x O:ai)(i u:aF)(w B v j:fK):Gives («str.find» ⟨[.str x w,.str O B,.int i v,.int u j],[]⟩) (.int (match occurrences x O (fromIndex x.length i) (min (fromIndex x.length u) x.length) 1 with|k::_=>(k)|[]=>-1)):=by
 show Gives (match occurrences x O (fromIndex x.length i) (min (fromIndex x.length u) x.length) 1 with|k::_=>retInt k|[]=>do rule "str.find.not-found";retInt (-1)) _;cases occurrences x O _ _ 1 with
 |nil=>exact .rule (.of_eq J)
 |cons k _=>exact .of_eq J
theorem XQ(x O:ai)(k g:aa)(h:0<O.length)(c:g=1):occurrences x O k k g=[]:=by
 subst c;rw [PySem.StrLaws.occ_eq,nX];exact aL N4 ((PySem.StrLaws.occ_none x O k (List.range' k 1) k (λi h=>f_ (cD.mp h).symm)).mpr λi h q=>bE q.1 (BX.mpr ((cD.mp h).symm▸OO ‹_›)))
theorem ZW:kN .Sub (.int a) (.int b)=U (.int (a-b)):=J
theorem T3(g k:aa):fromIndex g (k:aF)=k:=by
 delta fromIndex
 rw [bA (oW.mpr (jl k)),Gp (jl k),Gs]
section
variable{c:Cx O}{pat:Y aa}{acc:Y T}{i:aa}
theorem ab5{t s₂:Y aa}(l:k<=t.length)(h2:0<s₂.length)(L:EE c n d m o g (.str t))(s:ER c n d g w [P,dR,e] H [.str s₂,.int k,.int k])(h:attributeBase o "find" c.env (eval o c.env)=eval o c.env)(R:[P,dR,e].all dX=ae)(T:(b.endLine==w.line)=ae):
  EE c n d m (.Call (.Attribute o "find" b) [P,dR,e] [] w) H (.int (-1)):=
 BB PySem.F.slot_str_find PySem.F.type_str_find L s h R (aC J) T λB v z i x=>by
  refine bC (ja i) λao j=>?_;subst j;obtain⟨v,z,rfl,q,y⟩:=x.ju (P:=λa=>∃v A,a=v::A/\Den _ _ v _/\bq _ _ A _) λv A u O=>⟨v,A,J,u,O⟩;refine jw y.Bs λau S f r E=>?_;subst f;refine bC (ja q) λQ j=>bC (nq r) λaj p=>bC (nq E) λaq X=>?_;subst j p X;refine PO.give λaz aB aG aH G=>Pa F.slot_str_find (sT _ _ _) F.entry_str_find (F.args_str_find_4 _ _ _ _) (Uc _ _ _ _ _ _ _ _) ?_;rw [T3,BW (by simp only [str_len];exact l),XQ _ _ _ _ (by simp only [str_len];exact h2) J];exact G _ _ (.int _ _)
theorem aaX(K:jq c.B c.mg k aO lM)(f:c.env.code=.ref k)(F:Fm c.env x9 13 n9)(h:pat.length<=1000)(v:pat[i]?=U 91)(R:pat[i+1]?=U 33)(w:pat[i+2]?=U 45)(e:pat[i+3]?=U 93)(H:acc.length<=100000)
  (L:∀m,m[9]?=U (.t (.str [33,92,45]))->EE c x9 13 m pn m (.str [33,92,45])):
  ∃u d T,EX c x9 13 (L9 pat acc i aG aM aN aH P r) B9 (L9 pat (acc++[.str (eZ (U (ae,45)))]) (i+4) (.t (.str [91])) (.t (.int (i+3:aa))) (.t (.str (94::ig 45))) u d T) .next:=by
 have p:=(ck.mp e).1;have x:∀P r,ES c x9 13 (L9 pat acc (i+1) (.t (.str [91])) (.t (.int (i+3:aa))) (.t (.str [33,45])) (.own [.str [33,45]]) P r) Jk (L9 pat acc (i+1) (.t (.str [91])) (.t (.int (i+3:aa))) (.t (.str [33,92,45])) (.own [.str [33,45]]) P r) .next:=λP r=>by
  constructor;intro aK b s Q n j S G;obtain⟨y,aP,aS,X⟩:=S;show wpAny _ _ (exec (.Assign [.Name "stuff" _] C4 _) c.env) Q n s;exact lC (Ui K F f y X J λaI t q g=>gu (av:=.t (.str [33,92,45])) y j g (i:=9) (by rfl) (by decide) (.inl (F.kn 9 J nofun)) ⟨J,_,J,.str _ _⟩ .nil λz E A B=>G z b .next (q.trans A) (Le.refl _) ⟨y,E,_,B⟩ trivial) J
 have l:∀{m:Y (AV O)}{o ao aq aj az:fR},m[0]?=U (.t (.str pat))->m[5]?=U (.t (.int (i+1:aa)))->m[8]?=U (.t (.int (i+3:aa)))->EE c x9 13 m (.Subscript (.Name "pat" o) (.Slice (U (.Name "i" ao)) (U (.Name "j" aq)) af aj) az) m (.str [33,45]):=λau aB a=>
  j8 (zv F 0 J au) (iB (zv F 5 J aB)) (iB (zv F 8 J a)) (qE (aJ h (aC J)) (zJ R w))
 exact⟨_,_,_,Bp F h v R w e (zx (dD F 9 J (cE _ _) (l J J J) J)
  (zx (cJ (b:=ak) (zC (zs [45] (cB ['-'])) (zv F 9 J J) (aL U J) J)
   (zx (oS F 10 J (by decide) (p7 cR J) J) (zx (dD F 11 J (by decide) (qM (b:=ae) (zC (ee (zv F 0 J J) (zv F 5 J J) (iP (Dd h R) R) J) (zs [33] (cB ['!'])) (oJ J) J) (dw (zv F 5 J J) (zi 2) (lT (d:=(i+3:aa)) J))) J)
    (zx (jT (BD (n:=0) (j6 (zb ae) J λ_=>J) (zx (dD F 11 J (by decide) (ab5 (k:=i+3) (s₂:=[45]) (gm p) yP (zv F 0 J J) (zr (zs [45] (cB ['-'])) (zr (zv F 11 J J) (zr (zv F 8 J J) cR J) J) J) J J J) J) (ux (cJ (b:=ae) (zC (zv F 11 J J) (zi 0) J J) (ux FI))))))
     (zx (dD F 12 J (by decide) (l J J J) J) (zx (cJ (b:=ae) (j6 (zv F 12 J J) J λ_=>J) (cX (uu F 10 J J (zv F 12 J J) J J J J) J))
      (zx (kC (qO F 14 J (zr (dw (Nv F 10 13 J J J J) (zi 1) ZW) (zr (zi 0) (zr (yC (zi 1)) cR J) J) J) J J J) lZ J J) (cX (x _ _) J))))))))
   (Bq F H L (aJ (GL p) h))))⟩
end
end
section
variable{prog:bZ}{w:bR}{A:cI}{a:aa}
theorem aa5(Q:¬a<128)(z:s.heap.MapOf (intKind prog w) d X)(g:A.handled=af)(E:(d==sysModules)=ak)(v:X a=af)
  (h:∀T R n,bG s.heap T->e (.done (.ret (.str (cj [a]) R))) {s with heap:=T,toks:=n}):wpAny (model prog w) A (Builtin.«str.translate» ⟨[.str ⟨#[a]⟩ i,.ref d],[]⟩) e P s:=by
 refine aE (g5 (J) ?_);refine o7 J (aE (lX (I7 _ _) (aE (o7 J (o7 (by simp [Q]) (o7 J (aE (Kf g E z v λT L k=>(bD (bD ?_))))))))));exact aE (q5 (bD (h T _ _ k)) (show 1<=sizeLine by decide))
end
theorem YM{H:br m}{a d:aa}(n:dB F g)(Q:¬a<128)(E:(d==sysModules)=ak)(z:∀{h},bG H.bO h->h.MapOf (intKind i u) d X)
  (p:a∉lV/\X a=af\/a∈lV/\∃B,X a=U (.str (cj [92,a]) B))(o:Den e f t (.str [a])):PO H (model i u) F e (call (.builtin "str.translate") [t,.ref d]) f (.str (ie a)):=by
 refine bC (ja o) λw j=>?_;subst j;have c:a∉lV:=λq=>Q ((show∀b∈lV,b<128 by decide) a q);have v:X a=af:=p.elim And.right λq=>bE q.1 c;have x:ie a=[a]:=bA c;simp only [x];intro y k P r G;exact i7 (o5 B4.plain ad5 (B4.check _ _ _ _ _ _ _ _ (sT _ _ _) (ad3 _ _) (aa5 Q (z r.base) n.handled E v λT R s l=>(G _ _ _ (cg.keeps (t:=s) r l) (.str _ _)))))
theorem abb(e:O.D "escape" 13)(S:Co O)(a:aa)(Q:a<256):O.F (g+1) "escape" [.str [a]] (.str (ie a)):=by
 refine O.fn 13 x7 n7 e J J J (ek _) (λu code l=>bind1 λa=>J) λk m B n F=>zP S.ex λd X L E z p=>⟨rS x7 [.str [a]],fU (cJ (j6 (ta:=.bool ae) (sx F 1 9 J J (zr (zv F 0 J J) (zr (abJ F 2 10 J J) cR J) J) J λf x b=>?_) J λy=>J) (fU (iS ?_)))⟩
 .refine jw b.Bs λv T i o s=>?_;subst i;obtain rfl:=s.inv;exact YD o
 .refine BB B4 PySem.F.type_str_translate (zv F 0 J J) (zr (BA F 3 J L λy y=>.bY _) cR J) J J (cE _ _) J λf v x o b=>aA b.jS λt j q=>?_;subst j;obtain rfl:=q.inv
  by_cases h:a<128
  .exact YN n h E z (p a Q) o
  .exact YM n h E z (p a Q) o
noncomputable def pZ:Pc->Y aa
 |af=>[63]
 |U (ae,A)=>[91,33,A,93]
 |U (ak,k)=>pU k
noncomputable def yd:Pc->Prop
 |af=>True
 |U (ae,A)=>A∈[93,45,92,94,33,38]
 |U (ak,k)=>k<256
structure Cp(c:Cx O):Prop where
 no:∀l∈[[33,33],[33,93],[33,94],[33,92,92],[33,92,45],[42],[63],[91]],∀lv:Y (AV O),lv[9]?=U (.t (.str l))->EE c x9 13 lv pn lv (.str l)
 amp:∀lv:Y (AV O),lv[9]?=U (.t (.str [33,38]))->EE c x9 13 lv pn lv (.str [33,92,38])
section
variable{c:Cx O}{pat:Y aa}{acc:Y T}
theorem aab(p:Pc):0<(pZ p).length:=by
 cases p with
 |none=>exact yP
 |some q=>
  obtain⟨b,k⟩:=q;cases b with
  |true=>exact cS _
  |false=>exact show 0<(pU k).length by delta pU;split<;>exact cS _
noncomputable abbrev uZ(pat:Y aa)(acc:Y T)(i:aa)(a:aa->AV O):Y (AV O):=L9 pat acc i (a 0) (a 1) (a 2) (a 3) (a 4) (a 5)
theorem qG(h:EX c x9 13 m B9 (L9 pat acc i a B s p o y) .next):∃b,EX c x9 13 m B9 (uZ pat acc i b) .next:=⟨λi=>[a,B,s,p,o,y].getD i .un,h⟩
theorem Vi:∀k∈[42,63,91],[k]∈[[33,33],[33,93],[33,94],[33,92,92],[33,92,45],[42],[63],[91]]:=by decide
variable(F:Fm c.env x9 13 n9)(X:Cp c)(pre rest:Y aa)(hp:pat.length<=1000)(hl:acc.length<=100000)
include F X hp hl
theorem Ys(j:∀a,a<256->CN c "escape" [.str [a]] (.str (ie a)))(z:k<256)(h:pat=pre++(pU k++rest)):∃b,EX c x9 13 (L9 pat acc pre.length e x L A P r) B9 (uZ pat (acc++[.str (kR k)]) (pre.length+(pU k).length) b) .next:=by
 by_cases Q:k∈[42,63,91]
 .have H:pU k=[91,k,93]:=bx Q;rw [H]at h⊢;exact qG (aaZ F hp (eX 0 h (cS _)) (eX 1 h (fH _ _)) (eX 2 h (eH _)) Q hl (X.no [k] (Vi k Q)))
 .have H:pU k=[k]:=bA Q;have i:kR k=ie k:=bA Q;rw [H]at h⊢;rw [i];exact qG (aa0 F hp (eX 0 h (cS _)) Q (j k z) hl)
theorem Yr(K:jq c.B c.mg k P lM)(f:c.env.code=.ref k)(v:pat[i]?=U 91)(R:pat[i+1]?=U 33)(t:pat[i+3]?=U 93):∀A∈[93,45,92,94,33,38],pat[i+2]?=U A->∃b,EX c x9 13 (L9 pat acc i s h L e a x) B9 (uZ pat (acc++[.str (eZ (U (ae,A)))]) (i+4) b) .next:=
 bL (λw=>qG (Ff F hp v R w t (by decide) hl (X.no [33,93] (by decide)))) (bL (λw=>CK (aaX K f F hp v R w t hl (X.no _ (by decide))) λu d T r=>qG r) (bL (λw=>qG (aaY F hp v R w t hl (X.no _ (by decide)))) (bL (λw=>qG (Ff F hp v R w t (by decide) hl (X.no [33,94] (by decide)))) (bL (λw=>qG (Ff F hp v R w t (by decide) hl (X.no [33,33] (by decide)))) (bL (λw=>qG (aaW F hp v R w t hl X.amp)) eu)))))
theorem aa1(K:jq c.B c.mg e P lM)(f:c.env.code=.ref e)(j:∀a,a<256->CN c "escape" [.str [a]] (.str (ie a)))(p:Pc)(z:yd p)(h:pat=pre++(pZ p++rest)):
  ∃b,EX c x9 13 (L9 pat acc pre.length a7 a8 a9 iJ jr ru) B9 (uZ pat (acc++[.str (eZ p)]) (pre++pZ p).length b) .next:=by
 rw [dM];cases p with
 |none=>exact qG (aa3 F hp (eX 0 h yP) hl)
 |some q=>
  obtain⟨b,k⟩:=q;cases b with
  |true=>exact Yr F X hp hl K f (eX 0 h (aC J)) (eX 1 h (aC J)) (eX 3 h (aC J)) k z (eX 2 h (aC J))
  |false=>exact Ys F X pre rest hp hl j z h
end
section
variable{c:Cx O}{pat:Y aa}
theorem aa2(K:jq c.B c.mg t P lM)(v:c.env.code=.ref t)(F:Fm c.env x9 13 n9)(k:Cp c)(j:∀a,a<256->CN c "escape" [.str [a]] (.str (ie a)))(s:pat.length<=1000):∀(n:Y Pc)(m:Y aa)(o:Y T)(a:aa->AV O),pat=m++((n.map pZ).flatten++[42])->o.length+n.length<=1000->(∀p∈n,yd p)->(o=[]\/∃q f,o=q++[.str f])->
  ∃b,EW c x9 13 (jD (dZ 3 (cZ (bz 15)))) B9 [] (n.length+1) (uZ pat o m.length a) (uZ pat (o++tS (n.map eZ)++[.atom]) pat.length b) .next:=λl=>l.rec
 (λm o a h e H Q=>by
  have h:pat=m++([42]++[]):=h;have i:m.length+1=pat.length:=by rw [h,dM];rfl
  have g:o++tS (([]:Y Pc).map eZ)=o:=nV _;rw [g];have st:=aa4 (a7:=a 0) (a8:=a 1) (a9:=a 2) (iJ:=a 3) (jr:=a 4) (ru:=a 5) F s (eX 0 h yP) Q (aJ (aJ (fH _ _) e) (aC J));rw [i]at st
  exact⟨λu=>[.t (.str [42]),a 1,a 2,a 3,a 4,a 5].getD u .un,lj (zC (zv F 5 J J) (zv F 6 J J) (mO (decide_eq_true (jF.mpr (i▸eH _)))) J) st (kE (zC (zv F 5 J J) (zv F 6 J J) (mO (decide_eq_false (Int.lt_irrefl _))) J) eS)⟩)
 (λp n d m o a h e S Q=>by
  simp only [m4]at e;have x:pat=m++(pZ p++((n.map pZ).flatten++[42])):=by refine aZ (h) ?_;rw [iW,BL,kG]
  have z:m.length<pat.length:=by
   rw [x,dM,dM];exact OO (eU (aab p) (fH _ _))
  have i:o++tS ((p::n).map eZ)=(o++[.str (eZ p)])++tS (n.map eZ):=(kG o [.str (eZ p)] _).symm;refine bC (aa1 (a7:=a 0) (a8:=a 1) (a9:=a 2) (iJ:=a 3) (jr:=a 4) (ru:=a 5) F k m _ s (aJ (aJ (fH _ _) e) (aC J)) K v j p (S p (.head _)) x) λb y=>?_;refine bC (d (m++pZ p) (o++[.str (eZ p)]) b (by refine aZ (x) ?_;rw [kG]) (by rw [dM,l5];show _+(1+_)<=_;rw [l6 1];exact e) (λq R=>S q (.tail _ R)) (.inr ⟨o,eZ p,J⟩)) λw r=>?_
  exact(i)▸(⟨w,lj (zC (zv F 5 J J) (zv F 6 J J) (mO (decide_eq_true (jF.mpr z))) J) y r⟩))
end
noncomputable def lR(n:Y Pc):Y aa:=(n.map pZ).flatten++[42]
section
variable{y:Ly O}
theorem abp(s:y.DC "_translate" 15 (.ref k))(K:jq y.B y.mg k P lM)(O:u4 y)(j:∀i,i<256->y.F g "escape" [.str [i]] (.str (ie i)))(n:Y Pc)(t:n.length<=100)(H:(lR n).length<=1000)(S:∀p∈n,yd p):
  y.F (g+1) "_translate" [.str (lR n),.atom,.str [46]] (.list (tS (n.map eZ)++[.atom])):=by
 refine y.TL 15 x9 n9 s J J J (dQ J) (λu code o=>QB λe e e=>J) λx X B h F f d=>⟨[.t (.str (lR n)),.t .atom,.t (.str [46]),.t (.list (tS (n.map eZ)++[.atom])),.un,.t (.int (lR n).length),.t (.int (lR n).length),.un,.un,.un,.un,.un,.un],ND F 3 J (dQ J) (λE=>?_) J ?_⟩
 .have T:Cp ((y.c x X B g h).re E):=⟨λl z m a=>aay O K h F f d (WG l z) (λq=>(show∀l∈[[33,33],[33,93],[33,94],[33,92,92],[33,92,45],[42],[63],[91]],l≠[]by decide) l z q) ((show∀l∈[[33,33],[33,93],[33,94],[33,92,92],[33,92,45],[42],[63],[91]],l.length<=100000 by decide) l z) a,λm a=>aav O K h F f d a⟩;refine bC (aa2 (c:=(y.c x X B g h).re E) (pat:=lR n) K f F T j H n [] [] (λe=>.un) J (by show 0+_<=_;rw [l7];exact aJ t (aC J)) S (.inl J)) λb r=>?_;exact qK (qN 7 (qK (qN 8 (qK (qN 9 (qK (qN 10 (qK (qN 11 (qK (qN 12 (aV:=[.t (.str (lR n)),.t .atom,.t (.str [46]),.t (.list (tS (n.map eZ)++[.atom])),.un,.t (.int (lR n).length),.t (.int (lR n).length),b 0,b 1,b 2,b 3,b 4,b 5]) (zx (NG F 3 4 J J J (dQ J)) (zx (z2 F 5 6 5 6 J (dQ J) J (dQ J) J J (zr (zi 0) (zr (Nx F 13 J (zv F 0 J J) (eE (aJ H (aC J))) J) cR J) J) J (J) J J J J) (zx (jT r) (zx (yu (zC (zv F 5 J J) (zv F 6 J J) (aL U (beq_self_eq_true _)) J)) (NQ 3 J (Np 4 (fU (iS (kD F 3 J J)))))))))) J)) J)) J)) J)) J)) J
 .exact nS _
end
noncomputable def n4:Y (ai×fe):=[("pat",.local),("STAR",.local),("parts",.local),("object",.globalImplicit),("_translate",.globalImplicit),("_join_translated_parts",.globalImplicit)]
noncomputable def x4:Y ai:=["pat","STAR","parts"]
theorem Ve(n:Y Pc):vv (n.map eZ) [[]]=nK n:=by
 delta vv nK
 simp only [LZ,ade,kG]
 rfl
section
variable{y:Ly O}
theorem abq(E:y.D "translate" 10)(s:y.DC "_translate" 15 (.ref k))(q:y.D "_join_translated_parts" 16)(K:jq y.B y.mg k P lM)(O:u4 y)(j:∀a,a<256->y.F n "escape" [.str [a]] (.str (ie a)))(h:Y Pc)(r:h.length<=100)(H:(lR h).length<=1000)(i:(nK h).length<=100000)(S:∀p∈h,yd p):
  y.F (n+2) "translate" [.str (lR h)] (.str (nK h)):=by
 refine y.fn 10 x4 n4 E J J J (dQ J) (λt code o=>bind1 λf=>J) λb X B l F=>?_;have e:=Ve h
 have d:=abg (n:=n) q _ [[]] trivial (λA u=>cD.mp u▸iY _) (by
  rw [dM];rw [b5,b5]
  exact aJ (jH r) (aC J)) (e▸i)
 simp only [e]at d
 exact⟨[.t _,.un,.un],acn F 1 3 J (fH _ _) J (λx=>(qK (qN 1 (qK (qN 2 (zx (dD F 2 J (eH _) (oO F 4 J (zr (zv F 0 J J) (zr (zv F 1 J J) (zr (zs [46] (cB ['.'])) cR J) J) J) (abp s K O j h r H S) J) J)
  (fU (iS (oO F 5 J (zr (zv F 2 J J) (zr (zv F 1 J J) cR J) J) d J))))) J)) J)) J J J⟩
end
inductive rh(B:br Ob)(cl:Cl)(f:ai)(j:aa)(xs:Y ai):Prop
 |mk(a:ay)(ob:bN)(fd:q7)(h1:(f,a)∈cl.fs)(h2:uR cl a)(h3:ic B a 7 j ob fd xs)
structure Fx(y:Ly Ob)(cl:Cl)(C:ay)(bm:Y aD)(Bx newId JE:String):Prop where
 Z:bJ y.B y.prog y.w cl
 OC:OwnCls "CycleError" C bm newId y.mg y.B.bO
 FB:ExcBaseFacts Bx newId JE bm
 d4:y.D "translate" 10
 d7:y.D "escape" 13
 d9:∃cd P,y.DC "_translate" 15 (.ref cd)/\jq y.B y.mg cd P lM
 Ie:y.D "_join_translated_parts" 16
 CG:y.D "read_uint1" 18
 Ig:y.D "read_string1" 19
 CH:y.D "_law_made" 23
 Ih:y.D "_law_takes" 25
 Ii:y.D "_law_keeps" 26
 sp:Co y
 pt:u4 y
 mA:rh y.B cl "add" 2 nP
 mG:rh y.B cl "_get_nodeinfo" 1 qJ
 mR:rh y.B cl "get_ready" 4 sd
 mI:rh y.B cl "is_active" 5 v7
 mD:rh y.B cl "done" 7 gW
 mP:rh y.B cl "prepare" 3 oM
 mF:rh y.B cl "_find_cycle" 8 fk
 nI:∃ob fd,ic y.B cl.ni 5 1 ob fd uq
 nN:y.mg "_NodeInfo"=U (.ref cl.N)
 nO:∃t,y.mg "_NODE_OUT"=U (.int (-1) t)
 nD:∃t,y.mg "_NODE_DONE"=U (.int (-2) t)
 ir:∃a ob fd,(("__init__":ai),a)∈cl.fs/\kh y.B a ob fd (cZ (fm 7 0)) se/\fd.scope=eK (fm 7 0)/\Binds y.B y.prog y.w fd se [] [.none]
 top:y.mg "TopologicalSorter"=U (.ref cl.C)
section
variable{P g k p:aa}
theorem Yp(P g k p:aa):vP P g k p=lR (lS P g k p):=by
 delta vP lR lS
 simp only [dO,dO,OG,ade,<-kG];exact aL (_++·++[42]) (nV (pU k)).symm
theorem aaa(p:Pc):(pZ p).length<=4:=by
 match p with
 |af=>exact aC J
 |U (ae,g)=>exact aC J
 |U (ak,k)=>exact aJ (Yo k) (aC J)
theorem SZ(k:aa):(ie k).length<=2:=by
 delta ie
 split
 .exact aC J
 .exact aC J
theorem Sk(p:Pc):(eZ p).length<=5:=by
 match p with
 |af=>exact aC J
 |U (ae,g)=>
  show(91::94::ig g++[93]).length<=5
  delta ig
  split
  .exact aC J
  .exact aC J
 |U (ak,k)=>
  show(kR k).length<=5
  delta kR
  split
  .split
   .exact aC J
   .exact aC J
  .exact aJ (SZ k) (aC J)
theorem L3(v:0<P)(n:P<=6):(lS P g k p).length<=12:=by
 delta lS
 simp only [dM,iG];exact aJ (gk (gm (er k v)) (qk v)) (aJ (gk n n) (aC J))
theorem Yt(u:g∈pJ)(l:k<256):∀q∈lS P g k p,yd q:=λq S=>by
 rcases e8.mp S with h|h
 .rw [Gx h];trivial
 .rcases e8.mp h with h|h
  .rw [Gx h];exact u
  .rw [cD.mp h];exact l
theorem M5(h:n.length<=12):(nK n).length<=100000:=by
 have:=I4 eZ 5 n λq _=>Sk q
 delta nK
 simp only [dM];exact aJ (ly (wq (aJ this (uI 5 h)) _) _) (aC J)
theorem Yq(h:n.length<=12):(lR n).length<=1000:=by
 have:=I4 pZ 4 n λq _=>aaa q;exact dM▸aJ (wq (aJ this (uI 4 h)) _) (aC J)
theorem Wi(h:c.n=6)(T:Fx c.y aq aK gA eL dU eM){st:ay}{G:Y aa}(E:∀X∈G,X<256)(H:G.length<=1000)(f:4<=P)(n:P<=6)(Q:g∈pJ)(aj:b.length=P)(aB:G[0]?=U P):u3 c aq aK st G P g b:=by
 have v:=eU (cS 3) f;have aG:(gH g b).length=P:=(b5 _).trans aj;refine cps λ_ r=>dS T.d9 λeT iU bh bX=>pG T.ir λb8 eF fq dz B S O=>r ⟨h.symm▸(M9 T.Z T.CG E H aB),λR w t=>h.symm▸abn T.Z T.CG T.Ig E H R w t,⟨λk p l e_ ao=>?_,λk p l ao=>?_,⟨λx e au az R w=>?_,λx e u q A R w=>?_,λx e u q A R=>?_,λx e u q A aH R w=>?_⟩⟩,⟨λx e fP aI R w t f=>?_⟩,g8 b8 0 (h.symm▸aC J) dz (λx d=>abm T.Z B S O),T.top,λaM d o eY R w=>?_,λaM d o R w=>?_,λo R w=>?_⟩
 .delta CN
  rw [h,Yp];have y:=L3 (g:=g) (k:=k) (p:=p) v n;exact abq (n:=4) T.d4 bh T.Ie bX T.pt (λaO aP=>abb T.d7 T.sp aO aP) _ (aJ y (aC J)) (Yq y) (M5 y) (Yt Q l)
 .delta CN
  rw [h];have s:(gH g b++gH g b).length=P+P:=by refine aZ dM ?_;rw [aG]
  refine abo T.Ih (M5 (L3 (g:=g) (k:=k) (p:=p) v n)) (s▸aJ (gk n n) (aC J)) ?_;simp only [s]
  delta lS
  simp only [dM,iG];exact gk (gm (er k v)) (qk v)
 .obtain⟨aS,aW,aX,a_,bf,z⟩:=T.mA;obtain⟨gx,gy,gz,bj,iC,bu⟩:=T.mG;exact gD T.nI λdW ef bw=>vn aS aW aX a_ bf z.d.ho z.d.hd (h.symm▸(w_add T.Z z bu bw T.nN bj au az R w))
 .obtain⟨L,bF,bK,bQ,bV,F⟩:=T.mR;exact bC T.nO λb7 m=>vn L bF bK bQ bV F.d.ho F.d.hd (h.symm▸(abe T.Z F m R w))
 .obtain⟨cf,cy,cz,cA,bB,a⟩:=T.mI;exact vn cf cy cz cA bB a.d.ho a.d.hd (h.symm▸(abf T.Z a R))
 .obtain⟨cH,cK,cM,cN,cY,i⟩:=T.mD;exact cps λ_ r=>bC T.nO λb7 m=>bC T.nD λfD cC=>r (vn cH cK cM cN cY i.d.ho i.d.hd (h.symm▸aa' T.Z i m cC aH R w))
 .obtain⟨di,dm,c9,dG,gZ,j⟩:=T.mP;obtain⟨iD,iE,iT,dN,i6,aN⟩:=T.mF;exact nu di dm c9 dG j.d.ho j.d.hd (h.symm▸(abl T.Z j aN dN T.OC T.FB R aI w t f))
 .delta CN
  exact h▸abh T.Ii R w
 .show CN c _ _ _
  delta CN
  rw [h];exact Fq T.CH v (aJ n (aC J)) w R
 .delta CN
  exact h▸Fq T.CH v (aJ n (aC J)) w R
end
section
variable{ψ:Y aa->Y aa}
noncomputable def mE(ψ:Y aa->Y aa)(a:AN):AN:=(ψ a.1,a.2.1,a.2.2.map ψ)
noncomputable def mN(ψ:Y aa->Y aa)(m:Y AN):Y AN:=m.map (mE ψ)
theorem HD{T H:Type}{m:Y T}{X:T->H}{p:H->bl}{q:T->bl}(h:∀a,p (X a)=q a):(m.map X).any p=m.any q:=List.any_map.trans (aL _ (funext h))
theorem wZ{T H:Type}{m:Y T}{f:T->H}{p:H->bl}{q:T->bl}(h:∀a,p (f a)=q a):(m.map f).all p=m.all q:=List.all_map.trans (aL _ (funext h))
theorem zL(j:∀{a b},ψ a=ψ b<->a=b)(a b:Y aa):decide (ψ a=ψ b)=decide (a=b):=decide_eq_decide.mpr j
theorem w4(j:∀{a b},ψ a=ψ b<->a=b):(mN ψ m).any (λa=>decide (a.1=ψ l))=m.any λa=>decide (a.1=l):=HD λa=>zL j a.1 l
theorem I3(j:∀{a b},ψ a=ψ b<->a=b):(mN ψ m).find? (λa=>decide (a.1=ψ l))=(m.find? λa=>decide (a.1=l)).map (mE ψ):=
 List.find?_map.trans (aL (λp=>(m.find? p).map _) (funext λa=>zL j a.1 l))
theorem ow{T H:Type} [Decidable p] [Decidable q]{x O:T}{k w:H}{f:T->H}(h:q<->p)(j:k=f x)(s:w=f O):(if q then k else w)=f (if p then x else O):=by
 by_cases c:p
 .exact(bx (h.mpr c)).trans (j.trans (aL f (bx c).symm))
 .exact(bA λe=>c (h.mp e)).trans (s.trans (aL f (bA c).symm))
theorem Jg(j:∀{a b},ψ a=ψ b<->a=b):gE (mN ψ m) (ψ l)=mN ψ (gE m l):=ow (by rw [w4 j]) J (dO (l₂:=[(l,0,[])])).symm
theorem Bt(j:∀{a b},ψ a=ψ b<->a=b)(F:AN->AN)(X:AN->AN)(h:∀a,F (mE ψ a)=mE ψ (X a)):(mN ψ m).map (λa=>if a.1=ψ l then F a else a)=mN ψ (m.map λa=>if a.1=l then X a else a):=by
 delta mN;refine aZ (d5) ?_;rw [d5];exact jG λa y=>ow j (h a) J
theorem Xi(j:∀{a b},ψ a=ψ b<->a=b):lP (mN ψ m) (ψ l) d=mN ψ (lP m l d):=Bt j _ _ λy=>J
theorem aat(j:∀{a b},ψ a=ψ b<->a=b):jR (mN ψ m) (ψ l) (ψ s)=mN ψ (jR m l s):=Bt j _ _ λa=>aL (λx=>(ψ a.1,a.2.1,x)) (dO (l₂:=[s])).symm
theorem KV(j:∀{a b},ψ a=ψ b<->a=b):qw (mN ψ m) (ψ l) d=mN ψ (qw m l d):=Bt j _ _ λy=>J
theorem RG(j:∀{a b},ψ a=ψ b<->a=b):decA (mN ψ m) (ψ l)=mN ψ (decA m l):=Bt j _ _ λy=>J
theorem KW(j:∀{a b},ψ a=ψ b<->a=b):oD (mN ψ m) (ψ l)=oD m l:=by
 delta oD
 rw [I3 j];cases m.find? λa=>decide (a.1=l)<;>rfl
theorem E_(j:∀{a b},ψ a=ψ b<->a=b):jC (mN ψ m) (ψ l)=(jC m l).map ψ:=by
 delta jC
 rw [I3 j];cases m.find? λa=>decide (a.1=l)<;>rfl
theorem zY{T H e a:Type}{F:T->H->T}{X:e->a->e}{m:e->T}{n:a->H}(i:∀s p,F (m s) (n p)=m (X s p)):∀(h:Y a)(s:e),(h.map n).foldl F (m s)=m (h.foldl X s):=λx=>x.rec
 (λy=>J)
 (λp h f s=>(aL (OA F · _) (i s p)).trans (f _))
theorem P8(j:∀{a b},ψ a=ψ b<->a=b):jX (mN ψ m) (ψ l) (ps.map ψ)=mN ψ (jX m l ps):=by
 refine aZ ?_ (zY (F:=λm p=>jR _ p _) (m:=mN ψ) (n:=ψ) (λm p=>(aL (jR · _ _) (Jg j)).trans (aat j)) ps _);show OA _ _ _=_;rw [Jg j,Xi j,b5]
theorem L0(j:∀{a b},ψ a=ψ b<->a=b):gS (mN ψ m) (n.map ψ)=mN ψ (gS m n):=zY (λy y=>KV j) n m
noncomputable def mD(ψ:Y aa->Y aa)(s:Y AN×Y (Y aa)):Y AN×Y (Y aa):=(mN ψ s.1,s.2.map ψ)
theorem RD(j:∀{a b},ψ a=ψ b<->a=b)(s:Y _×Y _)(p:Y aa):rD (mD ψ s) (ψ p)=mD ψ (rD s p):=by
 show(decA (mN ψ s.1) _,if oD (decA (mN ψ s.1) _) _=0 then s.2.map ψ++[ψ p]else s.2.map ψ)=(mN ψ _,eO ψ _);rw [RG j,KW j];exact aL _ (ow Iff.rfl (dO (l₂:=[p])).symm J)
theorem Iq(j:∀{a b},ψ a=ψ b<->a=b)(s:Y _×Y _)(p:Y aa):vd (mD ψ s) (ψ p)=mD ψ (vd s p):=by
 refine aZ ?_ (zY (RD j) _ (qw s.1 p (-2),s.2));show OA rD (qw (mN ψ s.1) _ (-2),s.2.map ψ) (jC (mN ψ s.1) _)=_;rw [E_ j,KV j];rfl
theorem RU(j:∀{a b},ψ a=ψ b<->a=b):kQ (mD ψ s) (n.map ψ)=mD ψ (kQ s n):=zY (Iq j) n s
theorem LR(j:∀{a b},ψ a=ψ b<->a=b):∀{n:Y _}{s:Y _×Y _},qz (mD ψ s) (n.map ψ)=qz s n
 |[],s=>J
 |p::n,s=>by
  show((mN ψ s.1).any _&&decide (oD (mN ψ s.1) _=-1)&&(jC (mN ψ s.1) _).all (λx=>(mN ψ s.1).any λa=>decide _)&&decide ((s.2.map ψ).length+(jC (mN ψ s.1) _).length<=900)&&qz _ _)=_;rw [Iq j,LR j,w4 j,KW j,E_ j,b5,b5,wZ (p:=λx=>(mN ψ s.1).any λa=>decide _) λx=>w4 j]
  rfl
theorem Zb:gT (mN ψ m)=(gT m).map ψ:=by
 delta gT mN
 simp only [yK,d5]
 rfl
theorem Rj(j:∀{a b},ψ a=ψ b<->a=b):qh (mN ψ m)=qh m:=wZ λa=>wZ λx=>w4 j
theorem XW(j:∀{a b},ψ a=ψ b<->a=b):vK (mN ψ p) (u.map ψ) (h.map (eO ψ))=vK p u h:=by
 have y:(gS _ _,[])=mD ψ (gS p u,[]):=aL (·,[]) (L0 j)
 delta vK
 simp only [y,LR j,b5,wZ (f:=ψ) (p:=λe=>(mN ψ p).any λa=>decide (a.1=e)) λx=>w4 j]
theorem Mu(j:∀{a b},ψ a=ψ b<->a=b):∀{n:aa}{al:Y _}{rl:Y _}{rs:Y _},oH n (mN ψ al) (rl.map ψ) (rs.map (eO ψ))=(oH n al rl rs).map (eO (eO ψ))
 |0,_,_,_=>J
 |n+1,al,rl,rs=>by
  have y:(gS (mN ψ al) _,[])=mD ψ (gS al rl,[]):=aL (·,[]) (L0 j);refine aZ (Mr) ?_;rw [XW j,y,RU j];refine ow (by cases rl<;>exact Iff.rfl) J (ow Iff.rfl ?_ J);exact(aL _ (dO (l₂:=[rl])).symm).trans (Mu j)
noncomputable def mK(ψ:Y aa->Y aa)(P:Y (Y aa×aF)):Y (Y aa×aF):=P.map λx=>(ψ x.1,x.2)
noncomputable def mR(ψ:Y aa->Y aa)(r:Y (Y aa×aa)):Y (Y aa×aa):=r.map λx=>(ψ x.1,x.2)
theorem Il(j:∀{a b},ψ a=ψ b<->a=b):jv (mK ψ P) (ψ l)=jv P l:=by
 delta jv mK
 simp only [List.find?_map,Option.map_map];exact aL (λp=>(P.find? p).map yT) (funext λa=>zL j a.1 l)
theorem RW(j:∀{a b},ψ a=ψ b<->a=b):pF (mK ψ P) (ψ l) i=mK ψ (pF P l i):=by
 have e:(mK ψ P).any (λx=>decide (x.1=ψ l))=P.any λx=>decide _:=HD λa=>zL j a.1 l;refine ow (by rw [e]) ?_ (dO (l₂:=[(l,i)])).symm
 delta mK;refine aZ (d5) ?_;rw [d5]
 exact jG λa y=>ow (f:=λx:Y aa×aF=>(ψ x.1,x.2)) j J J
theorem RC(j:∀{a b},ψ a=ψ b<->a=b):nk (mK ψ P) (ψ l)=mK ψ (nk P l):=
 yK.trans (aL (λp=>(P.filter p).map λx=>(ψ x.1,x.2)) (funext λa=>decide_eq_decide.mpr (not_congr j)))
theorem Er(j:∀{a b},ψ a=ψ b<->a=b)(u:∀a,G (ψ a)=(A a).map ψ):∀{r:Y _}{P:Y _},k4 G (mR ψ r) (mK ψ P)=(k4 A r P).map λx=>(x.1.map ψ,mR ψ x.2.1,mK ψ x.2.2)
 |[],P=>J
 |(w,p)::r,P=>by
  show(match(G (ψ w))[p]? with|U l=>_|af=>_)=l9 _ (match(A w)[p]? with|U l=>U (U l,(w,p+1)::r,P)|af=>if(jv P w).isSome=ae then k4 A r _ else af);rw [u,hU];cases(A w)[p]? with
  |some l=>rfl
  |none=>exact ow (by rw [Il j]) (RC j▸Er j u) J
theorem Kw(j:∀{a b},ψ a=ψ b<->a=b){i:Y _}:ψ a∈i.map ψ<->a∈i:=⟨λh=>aA (eG.mp h) λy t e=>j.mp e▸t,fG⟩
noncomputable def mS(ψ:Y aa->Y aa):Y (Y aa)⊕Y (Y aa)×Y (Y aa×aF)->Y (Y aa)⊕Y (Y aa)×Kv
 |.inl l=>.inl (l.map ψ)
 |.inr (s,P)=>.inr (s.map ψ,mK ψ P)
theorem Rz{lo A:aY aF}{l:Y α}:cut lo A (l.map X)=(cut lo A l).map X:=by
 delta cut
 rw [b5,wm,BQ]
theorem ED(j:∀{a b},ψ a=ψ b<->a=b)(u:∀a,G (ψ a)=(A a).map ψ):∀{g:aa}{Q:Y aa}{r:Y _}{P:Y _}{i:Y _},k7 G g (ψ Q) (mR ψ r) (mK ψ P) (i.map ψ)=(k7 A g Q r P i).map (mS ψ)
 |0,_,_,_,_=>J
 |g+1,Q,r,P,i=>by
  refine ow (Kw j) ?_ (ow (by simp only [show(mR ψ r).length=r.length from b5 ..,show(mK ψ P).length=P.length from b5 ..,b5]) ?_ J)
  .rw [Il j];cases jv P Q with
   |some s=>
    exact aL (λl=>U _) ((aL (·++[ψ Q]) ((aL _ (by delta mR;simp only [d5,List.map_reverse,d5];rfl)).trans Rz)).trans (dO (l₂:=[Q])).symm)
   |none=>
    rw [Er j u];cases k4 A r P with
    |none=>rfl
    |some x=>
     obtain⟨_|l,t,k⟩:=x
     .rfl
     .exact ED j u
  .rw [show(ψ Q,0)::mR ψ r=mR ψ ((Q,0)::r)from J,show(mR ψ r).length=r.length from b5 ..,RW j,Er j u,show i.map ψ++[ψ Q]=(i++[Q]).map ψ from dO (l₂:=[Q]).symm];cases k4 A _ _ with
   |none=>rfl
   |some x=>
    obtain⟨_|l,t,k⟩:=x
    .rfl
    .exact ED j u
theorem CY(j:∀{a b},ψ a=ψ b<->a=b)(u:∀a,G (ψ a)=(A a).map ψ):∀{o seen:Y _}{kv:Y _},ql G E (o.map ψ) (seen.map ψ) (mK ψ kv)=(ql A E o seen kv).map (l9 (eO ψ))
 |[],_,_=>J
 |g::o,seen,kv=>by
  refine ow (Kw j) (CY j u) ?_;rw [show k7 G E _ [] (mK ψ kv) (seen.map ψ)=(k7 A E g [] kv seen).map (mS ψ)from ED j u (r:=[])];cases k7 A E g [] kv seen with
  |none=>rfl
  |some x=>
   cases x with
   |inl c=>rfl
   |inr O=>exact CY j u
theorem Tv(j:∀{a b},ψ a=ψ b<->a=b):nr (mN ψ m) E=(nr m E).map (l9 (eO ψ)):=by
 delta nr
 have e:(mN ψ m).map (·.1)=(m.map (·.1)).map ψ:=by refine aZ d5 ?_;simp only [d5];rfl
 exact e.symm▸CY j (λa=>E_ j) (seen:=[]) (kv:=[])
end
noncomputable def mL(i E:aa):Y aa:=(ej E).map λw=>(i+4-E+w)%4
noncomputable def tU(x:Y aa)(i:aa):aa:=x.getD i 0
noncomputable def mj(x:Y aa):Y AN:=[3,2,1,0].foldl (λm i=>jX m [i] ((mL i (tU x i)).map λa=>[a])) []
noncomputable def ug(x:Y aa):Y (aa×Y aa):=[3,2,1,0].map λi=>(i,mL i (tU x i))
noncomputable def qi(x:Y aa):bl:=[0,1,2,3].all λu=>[0,1,2,3].any λi=>decide (u∈mL i (tU x i))
noncomputable def Q4(x:Y aa)(h:bl)(y:Y (Y (Y aa))):bl:=
 decide (y.length<=10)&&((ug x).all λB=>decide ((iz y B.2).length<=100)&&(h||pR y B))&&(h||decide ((iM y).length=4)&&([0,1,2,3].all λi=>decide (i∈iM y))&&jd (iM y) (ug x))&&y.all λr=>r.all λo=>decide (o.length=1/\o.headD 0<4)
noncomputable def CA(x:Y aa):bl:=qh (mj x)&&(nr (mj x) 20).any λe=>rZ e&&e.isSome==qi x&&(if e.isSome then U []else oH 10 (mj x) (gT (mj x)) []).any λy=>Q4 x e.isSome y
theorem Ra:∀t a v b:Fin 4,CA [t.val,a.val,v.val,b.val]=ae:=by decide
section
variable{P:aa}{R:Y aF}
theorem Et(e:aa):∀(g p:aa),p<P->e<=g->(∀u,u<e->0<=R.getD ((p+u)%P) (-1))->R.getD ((p+e)%P) (-1)<0->k6 P R g p=(p+e)%P:=by
 induction e with
 |zero=>
  intro g p O a a c;simp only [wu,jm O]at c⊢;cases g with
  |zero=>rfl
  |succ g=>refine aZ (AY) ?_;rw [bA (mY.mpr c)]
 |succ e f=>
  intro g p O X h c;cases g with
  |zero=>exact bE X (Nat.not_succ_le_zero _)
  |succ g=>
   have v:=h 0 (cS _);simp only [wu,jm O]at v;have y:∀u,((p+1)%P+u)%P=(p+(u+1))%P:=λu=>by simp only [OS,l5,l6 1 u]
   refine aZ (AY) ?_;refine aZ (bx v) ?_;rw [f g _ (er _ (iH (iY _) O)) (uG X) (λu d=>by rw [y];exact h _ (GN d)) (by rw [y];exact c),y]
theorem T5(g p:aa)(h:∃u,u<g/\R.getD ((p+u)%P) (-1)<0):∃e,e<g/\(∀u,u<e->0<=R.getD ((p+u)%P) (-1))/\R.getD ((p+e)%P) (-1)<0:=by
 induction g with
 |zero=>exact h.elim λu h=>bE h.1 (OV _)
 |succ g f=>
  by_cases q:∃u,u<g/\R.getD ((p+u)%P) (-1)<0
  .exact aA (f q) λe a w=>⟨e,oZ a,w⟩
  .refine aA h λu a w=>?_;have e:=(adJ.mp a).resolve_left λr=>q ⟨u,r,w⟩;subst e;exact⟨u,eH _,λi A=>oW.mp λr=>q ⟨i,A,r⟩,w⟩
theorem round(p x:aa)(j:x<P)(O:p<P):∃u,u<P/\(p+u)%P=x:=by
 refine⟨gM P x p,qk (iH (iY _) O),?_⟩
 delta gM
 simp only [Nat.add_mod_mod,<-adF (aJ (gm O) (cE _ _)),nX,GK,jm j]
theorem Dr(G:0<P)(a:∃x,x<P/\R.getD x (-1)<0)(k:aa):∃e,e<P/\(∀u,u<e->0<=R.getD ((k%P+u)%P) (-1))/\R.getD ((k%P+e)%P) (-1)<0/\gN P R k=R.set ((k%P+e)%P) (k):=by
 refine aA a λx j c=>?_;have z:=er k G;refine aA (round (k%P) x j z) λu d e=>jL (T5 P (k%P) ⟨u,d,e.symm▸c⟩) λe h w t=>?_;exact⟨e,h,w,t,aL (λi=>R.set i _) (Et e P _ z (gm h) w t)⟩
noncomputable def emp(R:Y aF):aa:=R.countP λr=>decide (r<0)
theorem IP(h:0<emp R)(H:R.length=P):∃x,x<P/\R.getD x (-1)<0:=by
 refine aA (List.countP_pos_iff.mp h) λr T h=>?_;obtain⟨x,j,e⟩:=yL T;exact⟨x,H▸j,by simp only [fE,cP j,e];exact of_decide_eq_true h⟩
theorem Ds(G:0<P)(H:R.length=P)(h:0<emp R)(k:aa):R.getD (k6 P R P (k%P)) (-1)<0/\emp (gN P R k)+1=emp R:=by
 refine CJ (Dr G (IP h H) k) λe a w t f=>?_;have j:(k%P+e)%P<R.length:=H.symm▸er _ G;refine⟨(Et e P _ (er k G) (gm a) w t).symm▸t,?_⟩;rw [fE,cP j]at t;have t:R[(k%P+e)%P]<0:=t;have c:=ac4 (p:=λr:aF=>decide (r<0)) j;rw [decide_eq_true t,bx J]at c;rw [f]
 delta emp
 rw [ac6 j,decide_eq_true t,decide_eq_false (oW.mpr (jl k)),bx J,bA BF,wu];exact sP c
theorem Ek(G:0<P):∀(o:Y aa)(R:Y aF),R.length=P->o.length<=emp R->lQ P o R:=λo=>o.rec
 (λR y y=>trivial)
 (λk o f R H h=>by
  have A:=Ds G H (eU (cS _) h) k
  exact⟨A.1,f _ ((Ag P R k).trans H) (uG (by show o.length+1<=emp _+1;exact A.2▸h))⟩)
theorem tF(g:aa):emp (dF g (-1))=g:=by
 delta emp
 exact List.countP_replicate▸bx J
end
section
variable{P:aa}{row:Y aF}{S:Y aa}
noncomputable def je(row:Y aF)(S:Y aa):Y aF:=row.map λr=>if 0<=r/\r.toNat∈S then r else-1
theorem Al(x:aa):(je row S).getD x (-1)=if 0<=row.getD x (-1)/\(row.getD x (-1)).toNat∈S then row.getD x (-1)else-1:=by
 delta je
 refine aZ fE ?_;rw [fE,hU];cases row[x]? with
 |none=>exact(bA λh=>bE h.1 (by decide)).symm
 |some r=>rfl
theorem Am(x:aa):0<=(je row S).getD x (-1)<->dK row x=ae/\d8 row x∈S:=by
 rw [Al]
 delta dK d8
 rw [decide_eq_true_eq]
 by_cases h:0<=row.getD x (-1)/\(row.getD x (-1)).toNat∈S
 .rw [bx h];exact⟨λ_=>h,λh=>h.1⟩
 .rw [bA h];exact⟨λq=>bE q (by decide),λq=>bE q h⟩
structure za(P:aa)(row:Y aF)(k q:aa):Prop where
 lt:q<P
 at_:row.getD q (-1)=(k:aF)
 un:∀x,row.getD x (-1)=(k:aF)->x=q
theorem Bu(h:k%P<P)(S:q<P):(k%P+gM P q (k%P))%P=q:=by
 delta gM
 simp only [Nat.add_mod_mod,<-adF (aJ (gm h) (cE _ _)),nX,GK,jm S]
theorem D4(G:0<P):x∈e6 P k q<->∃u,u<gM P q (k%P)/\(k%P+u)%P=x:=by
 delta e6
 rw [eG];exact⟨λl=>aA l λu h e=>⟨u,fx.mp h,e⟩,λl=>aA l λu h e=>⟨u,fx.mpr h,e⟩⟩
theorem Tu{l:Y aF}(h:l.length=A.length)(e:∀x,l.getD x (-1)=A.getD x (-1)):l=A:=
 List.ext_getElem h λx R w=>by
  have:=e x;simp only [fE,fE,cP R,cP w]at this;exact this
theorem U9(G:0<P)(H:row.length=P)(F:za P row k q)(l:k∉S)(g:∀x∈e6 P k q,dK row x=ae/\d8 row x∈S):gN P (je row S) k=je row (S++[k]):=by
 have z:=er k G;have O:=Bu z F.lt
 have v:(je row S).getD q (-1)<0:=mY.mp λr=>l (by
  have:=((Am q).mp r).2;unfold d8 at this;rw [F.at_]at this
  exact this)
 show(je row S).set _ _=_;rw [(Et (R:=je row S) (gM P q (k%P)) P _ z (gm (qk G)) (λu h=>(Am _).mpr (g _ ((D4 G).mpr ⟨u,h,J⟩))) (O.symm▸v)),O];refine Tu (by delta je;refine aZ (kH) ?_;rw [b5,b5]) λx=>?_
 by_cases c:q=x
 .subst c;refine aZ (fE) ?_;rw [iF (by delta je;rw [b5];exact(H.symm▸F.lt)),Al,F.at_,bx ⟨jl k,iX _ (.head _)⟩];rfl
 .refine aZ fE ?_;rw [iV c,<-fE,Al,Al];have e:0<=row.getD x (-1)->(row.getD x (-1)).toNat≠k:=λv a=>c (F.un x (by simp only [<-a,Gu v])).symm
  by_cases d:0<=row.getD x (-1)/\(row.getD x (-1)).toNat∈S
  .refine aZ (bx d) ?_;rw [bx ⟨d.1,fV _ d.2⟩]
  .refine aZ (bA d) ?_;rw [bA λq=>d ⟨q.1,(e8.mp q.2).resolve_right λr=>e q.1 (cD.mp r)⟩]
theorem U_(h:0<=n.getD x (-1))(c:n.getD (k6 P n P (k%P)) (-1)<0):(gN P n k).getD x (-1)=n.getD x (-1):=by
 delta gN
 refine aZ fE ?_;rw [iV (show k6 P n P _≠x fromλe=>bE h (mY.mpr (e▸c))),<-fE]
theorem TN:∀(o:Y aa)(n:Y aF),lQ P o n->0<=n.getD x (-1)->(o.foldl (gN P) n).getD x (-1)=n.getD x (-1):=λo=>o.rec
 (λn y y=>J)
 (λk o f n l h=>by
  have e:=U_ h l.1
  simp only [m3,f _ l.2 (e.symm▸h),e])
theorem U7(G:0<P)(H:row.length=P)(F:za P row k q)(l:k∉S)(g:¬∀x∈e6 P k q,dK row x=ae/\d8 row x∈S)(o:Y aa)(L:lQ P o (gN P (je row S) k)):o.foldl (gN P) (gN P (je row S) k)≠row:=by
 have v:(je row S).getD q (-1)<0:=mY.mp λr=>l (by
  have:=((Am q).mp r).2;unfold d8 at this;rw [F.at_]at this
  exact this)
 refine CJ (Dr G ⟨q,F.lt,v⟩ k) λe R w t f=>?_;have a:=BX.mp λr=>g λx j=>by
  exact aA ((D4 G).mp j) λu d h=>h▸(Am _).mp (w u (eU d r))
 have A:(gN P (je row S) k).getD ((k%P+e)%P) (-1)=(k):=by rw [f,fE,iF (by unfold je;simp only [b5,H];exact er _ G)];rfl
 intro E;have X:=TN o _ L (A.symm▸jl k);rw [E,A]at X;have O:=F.un _ X;have b:=Bu (er k G) F.lt;have s:=adP (b.trans O.symm);rw [adE,jm (iH (yQ _ _) (qk (p:=q) (h:=k%P) G))]at s;exact bE (OM s) (BX.mpr a)
theorem Wn(G:0<P)(H:row.length=P)(q:aa->aa)(o:Y aa)(Q:o.Nodup)(F:∀k∈o,za P row k (q k))(i:je row o=row):∀(a m:Y aa),m++a=o->lQ P a (je row m)->
  (a.foldl (gN P) (je row m)=row<->∀k∈a,∀x∈e6 P k (q k),dK row x=ae/\d8 row x∈o.take (o.idxOf k)):=λa=>a.rec
 (λm h y=>by
  rw [nV]at h;subst h
  exact⟨λy k h=>bE h dP,λy=>i⟩)
 (λk a f m h L=>by
  have l:=h▸iX _ (.head _);have b:k∉m:=λz=>by
   simp only [<-h]at Q;exact(f9.mp Q).2.2 k z k (.head _) J
  have s:o.take (o.idxOf k)=m:=by
   rw [<-h,List.idxOf_append,bA b,List.idxOf_cons_self,l7,List.take_left]
  simp only [m3]
  by_cases g:∀x∈e6 P k (q k),dK row x=ae/\d8 row x∈m
  .have e:=U9 G H (F k l) b g;rw [e];have j:=L.2;simp only [e]at j;simp only [f (m++[k]) ((kG _ _ _).trans h) j];exact⟨(bL (s.symm▸g)),λr n T=>r n (.tail _ T)⟩
  .exact⟨λr=>bE r (U7 G H (F k l) b g a L.2),λr=>bE (s▸r k (.head _)) g⟩)
end
noncomputable def qy(P:aa)(w:Y bl)(h:aa):aa:=((ej P).find? λe=>!w.getD ((h+e)%P) ak).getD P
noncomputable def jM(P:aa)(s:Y bl×aa)(h:aa):Y bl×aa:=(s.1.set ((h+qy P s.1 h)%P) ae,s.2+qy P s.1 h)
noncomputable def allB:aa->Y (Y bl)
 |0=>[[]]
 |g+1=>(allB g).map (ae::·)++(allB g).map (ak::·)
noncomputable def lK(w:Y bl):aa:=w.countP λb=>!b
noncomputable def H9(P:aa)(w:Y bl)(x O:aa):bl:=decide (lK w<2)||decide (jM P (jM P (w,0) x) O=jM P (jM P (w,0) O) x)
noncomputable def w9(P:aa):bl:=(allB P).all λw=>((ej P).all λh=>decide (lK w=0)||!w.getD ((h+qy P w h)%P) ak)&&(ej P).all λx=>(ej P).all λO=>H9 P w x O
theorem Q1:w9 4=ae:=J
theorem Q2:w9 5=ae:=J
theorem Q3:w9 6=ae:=by decide+kernel
theorem Cv:∀(w:Y bl),w∈allB w.length:=λw=>w.rec
 (.head _)
 (λb w f=>by
  cases b with
  |true=>exact fV _ (fG f)
  |false=>exact iX _ (fG f))
section
variable{P:aa}
theorem H6(f:4<=P)(n:P<=6):w9 P=ae:=AU (Q:=λP=>w9 P=ae) f n Q1 Q2 Q3
theorem XU(f:4<=P)(n:P<=6)(H:w.length=P)(X:0<lK w)(j:x<P):w.getD ((x+qy P w x)%P) ak=ak:=by
 have h:=e7.mp (H6 f n) w (H▸Cv w);have h:=e7.mp (cU.mp h).1 x (fx.mpr j);rw [decide_eq_false (q1 X),yF]at h;exact yG _▸h
theorem Rq(f:4<=P)(n:P<=6)(H:w.length=P)(X:2<=lK w)(j:x<P)(s:O<P)(g:aa):jM P (jM P (w,g) x) O=jM P (jM P (w,g) O) x:=by
 have h:=e7.mp (H6 f n) w (H▸Cv w);have h:=e7.mp (e7.mp (cU.mp h).2 x (fx.mpr j)) O (fx.mpr s);unfold H9 at h;rw [decide_eq_false (fJ.mpr X),yF]at h;have h:=of_decide_eq_true h;have R:=aL Prod.fst h;have e:=aL yT h;refine B0 R ?_;show g+_+_=g+_+_;simp only [l5,l5];exact aL _ (by have e:0+_+_=0+_+_:=e;simp only [l7]at e;exact e)
theorem U8(f:4<=P)(n:P<=6)(H:w.length=P)(X:0<lK w)(j:x<P)(g:aa):(jM P (w,g) x).1.length=P/\lK (jM P (w,g) x).1+1=lK w:=by
 refine⟨kH.trans H,?_⟩;have A:(x+qy P w x)%P<w.length:=H.symm▸er _ (eU (cS 3) f);have p:=XU f n H X j;rw [fE,cP A]at p;have p:w[(x+qy P w x)%P]=ak:=p;have c:=ac4 (p:=λb:bl=>!b) A;rw [p]at c;show lK (w.set _ _)+1=_
 delta lK
 rw [ac6 A,p];exact sP c
theorem I6(f:4<=P)(n:P<=6){a b:Y aa}(p:a.Perm b):∀(w:Y bl)(g:aa),w.length=P->a.length<=lK w->(∀x∈a,x<P)->a.foldl (jM P) (w,g)=b.foldl (jM P) (w,g):=by
 induction p with
 |nil=>intro w g y y y;rfl
 |cons x p i=>
  intro w g H X j;have:=U8 f n H (eU (cS _) X) (j x (.head _)) g;exact i _ _ this.1 (uG (by simp only [<-this.2]at X;exact X)) λO s=>j O (.tail _ s)
 |swap x O l=>
  intro w g H X j;refine aZ (m3) ?_;refine aZ (m3) ?_;rw [m3,m3,Rq f n H (aJ (jH (jH (iY _))) X) (j O (.head _)) (j x (.tail _ (.head _)))]
 |trans p q h e=>
  intro w g H X j;exact(h w g H X j).trans (e w g H (p.length_eq▸X) λO s=>j O (p.mem_iff.mpr s))
end
section
variable{P:aa}{R:Y aF}
noncomputable def dh(R:Y aF):Y bl:=R.map λr=>decide (0<=r)
theorem C1(x:aa):(dh R).getD x ak=decide (0<=R.getD x (-1)):=by
 delta dh
 refine aZ fE ?_;rw [hU,fE];cases R[x]?<;>rfl
theorem XT(X:e<P)(w:∀u,u<e->0<=R.getD ((h+u)%P) (-1))(t:R.getD ((h+e)%P) (-1)<0):qy P (dh R) h=e:=by
 delta qy
 rw [adb.mpr ⟨by rw [C1,decide_eq_false (mY.mpr t)];rfl,fx.mpr X,λu d=>by rw [C1,decide_eq_true (w u d)];rfl⟩]
 rfl
theorem Io(G:0<P)(p k:aa):((p)-(k:aF)).fmod (P)=(gM P p (k%P)):=by
 rw [<-Iu (er k G),Gn _ (jl P),Gn _ (jl P),ac1,Int.sub_emod,Int.sub_emod (p) _,Int.emod_emod]
theorem RX(g:h<P)(X:e<P):gM P ((h+e)%P) h=e:=by
 delta gM
 by_cases c:h+e<P
 .simp only [jm c,l5,nX,GK,jm X]
 .have z:(h+e)%P=h+e-P:=by refine aZ (adL (fJ.mp c)) ?_;exact(jm (OW (fJ.mp c) (OJ g X)))
  simp only [z,sP (fJ.mp c),nX,jm X]
theorem aaD(h:0<=v)(j:x<R.length)(s:R.getD x (-1)<0):∀(l:Y aa),l.Nodup->((l.filter (dK (R.set x v))).map λ(p:aa)=>((p)-(R.set x v).getD p (-1)).fmod P).sum=((l.filter (dK R)).map λ(p:aa)=>((p)-R.getD p (-1)).fmod P).sum+if x∈l then((x)-v).fmod P else 0:=by
 have a:(R.set x v).getD x (-1)=v:=by refine aZ fE ?_;rw [iF j];rfl
 have i:∀O,O≠x->(R.set x v).getD O (-1)=R.getD O (-1):=λO b=>by refine aZ fE ?_;rw [iV (iZ b),<-fE]
 intro l
 induction l with
 |nil=>intro y;rfl
 |cons O l f=>
  intro Q;have S:=lu.mp Q;have f:=f (S.2)
  by_cases c:O=x
  .subst c;have k:dK (R.set O v) O=ae:=decide_eq_true (a.symm▸h);have G:¬dK R O=ae:=λq=>bE (of_decide_eq_true q) (mY.mpr s);rw [bA (S.1),Int.add_zero]at f;rw [uE k,uD G,bx (.head _),iW,List.sum_cons,f,a,Oh]
  .have e:dK (R.set x v) O=dK R O:=by delta dK;rw [i O c]
   have H:(if x∈O::l then((x)-v).fmod P else 0)=if x∈l then((x)-v).fmod P else 0:=by
    by_cases E:x∈l
    .rw [bx E,bx (.tail _ E)]
    .rw [bA E,bA λq=>(cQ.mp q).elim (λr=>c r.symm) E]
   rw [H]
   by_cases X:dK R O=ae
   .simp only [uE (e.trans X),uE X,iW,List.sum_cons,f,i O c,Int.add_assoc]
   .simp only [uD (e.symm▸X),uD X,f]
theorem IM:emp R=lK (dh R):=by
 delta emp lK dh
 simp only [List.countP_map];refine ac5 λr y=>?_;show decide _=ae<->(!decide _)=ae
 by_cases h:0<=r
 .rw [decide_eq_true h,decide_eq_false (oW.mpr h)];exact⟨nofun,nofun⟩
 .rw [decide_eq_false h,decide_eq_true (mY.mp h)];exact⟨λ_=>J,λ_=>J⟩
theorem U6(G:0<P)(H:R.length=P)(a:0<emp R)(k g:aa)(r:(ku P R).sum=(g)):jM P (dh R,g) (k%P)=(dh (gN P R k),(jM P (dh R,g) (k%P)).2)/\(ku P (gN P R k)).sum=((jM P (dh R,g) (k%P)).2):=by
 refine CJ (Dr G (IP a H) k) λe h w t f=>?_;have L:=XT h w t;have j:(k%P+e)%P<R.length:=H.symm▸er _ G;refine⟨B0 ?_ J,?_⟩
 .show(dh R).set _ ae=_;simp only [L,f]
  delta dh
  simp only [GH,decide_eq_true (jl k)]
 .show _=((g+qy P _ _:aa):aF);simp only [L,f]
  delta ku at r⊢
  refine aZ (aaD (jl k) j t _ List.nodup_range) ?_;rw [r,bx (fx.mpr (er _ G)),Io G,RX (er k G) h,Gq]
theorem CX(G:0<P):∀(o:Y aa)(R:Y aF)(g:aa),R.length=P->o.length<=emp R->(ku P R).sum=(g)->(ku P (o.foldl (gN P) R)).sum=(((o.map (·%P)).foldl (jM P) (dh R,g)).2):=λo=>o.rec
 (λR g y y h=>h)
 (λk o f R g H X r=>by
  have v:=eU (cS _) X;have S:=U6 G H v k g r;rw [m3,iW,m3,(S.1)]
  exact f _ _ ((Ag P R k).trans H) (uG (by show o.length+1<=_+1;exact(Ds G H v k).2▸X)) (S.2))
theorem DT(P g:aa):(ku P (dF g (-1))).sum=0:=by
 have:(ej P).filter (dK (dF g (-1)))=[]:=Gy.mpr λx y q=>by
  have q:=of_decide_eq_true q;simp only [fE,wh]at q
  split at q<;>exact bE q (by decide)
 delta ku
 rw [this];rfl
theorem Yu(f:4<=P)(n:P<=6)(p:a.Perm b)(H:a.length<=4):(ku P (e0 P a)).sum=(ku P (e0 P b)).sum:=by
 have G:=eU (cS 3) f;have X:=(tF P).symm▸f
 delta e0
 refine aZ (CX G a _ 0 iG (aJ H X) (DT P P)) ?_;simp only [CX G b _ 0 iG (p.length_eq▸aJ H X) (DT P P)];rw [I6 f n (p.map _) (dh _) 0 ((b5 _).trans iG) (by rw [<-IM,b5];exact aJ H X) λx j=>aA (eG.mp j) λO y e=>e▸er _ G]
end
section
variable{f:aa->aa}
theorem DZ(j:∀{a b},f a=f b->a=b):∀{a b:Y aa},a.map f=b.map f<->a=b:=λ{a b}=>List.map_inj_right λx O=>j
theorem LS(l:Y aa):(l.map f).map (λa=>[a])=(l.map λa=>[a]).map (eO f):=by refine aZ d5 ?_;simp only [d5];rfl
theorem Qd(j:∀{a b},f a=f b->a=b)(x:Y aa):[3,2,1,0].foldl (λm i=>jX m [f i] (((mL i (tU x i)).map f).map λa=>[a])) []=mN (eO f) (mj x):=by
 have h:∀(l:Y aa)(m:Y AN),l.foldl (λm i=>jX m [f i] (((mL i (tU x i)).map f).map λa=>[a])) (mN _ m)=mN _ (l.foldl _ m):=λl=>l.rec
  (λm=>J)
  (λi l s m=>by
   have e:jX (mN _ m) [f i] _=_:=P8 (ψ:=eO f) (l:=[i]) (ps:=(mL i (tU x i)).map λa=>[a]) (DZ j);refine aZ (m3) ?_;rw [LS,e]
   exact s _)
 exact h _ []
theorem Kx(j:∀{a b},f a=f b->a=b){l:Y aa}:f a∈l.map f<->a∈l:=⟨λh=>aA (eG.mp h) λb t e=>j e▸t,fG⟩
theorem Ku(j:∀{a b},f a=f b->a=b){l:Y _}:a.map f∈l.map (eO f)<->a∈l:=⟨λh=>aA (eG.mp h) λb t e=>(DZ j).mp e▸t,fG⟩
theorem Jc(y:Y _)(k:aa):(y.map (eO (eO f))).getD k []=(y.getD k []).map (eO f):=by
 refine aZ (fE) ?_;rw [hU,fE];cases y[k]?<;>rfl
theorem UZ(j:∀{a b},f a=f b->a=b)(y:Y _)(i:aa):xK (y.map (eO (eO f))) (f i)=xK y i:=by
 delta xK
 simp only [b5];refine aL (((ej y.length).filter)) (funext λk=>?_);rw [Jc];exact decide_eq_decide.mpr (Ku (a:=[i]) j)
theorem Mp(j:∀{a b},f a=f b->a=b)(y:Y _)(h:Y aa):iz (y.map (eO (eO f))) (h.map f)=iz y h:=by
 delta iz
 simp only [b5];refine aL (((ej y.length).flatMap)) (funext λk=>?_);rw [Jc,LS,yK,d5];exact aL (λp=>((y.getD k []).filter p).map λ_=>k) (funext λo=>(decide_eq_decide.mpr (Ku j)))
theorem XX(j:∀{a b},f a=f b->a=b)(y:Y _)(B:aa×Y aa):pR (y.map (eO (eO f))) (f B.1,B.2.map f)=pR y B:=by
 delta pR
 simp only [UZ j,Mp j]
theorem idx_map(j:∀{a b},f a=f b->a=b)(i:aa):∀l:Y aa,(l.map f).idxOf (f i)=l.idxOf i:=λl=>l.rec
 J
 (λa l e=>by
  simp only [iW,adi,e]
  by_cases h:a=i
  .rw [h,beq_self_eq_true,beq_self_eq_true]
  .rw [beq_false_of_ne h,beq_false_of_ne λq=>h (j q)])
theorem Vs(j:∀{a b},f a=f b->a=b)(o:Y aa)(B:aa×Y aa):rP (o.map f) (f B.1,B.2.map f)=rP o B:=by
 delta rP
 rw [idx_map j,<-wm,yK,GB];exact aL (λp=>(B.2.filter p).isEmpty) (funext λa=>(aL (!·) (decide_eq_decide.mpr (Kx j))))
theorem Vn(j:∀{a b},f a=f b->a=b)(o:Y aa)(A:Y _):jd (o.map f) (A.map λB=>(f B.1,B.2.map f))=jd o A:=wZ (Vs j o)
theorem Ur(y:Y _)(h:(y.all λr=>r.all λo=>decide (o.length=1/\o.headD 0<4))=ae):iM (y.map (eO (eO f)))=(iM y).map f:=by
 delta iM
 simp only [Oz,wj];refine aL List.flatten (jG λr T=>(aZ (d5) ?_));rw [d5];refine jG λo L=>?_;have:=of_decide_eq_true (e7.mp (e7.mp h r T) o L);obtain⟨a,rfl⟩:=adj.mp this.1
 rfl
end
noncomputable def rk(b:Y bl)(x:aa):aa:=(b.take x).countP id
noncomputable def xw(P:aa)(b:Y bl):Y aa:=(ej P).filter λx=>b.getD x ak
noncomputable def posB(P:aa)(b:Y bl)(i:aa):aa:=(xw P b).getD i 0
noncomputable def uh(P p d:aa):Y aa:=(ej d).map λu=>((p+P-d)%P+u)%P
noncomputable def De(P:aa)(b:Y bl)(p d:aa):Y aa:=((uh P p d).filter λx=>b.getD x ak).map (rk b)
noncomputable def mB(P:aa)(b:Y bl)(i d:aa):aa:=(De P b (posB P b i) d).length
noncomputable def H7(P:aa)(b:Y bl)(i d:aa):bl:=decide (mB P b i d<4)&&decide (De P b (posB P b i) d=mL i (mB P b i d))&&
 ((ej P).all λe=>b.getD e ak||!decide (posB P b ((rk b e+3)%4)∈uh P (posB P b i) d)||decide (e∈uh P (posB P b i) d))&&
 [0,1,2,3].all λu=>decide (posB P b u∈uh P (posB P b i) d)==decide (u∈mL i (mB P b i d))
noncomputable def w_(P:aa):bl:=(allB P).all λb=>decide (lK b≠P-4)||decide ((xw P b).length=4)&&[0,1,2,3].all λi=>decide (posB P b i<P)&&(b.getD (posB P b i) ak&&decide (rk b (posB P b i)=i))&&(ej P).all λd=>H7 P b i d
theorem Q5:w_ 4=ae:=J
theorem Q6:w_ 5=ae:=J
theorem Q7:w_ 6=ae:=by decide+kernel
noncomputable def C8(i o s A:aa):Y aa:=[(0+4-i)%4,(1+4-o)%4,(2+4-s)%4,(3+4-A)%4]
noncomputable def Q9(i o s A:aa):bl:=!qi [i,o,s,A]||decide (((C8 i o s A).foldl (jM 4) ([ak,ak,ak,ak],0)).2<i+o+s+A)
theorem Q_:∀i o s A:Fin 4,Q9 i.val o.val s.val A.val=ae:=by decide
theorem Q8(f:4<=P)(n:P<=6):w_ P=ae:=AU (Q:=λP=>w_ P=ae) f n Q5 Q6 Q7
structure Ck(P:aa)(b:Y bl):Prop where
 l4:(xw P b).length=4
 lt:∀i,i<4->posB P b i<P
 fu:∀i,i<4->b.getD (posB P b i) ak=ae
 rk:∀i,i<4->rk b (posB P b i)=i
 d:∀i,i<4->∀d,d<P->H7 P b i d=ae
theorem Wf{p:aa->Prop}(h:∀i∈[0,1,2,3],p i)(i:aa)(A:i<4):p i:=h i (fx.mpr A)
theorem Zh(f:4<=P)(n:P<=6){b:Y bl}(H:b.length=P)(X:lK b=P-4):Ck P b:=by
 have e:=e7.mp (Q8 f n) b (H▸Cv b);rw [decide_eq_false (λq=>q X),yF]at e;have S:=cU.mp e;have w:=S.2;have h:=λi A=>cU.mp ((λi A=>Wf (p:=λi=>_) (λi A=>e7.mp w i A) i A) i A);have p:=λi A=>cU.mp (h i A).1;exact⟨of_decide_eq_true (S.1),λi A=>of_decide_eq_true (p i A).1,λi A=>(cU.mp (p i A).2).1,λi A=>of_decide_eq_true (cU.mp (p i A).2).2,λi A d E=>e7.mp (h i A).2 d (fx.mpr E)⟩
noncomputable def fj(b:Y aF):Y aa:=(b.filter λr=>decide (0<=r)).map we
theorem Aj(h:0<=r)(b:Y aF):fj (r::b)=r.toNat::fj b:=aL _ (uE (p:=λr:aF=>decide _) (decide_eq_true h))
theorem Dy(h:¬0<=r)(b:Y aF):fj (r::b)=fj b:=aL (eO we) (uD λq=>h (of_decide_eq_true q))
theorem DB:∀(b:Y aF)(x:aa),dK b x=ae->(fj b)[rk (dh b) x]?=U (d8 b x):=λb=>b.rec
 (λx h=>bE (of_decide_eq_true h) (show¬(0)<=-1 by decide))
 (λr b f x h=>by
  cases x with
  |zero=>
   have v:0<=r:=of_decide_eq_true h;rw [Aj v];rfl
  |succ x=>
   have f:=f x h;have e:rk (dh (r::b)) (x+1)=rk (dh b) x+if decide _=ae then 1 else 0:=List.countP_cons
   have k:d8 (r::b) (x+1)=d8 b x:=J;simp only [k,e]
   by_cases v:0<=r
   .rw [bx (decide_eq_true v),Aj v,List.getElem?_cons_succ,f]
   .rw [bA λq=>v (of_decide_eq_true q),Dy v,wu,f])
theorem rH(x:aa):dK b x=(dh b).getD x ak:=(C1 x).symm
theorem abt(G:0<P)(O:p<P)(k:aa):e6 P k p=uh P p (gM P p (k%P)):=by
 have z:=er k G;have e:(p+P-gM P p (k%P))%P=k%P:=by
  delta gM
  by_cases c:k%P<=p
  .simp only [adO c,jm (iH (yQ p (k%P)) O),(adO (yQ p (k%P))).trans (aL (·+P) (adQ c)),GK,jm z]
  .have t:=aJ (gm z) (cE P p);simp only [jm (OW t (Nat.add_lt_add_right (BX.mp c) P)),adQ t,jm z]
 delta e6 uh
 rw [e]
theorem JV{P:Prop}(e:k=1000+b)(h:k<256):P:=bE (e▸h) (OU (aJ (aC J) (fH 1000 b)))
theorem Jd{F:Y aa}(Q:F.Nodup)(P:∀k∈F,k<256){b:aa}(h:F.getD a (1000+a)=F.getD b (1000+b)):a=b:=by
 have c:∀u,(∃k,F[u]?=U k/\F.getD u (1000+u)=k/\k<256)\/F.getD u _=1000+u:=λu=>by
  cases e:F[u]? with
  |none=>exact .inr (by refine aZ (fE) ?_;rw [e];rfl)
  |some k=>exact .inl ⟨k,J,by refine aZ (fE) ?_;rw [e];rfl,P k (cL e)⟩
 rcases c a with⟨k,j,d,m⟩|j<;>rcases c b with⟨i,B,s,p⟩|B
 .exact(List.getElem?_inj (ck.mp j).1 Q).mp (j.trans (by simp only [B,<-d,<-s,h]))
 .exact JV (d.symm.trans (h.trans B)) m
 .exact JV (s.symm.trans (h.symm.trans j)) p
 .exact adC (j.symm.trans (h.trans B))
theorem X9(j:∀{a b},X a=X b->a=b)(F:Y aa)(os:Y _):nC (F.map X) (os.map (eO X))=(nC F os).map (eO X):=by
 delta nC
 simp only [Oz,wj];refine aL ((os.flatMap)) (funext λo=>?_);simp only [yK,d5,(funext λx=>aL (!·) (decide_eq_decide.mpr (Kx j)):((λx=>!decide (x∈o.map X))∘X)=λx=>!decide (x∈o))];exact jG λx y=>dO (l₂:=[x]).symm
theorem X8(j:∀{a b},X a=X b->a=b)(F:Y aa):∀(g:aa)(os:Y _),kY (F.map X) g (os.map (eO X))=(kY F g os).map (eO X):=λg=>g.rec
 (λos=>J)
 (λg f os=>(aL _ (X9 j F os)).trans (f _))
theorem LW:(kY [0,1,2,3] 4 [[]]).length=24/\(kY [0,1,2,3] 4 [[]]).all (λo=>o.isPerm [0,1,2,3])=ae:=by decide
theorem DI(h:F.length=4):F=[0,1,2,3].map λu=>F.getD u (1000+u):=As (P:=λF=>F=[0,1,2,3].map λu=>F.getD u (1000+u)) (λa b c d=>J) _ h
theorem LY(h:F.length=4)(Q:F.Nodup)(P:∀k∈F,k<256):(kY F 4 [[]]).length=24/\∀o∈kY F 4 [[]],o.Perm F:=by
 rw [((aL (kY · 4 [[]]) (DI h)).trans (X8 (Jd Q P) [0,1,2,3] 4 [[]])),b5];refine⟨LW.1,λo L=>aA (eG.mp L) λH T f=>?_⟩;have:=(List.isPerm_iff.mp (e7.mp LW.2 H T)).map λu=>F.getD u (1000+u);simp only [<-DI h]at this;exact f▸this
theorem TX:∀(g:aa)(H:Y aa)(p:aa),p<256->H.length<=g->g<=255->∃u,u<=g/\(p+u)%256∉H:=λg=>g.rec
 (λH p O h y=>⟨0,ek _,by rw [adk.mp (Nat.le_zero.mp h)];exact dP⟩)
 (λg f H p O h c=>by
  by_cases E:p∈H
  .refine aA (f _ ((p+1)%256) (er _ (cS _)) (by rw [BO E];exact Nat.sub_le_of_le_add h) (adH c)) λu d q=>?_;simp only [OS,l5,l6 1 u]at q
   exact⟨u+1,jH d,λr=>q ((adq λe=>by
    have s:=adP (e.trans (jm O).symm);simp only [nX,jm (OP (aJ (jH d) c))]at s
    exact yR u s).mpr r)⟩
  .exact⟨0,iY _,by simp only [wu,jm O];exact E⟩)
theorem Yw:∀(g p:aa),p<256->(∃u,u<=g/\(p+u)%256∉A::F)->kZ A F g p∉F/\kZ A F g p≠A:=λg=>g.rec
 (λp O h=>by
  refine aA h λu d h=>?_;simp only [Nat.le_zero.mp d,wu,jm O]at h
  exact⟨λq=>h (.tail _ q),λq=>h ((show p=A from q)▸.head _)⟩)
 (λg f p O h=>by
  simp only [Ep]
  by_cases E:p∈F\/p=A
  .rw [bx E];refine aA h λu d h=>f _ (er _ (cS _)) ?_;cases u with
   |zero=>
    simp only [wu,jm O]at h;exact bE (E.elim (λq=>.tail _ q) λq=>q▸.head _) h
   |succ u=>exact⟨u,uG d,by simp only [OS,l5,l6 1 u];exact h⟩
  .rw [bA E]
   exact⟨λq=>E (.inl q),λq=>E (.inr q)⟩)
structure wO(g n:aa)(ks:Y aa):Prop where
 len:ks.length=n
 nd:ks.Nodup
 kb:∀k∈ks,k<256/\k≠g
theorem Ak(s:wO g e F)(c:e<=4)(x:aa):wO g (e+1) (tP g F x)/\¬(kZ g F 5 (x%256)∈F\/kZ g F 5 (x%256)=g):=by
 have z:x%256<256:=er _ (cS _);have S:=Yw 5 _ z (TX 5 (g::F) _ z (jH (s.len.symm▸c)) (aC J));have b:=S.1;have h:=S.2;refine⟨⟨by refine aZ dM ?_;rw [s.len];rfl,f9.mpr ⟨s.nd,lu.mpr ⟨dP,uF⟩,λj Q n t a=>b (cD.mp t▸a▸Q)⟩,λk l=>(e8.mp l).elim (s.kb k) λi=>?_⟩,λq=>q.elim b h⟩;exact cD.mp i▸⟨Yv _ _ z,h⟩
theorem Vq(A a b c d:aa):wO A 4 (nv A [a,b,c,d])/\vL A [a,b,c,d] []:=by
 have O:=Ak (g:=A) ⟨J,uF,λk h=>bE h dP⟩ (iY _) a;have i:=Ak O.1 (aC J) b;have x:=Ak i.1 (aC J) c;have f:=Ak x.1 (aC J) d;exact⟨f.1,O.2,i.2,x.2,f.2,trivial⟩
theorem aaM:∀(n:Y Pc)(l:Y aa),lW n l=ae<->∀(u:aa)(p:Pc)(x:aa),n[u]?=U p->l[u]?=U x->r3 p x=ae:=λn=>n.rec
 (λl=>⟨λy u p x h=>aU J h,λy=>J⟩)
 (λp n f l=>by
  cases l with
  |nil=>exact⟨λy u p x y h=>aU J h,λy=>J⟩
  |cons x l=>
   refine cU.trans ⟨λh u=>?_,λh=>⟨h 0 p x J J,(f l).mpr λu=>h (u+1)⟩⟩;cases u with
   |zero=>exactλi k a e=>bg a▸bg e▸h.1
   |succ u=>exact(f l).mp h.2 u)
structure eI(P g:aa)(row:Y aF):Prop where
 P4:4<=P
 P6:P<=6
 lr:row.length=P
 neg:∀r∈row,¬0<=r->r=-1
 em:emp row=P-4
 nd:(fj row).Nodup
 kb:∀k∈fj row,k<256/\k≠g
noncomputable def kf(b:Y aF)(u:aa):aa:=(fj b).getD u (1000+u)
noncomputable def dI(P:aa)(b:Y aF)(i:aa):aa:=gM P (posB P (dh b) i) (kf b i%P)
noncomputable def wI(P:aa)(b:Y aF)(i:aa):Y aa:=uh P (posB P (dh b) i) (dI P b i)
noncomputable def mI(P:aa)(b:Y aF)(i:aa):aa:=mB P (dh b) i (dI P b i)
noncomputable def kX(P:aa)(b:Y aF):Y aa:=[mI P b 0,mI P b 1,mI P b 2,mI P b 3]
noncomputable def nt(P:aa)(b:Y aF)(i:aa):bl:=(wI P b i).all (dK b)
theorem CZ(H:Ck P b):xw P b=[posB P b 0,posB P b 1,posB P b 2,posB P b 3]:=As (P:=λl=>l=[l.getD 0 0,l.getD 1 0,l.getD 2 0,l.getD 3 0]) (λa b c d=>J) _ H.l4
theorem Xd(A:aa)(x:aa)(h:x<b.length):(gH A b)[x]?=U (if dK b x=ae then d8 b x else A):=by
 refine aZ (hU) ?_;delta dK d8;exact(fE)▸(cP h)▸(aL U (ite_congr (decide_eq_true_eq (p:=(0:aF)<=b[x])).symm (λy=>J) λy=>J))
theorem DA(h:dK b x=ae):d8 b x∈fj b:=cL (DB b x h)
section
variable{P g:aa}{row:Y aF}
theorem eI.r(F:eI P g row):Ck P (dh row):=Zh F.P4 F.P6 ((b5 _).trans F.lr) (IM.symm.trans F.em)
theorem eI.p0(F:eI P g row):0<P:=eU (cS 3) F.P4
theorem JZ(h:(fj row)[u]?=U k):kf row u=k:=by refine aZ (fE) ?_;rw [h];rfl
theorem tR(F:eI P g row)(h:kf row a=kf row b):a=b:=Jd F.nd (λk l=>(F.kb k l).1) h
theorem tQ(F:eI P g row)(A:i<4):d8 row (posB P (dh row) i)=kf row i/\dK row (posB P (dh row) i)=ae:=by
 have X:=(rH _).trans (F.r.fu i A);have:=DB row _ X;rw [F.r.rk i A]at this;exact⟨(JZ this).symm,X⟩
theorem Qa(row:Y aF)(l:Y aa):kj row l=((l.filter λx=>(dh row).getD x ak).map (rk (dh row))).map (kf row):=by
 delta kj
 simp only [d5,(funext rH:dK row=λx=>(dh row).getD x ak)];exact jG λx j=>(JZ (DB row x ((rH x).trans (wo.mp j).2))).symm
theorem rC(F:eI P g row)(i:aa):dI P row i<P:=qk F.p0
theorem qg(F:eI P g row)(A:i<4):mI P row i<4/\De P (dh row) (posB P (dh row) i) (dI P row i)=mL i (mI P row i)/\(∀e,e<P->(dh row).getD e ak=ak->posB P (dh row) ((rk (dh row) e+3)%4)∈wI P row i->e∈wI P row i)/\∀u,u<4->(posB P (dh row) u∈wI P row i<->u∈mL i (mI P row i)):=by
 have h:=F.r.d i A _ (rC F i);have S:=cU.mp h;have h:=S.1;have f:=S.2;have S:=cU.mp h;have t:=S.2;have S:=cU.mp (S.1);refine⟨of_decide_eq_true (S.1),of_decide_eq_true (S.2),λe X q r=>?_,λu d=>?_⟩
 .have:=e7.mp t e (fx.mpr X);rw [q,yF]at this;exact((N6 _ _).mp this).elim (λs=>bE r (of_decide_eq_false ((yG _).mp s))) of_decide_eq_true
 .exact decide_eq_decide.mp (eq_of_beq (e7.mp f u (fx.mpr d:u∈ej 4)))
theorem yp(F:eI P g row)(i:aa)(A:i<4):e6 P (kf row i) (posB P (dh row) i)=wI P row i:=abt F.p0 (F.r.lt i A) _
theorem Cs(F:eI P g row)(A:i<4):kj row (wI P row i)=(mL i (mI P row i)).map (kf row):=by
 simp only [Qa];exact aL _ (qg F A).2.1
theorem Eb(F:eI P g row)(h:u<2*P):(gH g row++gH g row)[u]?=U (if dK row (u%P)=ae then d8 row (u%P)else g):=by
 have i:(gH g row).length=P:=(b5 _).trans F.lr;rw [<-Xd g _ (F.lr.symm▸er _ F.p0)]
 by_cases c:u<P
 .refine aZ (j9 (i.symm▸c)) ?_;rw [jm c]
 .refine aZ (jV (i.symm▸fJ.mp c)) ?_;rw [i,adL (fJ.mp c),jm (OW (fJ.mp c) (Nat.two_mul P▸h))]
theorem aaL(F:eI P g row)(A:i<4):lW (lS P g (kf row i) (posB P (dh row) i)) (gH g row++gH g row)=nt P row i:=by
 have z:=er (kf row i) F.p0;have E:=rC F i;have h:=λ{x}=>D4 (x:=x) (k:=kf row i) (q:=posB P (dh row) i) F.p0;rw [yp F i A]at h;have S:=tQ F A;rw [oU]
 delta nt
 rw [aaM,e7]
 delta lS
 refine⟨λe x j=>?_,λe u p x O b=>?_⟩
 .obtain⟨u,d,rfl⟩:=h.mp j;have o:=kI d E;have:=e _ _ _ (by refine aZ (jV (by rw [iG];exact fH _ _)) ?_;rw [iG,nX,j9 (by rw [iG];exact d),wh,bx d]) (Eb F (DU z o))
  by_cases X:dK row ((kf row i%P+u)%P)=ae
  .exact X
  .rw [bA X]at this;have this:((g==g)!=ae)=ae:=this;rw [beq_self_eq_true]at this;exact cW J (this)
 .by_cases c:u<kf row i%P
  .rw [j9 (by rw [iG];exact c),wh,bx c]at O;exact bg O▸J
  .obtain⟨w,rfl⟩:=Nat.exists_eq_add_of_le (fJ.mp c);rw [jV (by rw [iG];exact fH _ _),iG,nX]at O
   by_cases m:w<gM P (posB P (dh row) i) (kf row i%P)
   .have X:=e _ (h.mpr ⟨w,m,J⟩);rw [j9 (iG▸m),wh,bx m]at O;rw [Eb F (DU z (kI m E)),bx X]at b;simp only [<-bg O,<-bg b];show((g==_)!=ae)=ae;rw [beq_false_of_ne λa=>(F.kb _ (DA X)).2 a.symm];rfl
   .rw [jV (by rw [iG];exact fJ.mp m),iG]at O;have n:=Nat.lt_one_iff.mp (ck.mp O).1;have s:=lz (OM n) (fJ.mp m);rw [n]at O;subst s;rw [Eb F (DU z (show gM P _ _<P from E)),(Bu (k:=kf row i) z (F.r.lt i A)),bx (S.2),(S.1)]at b;simp only [<-bg O,<-bg b];show((kf row i==kf row i)!=ak)=ae;rw [beq_self_eq_true];rfl
noncomputable def E7(P g:aa)(row:Y aF)(s:Pl)(p:aa):Pl:=⟨lW (lS P g (d8 row p) p) (gH g row++gH g row)&&s.fd,jX s.al [d8 row p] ((kj row (e6 P (d8 row p) p)).map λa=>[a]),s.ws++[(d8 row p,kj row (e6 P (d8 row p) p))],s.ps++e6 P (d8 row p) p⟩
theorem Bg(F:eI P g row)(i:aa)(A:i<4)(s:Pl):E7 P g row s (posB P (dh row) i)=⟨nt P row i&&s.fd,jX s.al [kf row i] (((mL i (mI P row i)).map (kf row)).map λa=>[a]),s.ws++[(kf row i,(mL i (mI P row i)).map (kf row))],s.ps++wI P row i⟩:=by
 delta E7
 simp only [(tQ F A).1,aaL F A,yp F i A,Cs F A]
theorem vN(F:eI P g row):eB P g row=⟨nt P row 0&&(nt P row 1&&(nt P row 2&&(nt P row 3&&ae))),mN (eO (kf row)) (mj (kX P row)),(ug (kX P row)).map λB=>(kf row B.1,B.2.map (kf row)),[]++wI P row 3++wI P row 2++wI P row 1++wI P row 0⟩:=by
 have e:eB P g row=[posB P (dh row) 3,posB P (dh row) 2,posB P (dh row) 1,posB P (dh row) 0].foldl (E7 P g row) ⟨ae,[],[],[]⟩:=by
  have:(ej P).reverse.filter (dK row)=[posB P (dh row) 3,posB P (dh row) 2,posB P (dh row) 1,posB P (dh row) 0]:=by
   refine aZ (List.filter_reverse) ?_;rw [show dK row=λx=>(dh row).getD x ak from funext rH];exact aL List.reverse (CZ F.r)
  simp only [<-this,List.foldl_filter];rfl
 refine aZ (e) ?_;rw [m3,Bg F 3 (by decide),m3,Bg F 2 (by decide),m3,Bg F 1 (by decide),m3,Bg F 0 (by decide)];have:=Qd (f:=kf row) (tR F) (kX P row);simp only [<-this];rfl
end
section
variable{P g:aa}{row:Y aF}{o:Y aa}
theorem r4{p:aa->Prop}:(∀i∈[3,2,1,0],p i)<->∀i,i<4->p i:=⟨λh i A=>h i (BS.mp (fx.mpr A)),λh i A=>h i (fx.mp (BS.mpr A:i∈ej 4))⟩
theorem I2(F:eI P g row):(eB P g row).fd=ae<->∀i,i<4->∀x∈wI P row i,dK row x=ae:=by
 rw [vN F];show(nt P row 0&&(nt P row 1&&(nt P row 2&&(nt P row 3&&ae))))=ae<->_;rw [<-r4,uz,cU,cU,cU];have e:∀i,nt P row i=ae<->∀x∈wI P row i,dK row x=ae:=λi=>e7;exact⟨λh=>bL ((e 3).mp h.2.2.2) (bL ((e 2).mp h.2.2.1) (bL ((e 1).mp h.2.1) (bL ((e 0).mp h.1) eu))),λh=>⟨(e 0).mpr (h 0 (dH 3 J)),(e 1).mpr (h 1 (dH 2 J)),(e 2).mpr (h 2 (dH 1 J)),(e 3).mpr (h 3 (dH 0 J))⟩⟩
theorem Mb(F:eI P g row)(x:aa):x∈(eB P g row).ps<->∃i,i<4/\x∈wI P row i:=by
 rw [vN F];rw [e8,e8,e8,yM];exact⟨λh=>h.elim (λh=>h.elim (λh=>h.elim (λh=>⟨3,by decide,h⟩) λh=>⟨2,by decide,h⟩) λh=>⟨1,by decide,h⟩) λh=>⟨0,by decide,h⟩,λl=>aA l λi A h=>((r4 (p:=λi=>x∈wI P row i->((x∈wI P row 3\/x∈wI P row 2)\/x∈wI P row 1)\/x∈wI P row 0)).mp (bL (λh=>.inl (.inl (.inl h))) (bL (λh=>.inl (.inl (.inr h))) (bL (λh=>.inl (.inr h)) (bL .inr eu)))) i A h)⟩
theorem DX(P:aa)(row:Y aF):∀i,i<4->tU (kX P row) i=mI P row i:=r4.mp (bL J (bL J (bL J (bL J eu))))
theorem T6(F:eI P g row)(h:dK row x=ae):x<P:=BX.mp λq=>by
 delta dK at h
 rw [fE,adg (F.lr.symm▸q)]at h;exact bE h (by decide)
theorem C2(F:eI P g row)(h:dK row x=ae):∃i,i<4/\x=posB P (dh row) i:=by
 have E:x∈xw P (dh row):=wo.mpr ⟨fx.mpr (T6 F h),(rH x).symm.trans h⟩;rw [CZ F.r]at E;exact bL (P:=λO=>∃i,i<4/\O=posB P (dh row) i) ⟨0,by decide,J⟩ (bL ⟨1,by decide,J⟩ (bL ⟨2,by decide,J⟩ (bL ⟨3,aC J,J⟩ eu))) x E
theorem Ic(F:eI P g row):(Ax P (eB P g row).ps).isEmpty=qi (kX P row):=by
 have e:qi (kX P row)=ae<->∀u,u<4->∃i,i<4/\posB P (dh row) u∈wI P row i:=by
  delta qi
  rw [e7];refine⟨λh u d=>?_,λh u d=>?_⟩
  .obtain⟨i,A,q⟩:=qY.mp (h u (fx.mpr d));have A:=fx (n:=4).mp A;exact⟨i,A,((qg F A).2.2.2 u d).mpr (DX P row i A▸of_decide_eq_true q)⟩
  .have d:=fx (n:=4).mp d;obtain⟨i,A,q⟩:=h u d;exact qY.mpr ⟨i,(fx.mpr A),decide_eq_true (by exact(DX P row i A)▸(((qg F A).2.2.2 u d).mp q))⟩
 rw [oU,e,GA]
 delta Ax
 rw [Gy];have v:∀x,(¬(!decide _)=ae)<->∃i,i<4/\x∈wI P row i:=λx=>by
  rw [<-Mb F x,yG,decide_eq_false_iff_not,N9]
 refine⟨λh u d=>(v _).mp (h _ (fx.mpr (F.r.lt u d))),λh x j=>(v x).mpr ?_⟩
 by_cases X:dK row x=ae
 .obtain⟨u,d,rfl⟩:=C2 F X;exact h u d
 .exact aA (h _ (er _ (cS 3))) λi A q=>⟨i,A,(qg F A).2.2.1 x (fx.mp j) (by rw [<-rH];exact acH.mpr X) q⟩
theorem Rb(F:eI P g row):CA (kX P row)=ae:=Ra ⟨_,(qg F (by decide:0<4)).1⟩ ⟨_,(qg F (aC J)).1⟩ ⟨_,(qg F (by decide:2<4)).1⟩ ⟨_,(qg F (aC J)).1⟩
theorem Wy(F:eI P g row)(h:k∈fj row):∃i,i<4/\k=kf row i:=by
 refine cps λn b=>?_;obtain⟨r,T,rfl⟩:=eG.mp h;have S:=wo.mp T;obtain⟨x,j,e⟩:=yL (S.1);have a:row.getD x (-1)=r:=by refine aZ (fE) ?_;rw [cP j,e];rfl
 have X:dK row x=ae:=by delta dK;exact a▸(S.2)
 obtain⟨i,A,rfl⟩:=C2 F X;refine b ?_;exact⟨i,A,by simp only [<-(tQ F A).1];delta d8;rw [a]⟩
theorem DD(F:eI P g row)(A:i<4):kf row i∈fj row:=(tQ F A).1▸DA (tQ F A).2
theorem HJ(F:eI P g row)(A:i<4):za P row (kf row i) (posB P (dh row) i):=by
 have S:=tQ F A;refine⟨F.r.lt i A,(S.1)▸(Gu (of_decide_eq_true (S.2))).symm,λx j=>?_⟩;obtain⟨u,d,rfl⟩:=C2 F (decide_eq_true (j▸jl _));exact aL _ (tR F ((tQ F d).1.symm.trans (aL we j)))
theorem Ft(F:eI P g row)(B:aa×Y aa):B∈(eB P g row).ws<->∃i,i<4/\B=(kf row i,kj row (wI P row i)):=by
 have e:(eB P g row).ws=[3,2,1,0].map λi=>(kf row i,kj row (wI P row i)):=by
  rw [vN F];exact aZ d5 (jG (r4.mpr λi A=>by simp only [Cs F A,<-DX P row i A];rfl))
 rw [e,eG];exact⟨λl=>aA l λi h e=>⟨i,fx.mp (BS.mpr h),e.symm⟩,λl=>aA l λi h e=>⟨i,BS.mp (fx.mpr h:i∈ej 4),e.symm⟩⟩
theorem Iw(F:eI P g row)(p:o.Perm (fj row)):((eB P g row).fd&&jd o (eB P g row).ws)=decide (e0 P o=row):=by
 let q:=λk=>posB P (dh row) (((ej 4).find? λi=>decide (kf row i=k)).getD 0)
 have S:∀i,i<4->q _=posB P _ i:=λi A=>by
  show posB P _ _=_;rw [adb.mpr ⟨decide_eq_true J,fx.mpr A,λc d=>by rw [decide_eq_false λe=>fW d (tR F e)];rfl⟩]
  rfl
 have z:∀k∈o,∃i,i<4/\k=kf row i:=λk h=>Wy F (p.mem_iff.mp h);have m:je row []=dF P (-1):=ac9.mpr ⟨(b5 _).trans F.lr,λu t=>aA (eG.mp t) λr y e=>e.symm.trans (bA λh=>bE (h.2) dP)⟩
 have l:je row o=row:=(jG λr T=>by
  by_cases h:0<=r
  .exact bx ⟨h,p.mem_iff.mpr (fG (wo.mpr ⟨T,decide_eq_true h⟩))⟩
  .exact(bA λq=>h q.1).trans (F.neg r T h).symm).trans (BR _)
 have b:=Wn F.p0 F.lr q o (p.nodup_iff.mpr F.nd) (λk h=>aA (z k h) λi A e=>by subst e;simp only [S i A];exact HJ F A) l o [] J (m.symm▸Ek F.p0 o _ iG (by
  simp only [tF,p.length_eq,<-F.lr]
  exact aJ (f_ (b5 _)) (BP _ _)))
 simp only [m]at b;rw [oU,decide_eq_true_eq,cU,I2 F];refine Iff.trans ?_ b.symm;have s:∀i,rP o (kf row i,kj row _)=ae<->∀a∈kj row (wI P row i),a∈o.take (o.idxOf (kf row i)):=λi=>by
  delta rP
  rw [GA,Gy];exact forall_congr' λa=>imp_congr_right λy=>by rw [yG,decide_eq_false_iff_not,N9]
 have f:jd o (eB P g row).ws=ae<->∀i,i<4->∀a∈kj row (wI P row i),a∈o.take (o.idxOf (kf row i)):=by
  delta jd
  rw [e7];exact⟨λh i A=>(s i).mp (h _ ((Ft F _).mpr ⟨i,A,J⟩)),λh B v=>aA ((Ft F B).mp v) λi A e=>e▸(s i).mpr (h i A)⟩
 simp only [f];refine⟨λh k n x j=>?_,λh=>⟨λi A x j=>(h _ (p.mem_iff.mpr (DD F A)) x (by simp only [S i A,yp F i A];exact j)).1,λi A a Q=>?_⟩⟩
 .obtain⟨i,A,rfl⟩:=z k n;simp only [S i A,yp F i A]at j;have X:=h.1 i A x j;exact⟨X,h.2 i A _ (fG (wo.mpr ⟨j,X⟩))⟩
 .obtain⟨x,j,rfl⟩:=eG.mp Q;exact(h _ (p.mem_iff.mpr (DD F A)) x (by simp only [S i A,yp F i A];exact(wo.mp j).1)).2
end
theorem Vt:∀(p:aa),p<n.length->n.getD p (-1)<0->(fj (n.set p (k))).Perm (k::fj n):=n.rec
 (λp h y=>bE h (OV _))
 (λr n f p O c=>by
  cases p with
  |zero=>
   have c:r<0:=c;simp only [Dy (mY.mpr c)];exact .refl _
  |succ p=>
   have f:=f p (adI O) c;simp only [List.set_cons_succ]
   by_cases h:0<=r
   .simp only [Aj h,Aj h];exact(f.cons _).trans (.swap _ _ _)
   .simp only [Dy h]
    exact f)
theorem DG(n:Y aF):(fj n).length+emp n=n.length:=by
 delta fj emp
 rw [b5,<-List.countP_eq_length_filter,List.length_eq_countP_add_countP (λr:aF=>decide (0<=r))];exact aL _ (ac5 λr y=>by simp only [decide_eq_true_eq,decide_eq_true_eq,decide_eq_true_eq];exact mY.symm)
noncomputable def wQ(n:Y aF):Prop:=∀r∈n,¬0<=r->r=-1
theorem WW(h:wQ n)(p k:aa):wQ (n.set p (k:aF)):=λr T g=>(List.mem_or_eq_of_mem_set T).elim (λq=>h r q g) λq=>bE (q▸jl k) g
section
variable{P:aa}
theorem Kq(G:0<P):∀(o:Y aa)(n:Y aF),n.length=P->o.length<=emp n->wQ n->(o.foldl (gN P) n).length=P/\wQ (o.foldl (gN P) n)/\(fj (o.foldl (gN P) n)).Perm (o++fj n):=λo=>o.rec
 (λn H y c=>⟨H,c,.refl _⟩)
 (λk o f n H X c=>by
  have i:=Ds G H (eU (cS _) X) k;have S:=f _ ((Ag P n k).trans H) (uG (by show o.length+1<=emp _+1;simp only [i.2];exact X)) (WW c _ k);have g:=S.2.2;refine⟨(S.1),(S.2.1),g.trans (((Vt (k:=k) _ ?_ i.1).append_left o).trans List.perm_middle)⟩;exact Nat.lt_of_not_le λq=>by
   have:=i.2;unfold gN at this;rw [List.set_eq_of_length_le q]at this
   exact q1 (eH _) this)
theorem aaE(A:i<n.length)(d:u<n.length):(qF n i u).Perm n:=by
 delta qF
 simp only [fE,cP A,cP d];exact List.set_set_perm A d
theorem WL(A:i<n.length)(d:u<n.length):(rU n i u vU).Perm n:=by
 exact(adu.trans (by rw [adx])).trans (aaE A d)
theorem Zn(f:4<=P)(n:P<=6)(s:wO A 4 F)(p:o.Perm F)(x:i<P)(d:u<P):(e0 P o).length=P/\eI P A (rU (e0 P o) i u vU)/\(fj (rU (e0 P o) i u vU)).Perm F:=by
 have g:(e0 P o).length=P/\wQ (e0 P o)/\(fj (e0 P o)).Perm _:=Kq (eU (cS 3) f) o _ iG (by simp only [tF,(p.length_eq.trans s.len)];exact f) λr T y=>Gx T;refine gg g λa v b=>?_
 have m:=wg (by
  have:=DG (dF P (-1));simp only [tF,iG]at this
  exact Nat.add_eq_right.mp this)
 simp only [m,nV]at b;have e:=WL (vU:=vU) (a.symm▸x) (a.symm▸d);have h:(fj _).Perm F:=((e.filter _).map _).trans (b.trans p);refine⟨a,⟨f,n,e.length_eq.trans a,λr T=>v r (e.mem_iff.mp T),?_,h.nodup_iff.mpr s.nd,λk l=>s.kb k (h.mem_iff.mp l)⟩,h⟩;have:=DG (rU (e0 P o) i u vU);simp only [h.length_eq,s.len,e.length_eq,a]at this;exact(Nat.sub_eq_of_eq_add' this.symm).symm
end
theorem Y3:∀(b:Y aF)(m:Y aa)(E:aa),m.length=E->u5 (m++b.flatMap jh) E (jB b):=λb=>b.rec
 (λm E y=>trivial)
 (λr b f m E h=>by
  have e:m++(r::b).flatMap jh=m++jh r++b.flatMap jh:=by simp only [BK,kG]
  have A:=f (m++jh r);rw [<-e]at A;subst h;have d:∀w:Y aa,(m++w).drop (m.length+1)=w.drop 1:=λw=>by refine aZ List.drop_append ?_;rw [ac7 (uH _),nX];rfl
  have a:∀w:Y aa,(m++w)[m.length]?=w[0]?:=λw=>by refine aZ (jV (ek _)) ?_;rw [Nat.sub_self]
  rw [BK]at A⊢;have i:=dM (as:=m) (bs:=jh r);unfold jh at i A⊢
  by_cases h:0<=r
  .rw [bx h]at i A⊢;simp only [show jB (r::b)=[r.toNat]::jB b from aL (·::jB b) (bx h)];show _/\_;rw [a,d];exact⟨J,J,aC J,A _ i⟩
  .rw [bA h]at i A⊢;simp only [show jB (r::b)=[]::jB b from aL (·::jB b) (bA h)];show _/\_;rw [a,d]
   exact⟨J,J,aC J,A _ i⟩)
theorem XR:∀b:Y aF,(b.flatMap jh).length<=2*b.length:=λb=>b.rec (ek _) λr b f=>by
 rw [BK,dM,m4,Nat.mul_succ,l6];exact gk f (LP r)
theorem XS(h:∀k∈fj b,k<256):∀x∈b.flatMap jh,x<256:=λx j=>by
 refine aA (qZ.mp j) λr T j=>?_;unfold jh at j
 by_cases c:0<=r
 .rw [bx c]at j;exact bL (P:=λx=>x<256) (aC J) (bL (h _ (fG (wo.mpr ⟨T,decide_eq_true c⟩))) eu) x j
 .rw [bA c]at j;exact bL (P:=λx=>x<256) (aC J) eu x j
section
variable{P g:aa}{row:Y aF}{o:Y aa}
theorem DH(F:eI P g row):fj row=[0,1,2,3].map (kf row):=DI (by
 have:=DG row;simp only [F.em,F.lr]at this
 exact Nat.add_right_cancel (this.trans (Nat.add_sub_cancel' F.P4).symm))
theorem We(F:eI P g row):(ku P row).sum=((dI P row 0+(dI P row 1+(dI P row 2+dI P row 3)):aa)):=by
 have:(ej P).filter (dK row)=[posB P (dh row) 0,posB P (dh row) 1,posB P (dh row) 2,posB P (dh row) 3]:=by
  rw [funext rH];exact CZ F.r
 delta ku
 rw [this];have h:∀i,i<4->((posB P _ i)-row.getD _ (-1)).fmod P=(dI P row i):=λi A=>by
  rw [(HJ F A).at_];exact Io F.p0 _ _
 show _+(_+(_+(_+0)))=_;simp only [h 0 (by decide),h 1 (by decide),h 2 (by decide),h 3 (by decide),Int.add_zero,Gq,Gq]
theorem Mc(F:eI P g row):(eB P g row).ps.length=dI P row 0+(dI P row 1+(dI P row 2+dI P row 3)):=by
 rw [vN F];show([]++wI P row 3++wI P row 2++wI P row 1++wI P row 0).length=_;have h:∀i,(wI P row i).length=dI P row i:=λi=>(b5 _).trans oX;refine aZ dM ?_;simp only [dM,dM,yM,h,h,h,h,l6,l6 _ (dI P row 1),l6 (dI P row 3)]
theorem xN(F:eI P g row)(p:o.Perm (fj row)):o.length=4:=p.length_eq.trans ((aL _ (DH F)).trans J)
theorem ls_eq(F:eI P g row)(p:o.Perm (fj row))(a:H.Perm (fj row))(h:e0 P H=row):(ku P (e0 P o)).sum=((eB P g row).ps.length):=by
 refine aZ (Yu F.P4 F.P6 (p.trans a.symm) (f_ (xN F p))) ?_;simp only [h,We F,Mc F]
noncomputable def T4:Y bl:=[ae,ae,ae,ae]
theorem YO:∀i:Fin 4,posB 4 T4 i.val=i.val:=by decide
theorem Wm:∀i d:Fin 4,mB 4 T4 i.val d.val=d.val:=by decide
theorem Zl:∀a,a<4->∀d,d<4->a=((a+d)%4+4-d)%4:=by decide
theorem Wd(F:eI P g row)(p:o.Perm (fj row))(a:(eB P g row).fd=ae)(v:qi (kX P row)=ae):(ku P (e0 P o)).sum<((eB P g row).ps.length):=by
 have h:=λx j=>by
  have:=Ic F;rw [v,GA]at this;have:=Gy.mp this x (fx.mpr j);rw [yG,decide_eq_false_iff_not,N9,Mb F]at this;exact aA this λi A q=>(I2 F).mp a i A x q
 have n:emp row=0:=List.countP_eq_zero.mpr λr T q=>by
  obtain⟨x,j,e⟩:=yL T;have:=of_decide_eq_true (h x (F.lr▸j));simp only [fE,cP j,e]at this;exact bE (of_decide_eq_true q) (oW.mpr this)
 have f:=lz (OM (F.em.symm.trans n)) F.P4;subst f
 have k:dh row=T4:=ac9.mpr ⟨(b5 _).trans F.lr,λb t=>by
  obtain⟨x,j,e⟩:=yL t;have:=h x (((b5 (λr:aF=>decide (0<=r))).trans F.lr)▸j);simp only [rH,fE,show(dh row)[x]?=U b from(cP j).trans (aL U e)]at this
  exact this⟩
 have s:=λi A=>k.symm▸YO ⟨i,A⟩;have Q:∀i,i<4->mI 4 row i=dI 4 row i:=λi A=>by
  delta mI
  exact k▸Wm ⟨i,A⟩ ⟨_,rC F i⟩
 have L:=λi A=>by
  have E:=rC F i;have:(kf row i%4+dI 4 row i)%4=posB 4 _ i:=Bu (er _ (cS 3)) (F.r.lt i A);exact(Zl _ (er _ (cS 3)) _ E).trans (aL (λl=>(l+4-dI 4 row i)%4) (this.trans (s i A)))
 have m:((fj row).map (·%4))=C8 (dI 4 row 0) (dI 4 row 1) (dI 4 row 2) (dI 4 row 3):=by
  rw [DH F];show [kf row 0%4,kf row 1%4,kf row 2%4,kf row 3%4]=_;simp only [L 0 (by decide),L 1 (by decide),L 2 (by decide),L 3 (by decide)];rfl
 have lo:o.length<=emp (dF 4 (-1)):=f_ (xN F p);unfold e0;simp only [CX (P:=4) (by decide) o (dF 4 (-1)) 0 J lo (DT 4 4),I6 (P:=4) (by decide) (by decide) (p.map (·%4)) (dh (dF 4 (-1))) 0 J (by rw [b5];exact lo) λx j=>aA (eG.mp j) λO y e=>e▸er _ (cS 3),m,Mc F];have q:=Q_ ⟨_,rC F 0⟩ ⟨_,rC F 1⟩ ⟨_,rC F 2⟩ ⟨_,rC F 3⟩;have q:(!qi [dI 4 row 0,dI 4 row 1,dI 4 row 2,dI 4 row 3]||decide (((C8 (dI 4 row 0) (dI 4 row 1) (dI 4 row 2) (dI 4 row 3)).foldl (jM 4) ([ak,ak,ak,ak],0)).2<dI 4 row 0+dI 4 row 1+dI 4 row 2+dI 4 row 3))=ae:=q;have v:qi [mI 4 row 0,mI 4 row 1,mI 4 row 2,mI 4 row 3]=ae:=v;simp only [Q 0 (by decide),Q 1 (by decide),Q 2 (by decide),Q 3 (by decide)]at v;rw [v,l5,l5]at q;exact jF.mpr (of_decide_eq_true q)
end
section
variable{P g:aa}{row:Y aF}{o:Y aa}{ks:Y aa}
theorem any_some{T:Type}{x:aY T}{p:T->bl}(h:x.any p=ae):∃a,x=U a/\p a=ae:=by
 cases x with
 |none=>exact cW J h
 |some a=>exact⟨a,J,h⟩
theorem Us(F:eI P g row){l:Y aa}(R:l.length=4)(w:([0,1,2,3].all λi=>decide (i∈l))=ae):(l.map (kf row)).Perm (fj row):=by
 simp only [DH F];refine List.Perm.map _ ?_;have E:=λi A=>of_decide_eq_true (e7.mp w i A);have t:=E 0 (dH 0 J);refine List.Perm.symm ?_;have b:∀(l:Y aa)(x O s u:aa),x∈l->O∈l.erase x->s∈(l.erase x).erase O->u∈((l.erase x).erase O).erase s->l.length=4->[x,O,s,u].Perm l:=λl x O s u j h f e H=>by
  refine((((((?_:[u].Perm _).cons s).trans (GJ f).symm).cons O).trans (GJ h).symm).cons x).trans (GJ j).symm;have:=GJ e;simp only [(wg (by refine aZ (BO e) ?_;rw [BO f,BO h,BO j,H]))]at this;exact this.symm
 have p:∀{x O:aa}{l:Y aa},x∈l->x≠O->x∈l.erase O:=λk a=>(adq a).mpr k;exact b _ 0 1 2 3 t (p (E 1 (dH 1 J)) (jN J)) (p (p (E 2 (dH 2 J)) (by decide)) (by decide)) (p (p (p (E 3 (dH 3 J)) (jN J)) (jN J)) (jN J)) R
structure q9(ms:Y aa)(res:aY (Y (Y aa)))(out:Y (Y (Y aa))):Prop where
 hc:qh (mj ms)=ae
 f1:nr (mj ms) 20=U res
 h1:rZ res=ae
 h2:res.isSome=qi ms
 f2:(if res.isSome then U []else oH 10 (mj ms) (gT (mj ms)) [])=U out
 o1:out.length<=10
 o2:∀u∈ug ms,(iz out u.2).length<=100/\(res.isSome||pR out u)=ae
 o3:(res.isSome||(decide ((iM out).length=4)&&([0,1,2,3].all λi=>decide (i∈iM out))&&jd (iM out) (ug ms)))=ae
 o4:(out.all λr=>r.all λo=>decide (o.length=1/\o.headD 0<4))=ae
theorem chr(h:CA x=ae):∃e y,q9 x e y:=
 bM (cU.mp h) λv h=>aA (any_some h) λe k h=>bM (cU.mp h) λh L=>bM (cU.mp h) λR w=>aA (any_some L) λy G L=>bM (cU.mp L) λL i=>bM (cU.mp L) λL u=>bM (cU.mp L) λt H=>
  ⟨e,y,v,k,R,eq_of_beq w,G,of_decide_eq_true t,λB d=>bM (cU.mp (e7.mp H B d)) λa b=>⟨of_decide_eq_true a,b⟩,u,i⟩
section
variable{ms:Y aa}{res:aY (Y (Y aa))}{out:Y (Y (Y aa))}
theorem q9.nil(a:q9 ms res out)(q:res.isSome=ae):out=[]:=by
 have f2:=a.f2;rw [q]at f2;exact bg f2.symm
theorem q9.four(a:q9 ms res out)(q:res.isSome=ak):(iM out).length=4/\([0,1,2,3].all λi=>decide (i∈iM out))=ae/\jd (iM out) (ug ms)=ae:=by
 have o3:=a.o3;simp only [q]at o3;exact bM (cU.mp o3) λh b=>bM (cU.mp h) λj d=>⟨of_decide_eq_true j,d,b⟩
theorem Cu(F:eI P g row):(eB P g row).al=mN (eO (kf row)) (mj (kX P row)):=aL Pl.al (vN F)
theorem Na(F:eI P g row):(eB P g row).ws=(ug (kX P row)).map λB=>(kf row B.1,B.2.map (kf row)):=aL Pl.ws (vN F)
theorem Di(F:eI P g row):eO (kf row) a=eO (kf row) b<->a=b:=DZ (tR F)
theorem AS(F:eI P g row)(h:o.Perm (fj row)):lQ P o (dF P (-1))/\∀k∈o,k<1000:=⟨Ek F.p0 _ _ iG (by rw [tF,xN F h];exact F.P4),λk l=>kI (F.kb k (h.mem_iff.mp l)).1 (aC J)⟩
theorem Jt(F:eI P g row)(h:q9 (kX P row) res out)(q:res.isSome=ak):((iM out).map (kf row)).Perm (fj row)/\decide (e0 P ((iM out).map (kf row))=row)=(eB P g row).fd:=
 gg (h.four q) λj d b=>by
  have a:=Us F j d;refine⟨a,(Iw F a).symm.trans ?_⟩;simp only [Na F,Vn (tR F),b,uz]
theorem Zs(F:eI P g row)(a:q9 (kX P row) res out)(q:res.isSome=ak):oH 10 (eB P g row).al (gT (eB P g row).al) []=U (out.map (eO (eO (kf row)))):=by
 have G:=a.f2;rw [q,bA BF]at G;exact(Cu F)▸(Zb)▸((Mu (Di F) (n:=10) (al:=mj (kX P row)) (rl:=gT (mj (kX P row))) (rs:=[])).trans (aL (l9 _) G))
theorem Zw(F:eI P g row)(a:q9 (kX P row) res out)(p:o.Perm (fj row)):wU P g (e0 P o) row (res.map (eO (eO (kf row)))) (out.map (eO (eO (kf row)))):=by
 have i:=Ur (f:=kf row) out a.o4;have e:(res.map (eO (eO (kf row)))).isSome=res.isSome:=Option.isSome_map;refine⟨?_,e.trans (a.h2.trans (Ic F).symm),λx=>e.trans ?_,aJ (f_ (b5 _)) (aJ a.o1 (aC J)),λf d=>?_,?_,λr T o L=>?_,?_⟩
 .rw [e];cases q:res.isSome with
  |true=>exact .inl ⟨J,by rw [a.nil q];rfl⟩
  |false=>exact .inr ⟨J,10,Zs F a q⟩
 .cases q:res.isSome with
  |true=>exact(decide_eq_true (Wd F p x (a.h2.symm.trans q))).symm
  |false=>exact bM (Jt F a q) λh b=>(decide_eq_false λs=>Int.ne_of_lt s (ls_eq F p h (of_decide_eq_true (b.trans x)))).symm
 .rw [Na F]at d;refine aA (eG.mp d) λv l n=>?_;subst n;rw [e,Mp (tR F)];refine⟨aJ (a.o2 v l).1 (aC J),λq=>?_⟩;rw [XX (tR F)];have b:=(a.o2 v l).2;rw [q]at b;exact b
 .rw [i,b5];cases q:res.isSome with
  |true=>rw [a.nil q];exact aC J
  |false=>exact aJ (f_ (a.four q).1) (aC J)
 .refine aA (eG.mp T) λt k c=>?_;subst c;refine aA (eG.mp L) λH j y=>bC (adj.mp (of_decide_eq_true (e7.mp (e7.mp a.o4 t k) H j)).1) λh B=>⟨kf row h,?_⟩;subst y B
  rfl
 .exact(e)▸(i)▸(λq=>bM (Jt F a q) λh b=>⟨(AS F h).1,(AS F h).2,b⟩)
end
theorem YB(F:eI P g row)(s:wO g 4 ks)(t:(fj row).Perm ks)(p:o.Perm ks):PlainL P g (kY ks 4 [[]]) (e0 P o) row:=by
 refine bM (LY s.len s.nd λk l=>(s.kb k l).1) λxW v=>gD (chr (Rb F)) λe y a=>?_;have n:∀{o:Y aa},o.Perm ks->o.Perm _:=λh=>h.trans t.symm;refine⟨F.P4,F.P6,F.lr,(Kq F.p0 o _ iG (by rw [tF,xN F (n p)];exact F.P4) λz i u=>Gx i).1,λm j=>F.kb _ (DA j),by rw [Cu F,Rj (Di F)];exact a.hc,by rw [xW];exact aC J,λH T=>?_,List.filter_congr λH T=>Iw F (n (v H T)),⟨20,e.map _,y.map _,by rw [Cu F,Tv (Di F),a.f1];rfl,?_,Zw F a (n p)⟩⟩
 .have q:=n (v H T);refine⟨by rw [xN F q];exact aC J,(AS F q).1,(AS F q).2,λB d=>aA ((Ft F B).mp d) λr A x=>?_⟩;subst x;refine⟨q.mem_iff.mpr (DD F A),?_⟩;rw [Cs F A,b5];exact aJ (f_ ((b5 _).trans oX)) (aJ (gm (qg F A).1) (aC J))
 .have R:=a.h1;cases e with
  |none=>rfl
  |some c=>
   refine bM (cU.mp R) λf b=>cU.mpr ⟨?_,by rw [b5];exact b⟩;rw [GB];exact f
theorem Xo(d i u T w e:aa):∃P g o row,Hf d i [u,T,w,e] P g o row:=by
 have x:=er d (cS 2);have f:4<=4+d%3:=fH _ _;have n:4+d%3<=6:=ly (BV x) 4;have v:=eU (cS 3) f;have a:d/3%6<pJ.length:=er _ (cS 5);have S:=Vq pJ[d/3%6] u T w e;have s:=S.1;have z:=S.2;have S:=LY s.len s.nd λk l=>(s.kb k l).1;have xW:=S.1;have h:=S.2;have lo:i%24<(kY (nv pJ[d/3%6] [u,T,w,e]) 4 [[]]).length:=xW.symm▸er _ (cS 23);have p:=h _ (List.getElem_mem lo);have S:=Zn (vU:=d/18%2) f n s p (er (i/24) v) (er (i/144) v);have F:=S.2.1;have b:=S.2.2;refine⟨4+d%3,pJ[d/3%6],_,_,J,cP a,z,f_ s.len,cP lo,?_,?_,J,YB F s b p,?_,?_,?_⟩
 .exact Ek v _ _ iG (by simp only [tF,p.length_eq,s.len];exact f)
 .exactλk l=>kI (s.kb k (p.mem_iff.mp l)).1 (aC J)
 .exact Y3 _ [_] 1 J
 .exact bL (iH n (aC J)) (XS λk l=>(F.kb k l).1)
 .exact aJ (jH (XR _)) (by rw [F.lr];exact aJ (jH (uI 2 n)) (aC J))
end
noncomputable abbrev Ly.r2(O:Ly Ob)(v:Inv O.B.tabs):Ly Ob:={O with B:=O.B.re v,G:=fy.re O.G}
theorem VN:cZ (bz 27)=[bH 0,bH 1,bH 2,bH 3,bH 4,bH 5,bH 6,bH 7,bH 8,bH 9,bH 10,bH 11,bH 12,bH 13,bH 14,bH 15,bH 16,bH 17,bH 18,bH 19,bH 20,bH 21,bH 22,bH 23,bH 24,bH 25]:=J
section
variable{y:Ly Ob}
theorem VK(T:Fx (y.r2 V2) z di cC bV cK cz)(aH:y.DC "_law_stream" 21 (.ref bh))(K:jq (y.B.re V1) y.mg bh bj [])(bu:∀{X S h},V1.I X h->V1.I S h)(emp:∀{X h},y.B.inv X h->TabAt h bj #[]/\V1.I X h)(Q:∀{X h},V1.I X h->V2.I X h)
  (G:y.D "_law_keys" 22)(az:y.D "_law_made" 23)(aB:y.D "_law_moved" 24)
  {o:bN}{u code:aD}(aM:y.B.bO.get? l=U o)(aO:o.data=.func (docDef "law" (ik (bz 27)) (cZ (bz 27)) (eK (bz 27)) u code k))(L:y.B.bO.CodeRec code "law")
  {fz:Fz}{v:aD}{s:aT}{Rs:Result->aT->Prop}(d:dB n 7)(bK:n.frames=U [])(a:Ready y.B fz s){sc:Y aF}(H:Den ρ fz v (.list (sc.map .int)))(E:sc.length<=100)
  (A:∀O j,bS s O->(∀b,b∉y.B.tabs->∀x,s.heap.get? b=U x->O.heap.get? b=U x)->V2.I j O.heap->Rs (.ok (.ret (.bool ae))) O):
  codeAny (model y.prog y.w) n (.call (.ref l) ⟨[v],[]⟩) Rs s:=by
 have aj:pe (eK (bz 27)) bP:=lU (by decide+kernel);have ao:bindArgs (docDef "law" (ik (bz 27)) (cZ (bz 27)) (eK (bz 27)) u code k) ⟨[v],[]⟩=pure (fh bP [v]):=J;have aq:(eK (bz 27)).names.lookup ("script":ai)=U .local:=by decide+kernel
 refine Pb d.d (a.base _ _ aM) aO (y.G.nolimit a.base) (L.keeps a.base) J ao J (λx au=>?_) (λg r=>?_) J J J
 .have:=cD.mp au;exact this.symm▸(.inl aq)
 let B:=callEnvC (docDef "law" (ik (bz 27)) (cZ (bz 27)) (eK (bz 27)) u code k) s.heap.objs.size l
 let c:=y.c (n.deeper B) ρ B 6 d.deeper
 have aI:Fm c.env bP 31 dj:=ko (by decide+kernel) J;have aK:jI (c.r2 V2) []:=⟨(aR ([]) (N2 bK) (λe aN=>(bE (aN) dP))),J,by show(eK (bz 27)).kind≠_;exact nofun,λm F=>(nomatch F),λX h _ m F=>(nomatch F),λX h bX aP aS=>V2.of aP (λb o b7 _ e=>e) λP aW o e=>(aS P aW o e).elim id λq=>(nomatch q.1)⟩;have aX:bJ c.B c.prog c.w z:=⟨T.Z.ob,λaG=>T.Z.iw aG,T.Z.ok⟩;have m:=VI (c:=c) (V1:=V1) (V2:=V2) aX aK aI (show 1<=6 by exact cS _) aH K bu emp Q (λbf cA R w t=>abi (n:=5) G R w t) (λP o R w t f=>Fq (n:=5) az R w t f) (λa_ b8 cf st R w t f=>abj (n:=5) aB R w t f) T.OC T.FB
  (λst cy P bf a_ R w t f bB bF bw=>Wi (c:=c.r2 V2) J T R w t f bB bF bw) Xo sc E
 simp only [<-VN]at m;refine m _ fz g _ _ J (E5 (B:=y.B) (ρ:=ρ) (fz:=fz) (xs:=bP) (wc:=[.list (sc.map .int)]) (vs:=[v]) (fd:=docDef "law" (ik (bz 27)) (cZ (bz 27)) (eK (bz 27)) u code k) (a:=l) (s:=s) (s₁:=g) aj J J a (.cons H .nil) (dQ J) r) λO j cH q i=>?_;obtain⟨_,cM,cN,i⟩:=i;exact dS r.done λcY c9 bQ dm=>A O j (bS.trans (bS.of bQ) q) (λb p x e=>i.kept b x (by show(if b∈y.B.tabs then af else s.heap.get? b)=U x;exact(bA p).trans e)) i.inv
end
noncomputable abbrev Es:bZ:=PySem.Challenge.rw_rx0064_01.row.prog
noncomputable def pL(u:bR):Cl:={K:=hK u.params,C:=154,N:=57,fs:=[("__init__",90),("_get_nodeinfo",97),("add",104),("prepare",109),("get_ready",116),("is_active",123),("done",137),("_find_cycle",144)],ni:=53,p0:=58,p1:=59,p2:=60}
theorem VC(u:bR):sV (pL u)where
 pg:=λy=>J
 hd:=J
 sa:=J
 po:=J
 DY:=J
 J4:=J
 J3:=J
 lt:=cE _ _
 HH:=J
 Ja:=J
 Ec:=λy=>J
 KH:=J
 AM:=J
 AK:=J
 KT:=J
 KN:=J
 KM:=J
 s0:=⟨J,J,J,J,J⟩
 s1:=⟨J,J,J,J,J⟩
 s2:=⟨J,J,J,J,J⟩
noncomputable def t0:bN:=⟨.none,af,.fields #[],#[]⟩
noncomputable def tabI(A:cu):Prop:=∀P∈([212,184]),A.get? P=U t0
noncomputable def lB(u:bR)(h:cu):br Ob where
 ob:=Hg Es u (pL u)
 ok:=λy=>True
 bO:=rest h [212,184]
 base:=λy=>trivial
 frame:=λx y k=>XF x k
 tabs:=[212,184]
 inv:=λ_=>tabI
 live:=λi P G=>dc (i P G)
 tN:=λi y k P G=>k P G _ (i P G)
theorem tT:212∈([212,184]:Y ay):=.head _
theorem vA:184∈([212,184]:Y ay):=.tail _ (.head _)
theorem zw{p:ay->Prop}(a:p 212)(b:p 184):∀P∈([212,184]),p P:=bL a (bL b eu)
noncomputable def Ao(u:bR)(h:cu):Inv (lB u h).tabs where
 I:=λ_ A=>(∃n,TabAt A 212 n)/\TabAt A 184 #[]
 live:=λi=>zw (aA i.1 λn e y=>dc e) (dc i.2.1)
 of:=λi y k=>⟨aA i.1 λn e r=>aR n (k 212 tT _ e) r,k 184 vA _ i.2.1,i.2.2⟩
noncomputable def pM(u:bR)(h:cu):Inv (lB u h).tabs where
 I:=λX A=>(∃n,TabAt A 212 n)/\∃n,TabAt A 184 n/\q_ X lM n
 live:=λi=>zw (aA i.1 λn e y=>dc e) (aA i.2 λn e y=>dc e.1)
 of:=λi l k=>⟨aA i.1 λn e r=>aR n (k 212 tT _ e) r,aA i.2 λn e c=>⟨n,⟨k 184 vA _ e.1,e.2⟩,c.le l⟩⟩
theorem Sj(i:tabI A):TabAt A 212 #[]/\(Ao u h).I X A:=⟨⟨i 212 tT,trivial⟩,⟨#[],i 212 tT,trivial⟩,i 184 vA,trivial⟩
theorem Yb(i:(Ao u h).I X A):(pM u h).I X A:=⟨i.1,#[],i.2,λx j a e=>aU J e⟩
theorem Ef{l:Y ay}(g:h.Ns a E)(q:a∉l):(rest h l).Ns a E:=iL g λo A H e r=>kq o A H (nF e q) r
section
variable{w:bR}{h:cu}{mg mb:ai->aY aD}
theorem gi(T:(hK w.params).In h)(k:bG (rest h [212,184]) A):(hK w.params).In A:=λa o e=>by
 refine k a o (nF (T a o e) λq=>?_);have c:∀P∈([212,184]:Y ay),(hK w.params).lookup P=af:=by
  intro P G;simp only [cQ,dP,or_false]at G;rcases G with rfl|rfl<;>kernel_rfl
 exact aU (c a q) e
theorem Br(T:TopRead p m mg mb h):TopRead p m mg mb (rest h [212,184]):=
 ⟨Ef T.g (nofun),Ef T.b (nofun),aA T.nolimit λs g e=>aR s (Ef g (nofun)) e,T.builtins,T.free⟩
theorem Qx(e:(hK w.params).In h)(T:TopRead p m mg mb h)(i:aa)(x:ai)(v:aD)(a:u9[i]?=U (x,v)):mg x=af/\mb x=U v:=by
 have s:(u9.all λO=>(nsIn (hK w.params) mainGlobals O.1==U af)&&(bootBuiltins O.1==U O.2)&&!(O.1==("__name__":ai)))=ae:=J;have:=e7.mp s (x,v) (cL a);simp only [yE,beq_iff_eq,yG]at this;refine bM this λu c=>bM (u) λl b=>?_;exact⟨mg_none_of e T.g l,by refine aZ (T.builtins x (by simpa using c)) ?_;exact b⟩
noncomputable def lY(e:(hK w.params).In h)(T:TopRead p m mg mb h):Ly Ob where
 B:=lB w h
 prog:=Es
 w:=w
 mg:=mg
 mb:=mb
 G:=⟨λk=>(Br T).g.keeps k,λk=>(Br T).b.keeps k,λk=>(Br T).nolimit.keeps k⟩
 bi:=Qx e T
theorem n_{H:br Ob}(e:∀{A},bG H.bO A->(hK w.params).In A)(G:h.Ns mainGlobals mg)(T:(hK w.params).In h){X:ai}(a c:ay)(o B:bN)(O:nsIn (hK w.params) mainGlobals X=U (U (.ref a)))(b:(hK w.params).lookup a=U o)
  (i:o.data=.func (docDef X (ik (bz g)) (cZ (bz g)) (eK (bz g)) u (.ref c) x))(v:(hK w.params).lookup c=U B)(E:B.data=.fields z)(r:z[1]?=U (.str X s)):o9 H mg X g:=
 UQ a o u _ x (mg_of T G O) (λk=>e k _ _ b) i (λk=>qp c B z s J (e k _ _ v) E r)
theorem Im(e:(hK w.params).In h)(T:TopRead p m mg mb h)(a c:ay)(o B:bN)(O:nsIn (hK w.params) mainGlobals X=U (U (.ref a)))(b:(hK w.params).lookup a=U o)
  (i:o.data=.func (docDef X (ik (bz g)) (cZ (bz g)) (eK (bz g)) u (.ref c) x))(v:(hK w.params).lookup c=U B)(E:B.data=.fields z)(r:z[1]?=U (.str X s)):(lY e T).DC X g (.ref c):=
 qp a o u x (mg_of e T.g O) (λk=>gi e k _ _ b) i (λk=>(qp c B z s J (gi e k _ _ v) E r))
theorem tV(e:(hK w.params).In h)(T:TopRead p m mg mb h)(a c:ay)(o B:bN)(O:(X,a)∈(pL w).fs)(f:uR (pL w) a)(b:(hK w.params).lookup a=U o)
  (i:o.data=.func {docDef X (ik (fm 7 u)) (cZ (fm 7 u)) (eK (fm 7 u)) l (.ref c) s with qualname:=q})(v:(hK w.params).lookup c=U B)(E:B.data=.fields z)(r:z[1]?=U (.str q x))(g:pe (eK (fm 7 u)) n):rh ((lY e T).r2 (pM w h)).B (pL w) X u n:=
 ⟨a,o,_,O,f,⟨⟨λk=>gi e k _ _ b,i,λk=>qp c B z x J (gi e k _ _ v) E r,J,J,g,J,J⟩,J,J,J,J⟩⟩
end
section
variable{w:bR}
theorem tC(w:bR):∀x∈(pL w).fs,uR (pL w) x.2:=by
 intro x j;have R:((pL w).fs.all λx=>specialIn (hK w.params) (.ref x.2) "__get__"==U (U (.builtin "function.__get__"))&&takesIn (hK w.params) (.ref x.2)==U ak&&fnIn (hK w.params) x.2)=ae:=J;have:=e7.mp R x j;simp only [yE,beq_iff_eq]at this;exact⟨this.1.1,this.1.2,this.2⟩
noncomputable def xq(P:cT):jo DictEntry:=match(Lg P).data with|.dict A _=>A|_=>#[]
noncomputable def JN(s:ai):aD->bl
 |.str x _=>x==s
 |_=>ak
theorem Va(h:JN s v=ae):∃B,v=.str s B:=by
 cases v with
 |str x B=>exact⟨B,by rw [eq_of_beq h]⟩
 |_=>exact cW J h
theorem U'{v:aD}(h:v.isInt i=ae):∃B,v=.int i B:=by
 cases v with
 |int u B=>exact⟨B,by rw [eq_of_beq (a:=u) h]⟩
 |_=>exact cW J h
noncomputable def HZ(P:cT)(a:aa):bl:=bif decide (a∈lV)then(findBy O8 (xq P) (a:aF)).any (JN (cj [92,a]))else(findBy O8 (xq P) (a)).isNone
theorem Q0(P:cT):(ej 256).all (HZ P)=ae:=by kernel_rfl
noncomputable def Vj(P:cT):bl:=(xq P).toList.all λe=>e.key.isInt e.hash&&e.hash==hashInt e.hash
theorem Vk(P:cT):Vj P=ae:=J
set_option tactic.hygienic true in
theorem Z9(h:(hK w.params).In a)(T:TopRead p m d r a):Co ((lY h T).r2 (pM w a))where
 ex:=by
  refine my 172 (findBy O8 (xq w.params)) (mg_of h T.g J) J (λ{A}k=>?_) (λi Q=>?_)
  .refine vn _ (xq w.params) _ (gi h k _ _ J) (c_ J J J) J (λe X=>?_) (λy=>J);have:=e7.mp (Vk w.params) e (Array.mem_toList_iff.mpr X);exact bM (cU.mp this) λR x=>(U' R).elim λb l=>aR e.hash (by rw [l];exact bx J) (eq_of_beq x)
  .have:=e7.mp (Q0 w.params) i (fx.mpr Q);unfold HZ at this
   by_cases z:i∈lV
   .rw [decide_eq_true z]at this;refine aA ((GO _ _).mp this) λv e q=>?_;obtain⟨B,rfl⟩:=Va q;exact .inr ⟨z,B,e⟩
   .rw [decide_eq_false z]at this;exact .inl ⟨z,Option.isNone_iff_eq_none.mp this⟩
theorem YS(h:(hK w.params).In e)(T:TopRead p m d r e):u4 ((lY h T).r2 (pM w e))where
 ex:=aR 163 (mg_of h T.g J) (λk=>⟨Lc w.params,_,_,_,_,162,Lb w.params,_,gi h k _ _ J,J,J,J,gi h k _ _ J,J⟩)
theorem HP(e:(hK w.params).In h)(T:TopRead p m d r h)(t:h.BuiltinsAt d 64)(G:P∈([212,184]))(k:bG (rest h [212,184]) A):A.BuiltinsAt d P:=by
 refine IA t λq Q a b c x i X=>?_;have z:=mg_of e T.g (n:="__builtins__") (v:=.ref 4) J;rw [z]at a;obtain rfl:=jn (bg a);exact Jy 4 Q z b c (zw (by decide) (by decide) P G) (k _ _ (nF i (nofun))) X
theorem aaS(x:(hK w.params).In h)(T:TopRead p m d r h)(t:h.BuiltinsAt d 64)(v:∀{A},bG (rest h [212,184]) A->lF A c 212):jq ((lB w h).re (Ao w h)) d c 212 []where
 tab:=tT
 hd:=v
 at_:=λi=>aA i.1 λn e y=>⟨n,⟨e,y⟩,λb j=>bE j dP⟩
 put:=λi y k e=>⟨aA e λn a _=>⟨n,a⟩,k 184 vA (jN J) _ i.2.1,i.2.2⟩
 ne:=jN J
 bm:=(HP x T t tT)
theorem aaR(e:(hK w.params).In h)(T:TopRead p m d b h)(t:h.BuiltinsAt d 64)(v:∀{A},bG (rest h [212,184]) A->lF A c 184):jq ((lB w h).re (pM w h)) d c 184 lM where
 tab:=vA
 hd:=v
 at_:=λi=>i.2
 put:=λi y k a=>⟨aA i.1 λn x r=>aR n (k 212 tT (jN J) _ x) r,a⟩
 ne:=jN J
 bm:=(HP e T t vA)
theorem zE(T:(hK w.params).In h)(b:(hK w.params).lookup c=U o)(i:o.cls=.type "code")(v:o.data=.fields z)(E:z[11]?=U (.ref P))(r:z.getD 18 .none=.str X s)(x:z.getD 7 .none=.int a q)(t:z.getD 9 .none=.bool l)(n:z.getD 10 .none=.int e j)(d:c≠P)
  (k:bG (rest h [212,184]) A):lF A c P:=
 ⟨o,z,X,s,a,q,l,e,j,gi T k _ _ b,i,v,E,by refine aZ Array.getD_eq_getD_getElem? ?_;rw [E];rfl,r,x,t,n,d⟩
theorem U2(h:(hK w.params).In e)(T:TopRead p m d r e):∃i Q k,(("__init__":ai),i)∈(pL w).fs/\kh ((lY h T).r2 (pM w e)).B i Q k (cZ (fm 7 0)) se/\k.scope=eK (fm 7 0)/\Binds ((lY h T).r2 (pM w e)).B ((lY h T).r2 (pM w e)).prog w k se [] [.none]:=by
 refine nu 90 _ _ (.head _) ⟨λa=>gi h a _ _ J,J,λa=>qp 89 _ _ _ J (gi h a _ _ J) J J,J,J,lU (J),J,J⟩ J ?_;intro F X B z f s l P g x b G;obtain rfl:=b.jg J;refine BindsTo.of_defaults J (gi h x.base _ _ J) J J J _ _ _ _ (G s f [.none] (cg.refl x) (.cons .none .nil) (bG.refl _))
end
section
theorem T7(h:(hK u.params).In e)(T:TopRead p m d r e)(t:e.BuiltinsAt d 64):Fx ((lY h T).r2 (pM u e)) (pL u) 72 [.type "ValueError",.type "Exception",.type "BaseException",.type "object"] "ValueError" "ValueError.__new__" "ValueError.__init__"where
 Z:=⟨J,λk=>gi h k,VC u⟩
 OC:=own_of_in (gi h (bG.refl _)) (Br T) (J) (by kernel_rfl)
 FB:=PySem.F.excBase_ValueError
 d4:=n_ (gi h) T.g h 170 169 (Lf u.params) (Ld u.params) (by kernel_rfl) J J J J J
 d7:=n_ (gi h) T.g h 182 181 (Li u.params) (Lh u.params) (by kernel_rfl) J J J J J
 d9:=(gh 188 184 (Im h T 189 188 (Lk u.params) (Lj u.params) (by exact J) J J J J J) (aaR h T t (zE h J J J J J J J J (by exact nofun))))
 Ie:=n_ (gi h) T.g h 196 195 (Lm u.params) (Ll u.params) (by kernel_rfl) J J J J J
 CG:=n_ (gi h) T.g h 203 202 (Lo u.params) (Ln u.params) (by kernel_rfl) J J J J J
 Ig:=n_ (gi h) T.g h 210 209 (Lq u.params) (Lp u.params) (by kernel_rfl) J J J J J
 CH:=n_ (gi h) T.g h 231 230 (Ei u.params) (Eh u.params) (by kernel_rfl) J J J J J
 Ih:=n_ (gi h) T.g h 245 244 (LB u.params) (LA u.params) (by kernel_rfl) J J J J J
 Ii:=n_ (gi h) T.g h 250 249 (LD u.params) (LC u.params) (by kernel_rfl) J J J J J
 sp:=Z9 h T
 pt:=YS h T
 mA:=tV h T 104 103 (K1 u.params) (K0 u.params) (by exact cL (i:=2) J) (tC u ("add",104) (by exact cL (i:=2) J)) J J J J J (lU (by decide+kernel))
 mG:=tV h T 97 96 (LJ u.params) (LI u.params) (by exact cL (i:=1) J) (tC u ("_get_nodeinfo",97) (by exact cL (i:=1) J)) J J J J J (lU (by decide+kernel))
 mR:=tV h T 116 115 (K5 u.params) (K4 u.params) (by exact cL (i:=4) J) (tC u ("get_ready",116) (by exact cL (i:=4) J)) J J J J J (lU (by decide+kernel))
 mI:=tV h T 123 122 (K7 u.params) (K6 u.params) (by exact cL (i:=5) J) (tC u ("is_active",123) (by exact cL (i:=5) J)) J J J J J (lU (by decide+kernel))
 mD:=tV h T 137 136 (K9 u.params) (K8 u.params) (by exact cL (i:=6) J) (tC u ("done",137) (by exact cL (i:=6) J)) J J J J J (lU (by decide+kernel))
 mP:=tV h T 109 108 (K3 u.params) (K2 u.params) (by exact cL (i:=3) J) (tC u ("prepare",109) (by exact cL (i:=3) J)) J J J J J (lU (by decide+kernel))
 mF:=tV h T 144 143 (La u.params) (K_ u.params) (by exact cL (i:=7) J) (tC u ("_find_cycle",144) (by exact cL (i:=7) J)) J J J J J (lU (by decide+kernel))
 nI:=⟨LH u.params,_,⟨λk=>gi h k _ _ J,J,λk=>(qp 52 (LG u.params) _ _ J (gi h k _ _ J) J J),J,J,lU (by decide+kernel),J,J⟩,J,J,J,J⟩
 nN:=mg_of h T.g (by exact J)
 nO:=⟨292,mg_of h T.g (by exact J)⟩
 nD:=⟨295,mg_of h T.g (by exact J)⟩
 ir:=U2 h T
 top:=mg_of h T.g (by kernel_rfl)
theorem Ik:∀{z:Y aD}{l:Y aF},WellAll P h z (ofPys (l.map PyData.int))->bq X f z (l.map .int)
 |[],[],_=>.nil
 |_::_,[],g=>nomatch g
 |[],_::_,g=>nomatch g
 |v::z,i::l,g=>by
  cases g with
  |cons R w=>
   cases R;exact .cons (.int _ _) (Ik w)
theorem QI(h:(hK u.params).In e)(T:TopRead p E d y e)(t:e.BuiltinsAt d 64)(o:∀P∈[212,184],e.get? P=U t0)(r:s.heap=e){a:ay}{Q:Y aF}(g:Well u.params e (.ref a) (ofPy (.list (Q.map .int))))(H:Q.length<=63)
  {Rs:Result->aT->Prop}(c:∀O,bS s O->(∀b,b∉([212,184])->∀x,s.heap.get? b=U x->O.heap.get? b=U x)->(∀P∈([212,184]),∃n,TabAt O.heap P n)->Rs (.ok (.ret (.bool ae))) O):
  codeAny (model Es u) callerA (.call (.ref 255) ⟨[.ref a],[]⟩) Rs s:=by
 subst r;have g:∃z,s.heap.get? a=U (lo z 0)/\WellAll u.params s.heap z (ofPys (Q.map .int)):=by
  generalize j:ofPy (PyData.list (Q.map .int))=x at g;cases g with
  |list R w=>unfold ofPy at j;obtain rfl:=PySem.W.WData.list.inj j;exact(aR _ R w)
  |_=>delta ofPy at j;exact nc PySem.W.WData.ctorIdx j J
 refine aA g λz k f=>?_;have v:a∉([212,184]:Y ay):=λq=>by
  have:=o a q;rw [k]at this;exact nomatch this
 refine VK (y:=lY h T) (V1:=Ao u s.heap) (V2:=pM u s.heap) (T7 h T t) (Im h T 217 216 (Ls u.params) (Lr u.params) (J) J J J J J) (aaS h T t (c:=216) (zE h (c:=216) J J J J J J J J (by exact nofun))) (λi=>i) (λi=>Sj i) (λi=>Yb i)
  (n_ (gi h) T.g h 224 223 (Lv u.params) (Lu u.params) (by kernel_rfl) J J J J J) (n_ (gi h) T.g h 231 230 (Ei u.params) (Eh u.params) (by kernel_rfl) J J J J J) (n_ (gi h) T.g h 238 237 (Lz u.params) (Lw u.params) (by kernel_rfl) J J J J J)
  (gi h (bG.refl _) _ _ J) J (qp 254 (LF u.params) _ _ J (gi h (bG.refl _) _ _ J) J J)
  (ρ:=⟨0,0⟩) (fz:=(rest s.heap [212,184]).get?) (sc:=Q) ⟨cE _ _,cE _ _,J⟩ J ?_ ?_ (aJ H (aC J)) λO X q S i=>c O q S (zw i.1 (aA i.2 λn l A=>⟨n,l⟩))
 .exact{bI:=λb m l=>t9 _ b m l,base:=t9 _,inv:=o,ji:=λP G=>sR _ G,mT:=λP G=>sR _ G}
 .exact .list (nF k v) (Ik f)
end
end jJ
set_option tactic.hygienic false
set_option maxRecDepth 100000
set_option maxHeartbeats 0
open PySem PySem.Calls PySem.SeqAt PyProof.Rows PySem.W
namespace jJ
section
variable{w:bR}
theorem XY(T:(hK w.params).In h)(k:∀P∈[212,184],h.get? P=U t0){A:cu}(l:∀b,b∉[212,184]->∀x,h.get? b=U x->A.get? b=U x)(O:∀P∈[212,184],∃n,TabAt A P n):OldK h A:=by
 have v:∀P∈([212,184]),isCodeTable h P:=λP G=>by
  have m:TabAt h P #[]:=⟨k P G,trivial⟩;simp only [cQ,dP,or_false]at G;rcases G with rfl|rfl
  .exact((zE T (c:=216) J J J J J J J J (nofun) (t9 _)).tab m).isCodeTable
  .exact((zE T (c:=188) J J J J J J J J (nofun) (t9 _)).tab m).isCodeTable
 refine⟨λb o e=>?_,λb o e=>?_⟩
 .by_cases q:b∈[212,184]
  .refine aA (O b q) λn f y=>?_;have:=k b q;rw [e]at this;obtain rfl:=bg this;exact .inr (.inl ⟨v b q,J,#[],n,J,by refine aZ f ?_;simp [t0]⟩)
  .exact .inl (l b q o e)
 .by_cases q:b∈[212,184]
  .exact aA (O b q) λn f y=>⟨_,f⟩
  .exact⟨o,l b q o e⟩
end
end jJ
theorem jJ.ZQ:OpenLaw.wellSaid PySem.Challenge.rw_rx0064_01=ae:=by kernel_rfl
open jJ
set_option tactic.hygienic true in
theorem PySem.Challenge.cw_rx0064_01_holds : PySem.Challenge.rw_rx0064_01.Holds := by
 refine holds_law jJ.ZQ λ_=>holds_open (q:=q3) (loose:=Au) (XP:=XL q3 []) (Yf:=Of lH) (Ya:=Og lH) (YP:=Hook.says lH) (N:=5824) ?hl (Hook.of lH) (Hook.keeps lH) (λs e=>xl_of s (cU.mp e).1) XL.keeps (by rfl) (by rfl) (by rfl) (λs e=>recFacts_of (cU.mp e).2) (by rfl) (by first|assumption|decide+kernel) (by decide+kernel) ⟨J,J,J,J,J,by decide+kernel⟩ ?hw ?aq
 case hl=>exact VO
 case hw=>w_witness2
 intro R O t d aN G g B v aM aP aS ao aI aK E f A L u au az aG y w F x P;clear E A f;refine Ground.open G ?_;intro T aW bf m r
 wrow_args y w F x P
 rename_i H _ _ _ _ _ _ _ _ a _ _ _ _ b _ _ _ aj _;refine bM (g) λh k=>?_;have p:=mg_of h T.g (n:="law") (v:=.ref 255) (by kernel_rfl);have L:d "law"=U (.ref B):=L;rw [p]at L;cases L;have n:t.heap.BuiltinsAt d 64:=by
  refine IA (T.bmain) λaB Q a aH c l e X=>?_;have z:=mg_of h T.g (n:="__builtins__") (v:=.ref 4) (by exact J);rw [z]at a;cases a;exact⟨4,Q,z,by assumption,by exact nofun,by exact nofun,c,l,e,X⟩
 refine enter_call (QI h (topRead_of T) n k J b (by omega) λaO q S j=>?_);obtain⟨aX,a_,q⟩:=q;obtain⟨q,o⟩:=l_ q;refine⟨.inl ⟨.bool ae,.bool ae,[],J,λbh=>by rfl,.bool _,?_,λ_=>⟨uF,λa i=>nomatch i⟩⟩,XY h k S j,(aL Shared.os q:),o.symm▸.of_eq u⟩
 .first|rfl|exact postW_of (by wrow_shape) (by wtm_val) (by assumption)
