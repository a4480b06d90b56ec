import PyProof.Rows.All
import Lean
import Wide.All
import OpenK.AllK
import Wide.FinOn
import Open.Tops
import KE.KSortTup
import KE.KLam
import PySem.Challenge.RW_rt0115_01
open PySem PySem.Spec PySem.Calls PyProof.Rows PySem.W
open _root_.Array renaming length_toList->kn,getD_eq_getD_getElem?->lS,toList_inj->ng,getElem?_toList->oJ,getElem?_eq_getElem->oZ,toList_append->pe,toList_map->pR,toArray_toList->p8,size_map->qH,toList_push->qT,mk->se,getElem?_eq_none->vn,getD->we,ext'->wf,empty_append->wg,getElem_mem->wo,toList_zip->wH,size_push->w0
open Array.Perm renaming refl->sU
open _root_.Bool renaming and_eq_true->kL,rec->lh,false_ne_true->ll,noConfusion->lN,false_eq_true->nq,and_true->oI,not_eq_true'->oO,eq_false_iff->pJ,eq_iff_iff->qh,or_eq_true->rP,or_eq_false_iff->sk,and_eq_true_iff->so,true_and->sO,and_eq_false_iff->vO
open Classical renaming byContradiction->tT,not_imp->vr
open False renaming elim->rq
open ForInStep renaming yield->tm,done->wd
open _root_.Int renaming toNat_natCast->ku,fdiv_eq_ediv_of_nonneg->kF,fmod_nonneg_of_pos->kM,fmod_eq_emod_of_nonneg->kT,fmod_lt_of_pos->lm,ofNat_lt->mH,natCast_nonneg->oH,pow_nonneg->oX,eq_ofNat_of_zero_le->pB,ediv_nonneg->qp,zero_add->qF,add_zero->qG,le_of_lt->rO,pow_pos->sB,zero_mul->tH,ofNat_le->tI,mul_zero->tJ,mul_comm->tK,lt_trans->tL,mul_le_mul_of_nonneg_left->un,mul_add->uo,mul_nonneg->uY,ofNat->vq,neg_eq_neg_one_mul->vM,ne_of_gt->vN,natCast_emod->xn,min_eq_right->xo,max_eq_right->xq,natCast_mul->xF,natCast_add->xG,min_eq_left->xH
open Int.ofNat renaming inj->rU
open Lean renaming Syntax->qe
open Lean.Parser.Tactic renaming tacticSeq1Indented->wX,tacticSeq->wY,tacticRfl->wZ
open Lean.Unhygienic renaming run->qW
open _root_.List renaming mem_cons->jI,mem_singleton->jJ,length_map->jK,getElem?_eq_some_iff->jM,getElem?_eq_getElem->jR,mem_append->jW,length_append->j7,length_cons->j9,getElem?_map->kc,mem_filter->kd,range->kf,toArray->kg,mem_map->kq,mem_of_getElem?->kx,all_eq_true->kA,map_append->kB,append_nil->kH,size_toArray->kK,map_cons->kO,take_add_one->kQ,mem_append_right->kR,replicate->lg,length_take->lp,length_nil->lq,flatMap_cons->lu,mem_flatMap->lw,take_length->lD,all_cons->lE,length_range->lI,mem_append_left->lO,getElem?_set_self->lQ,getElem?_set_ne->lR,map_congr_left->l3,append_assoc->l8,nodup_cons->mf,find?_cons->mh,getElem?_inj->mr,foldl_append->ms,mem_range->mv,map_map->mw,flatMap_append->mG,getD->mW,forIn_cons->mX,foldl_cons->mY,rec->m0,sum_replicate_nat->nc,pairwise_iff_getElem->nF,mem_of_find?_eq_some->nG,length_set->nM,pairwise_append->nN,pairwise_singleton->nZ,not_mem_nil->oa,flatMap_nil->og,pairwise_cons->oA,getElem?_mapIdx->oW,getElem?_append_left->pb,filter_sublist->pf,nil_append->pj,getElem_range->po,pairwise_map->pG,pairwise_lt_range->pH,take_append_drop->pP,length_singleton->pQ,eq_nil_of_length_eq_zero->qc,map_nil->qw,mem_filterMap->qL,map->qM,getElem?_drop->qN,lookup_cons->rg,length_drop->rh,take_of_length_le->rA,range_succ->rM,map_const'->rN,contains_iff_mem->rT,forall_mem_cons->sh,toList_toArray->sJ,length_reverse->sK,zip_cons_cons->sQ,forIn_toArray->sR,filter_append->sT,nodup_append->tB,getElem_mem->tR,cons_append->tS,nodup_nil->uI,isPrefixOf_iff_prefix->uJ,getElem?_append_right->uK,forIn_nil->uL,foldl_nil->uM,getElem?_zip_eq_some->uX,filterMap_cons_some->vb,filterMap_cons_none->vc,any_cons->vd,length_eq_zero_iff->vm,all_nil->vp,perm_append_comm->vJ,length_filter_le->vK,eq_replicate_iff->vL,mem_iff_getElem->vU,replicate_succ->wb,filterMap_cons->wc,reverse_cons->wG,range'_succ->wP,mem_reverse->wQ,map_snd_zip->wR,map_fst_zip->wS,map_flatMap->wT,ext_getElem->wU,any_toArray->wV,any_eq_true->wW,of_mem_zip->xl,mem_mapIdx->xm,drop_zero->xE
open List.Nodup renaming sublist->qd
open List.Pairwise renaming filter->uh
open List.Perm renaming append_left->uN,trans->vV
open List.Sublist renaming map->pp
open List.cons renaming inj->wn
open _root_.Nat renaming le_refl->jP,le_of_ble_eq_true->jV,zero_le->kh,le_trans->kN,lt_irrefl->lr,ne_of_lt->lz,le_add_right->lZ,lt_succ_self->ml,blt->mC,lt_of_lt_of_le->mR,mod_mul_right_div_self->nt,lt_of_le_of_lt->nu,eq_of_beq_eq_true->ny,pow_le_pow_right->nO,le_of_not_lt->om,sub_add_cancel->oE,add_comm->o9,div_add_mod->pn,not_lt->pt,mod_lt->pv,lt_add_of_pos_right->pA,mul_comm->pK,le_succ_of_le->pL,le_of_lt->pM,sub_le->p0,mod_eq_of_lt->p7,mul_assoc->p9,div_lt_of_lt_mul->qf,testBit_and->qm,not_lt_zero->qo,beq->qE,mod_mod_of_dvd->qR,le_succ->qZ,succ_ne_self->rp,le_add_left->rR,le_div_iff_mul_le->rZ,ble_eq_true_of_le->sa,eq_of_testBit_eq->sA,add_lt_add_left->sM,add_sub_cancel->th,zero_add->tD,succ_mul->tE,le_of_eq->tF,add_zero->tG,succ_le_succ->ud,not_lt_of_le->ue,div_eq_of_lt->uf,div_add_mod'->ug,sub_mod_eq_zero_of_mod_eq->um,mul_add_mod->uB,mul_add_div->uC,min_eq_left->uD,sub_zero->vG,lt_of_succ_lt_succ->vH,testBit->v6,one_pos->v7,mul_le_mul_right->v8,log2_lt->v9,add_mul->wa,sub_right_comm->wE,eq_zero_or_pos->wF,lt_succ_of_le->wM,le_of_lt_succ->wN,add_sub_assoc->wO,shiftLeft_eq->xj,min_eq_right->xk,le_antisymm->xD
open Nat.succ renaming inj->qY
open Ne renaming symm->ln
open OfNat renaming ofNat->vF
open _root_.Option renaming map_eq_some_iff->j8,bind_eq_some_iff->mV,toList_some->oo,isSome_iff_exists->uH,rec->vT,getD_none->wm
open Option.some renaming inj->kW
open PyProof renaming noPylong_of_log2->uA
open PyProof.Rows renaming MethodCall_->mj,get?_update_seq->oS,slot_tupleiter_next->pr,args_nil->pZ,listUpdate_at->qt,Call_->qS,Attribute_Name_->sH,IntsAre->tA,Subscript_->uc,IsTupIter->uW,seqEpoch_at->u8,bubble_size->va,tail_any->vC,failedOf->vD,IsTup->vE,pairsOf->wB,listItems_at->wC,Assign_Tuple->wD,entry_tupleiter_next->xi,args_tupleiter_next->xC
open PyProof.Rows.SortSt renaming mk'->sG
open PySem renaming wpAny_bind->jC,Value->jD,Params->jE,Shared->jG,wpAny_pure->jL,Addr->jN,PyData->jQ,World->jY,Str->jZ,Heap->j6,wpAny_execs_cons->km,Builtin->ko,Around->kC,wpAny_holding->kG,Expr->kJ,callWith->kY,Keeps->kZ,builtinLookup_eq_fast->lf,keywordEach->ly,wpAny_of_eq->lC,Program->lF,wpAny_call_entry->lJ,wpAny_assign_Name->lK,OsState->lM,wpAny_mono->lT,typeLookup_type->lU,wpAny_execs_nil->l5,bindArgs->l6,wpAny_Assign_Name->l9,backToKw->ma,Stmt->md,Pos->mi,holding->mq,wpAny_loadName_local->mE,isSubtype_type->mK,getMethod_builtin->mM,mainGlobals->mP,strKind->mQ,standAt->mS,wpAny_call->mU,wpAny_seqItems->mZ,wpAny_callSpecial?_slot->m6,slotArgs->nh,swappedStores->nv,getMethod->nz,DictEntry->nB,wpAny_Name->nH,wpAny_Expr_any->nI,Obj->nJ,wpAny_truthy_bool->nR,wpAny_field->nU,FuncData->nY,wpAny_loadName_cell->oq,wpAny_loadPart->oB,wpAny_Assign_two->oC,wpAny_isTrue_value->oM,wpAny_newObj_type->oY,callWith_type->o8,wpAny_eqBool_int->ph,wpAny_attempt->pC,codeAny_builtin->pF,intKind->pS,wpAny_Return_some->pV,getAttr->pW,checkBoundCall->pX,wpAny_isTrue_Compare1->qg,treeTable->qj,builtinKind->qz,swapsWith->qX,wpAny_newFunctionEnv_cells->q8,strKind_is->q9,wpAny_standAt->rB,wpAny_comprehension_free->rC,wpAny_assignInOrder_more->rD,wpAny_list_append_plain->rV,seqItems?->rW,entryFor_of_tree->rX,wpAny_typeOf->sq,wpAny_rule->sr,wpAny_load->su,wpAny_allTrue_And_cons->sv,argsOk->sx,wpAny_updateSeq->sC,getAttrByItsOwn->sD,wpAny_setField->sV,firstArgMember->sW,codeAny_call_builtin->sX,Scope->sZ,Result->td,operate->tw,swapsWithSole->tM,plainId_quiet->tO,Model->tP,wpAny_pyIter_tuple->tU,wpAny_List_spliced->tV,wpAny_Constant_str->tW,wpAny_isNot_plain->uq,wpAny_If->ur,slot_list_getitem->ut,entryFor->uu,Tok->uw,BindsTo->uz,plainObj_wpAny_Assign_Attribute->uF,intKind_is->uO,TriplesOk->uR,Flow->uT,wpAny_letGo->uZ,wpAny_specialOf->ve,letOwnedTupleGo->vg,codeAny_of_tree->vh,Sem->vi,wpAny_tryCatch->vt,wpAny_is_plain->vu,typeIs_str->vv,closureFor->vw,NameKind->vA,GenState->vB,codeAny_call_builtin_code->vP,wpAny_newList->vW,wpAny_getItem_list_slice->vX,signature?_of->vY,intBits_le_64->vZ,assignInOrder->v4,updateSeq->wh,wpAny_mkText->wq,splitId->wt,meets_dict_get_default->wu,callAny->wv,bootBuiltins->ww,wpAny_Subscript_Slice->wI,codeAny_call_function->wJ,wpAny_Slice->w6,richCompare->w7,loadHead->w8,intItems->w9,compEnvC->xa,wpAny_isTrue_BoolOp->xt,wpAny_Tuple_spliced->xu,wpAny_Constant_none->xv,codeAny_forLoop_any->xw,builtinType_eq_fast->xx,bindSpecialIfBound?->xy,Env->xA
open PySem.Around renaming under_plainId->nE
open PySem.AutoSeq1 renaming wpAny_loadPart'->oK
open PySem.Bind renaming checkArgs->qK,madeBy->sg,staticBase->ul
open PySem.Builtin renaming bitAnd->ke,bitOr->oz,bitXor->oN
open PySem.Builtin.Bytes renaming hexDigit->mz,toUpper->qQ
open PySem.Builtin.Frozenset renaming withSetAsKey->xf,oneOther->xg,addrOf->xh
open PySem.Builtin.Int renaming intBits->ro
open PySem.Builtin.List renaming listExtendWith->pN,listUpdate->qr,listSameRef->tz,listItems->tQ
open PySem.Builtin.ObjectAttr renaming attrName->wL
open PySem.Builtin.Range renaming rangeSize->kI,small->mD,rangeFitsLong->sF
open PySem.Builtin.SmallTypes renaming nextOf->oh
open PySem.Calls renaming Name_function_global->te
open PySem.Challenge renaming pw_rt0115_01->jO,rw_rt0115_01->pq
open PySem.ClassData renaming mk->uy
open PySem.Code renaming body->lG,quiet_builtin->sP
open PySem.Data renaming noConfusion->jU,plain->pU,func->sy,dict->vk,cls->xB
open PySem.DictEntry renaming val->wl
open PySem.Expr renaming Name->ky,Tuple->ow,Subscript->uG
open PySem.F renaming plain_extend_loop->oV,slot_set_getattribute->pO,slot_dict_setdefault->tC,entry_extend_loop->uk,slot_tuple_len->uU,entry_dict_get->uV,slot_tuple_lt->u0,slot_dict_get->u7
open PySem.Flow renaming next->nK
open PySem.FuncBody renaming stmts->pk
open PySem.FuncData renaming mk->qD
open PySem.Heap renaming get?_push_of_some->jH,get?_push_size->jS,lt_size->kt,get?_update_ne->mn,get?_update_self->mN,size_push->mT,SameBut->ou,dictOf_iff->pi,get?_none_of_le->sf,ExtBut->ub
open PySem.Heap.DictOf renaming new->sL
open PySem.Heap.IsSliceOf renaming new->rf
open PySem.Heap.SameBut renaming update->me
open PySem.IsRange renaming new->vj
open PySem.Manifest renaming signature?->oU,varargsMethods->ux
open PySem.NameKind renaming noConfusion->on
open PySem.Obj renaming mapSeq->kE,mk->nQ,data_mapFields->qP,isFreed_of_fields->vR,cls_mapFields->wK
open PySem.PyData renaming strOk->lX,int->lY,str->oP,keyHash->qq,canLayAll0->qO,eqv->ui,canLay0->uj,depthAll->wA,depth->xz
open PySem.Sem renaming wp_mono->v5,wp_cmd_standAt->wz
open PySem.SeqAt renaming shaped->pD,canLay_of_shaped->pE
open PySem.SetTable renaming fresh->wj
open PySem.Str renaming ofString->jB,empty->mJ,length->sY,append_empty->ua,ext'->uS
open PySem.Txt renaming join->mO
open PySem.Value renaming none->jF,int->jT,type->jX,bool->kr,ref->kz,str->kX,builtin->lH,noConfusion->qC,bytes->vz
open PySem.W renaming behindTheImports->lV,Looks->mF,topFrame->nX,boot_o_1->pg,looks_findIn->pY,tabObj->qk,boot_heap->ql,piecesOf->qA,looks_mroIn->qB,typeIs_bytes->qU,boot_o_10->qV,segRunT->rt,boot_o_9->rE,boot_o_8->rF,boot_o_7->rG,boot_o_6->rH,boot_o_5->rI,boot_o_4->rJ,boot_o_2->rK,boot_o_0->rL,methodObj->rY,codeRec_of->tX,check_slot->tY,callWith_K->tZ,segRun_of->uP,piece_app->uQ,SharedT->vo,findIn->vx,boot_drawn->vy,boot_toks->wi,takerIn->wx,KTurns->wy,plainGet_of->xb,looks_clsIn->xc,kat_cons->xd,callWith_K0->xe
open PySem.W.BT renaming node->jA
open PySem.W.Fast renaming tw14364793385576792824->m7,tw10110043849684766642->m8,te14364793385576792824->m9,te10110043849684766642->nb,tw4202317264376624991->nk
open PySem.W.KTurns renaming ofWalks->rQ
open PySem.W.Looks renaming ld->oQ,of_pure->pT
open PySem.W.SharedT renaming abs->qJ
open PySem.callAny renaming viaDunder->vQ
open Std.Legacy.Range renaming forIn_eq_forIn_range'->qI,size->xr
open True renaming intro->uE
set_option Elab.async false
set_option maxRecDepth 100000
set_option maxHeartbeats 0
set_option linter.unusedVariables false
set_option genInjectivity false
set_option genSizeOf false
set_option backward.match.sparseCases false
set_option backward.eqns.nonrecursive false
set_option bootstrap.genMatcherCode false
set_option tactic.hygienic false
set_option compiler.extract_closed false
noncomputable section
namespace Mine
def tq (s:Lean.Syntax):Lean.Syntax:=.node .none `Lean.Parser.Tactic.tacticSeq #[.node .none `Lean.Parser.Tactic.tacticSeq1Indented #[.node .none `null #[s]]]
def aR:Lean.Syntax:=tq (.node .none `Lean.Parser.Tactic.tacticRfl #[.atom .none "rfl"])
def aK:Lean.Syntax:=tq (.node .none `tacticKernel_rfl #[.atom .none "kernel_rfl"])
def aN:Lean.Syntax:=tq (Lean.Unhygienic.run `(tactic| exact Nat.le_of_ble_eq_true rfl))
def aD:Lean.Syntax:=tq (Lean.Unhygienic.run `(tactic| decide +kernel))
def aI:Lean.Syntax:=tq (Lean.Unhygienic.run `(tactic| (intros;rfl)))
theorem B6{α:Type}{a:α}{P:Prop}(h:none=some a):P:=nomatch h
theorem XM{α:Type}{a:α}{P:Prop}(h:some a=none):P:=nomatch h
theorem si{α:Type}{a b:α}(h:some a=some b):a=b:=kW h
theorem sj{α:Type}{a b:α}(h:some a=some b):b=a:=(kW h).symm
theorem B0{α:Type}{o:Option α}{a:α}{P:Prop}(h:o=none)(k:o=some a):P:=B6 (h.symm.trans k)
theorem CQ{α:Type}{o:Option α}{a b:α}(h:o=some a)(k:o=some b):a=b:=si (h.symm.trans k)
set_option genSizeOf false in
set_option genInjectivity false in
inductive Tt where
 | v (i:Nat)|k (n:Nat)|b (o:Nat) (x y:Tt)
namespace Ar
noncomputable def F5 {α:Type} (d:α) (l:List α) (i:Nat):α:=m0 (motive:=λ_=>Nat->α) (λ_=>d) (λx _ ih i=>Nat.rec x (λj _=>ih j) i) l i
noncomputable def sw {α:Sort _} (o n:Nat) (x y:α):α:=lh y x (qE o n)
theorem DE{α:Sort _}{o n:Nat}{x y:α}(P:α->Prop)(h:o=n->P x)(h':o≠n->P y):P (sw o n x y):=by
 unfold sw
 cases e:qE o n with
 | true=>exact h (ny e)
 | false=>exact h' (Nat.ne_of_beq_eq_false e)
noncomputable def ev (N:List Nat) (I:List Int) (t:Tt):Nat×Int:=
 Mine.Tt.rec (λi=>(F5 0 N i,F5 0 I i)) (λn=>(n,(n:Int))) (λo _ _ x y=>
  sw o 0 (x.1+y.1,x.2+y.2) <| sw o 1 (x.1-y.1,x.2-y.2) <| sw o 2 (x.1*y.1,x.2*y.2) <| sw o 3 (x.1/y.1,x.2/y.2) <|
  sw o 4 (x.1%y.1,x.2%y.2) <| sw o 5 (min x.1 y.1,min x.2 y.2) <| sw o 7 (0,(x.1:Int)) <| sw o 8 (x.2.toNat,0) (0,-x.2)) t
noncomputable def Hr (N:List Nat) (I:List Int) (t:Tt):Prop:=
 Mine.Tt.rec (λ_=>True) (λ_=>False) (λo x y p q=>
  sw o 0 ((ev N I x).1<=(ev N I y).1) <| sw o 1 ((ev N I x).1<(ev N I y).1) <| sw o 2 ((ev N I x).1=(ev N I y).1) <|
  sw o 3 ((ev N I x).2<=(ev N I y).2) <| sw o 4 ((ev N I x).2<(ev N I y).2) <| sw o 5 ((ev N I x).2=(ev N I y).2) <|
  sw o 6 (p/\q) <| sw o 7 (p\/q) (p->q)) t
noncomputable abbrev L:=Int×List Int
noncomputable def Id (c v:List Int):Int:=m0 (motive:=λ_=>List Int->Int) (λ_=>0) (λa _ ih v=>m0 0 (λb v _=>a*b+ih v) v) c v
noncomputable def Xv (x y:List Int):List Int:=m0 (motive:=λ_=>List Int->List Int) (λy=>y) (λa x ih y=>m0 (a::x) (λb y _=>(a+b)::ih y) y) x y
noncomputable def fV (k:Int) (x:List Int):List Int:=m0 [] (λa _ ih=>k*a::ih) x
theorem Xj(x y v:List Int):Id (Xv x y) v=Id x v+Id y v:=by
 induction x generalizing y v with
 | nil=>exact(qF _).symm
 | cons a x ih=>cases y with
  | nil=>exact(qG _).symm
  | cons b y=>cases v with
   | nil=>rfl
   | cons c v=>
    show(a+b)*c+Id (Xv x y) v=(a*c+Id x v)+(b*c+Id y v)
    rw[ih y v,Int.add_mul];ac_rfl
theorem YX(k:Int)(x v:List Int):Id (fV k x) v=k*Id x v:=by
 induction x generalizing v with
 | nil=>exact(tJ _).symm
 | cons a x ih=>cases v with
  | nil=>exact(tJ _).symm
  | cons c v=>
   show k*a*c+Id (fV k x) v=k*(a*c+Id x v)
   rw[ih v,uo,Int.mul_assoc]
noncomputable def V (v:List Int) (l:L):Int:=l.1+Id l.2 v
noncomputable def WI (x y:L):L:=(x.1+y.1,Xv x.2 y.2)
noncomputable def XN (k:Int) (x:L):L:=(k*x.1,fV k x.2)
theorem XE(v:List Int)(x y:L):V v (WI x y)=V v x+V v y:=by
 show x.1+y.1+Id (Xv x.2 y.2) v=(x.1+Id x.2 v)+(y.1+Id y.2 v)
 rw[Xj];ac_rfl
theorem PP(v:List Int)(k:Int)(x:L):V v (XN k x)=k*V v x:=by
 show k*x.1+Id (fV k x.2) v=k*(x.1+Id x.2 v)
 rw[YX,uo]
noncomputable def FK (i:Int):Bool:=Int.rec (λ_=>false) (λ_=>true) i
noncomputable def GH (i:Int):Bool:=Int.rec (λn=>mC 0 n) (λ_=>false) i
theorem Ku{i:Int}(h:FK i=true):i<0:=by
 cases i with
 | ofNat n=>cases h
 | negSucc n=>exact Int.negSucc_lt_zero n
theorem U2{i:Int}(h:GH i=true):0<i:=by
 cases i with
 | ofNat n=>exact mH.mpr (jV h)
 | negSucc n=>cases h
noncomputable def hd (l:L):Int:=m0 0 (λa _ _=>a) l.2
noncomputable def tl (l:L):L:=(l.1,m0 [] (λ_ x _=>x) l.2)
noncomputable def cg (x:List Int):Nat:=m0 0 (λa _ ih=>Nat.gcd a.natAbs ih) x
noncomputable def VY (l:L):L:=
 lh l (l.1/(cg l.2:Int),m0 [] (λa _ ih=>a/(cg l.2:Int)::ih) l.2) (mC 1 (cg l.2))
theorem aQ(g:Nat)(v:List Int):∀(x:List Int),g ∣ cg x->Id x v=g*Id (m0 [] (λa _ ih=>a/(g:Int)::ih) x) v:=by
 intro x
 induction x generalizing v with
 | nil=>intro _;exact(tJ _).symm
 | cons a x ih=>
  intro h
  have h1:g ∣ a.natAbs:=Nat.dvd_trans h (Nat.gcd_dvd_left _ _)
  have h2:g ∣ cg x:=Nat.dvd_trans h (Nat.gcd_dvd_right _ _)
  cases v with
  | nil=>exact(tJ _).symm
  | cons c v=>
   show a*c+Id x v=g*(a/g*c+Id _ v)
   rw[uo,<-ih v h2,<-Int.mul_assoc,Int.mul_ediv_cancel' (Int.ofNat_dvd_left.mpr h1)]
theorem VX{v:List Int}{l:L}(h:0<=V v l):0<=V v (VY l):=by
 unfold VY
 cases e:mC 1 (cg l.2) with
 | false=>exact h
 | true=>
  have g0:(0:Int)<(cg l.2:Nat):=mH.mpr (Nat.lt_of_succ_lt (jV e))
  have h':=aQ (cg l.2) v l.2 (Nat.dvd_refl _)
  unfold V at h ⊢
  rw[h'] at h
  show 0<=l.1/(cg l.2:Int)+_
  have:=qp h (rO g0)
  rw[Int.add_mul_ediv_left _ _ (vN g0)] at this
  exact this
noncomputable def aP (p n:L):L:=VY (tl (WI (XN (-(hd n)) p) (XN (hd p) n)))
noncomputable def wk (l:L):Bool:=FK l.1 || l.2.any λa=>FK a || GH a
noncomputable def fJ (p n:L):Bool:=!FK (p.1+n.1)&&!GH (p.1+n.1)&&(Xv p.2 n.2).all λa=>!FK a&&!GH a
noncomputable def iR (ps ns:List L):Option L->List L:=
 vT (ps.flatMap λp=>ns.map λn=>aP p n)
  λp=>vT [] (λn=>(ns.map λm=>aP p m)++ps.map λq=>aP q n) (ns.find? (fJ p))
noncomputable def ju (ps ns:List L):Option L:=(ps.filter λp=>!GH (hd p-1)).find? λp=>ns.any (fJ p)
noncomputable def fm (k:Nat) (cs:List L):Bool:=
 Nat.rec (motive:=λ_=>List L->Bool) (λcs=>cs.any λl=>FK l.1)
  (λ_ ih cs=>ih (((cs.filter λl=>!GH (hd l)&&!FK (hd l)).map tl++iR (cs.filter λl=>GH (hd l)) (cs.filter λl=>FK (hd l)) (ju (cs.filter λl=>GH (hd l)) (cs.filter λl=>FK (hd l)))).filter wk)) k cs
theorem Yj{ps ns:List L}{o:Option L}(ho:∀p,o=some p->p∈ps){l:L}(h:l∈iR ps ns o):∃p n,p∈ps/\n∈ns/\l=aP p n:=by
 cases o with
 | none=>
  obtain⟨p,hp,h⟩:=lw.mp h
  obtain⟨n,hn,rfl⟩:=kq.mp h
  exact⟨p,n,hp,hn,rfl⟩
 | some p=>
  have h:l∈(vT [] (λn=>(ns.map λm=>aP p m)++ps.map λq=>aP q n) (ns.find? (fJ p)):List L):=h
  cases e:ns.find? (fJ p) with
  | none=>rw[e] at h;exact nomatch h
  | some n=>
   rw[e] at h
   rcases jW.mp h with h|h
   ·obtain⟨m,hm,rfl⟩:=kq.mp h
    exact⟨p,m,ho p rfl,hm,rfl⟩
   ·obtain⟨q,hq,rfl⟩:=kq.mp h
    exact⟨q,n,hq,nG e,rfl⟩
theorem Uv(c:Int)(v:List Int)(l:L):V (c::v) l=hd l*c+V v (tl l):=by
 obtain⟨z,x⟩:=l
 cases x with
 | nil=>show z+0=0*c+(z+0);rw[tH,qF]
 | cons a x=>show z+(a*c+Id x v)=a*c+(z+Id x v);ac_rfl
theorem iC(v:List Int)(l:L)(h:GH (hd l)=false)(h':FK (hd l)=false)(c:Int):V v (tl l)=V (c::v) l:=by
 rw[Uv]
 have:hd l=0:=by
  cases e:hd l with
  | ofNat n=>
   rw[e] at h
   cases n with
   | zero=>rfl
   | succ n=>exact absurd h (by show ¬mC 0 (n+1)=false;rw[show mC 0 (n+1)=true from sa (ud (kh n))];exact lN)
  | negSucc n=>rw[e] at h';cases h'
 rw[this,tH,qF]
theorem fk{c:Int}{v:List Int}{p n:L}(hp:0<hd p)(hn:hd n<0)(h1:0<=V (c::v) p)(h2:0<=V (c::v) n):0<=V v (aP p n):=by
 refine VX ?_
 have e:=Uv c v (WI (XN (-(hd n)) p) (XN (hd p) n))
 have e0:hd (WI (XN (-(hd n)) p) (XN (hd p) n))=0:=by
  obtain⟨z,x⟩:=p
  obtain⟨z',x'⟩:=n
  cases x with
  | nil=>exact absurd hp (Int.lt_irrefl 0)
  | cons a x=>
   cases x' with
   | nil=>exact absurd hn (Int.lt_irrefl 0)
   | cons b y=>
    show -b*a+a*b=0
    rw[Int.neg_mul,tK b a,Int.add_left_neg]
 rw[e0,tH,qF,XE,PP,PP] at e
 exact e▸Int.add_nonneg (uY (Int.neg_nonneg_of_nonpos (rO hn)) h1) (uY (rO hp) h2)
theorem ZF{k:Nat}{v:List Int}{cs:List L}(hv:v.length=k)(h:∀l∈cs,0<=V v l):fm k cs=false:=by
 induction k generalizing v cs with
 | zero=>
  obtain rfl:=qc hv
  refine pJ.mpr λe=>?_
  obtain⟨l,hl,e⟩:=wW.mp e
  have h1:=h l hl
  have:Id l.2 []=0:=by cases l.2<;>rfl
  unfold V at h1
  rw[this,qG] at h1
  exact absurd (Ku e) (Int.not_lt.mpr h1)
 | succ k ih=>cases v with
  | nil=>exact nomatch hv
  | cons c v=>
   refine ih (qY hv) λl hl=>?_
   rcases jW.mp (kd.mp hl).1 with hl|hl
   ·obtain⟨l',hl',rfl⟩:=kq.mp hl
    obtain⟨h1,h2⟩:=kd.mp hl'
    rw[kL,oO,oO] at h2
    rw[iC v l' h2.1 h2.2 c];exact h _ h1
   ·obtain⟨p,n,hp,hn,rfl⟩:=Yj (λp e=>(kd.mp (nG e)).1) hl
    exact fk (U2 (kd.mp hp).2) (Ku (kd.mp hn).2) (h _ (kd.mp hp).1) (h _ (kd.mp hn).1)
noncomputable def bq (x:Tt):Tt->Bool:=Mine.Tt.rec (motive:=λ_=>Tt->Bool)
 (λi y=>Mine.Tt.rec (λj=>qE i j) (λ_=>false) (λ_ _ _ _ _=>false) y)
 (λi y=>Mine.Tt.rec (λ_=>false) (λj=>qE i j) (λ_ _ _ _ _=>false) y)
 (λo _ _ fx fy y=>Mine.Tt.rec (λ_=>false) (λ_=>false) (λp x y _ _=>qE o p&&(fx x&&fy y)) y) x
theorem bp:∀x y,bq x y=true->x=y:=by
 intro x
 induction x with
 | v i=>intro y h;cases y with
  | v j=>exact congrArg Tt.v (ny h)
  | k _=>cases h
  | b _ _ _=>cases h
 | k i=>intro y h;cases y with
  | k j=>exact congrArg Tt.k (ny h)
  | v _=>cases h
  | b _ _ _=>cases h
 | b o x y h1 h2=>intro z h;cases z with
  | v _=>cases h
  | k _=>cases h
  | b p x' y'=>
   have h:(qE o p&&(bq x x'&&bq y y'))=true:=h
   rw[kL,kL] at h
   rw[ny h.1,h1 _ h.2.1,h2 _ h.2.2]
noncomputable def uv (ks:List Tt) (t:Tt):Option (List Int):=m0 none (λk _ ih=>lh (ih.map (0::·)) (some [1]) (bq k t)) ks
noncomputable def kk (s:Bool) (t:Tt):Tt:=lh t (.b 7 t (.k 0)) s
noncomputable def key (ks:List Tt) (s:Bool) (t:Tt):Option L:=(uv ks (kk s t)).map λl=>(0,l)
noncomputable def UT (x y:Option L):Option L:=x.bind λx=>y.map λy=>WI x y
noncomputable def Ym (k:Int) (x:Option L):Option L:=x.map (XN k)
noncomputable def Cj (x y:Option L):Option L:=UT x (Ym (-1) y)
noncomputable def oc (n:Int):Option L:=some (n,[])
noncomputable def ew (x y z:Option L):Option L:=x.bind λx=>y.bind λy=>m0 (some (XN x.1 y)) (λ_ _ _=>m0 (some (XN y.1 x)) (λ_ _ _=>z) y.2) x.2
noncomputable def Re (ks:List Tt) (t:Tt):Bool->Option L:=Mine.Tt.rec (motive:=λ_=>Bool->Option L) (λi s=>key ks s (.v i)) (λn s=>oc n) (λo x y fx fy s=>
 sw o 0 (UT (fx s) (fy s)) <| sw o 1 (lh (Cj (fx s) (fy s)) (key ks s (.b o x y)) s) <| sw o 2 (ew (fx s) (fy s) (key ks s (.b o x y))) <|
 sw o 7 (lh (fx true) (key ks s (.b o x y)) s) <| sw o 9 (lh (Ym (-1) (fx s)) (key ks s (.b o x y)) s) <| key ks s (.b o x y)) t
noncomputable def fP (t:Tt):Bool->List Tt:=Mine.Tt.rec (motive:=λ_=>Bool->List Tt) (λi s=>[kk s (.v i)]) (λ_ _=>[]) (λo x y fx fy s=>
 sw o 0 (fx s++fy s) <| sw o 1 (lh [] [kk s (.b o x y)] s++(fx s++fy s)) <| sw o 2 (fx s++(fy s++[kk s (.b o x y)])) <|
 sw o 3 (fx s++[kk s (.b 3 x y)]) <| sw o 4 (kk s (.b 4 x y)::(fx s++[kk s (.b 3 x y)])) <| sw o 7 (fx true) <| sw o 8 (kk s (.b o x y)::fx false) <|
 sw o 9 (fx s) <| kk s (.b o x y)::(fx s++fy s)) t
noncomputable abbrev D:=List (List (Option L))
noncomputable def WY (ks:List Tt) (s:Bool) (M:Option L) (o:Nat) (p q:Tt):List D:=
 let Xx:=Re ks p s
 let Y:=Re ks q s
 sw o 1 (lh [] [[[Cj Xx Y,Cj M (Cj Xx Y),Cj (Cj Xx Y) M],[Cj (Cj Y Xx) (oc 1),Ym (-1) M]]] s) <|
 sw o 3 (Mine.Tt.rec (λ_=>[]) (λn=>lh [] [[[Cj Xx (Ym n M),Cj (UT (Ym n M) (oc (n-1))) Xx]]] (mC 0 n)) (λ_ _ _ _ _=>[]) q) <|
 sw o 4 (Mine.Tt.rec (λ_=>[]) (λn=>lh [] [[[M,Cj (oc (n-1)) M,Cj Xx (UT (Ym n (key ks s (.b 3 p q))) M),Cj (UT (Ym n (key ks s (.b 3 p q))) M) Xx]]] (mC 0 n)) (λ_ _ _ _ _=>[]) q) <|
 sw o 5 [[[Cj Y Xx,Cj M Xx,Cj Xx M],[Cj Xx Y,Cj M Y,Cj Y M]]] <|
 sw o 8 (lh [] [[[Re ks p false,Cj M (Re ks p false),Cj (Re ks p false) M],[Cj (oc (-1)) (Re ks p false),Ym (-1) M]]] s) []
noncomputable def ay (ks:List Tt) (t:Tt):List D:=Mine.Tt.rec (λ_=>[]) (λ_=>[])
 (λo x y _ _=>sw o 7 ([[key ks true x]]::Mine.Tt.rec (λ_=>[]) (λ_=>[]) (λo p q _ _=>WY ks true (key ks true x) o p q) x) (WY ks false (key ks false t) o x y)) t
noncomputable def Q3 (x y:D):D:=x.flatMap λc=>y.map λd=>c++d
noncomputable def Vv (ks:List Tt) (o:Nat) (x y:Tt) (Xx Y:Option L) (s:Bool):D:=
 sw o 0 (lh [[Cj (Cj Xx Y) (oc 1)]] [[Cj Y Xx]] s) <| sw o 1 (lh [[Cj Xx Y]] [[Cj (Cj Y Xx) (oc 1)]] s) <|
 lh [[Cj (Cj Y Xx) (oc 1)],[Cj (Cj Xx Y) (oc 1)]] [[Cj Y Xx,Cj Xx Y]] s
noncomputable def Kr (ks:List Tt) (t:Tt):Bool->D:=Mine.Tt.rec (motive:=λ_=>Bool->D) (λ_ _=>[[]]) (λ_ s=>lh [[]] [] s) (λo x y fx fy s=>
 lh (lh (sw o 6 (lh (fx false++fy false) (Q3 (fx true) (fy true)) s) <| sw o 7 (lh (Q3 (fx false) (fy false)) (fx true++fy true) s) <|
  lh (Q3 (fx true) (fy false)) (fx false++fy true) s) (Vv ks (o-3) x y (Re ks x false) (Re ks y false) s) (mC o 6))
  (Vv ks o x y (Re ks x true) (Re ks y true) s) (mC o 3)) t
noncomputable def ZE (t:Tt):List Tt:=Mine.Tt.rec (λ_=>[]) (λ_=>[]) (λo x y fx fy=>
 lh (lh (fx++fy) (fP x false++fP y false) (mC o 6)) (fP x true++fP y true) (mC o 3)) t
noncomputable def fF (ks:List Tt) (t:Tt):List D:=Mine.Tt.rec (λi=>[]) (λn=>[]) (λo x y _ py=>lh [Kr ks (.b o x y) false] (Kr ks x true::py) (Nat.ble 8 o)) t
noncomputable def TL (c:List (Option L)):List L:=c.filterMap id
noncomputable def go (n:Nat) (ds:List D) (cs:List L):Bool:=m0 (motive:=λ_=>List L->Bool) (λcs=>fm n cs) (λd _ ih cs=>fm n cs || d.all λc=>ih (TL c++cs)) ds cs
noncomputable def iU (d:D):Bool:=m0 false (λ_ c _=>m0 true (λ_ _ _=>false) c) d
noncomputable def dd (l:List Tt):List Tt:=m0 [] (λt _ ih=>lh (t::ih) ih (ih.any λu=>bq u t)) l
noncomputable def jo (t:Tt):Nat:=Mine.Tt.rec (λ_=>4) (λ_=>4) (λo _ _ x _=>sw o 7 x (F5 4 [4,1,5,6,0,2,4,4,3] o)) t
noncomputable def ZB (l:List Tt):List Tt:=[0,1,2,3,4,5,6].flatMap λo=>l.filter λt=>qE o (jo t)
noncomputable def TT (ks:List Tt) (ds:List D):Bool:=go ks.length (ds.filter λd=>!iU d) ((ds.filter iU).flatMap λd=>TL d.flatten)
noncomputable def jx (t:Tt):Bool:=TT (ZB (dd (ZE t))) (fF (ZB (dd (ZE t))) t++(ZB (dd (ZE t))).flatMap (ay (ZB (dd (ZE t)))))
section
variable {N:List Nat} {I:List Int}
noncomputable def vS (N:List Nat) (I:List Int) (s:Bool) (t:Tt):Int:=lh (ev N I t).2 ((ev N I t).1:Int) s
noncomputable def vl (N:List Nat) (I:List Int) (ks:List Tt):List Int:=ks.map λt=>(ev N I t).2
noncomputable def Is (v:List Int) (o:Option L) (z:Int):Prop:=∀l,o=some l->V v l=z
theorem dZ{t:Tt}(ks:List Tt)(l:List Int)(h:uv ks t=some l):Id l (vl N I ks)=(ev N I t).2:=by
 induction ks generalizing l with
 | nil=>exact nomatch h
 | cons k ks ih=>
  have h:lh ((uv ks t).map (0::·)) (some [1]) (bq k t)=some l:=h
  cases e:bq k t with
  | true=>
   rw[e] at h
   obtain rfl:=kW h
   rw[<-bp _ _ e]
   show 1*_+0=_
   rw[Int.one_mul,qG]
  | false=>
   rw[e] at h
   obtain⟨l',h',rfl⟩:=j8.mp h
   show 0*_+Id l' (vl N I ks)=_
   rw[tH,qF,ih l' h']
theorem D2{ks:List Tt}{s:Bool}{t:Tt}:Is (vl N I ks) (key ks s t) (vS N I s t):=λl h=>by
 obtain⟨u,h',rfl⟩:=j8.mp h
 refine(qF _).trans ((dZ ks u h').trans ?_)
 cases s<;>rfl
theorem He{v:List Int}{x y:Option L}{a b:Int}(hx:Is v x a)(hy:Is v y b):Is v (UT x y) (a+b):=λl h=>by
 obtain⟨x',h1,h⟩:=mV.mp h
 obtain⟨y',h2,rfl⟩:=j8.mp h
 rw[XE,hx _ h1,hy _ h2]
theorem HV{v:List Int}{x:Option L}{a:Int}(k:Int)(hx:Is v x a):Is v (Ym k x) (k*a):=λl h=>by
 obtain⟨x',h1,rfl⟩:=j8.mp h
 rw[PP,hx _ h1]
theorem A2{v:List Int}{x y:Option L}{a b:Int}(hx:Is v x a)(hy:Is v y b):Is v (Cj x y) (a-b):=by
 rw[Int.sub_eq_add_neg,vM];exact He hx (HV _ hy)
theorem GG{v:List Int}(n:Int):Is v (oc n) n:=λl h=>by
 obtain rfl:=kW h;exact qG _
theorem WM{v:List Int}{x y z:Option L}{a b:Int}(hx:Is v x a)(hy:Is v y b)(hz:Is v z (a*b)):Is v (ew x y z) (a*b):=λl h=>by
 obtain⟨⟨c,x'⟩,h1,h⟩:=mV.mp h
 obtain⟨⟨d,y'⟩,h2,h⟩:=mV.mp h
 have hx:=hx _ h1
 have hy:=hy _ h2
 cases x' with
 | nil=>
  obtain rfl:=kW h
  rw[PP,hy,<-hx];show c*b=(c+0)*b;rw[qG]
 | cons e x'=>cases y' with
  | nil=>
   obtain rfl:=kW h
   rw[PP,hx,<-hy];show d*a=a*(d+0);rw[qG,tK]
  | cons f y'=>exact hz l h
theorem I0{ks:List Tt}:∀(t:Tt) (s:Bool),Is (vl N I ks) (Re ks t s) (vS N I s t):=by
 intro t
 induction t with
 | v i=>intro s;exact D2
 | k n=>intro s;cases s<;>exact GG _
 | b o x y hx hy=>
  intro s
  refine DE (P:=λu=>Is _ u _) (λe=>?_) λ_=>DE (P:=λu=>Is _ u _) (λe=>?_) λ_=>DE (P:=λu=>Is _ u _) (λe=>?_) λ_=>DE (P:=λu=>Is _ u _) (λe=>?_) λ_=>DE (P:=λu=>Is _ u _) (λe=>?_) λ_=>D2
  ·subst e;cases s
   ·exact He (hx _) (hy _)
   ·have e:vS N I true (.b 0 x y)=vS N I true x+vS N I true y:=xG _ _
    rw[e];exact He (hx _) (hy _)
  ·subst e;cases s
   ·exact A2 (hx _) (hy _)
   ·exact D2
  ·subst e
   have hk:=D2 (N:=N) (I:=I) (ks:=ks) (s:=s) (t:=.b 2 x y)
   cases s
   ·exact WM (hx _) (hy _) hk
   ·have e:vS N I true (.b 2 x y)=vS N I true x*vS N I true y:=xF _ _
    rw[e] at hk ⊢
    exact WM (hx _) (hy _) hk
  ·subst e;cases s
   ·exact hx true
   ·exact D2
  ·subst e;cases s
   ·have:=HV (-1) (hx false)
    rw[<-vM] at this;exact this
   ·exact D2
noncomputable def ZL (v:List Int) (o:Option L):Prop:=∀l,o=some l->0<=V v l
noncomputable def Ok (v:List Int) (d:D):Prop:=∃c∈d,∀o∈c,ZL v o
theorem Is.sat{v:List Int}{o:Option L}{z:Int}(h:Is v o z)(hz:0<=z):ZL v o:=λl e=>(h l e).symm▸hz
theorem OG{v:List Int}{c:List (Option L)}{d:D}(h:∀o∈c,ZL v o):Ok v (c::d):=⟨c,.head _,h⟩
theorem fK{v:List Int}{c:List (Option L)}{d:D}(h:Ok v d):Ok v (c::d):=let ⟨c,m,h⟩:=h;⟨c,.tail _ m,h⟩
theorem OK{v:List Int}:∀o∈([]:List (Option L)),ZL v o:=λ_ h=>nomatch h
theorem EN{v:List Int}{o:Option L}{c:List (Option L)}(h:ZL v o)(h':∀u∈c,ZL v u):∀u∈o::c,ZL v u:=λu m=>(jI.mp m).elim (λe=>by rw[e];exact h) (h' u)
theorem Pn{ks:List Tt}{s:Bool}{M:Option L}{o:Nat}{p q:Tt}(hM:Is (vl N I ks) M (vS N I s (.b o p q))):∀d∈WY ks s M o p q,Ok (vl N I ks) d:=by
 have hX:=I0 (N:=N) (I:=I) (ks:=ks) p s
 have hY:=I0 (N:=N) (I:=I) (ks:=ks) q s
 refine DE (P:=λ(u:List D)=>∀d∈u,Ok (vl N I ks) d) (λe=>?_) λ_=>DE (P:=λ(u:List D)=>∀d∈u,Ok (vl N I ks) d) (λe=>?_) λ_=>DE (P:=λ(u:List D)=>∀d∈u,Ok (vl N I ks) d) (λe=>?_) λ_=>DE (P:=λ(u:List D)=>∀d∈u,Ok (vl N I ks) d) (λe=>?_) λ_=>DE (P:=λ(u:List D)=>∀d∈u,Ok (vl N I ks) d) (λe=>?_) λ_=>λ_ h=>nomatch h
 ·subst e;cases s
  ·exact λ_ h=>nomatch h
  ·intro d hd
   obtain rfl:=jJ.mp hd
   have e:vS N I true (.b 1 p q)=(((ev N I p).1-(ev N I q).1:Nat):Int):=rfl
   have e1:vS N I true p=((ev N I p).1:Int):=rfl
   have e2:vS N I true q=((ev N I q).1:Int):=rfl
   rw[e] at hM;rw[e1] at hX;rw[e2] at hY
   by_cases h:(ev N I q).1<=(ev N I p).1
   ·exact OG (EN ((A2 hX hY).sat (by omega)) (EN ((A2 hM (A2 hX hY)).sat (by omega)) (EN ((A2 (A2 hX hY) hM).sat (by omega)) OK)))
   ·exact fK (OG (EN ((A2 (A2 hY hX) (GG _)).sat (by omega)) (EN ((HV _ hM).sat (by omega)) OK)))
 ·subst e
  cases q with
  | v _=>exact λ_ h=>nomatch h
  | b _ _ _=>exact λ_ h=>nomatch h
  | k n=>
   intro d hd
   have hd:d∈(lh [] _ (mC 0 n):List D):=hd
   cases e:mC 0 n with
   | false=>rw[e] at hd;exact nomatch hd
   | true=>
    rw[e] at hd
    obtain rfl:=jJ.mp hd
    have n0:(0:Int)<n:=mH.mpr (jV e)
    have e:vS N I s (.b 3 p (.k n))=vS N I s p/n:=by cases s<;>rfl
    rw[e] at hM
    have a1:=Int.ediv_mul_le (vS N I s p) (vN n0)
    have a2:=Int.lt_ediv_add_one_mul_self (vS N I s p) n0
    rw[tK] at a1
    rw[tK,uo,Int.mul_one] at a2
    exact OG (EN ((A2 hX (HV _ hM)).sat (by omega)) (EN ((A2 (He (HV _ hM) (GG _)) hX).sat (by omega)) OK))
 ·subst e
  cases q with
  | v _=>exact λ_ h=>nomatch h
  | b _ _ _=>exact λ_ h=>nomatch h
  | k n=>
   intro d hd
   have hd:d∈(lh [] _ (mC 0 n):List D):=hd
   cases e:mC 0 n with
   | false=>rw[e] at hd;exact nomatch hd
   | true=>
    rw[e] at hd
    obtain rfl:=jJ.mp hd
    have n0:(0:Int)<n:=mH.mpr (jV e)
    have hQ:=D2 (N:=N) (I:=I) (ks:=ks) (s:=s) (t:=.b 3 p (.k n))
    have e:vS N I s (.b 4 p (.k n))=vS N I s p%n:=by cases s<;>rfl
    have e':vS N I s (.b 3 p (.k n))=vS N I s p/n:=by cases s<;>rfl
    rw[e] at hM;rw[e'] at hQ
    have a1:=Int.emod_nonneg (vS N I s p) (vN n0)
    have a2:=Int.emod_lt_of_pos (vS N I s p) n0
    have a3:=Int.mul_ediv_add_emod (vS N I s p) n
    exact OG (EN (hM.sat a1) (EN ((A2 (GG _) hM).sat (by omega)) (EN ((A2 hX (He (HV _ hQ) hM)).sat (by omega)) (EN ((A2 (He (HV _ hQ) hM) hX).sat (by omega)) OK))))
 ·subst e
  intro d hd
  obtain rfl:=jJ.mp hd
  have e:vS N I s (.b 5 p q)=min (vS N I s p) (vS N I s q):=by
   cases s
   ·rfl
   ·show((min (ev N I p).1 (ev N I q).1:Nat):Int)=min ((ev N I p).1:Int) ((ev N I q).1:Int)
    omega
  rw[e] at hM
  by_cases h:vS N I s p<=vS N I s q
  ·rw[xH h] at hM
   exact OG (EN ((A2 hY hX).sat (by omega)) (EN ((A2 hM hX).sat (by omega)) (EN ((A2 hX hM).sat (by omega)) OK)))
  ·rw[xo (by omega)] at hM
   exact fK (OG (EN ((A2 hX hY).sat (by omega)) (EN ((A2 hM hY).sat (by omega)) (EN ((A2 hY hM).sat (by omega)) OK))))
 ·subst e;cases s
  ·exact λ_ h=>nomatch h
  ·intro d hd
   obtain rfl:=jJ.mp hd
   have hZ:=I0 (N:=N) (I:=I) (ks:=ks) p false
   have e:vS N I true (.b 8 p q)=((vS N I false p).toNat:Int):=rfl
   rw[e] at hM
   by_cases h:0<=vS N I false p
   ·exact OG (EN (hZ.sat h) (EN ((A2 hM hZ).sat (by omega)) (EN ((A2 hZ hM).sat (by omega)) OK)))
   ·exact fK (OG (EN ((A2 (GG _) hZ).sat (by omega)) (EN ((HV _ hM).sat (by omega)) OK)))
theorem YT{ks:List Tt}(t:Tt):∀d∈ay ks t,Ok (vl N I ks) d:=by
 cases t with
 | v _=>exact λ_ h=>nomatch h
 | k _=>exact λ_ h=>nomatch h
 | b o x y=>
  refine DE (P:=λ(u:List D)=>∀d∈u,Ok (vl N I ks) d) (λe=>?_) λ_=>Pn D2
  intro d hd
  rcases jI.mp hd with rfl|hd
  ·exact OG (EN (D2.sat (oH _)) OK)
  ·cases x with
   | v _=>exact nomatch hd
   | k _=>exact nomatch hd
   | b o p q=>exact Pn D2 d hd
theorem Q5{v:List Int}{d e:D}(h:Ok v d\/Ok v e):Ok v (d++e):=by
 rcases h with⟨c,m,h⟩|⟨c,m,h⟩
 ·exact⟨c,lO _ m,h⟩
 ·exact⟨c,kR _ m,h⟩
theorem N7{v:List Int}{d e:D}(h:Ok v d)(h':Ok v e):Ok v (Q3 d e):=by
 obtain⟨c,m,h⟩:=h
 obtain⟨c',m',h'⟩:=h'
 exact⟨c++c',lw.mpr ⟨c,m,kq.mpr ⟨c',m',rfl⟩⟩,λo ho=>(jW.mp ho).elim (h o) (h' o)⟩
noncomputable def gC (o:Nat) (a b:Int):Prop:=sw o 0 (a<=b) <| sw o 1 (a<b) (a=b)
theorem Us{ks:List Tt}{v:List Int}{o:Nat}{x y:Tt}{Xx Y:Option L}{a b:Int}(hX:Is v Xx a)(hY:Is v Y b)(s:Bool)(h:lh (¬gC o a b) (gC o a b) s):Ok v (Vv ks o x y Xx Y s):=by
 by_cases e:o=0
 ·subst e
  cases s
  ·have h:¬a<=b:=h
   exact OG (EN ((A2 (A2 hX hY) (GG _)).sat (by omega)) OK)
  ·have h:a<=b:=h
   exact OG (EN ((A2 hY hX).sat (by omega)) OK)
 ·by_cases e':o=1
  ·subst e'
   cases s
   ·have h:¬a<b:=h
    exact OG (EN ((A2 hX hY).sat (by omega)) OK)
   ·have h:a<b:=h
    exact OG (EN ((A2 (A2 hY hX) (GG _)).sat (by omega)) OK)
  ·have e1:∀{α:Sort _} {x y z:α},sw o 0 x (sw o 1 y z)=z:=λ{α x y z}=>DE (P:=λu=>u=z) (λw=>absurd w e) λ_=>DE (P:=λu=>u=z) (λw=>absurd w e') λ_=>rfl
   unfold Vv;rw[e1]
   unfold gC at h;rw[e1] at h
   cases s
   ·have h:¬a=b:=h
    by_cases h':a<b
    ·exact OG (EN ((A2 (A2 hY hX) (GG _)).sat (by omega)) OK)
    ·exact fK (OG (EN ((A2 (A2 hX hY) (GG _)).sat (by omega)) OK))
   ·have h:a=b:=h
    exact OG (EN ((A2 hY hX).sat (by omega)) (EN ((A2 hX hY).sat (by omega)) OK))
theorem Wx{ks:List Tt}:∀(t:Tt) (s:Bool),lh (¬Hr N I t) (Hr N I t) s->Ok (vl N I ks) (Kr ks t s):=by
 intro t
 induction t with
 | v i=>intro s _;exact OG OK
 | k n=>intro s h;cases s with
  | false=>exact OG OK
  | true=>exact(h:False).elim
 | b o x y hx hy=>
  intro s h
  have hX:=I0 (N:=N) (I:=I) (ks:=ks) x
  have hY:=I0 (N:=N) (I:=I) (ks:=ks) y
  by_cases h3:mC o 3=true
  ·have e:Kr ks (.b o x y) s=Vv ks o x y (Re ks x true) (Re ks y true) s:=by
    show lh (motive:=λ_=>D) _ _ (mC o 3)=_
    rw[h3]
   rw[e]
   refine Us (hX true) (hY true) s ?_
   have h3:o<3:=jV h3
   clear hx hy hX hY e
   rcases o with _|_|_|o
   ·cases s
    ·exact λq=>h (tI.mp q)
    ·exact tI.mpr h
   ·cases s
    ·exact λq=>h (mH.mp q)
    ·exact mH.mpr h
   ·cases s
    ·exact λq=>h (Int.ofNat_inj.mp q)
    ·exact Int.ofNat_inj.mpr h
   ·exact absurd h3 (ue (rR 3 o))
  ·have h3:=pJ.mpr h3
   by_cases h6:mC o 6=true
   ·have e:Kr ks (.b o x y) s=Vv ks (o-3) x y (Re ks x false) (Re ks y false) s:=by
     show lh (motive:=λ_=>D) (lh (motive:=λ_=>D) _ _ (mC o 6)) _ (mC o 3)=_
     rw[h3,h6]
    rw[e]
    refine Us (hX false) (hY false) s ?_
    have h6:o<6:=jV h6
    clear hx hy hX hY e
    obtain⟨k,rfl⟩:∃k,o=k+3:=⟨o-3,(oE (om λw=>ll (h3.symm.trans (sa w)))).symm⟩
    rcases k with _|_|_|k
    ·cases s<;>exact h
    ·cases s<;>exact h
    ·cases s<;>exact h
    ·exact absurd h6 (ue (rR 6 k))
   ·have h6:=pJ.mpr h6
    have n6:∀k,k<6->o≠k:=λk hk e=>by
     subst e
     rw[show mC o 6=true from sa hk] at h6;exact lN h6
    have e:∀s,Kr ks (.b o x y) s=sw o 6 (lh (Kr ks x false++Kr ks y false) (Q3 (Kr ks x true) (Kr ks y true)) s) (sw o 7 (lh (Q3 (Kr ks x false) (Kr ks y false)) (Kr ks x true++Kr ks y true) s) (lh (Q3 (Kr ks x true) (Kr ks y false)) (Kr ks x false++Kr ks y true) s)):=by
     intro s
     show lh (motive:=λ_=>D) (lh (motive:=λ_=>D) _ _ (mC o 6)) _ (mC o 3)=_
     rw[h3,h6];rfl
    have e0:∀{k:Nat} {α:Sort _} {x y:α},o≠k->sw o k x y=y:=λ{k α x y} n=>DE (P:=λu=>u=y) (λw=>absurd w n) λ_=>rfl
    have e2:Hr N I (.b o x y)=sw o 6 (Hr N I x/\Hr N I y) (sw o 7 (Hr N I x\/Hr N I y) (Hr N I x->Hr N I y)):=by
     show sw o 0 _ (sw o 1 _ (sw o 2 _ (sw o 3 _ (sw o 4 _ (sw o 5 _ _)))))=_
     rw[e0 (n6 0 (by decide)),e0 (n6 1 (by decide)),e0 (n6 2 (by decide)),e0 (n6 3 (by decide)),e0 (n6 4 (by decide)),e0 (n6 5 (by decide))]
     rfl
    rw[e s]
    rw[e2] at h
    by_cases o6:o=6
    ·subst o6
     cases s
     ·have h:¬(Hr N I x/\Hr N I y):=h
      exact Q5 ((Classical.not_and_iff_not_or_not.mp h).imp (hx false) (hy false))
     ·have h:Hr N I x/\Hr N I y:=h
      exact N7 (hx true h.1) (hy true h.2)
    ·rw[e0 o6] at h ⊢
     by_cases o7:o=7
     ·subst o7
      cases s
      ·have h:¬(Hr N I x\/Hr N I y):=h
       exact N7 (hx false λq=>h (.inl q)) (hy false λq=>h (.inr q))
      ·have h:Hr N I x\/Hr N I y:=h
       exact Q5 (h.imp (hx true) (hy true))
     ·rw[e0 o7] at h ⊢
      cases s
      ·have h:¬(Hr N I x->Hr N I y):=h
       obtain⟨p,q⟩:=vr.mp h
       exact N7 (hx true p) (hy false q)
      ·have h:Hr N I x->Hr N I y:=h
       refine Q5 ?_
       by_cases p:Hr N I x
       ·exact .inr (hy true (h p))
       ·exact .inl (hx false p)
theorem Z1{ks:List Tt}:∀(t:Tt),¬Hr N I t->∀d∈fF ks t,Ok (vl N I ks) d:=by
 intro t
 induction t with
 | v i=>intro _ _ h;exact nomatch h
 | k n=>intro _ _ h;exact nomatch h
 | b o x y hx hy=>
  intro h d hd
  have hd:d∈(lh [Kr ks (.b o x y) false] (Kr ks x true::fF ks y) (Nat.ble 8 o):List D):=hd
  cases e:Nat.ble 8 o with
  | false=>
   rw[e] at hd
   obtain rfl:=jJ.mp hd
   exact Wx _ false h
  | true=>
   rw[e] at hd
   have h8:=jV e
   have e0:∀{k:Nat} {α:Sort _} {x y:α},k<8->sw o k x y=y:=λ{k α x y} n=>DE (P:=λu=>u=y) (λw=>absurd w (by omega)) λ_=>rfl
   have e2:Hr N I (.b o x y)=(Hr N I x->Hr N I y):=by
    show sw o 0 _ (sw o 1 _ (sw o 2 _ (sw o 3 _ (sw o 4 _ (sw o 5 _ (sw o 6 _ (sw o 7 _ _)))))))=_
    rw[e0 (by decide),e0 (by decide),e0 (by decide),e0 (by decide),e0 (by decide),e0 (by decide),e0 (by decide),e0 (by decide)]
    rfl
   rw[e2] at h
   obtain⟨p,q⟩:=vr.mp h
   rcases jI.mp hd with rfl|hd
   ·exact Wx _ true p
   ·exact hy q d hd
theorem OP{v:List Int}{c:List (Option L)}(h:∀o∈c,ZL v o):∀l∈TL c,0<=V v l:=λl hl=>by
 obtain⟨o,ho,e⟩:=qL.mp hl
 exact h o ho l e
theorem eH{v:List Int}{n:Nat}(hn:v.length=n):∀(ds:List D) (cs:List L),(∀d∈ds,Ok v d)->(∀l∈cs,0<=V v l)->go n ds cs=false:=by
 intro ds
 induction ds with
 | nil=>exact λcs _ h=>ZF hn h
 | cons d ds ih=>
  intro cs hd h
  show(fm n cs || d.all λc=>go n ds (TL c++cs))=false
  rw[ZF hn h,Bool.false_or]
  obtain⟨c,m,hc⟩:=hd d (.head _)
  refine List.all_eq_false.mpr ⟨c,m,?_⟩
  rw[ih _ (λe he=>hd e (.tail _ he)) λl hl=>(jW.mp hl).elim (OP hc l) (h l)]
  exact ll
theorem G8{ks:List Tt}{ds:List D}(h:∀d∈ds,Ok (vl N I ks) d):TT ks ds=false:=by
 refine eH (jK _) _ _ (λd hd=>h d (kd.mp hd).1) λl hl=>?_
 obtain⟨d,hd,hl⟩:=lw.mp hl
 obtain⟨hd,h1⟩:=kd.mp hd
 refine OP (λo ho=>?_) l hl
 obtain⟨c,m,hc⟩:=h d hd
 cases d with
 | nil=>exact nomatch m
 | cons c' d=>cases d with
  | cons _ _=>exact nomatch h1
  | nil=>
   obtain rfl:=jJ.mp m
   obtain⟨c',m',ho'⟩:=List.mem_flatten.mp ho
   obtain rfl:=jJ.mp m'
   exact hc o ho'
end
end Ar
open Ar in
theorem ar(N:List Nat)(I:List Int)(t:Tt)(h:jx t=true):Hr N I t:=by
 refine tT λn=>?_
 have:=G8 (ks:=ZB (dd (ZE t))) (N:=N) (I:=I) (ds:=fF (ZB (dd (ZE t))) t++(ZB (dd (ZE t))).flatMap (ay (ZB (dd (ZE t))))) λd hd=>?_
 ·exact absurd (h.symm.trans this) (by decide)
 ·rcases jW.mp hd with hd|hd
  ·exact Z1 t n d hd
  ·obtain⟨k,_,hd⟩:=lw.mp hd
   exact YT k d hd
noncomputable def Xx (N:List Nat) (I:List Int) {α:Type} (x:α) (t:Tt):Prop:=True
section
variable (N:List Nat) (I:List Int)
inductive Rr:{α:Type}->α->Tt->Prop
 | im {x y:Prop} {a b:Tt}:Xx N I x a->Xx N I y b->Rr (x->y) (.b 8 a b)
 | le {i:LE Nat} {x y:Nat} {a b:Tt}:Xx N I x a->Xx N I y b->Rr (@LE.le Nat i x y) (.b 0 a b)
 | lt {i:LT Nat} {x y:Nat} {a b:Tt}:Xx N I x a->Xx N I y b->Rr (@LT.lt Nat i x y) (.b 1 a b)
 | eq {x y:Nat} {a b:Tt}:Xx N I x a->Xx N I y b->Rr (@Eq Nat x y) (.b 2 a b)
 | an {x y:Prop} {a b:Tt}:Xx N I x a->Xx N I y b->Rr (x/\y) (.b 6 a b)
 | f:Rr False (.k 0)
 | no {x:Prop} {a:Tt}:Xx N I x a->Rr (¬x) (.b 8 a (.k 0))
 | le' {i:LE Int} {x y:Int} {a b:Tt}:Xx N I x a->Xx N I y b->Rr (@LE.le Int i x y) (.b 3 a b)
 | lt' {i:LT Int} {x y:Int} {a b:Tt}:Xx N I x a->Xx N I y b->Rr (@LT.lt Int i x y) (.b 4 a b)
 | eq' {x y:Int} {a b:Tt}:Xx N I x a->Xx N I y b->Rr (@Eq Int x y) (.b 5 a b)
 | or {x y:Prop} {a b:Tt}:Xx N I x a->Xx N I y b->Rr (x\/y) (.b 7 a b)
 | ge {α:Type} {i:LE α} {x y:α} {a:Tt}:Xx N I (@LE.le α i y x) a->Rr (@GE.ge α i x y) a
 | gt {α:Type} {i:LT α} {x y:α} {a:Tt}:Xx N I (@LT.lt α i y x) a->Rr (@GT.gt α i x y) a
 | nil {α:Type}:Rr ([]:List α) (.k 0)
 | cons {α:Type} {x:α} {l:List α}:Xx N I l (.k 0)->Rr (x::l) (.k 0)
 | k {α:Type} {n:Nat} {i:OfNat α n}:Rr (@vF α n i) (.k n)
 | c0 {α:Type} {i:HAdd α α α} {x y:α} {a b:Tt}:Xx N I x a->Xx N I y b->Rr (@HAdd.hAdd α α α i x y) (.b 0 a b)
 | c1 {α:Type} {i:HSub α α α} {x y:α} {a b:Tt}:Xx N I x a->Xx N I y b->Rr (@HSub.hSub α α α i x y) (.b 1 a b)
 | c7 {i:NatCast Int} {x:Nat} {a:Tt}:Xx N I x a->Rr (@Nat.cast Int i x) (.b 7 a (.k 0))
 | c2 {α:Type} {i:HMul α α α} {x y:α} {a b:Tt}:Xx N I x a->Xx N I y b->Rr (@HMul.hMul α α α i x y) (.b 2 a b)
 | c3 {α:Type} {i:HDiv α α α} {x y:α} {a b:Tt}:Xx N I x a->Xx N I y b->Rr (@HDiv.hDiv α α α i x y) (.b 3 a b)
 | c4 {α:Type} {i:HMod α α α} {x y:α} {a b:Tt}:Xx N I x a->Xx N I y b->Rr (@HMod.hMod α α α i x y) (.b 4 a b)
 | w {α:Type} {i:HPow α Nat α} {m n:Nat} {j:OfNat α m} {l:OfNat Nat n}:Rr (@HPow.hPow α Nat α i (@vF α m j) (@vF Nat n l)) (.k (m^n))
 | c8 {x:Int} {a:Tt}:Xx N I x a->Rr x.toNat (.b 8 a (.k 0))
 | c5 {α:Type} {i:Min α} {x y:α} {a b:Tt}:Xx N I x a->Xx N I y b->Rr (@Min.min α i x y) (.b 5 a b)
 | c9 {i:Neg Int} {x:Int} {a:Tt}:Xx N I x a->Rr (@Neg.neg Int i x) (.b 9 a (.k 0))
 | s {x:Nat} {a:Tt}:Xx N I x a->Rr (Nat.succ x) (.b 0 a (.k 1))
 | v {x i:Nat}:Xx N I (N,x) (.k i)->Rr x (.v i)
 | u {x:Int} {i:Nat}:Xx N I (I,x) (.k i)->Rr x (.v i)
 | hd {α:Type} {x:α} {l:List α}:Rr (x::l,x) (.k 0)
 | tl {α:Type} {x y:α} {l:List α} {i:Nat}:Xx N I (l,x) (.k i)->Rr (y::l,x) (.k (i+1))
 | go {x:Prop} {t:Tt}:Xx N I x t->Xx N I N (.k 0)->Xx N I I (.k 0)->Rr (x,()) t
end
theorem wr{N:List Nat}{I:List Int}{α:Type}{x:α}{t:Tt}(h:Rr N I x t):Xx N I x t:=trivial
local macro_rules | `(tactic| rwa[$[$hs:term],*])=>`(tactic| (revert $hs*;refine(letI G:Prop:=_;(?_:G));exact(letI N:=_;letI I:=_;letI t:=_;haveI:Xx N I (G,()) t:=(by unfold G;with_reducible repeat' (apply wr;constructor));(by exact ar N I t (by kernel_rfl)))))
section
variable {α β γ δ ε ζ η:Type} {G:Prop}
theorem gn{h:j6}{a:jN}(f:∀o,h.get? a=some o->False):h.get? a=none:=by
 cases e:h.get? a with
 | none=>rfl
 | some o=>exact(f o e).elim
theorem Cg{P Q:Prop}:(P/\Q)->(P->Q->G)->G:=
 λh k=>k  h.1 h.2
theorem C1{P Q R:Prop}:(P/\Q/\R)->(P->Q->R->G)->G:=
 λh k=>k  h.1 h.2.1 h.2.2
theorem CU{P Q R S:Prop}:(P/\Q/\R/\S)->(P->Q->R->S->G)->G:=
 λh k=>k  h.1 h.2.1 h.2.2.1 h.2.2.2
theorem Ue{P Q R S T:Prop}:(P/\Q/\R/\S/\T)->(P->Q->R->S->T->G)->G:=
 λh k=>k  h.1 h.2.1 h.2.2.1 h.2.2.2.1 h.2.2.2.2
theorem AR{P:α->Prop}:(∃x,P x)->(∀x,P x->G)->G:=
 λh k=>h.elim λx h=>k x h
theorem Af{P Q:α->Prop}:(∃x,P x/\Q x)->(∀x,P x->Q x->G)->G:=
 λh k=>h.elim λx h=>k x h.1 h.2
theorem Bu{P Q R:α->Prop}:(∃x,P x/\Q x/\R x)->(∀x,P x->Q x->R x->G)->G:=
 λh k=>h.elim λx h=>k x h.1 h.2.1 h.2.2
theorem H0{P Q R S:α->Prop}:(∃x,P x/\Q x/\R x/\S x)->(∀x,P x->Q x->R x->S x->G)->G:=
 λh k=>h.elim λx h=>k x h.1 h.2.1 h.2.2.1 h.2.2.2
theorem W4{P Q R S T:α->Prop}:(∃x,P x/\Q x/\R x/\S x/\T x)->(∀x,P x->Q x->R x->S x->T x->G)->G:=
 λh k=>h.elim λx h=>k x h.1 h.2.1 h.2.2.1 h.2.2.2.1 h.2.2.2.2
theorem W3{P Q R S T U:α->Prop}:(∃x,P x/\Q x/\R x/\S x/\T x/\U x)->(∀x,P x->Q x->R x->S x->T x->U x->G)->G:=
 λh k=>h.elim λx h=>k x h.1 h.2.1 h.2.2.1 h.2.2.2.1 h.2.2.2.2.1 h.2.2.2.2.2
theorem B1{P:α->β->Prop}:(∃x y,P x y)->(∀x y,P x y->G)->G:=
 λh k=>h.elim λx h=>h.elim λy h=>k x y h
theorem Ao{P Q:α->β->Prop}:(∃x y,P x y/\Q x y)->(∀x y,P x y->Q x y->G)->G:=
 λh k=>h.elim λx h=>h.elim λy h=>k x y h.1 h.2
theorem BD{P Q R:α->β->Prop}:(∃x y,P x y/\Q x y/\R x y)->(∀x y,P x y->Q x y->R x y->G)->G:=
 λh k=>h.elim λx h=>h.elim λy h=>k x y h.1 h.2.1 h.2.2
theorem E8{P Q R S:α->β->Prop}:(∃x y,P x y/\Q x y/\R x y/\S x y)->(∀x y,P x y->Q x y->R x y->S x y->G)->G:=
 λh k=>h.elim λx h=>h.elim λy h=>k x y h.1 h.2.1 h.2.2.1 h.2.2.2
theorem C9{P Q R S T:α->β->Prop}:(∃x y,P x y/\Q x y/\R x y/\S x y/\T x y)->(∀x y,P x y->Q x y->R x y->S x y->T x y->G)->G:=
 λh k=>h.elim λx h=>h.elim λy h=>k x y h.1 h.2.1 h.2.2.1 h.2.2.2.1 h.2.2.2.2
theorem FN{P:α->β->γ->Prop}:(∃x y z,P x y z)->(∀x y z,P x y z->G)->G:=
 λh k=>h.elim λx h=>h.elim λy h=>h.elim λz h=>k x y z h
theorem CG{P Q:α->β->γ->Prop}:(∃x y z,P x y z/\Q x y z)->(∀x y z,P x y z->Q x y z->G)->G:=
 λh k=>h.elim λx h=>h.elim λy h=>h.elim λz h=>k x y z h.1 h.2
theorem Ec{P Q R:α->β->γ->Prop}:(∃x y z,P x y z/\Q x y z/\R x y z)->(∀x y z,P x y z->Q x y z->R x y z->G)->G:=
 λh k=>h.elim λx h=>h.elim λy h=>h.elim λz h=>k x y z h.1 h.2.1 h.2.2
theorem Cf{P Q R S:α->β->γ->Prop}:(∃x y z,P x y z/\Q x y z/\R x y z/\S x y z)->(∀x y z,P x y z->Q x y z->R x y z->S x y z->G)->G:=
 λh k=>h.elim λx h=>h.elim λy h=>h.elim λz h=>k x y z h.1 h.2.1 h.2.2.1 h.2.2.2
theorem HZ{P Q R S T:α->β->γ->Prop}:(∃x y z,P x y z/\Q x y z/\R x y z/\S x y z/\T x y z)->(∀x y z,P x y z->Q x y z->R x y z->S x y z->T x y z->G)->G:=
 λh k=>h.elim λx h=>h.elim λy h=>h.elim λz h=>k x y z h.1 h.2.1 h.2.2.1 h.2.2.2.1 h.2.2.2.2
theorem CR{P Q R S T U:α->β->γ->Prop}:(∃x y z,P x y z/\Q x y z/\R x y z/\S x y z/\T x y z/\U x y z)->(∀x y z,P x y z->Q x y z->R x y z->S x y z->T x y z->U x y z->G)->G:=
 λh k=>h.elim λx h=>h.elim λy h=>h.elim λz h=>k x y z h.1 h.2.1 h.2.2.1 h.2.2.2.1 h.2.2.2.2.1 h.2.2.2.2.2
theorem Eb{P:α->β->γ->δ->Prop}:(∃x y z u,P x y z u)->(∀x y z u,P x y z u->G)->G:=
 λh k=>h.elim λx h=>h.elim λy h=>h.elim λz h=>h.elim λu h=>k x y z u h
theorem E7{P Q R:α->β->γ->δ->Prop}:(∃x y z u,P x y z u/\Q x y z u/\R x y z u)->(∀x y z u,P x y z u->Q x y z u->R x y z u->G)->G:=
 λh k=>h.elim λx h=>h.elim λy h=>h.elim λz h=>h.elim λu h=>k x y z u h.1 h.2.1 h.2.2
theorem Cz{P Q R S:α->β->γ->δ->Prop}:(∃x y z u,P x y z u/\Q x y z u/\R x y z u/\S x y z u)->(∀x y z u,P x y z u->Q x y z u->R x y z u->S x y z u->G)->G:=
 λh k=>h.elim λx h=>h.elim λy h=>h.elim λz h=>h.elim λu h=>k x y z u h.1 h.2.1 h.2.2.1 h.2.2.2
theorem Pp{P Q R S T U V:α->β->γ->δ->Prop}:(∃x y z u,P x y z u/\Q x y z u/\R x y z u/\S x y z u/\T x y z u/\U x y z u/\V x y z u)->(∀x y z u,P x y z u->Q x y z u->R x y z u->S x y z u->T x y z u->U x y z u->V x y z u->G)->G:=
 λh k=>h.elim λx h=>h.elim λy h=>h.elim λz h=>h.elim λu h=>k x y z u h.1 h.2.1 h.2.2.1 h.2.2.2.1 h.2.2.2.2.1 h.2.2.2.2.2.1 h.2.2.2.2.2.2
theorem az{P Q R S T U V W X Y Z A B C D E F H:α->β->γ->δ->Prop}:(∃x y z u,P x y z u/\Q x y z u/\R x y z u/\S x y z u/\T x y z u/\U x y z u/\V x y z u/\W x y z u/\X x y z u/\Y x y z u/\Z x y z u/\A x y z u/\B x y z u/\C x y z u/\D x y z u/\E x y z u/\F x y z u/\H x y z u)->(∀x y z u,P x y z u->Q x y z u->R x y z u->S x y z u->T x y z u->U x y z u->V x y z u->W x y z u->X x y z u->Y x y z u->Z x y z u->A x y z u->B x y z u->C x y z u->D x y z u->E x y z u->F x y z u->H x y z u->G)->G:=
 λh k=>h.elim λx h=>h.elim λy h=>h.elim λz h=>h.elim λu h=>k x y z u h.1 h.2.1 h.2.2.1 h.2.2.2.1 h.2.2.2.2.1 h.2.2.2.2.2.1 h.2.2.2.2.2.2.1 h.2.2.2.2.2.2.2.1 h.2.2.2.2.2.2.2.2.1 h.2.2.2.2.2.2.2.2.2.1 h.2.2.2.2.2.2.2.2.2.2.1 h.2.2.2.2.2.2.2.2.2.2.2.1 h.2.2.2.2.2.2.2.2.2.2.2.2.1 h.2.2.2.2.2.2.2.2.2.2.2.2.2.1 h.2.2.2.2.2.2.2.2.2.2.2.2.2.2.1 h.2.2.2.2.2.2.2.2.2.2.2.2.2.2.2.1 h.2.2.2.2.2.2.2.2.2.2.2.2.2.2.2.2.1 h.2.2.2.2.2.2.2.2.2.2.2.2.2.2.2.2.2
theorem W2{P Q R S T U V:α->β->γ->δ->ε->Prop}:(∃x y z u v,P x y z u v/\Q x y z u v/\R x y z u v/\S x y z u v/\T x y z u v/\U x y z u v/\V x y z u v)->(∀x y z u v,P x y z u v->Q x y z u v->R x y z u v->S x y z u v->T x y z u v->U x y z u v->V x y z u v->G)->G:=
 λh k=>h.elim λx h=>h.elim λy h=>h.elim λz h=>h.elim λu h=>h.elim λv h=>k x y z u v h.1 h.2.1 h.2.2.1 h.2.2.2.1 h.2.2.2.2.1 h.2.2.2.2.2.1 h.2.2.2.2.2.2
theorem W1{P Q R S T:α->β->γ->δ->ε->ζ->Prop}:(∃x y z u v w,P x y z u v w/\Q x y z u v w/\R x y z u v w/\S x y z u v w/\T x y z u v w)->(∀x y z u v w,P x y z u v w->Q x y z u v w->R x y z u v w->S x y z u v w->T x y z u v w->G)->G:=
 λh k=>h.elim λx h=>h.elim λy h=>h.elim λz h=>h.elim λu h=>h.elim λv h=>h.elim λw h=>k x y z u v w h.1 h.2.1 h.2.2.1 h.2.2.2.1 h.2.2.2.2
theorem ZG{P Q R S T U V:α->β->γ->δ->ε->ζ->Prop}:(∃x y z u v w,P x y z u v w/\Q x y z u v w/\R x y z u v w/\S x y z u v w/\T x y z u v w/\U x y z u v w/\V x y z u v w)->(∀x y z u v w,P x y z u v w->Q x y z u v w->R x y z u v w->S x y z u v w->T x y z u v w->U x y z u v w->V x y z u v w->G)->G:=
 λh k=>h.elim λx h=>h.elim λy h=>h.elim λz h=>h.elim λu h=>h.elim λv h=>h.elim λw h=>k x y z u v w h.1 h.2.1 h.2.2.1 h.2.2.2.1 h.2.2.2.2.1 h.2.2.2.2.2.1 h.2.2.2.2.2.2
theorem Ud{P Q R S:α->β->γ->δ->ε->ζ->η->Prop}:(∃x y z u v w t,P x y z u v w t/\Q x y z u v w t/\R x y z u v w t/\S x y z u v w t)->(∀x y z u v w t,P x y z u v w t->Q x y z u v w t->R x y z u v w t->S x y z u v w t->G)->G:=
 λh k=>h.elim λx h=>h.elim λy h=>h.elim λz h=>h.elim λu h=>h.elim λv h=>h.elim λw h=>h.elim λt h=>k x y z u v w t h.1 h.2.1 h.2.2.1 h.2.2.2
end
section
variable {α:Sort _} {β:Sort _} {γ:Sort _} {δ:Sort _} {ε:Sort _} {ζ:Sort _} {η:Sort _} {θ:Sort _}
theorem Ag{P:α->Prop}(x:α)(h1:P x):∃x,P x:=⟨x,h1⟩
theorem Ac{P Q:α->Prop}(x:α)(h1:P x)(h2:Q x):∃x,P x/\Q x:=⟨x,h1,h2⟩
theorem Ba{P Q R:α->Prop}(x:α)(h1:P x)(h2:Q x)(h3:R x):∃x,P x/\Q x/\R x:=⟨x,h1,h2,h3⟩
theorem H5{P Q R S:α->Prop}(x:α)(h1:P x)(h2:Q x)(h3:R x)(h4:S x):∃x,P x/\Q x/\R x/\S x:=⟨x,h1,h2,h3,h4⟩
theorem Xi{P Q R S T:α->Prop}(x:α)(h1:P x)(h2:Q x)(h3:R x)(h4:S x)(h5:T x):∃x,P x/\Q x/\R x/\S x/\T x:=⟨x,h1,h2,h3,h4,h5⟩
theorem eY{P Q R S T U:α->Prop}(x:α)(h1:P x)(h2:Q x)(h3:R x)(h4:S x)(h5:T x)(h6:U x):∃x,P x/\Q x/\R x/\S x/\T x/\U x:=⟨x,h1,h2,h3,h4,h5,h6⟩
theorem AS{P:α->β->Prop}(x:α)(y:β)(h1:P x y):∃x y,P x y:=⟨x,y,h1⟩
theorem AT{P Q:α->β->Prop}(x:α)(y:β)(h1:P x y)(h2:Q x y):∃x y,P x y/\Q x y:=⟨x,y,h1,h2⟩
theorem FQ{P Q R:α->β->Prop}(x:α)(y:β)(h1:P x y)(h2:Q x y)(h3:R x y):∃x y,P x y/\Q x y/\R x y:=⟨x,y,h1,h2,h3⟩
theorem C6{P Q R S:α->β->Prop}(x:α)(y:β)(h1:P x y)(h2:Q x y)(h3:R x y)(h4:S x y):∃x y,P x y/\Q x y/\R x y/\S x y:=⟨x,y,h1,h2,h3,h4⟩
theorem C5{P Q R S T:α->β->Prop}(x:α)(y:β)(h1:P x y)(h2:Q x y)(h3:R x y)(h4:S x y)(h5:T x y):∃x y,P x y/\Q x y/\R x y/\S x y/\T x y:=⟨x,y,h1,h2,h3,h4,h5⟩
theorem Uh{P Q R S T U:α->β->Prop}(x:α)(y:β)(h1:P x y)(h2:Q x y)(h3:R x y)(h4:S x y)(h5:T x y)(h6:U x y):∃x y,P x y/\Q x y/\R x y/\S x y/\T x y/\U x y:=⟨x,y,h1,h2,h3,h4,h5,h6⟩
theorem Jd{P:α->β->γ->Prop}(x:α)(y:β)(z:γ)(h1:P x y z):∃x y z,P x y z:=⟨x,y,z,h1⟩
theorem KC{P Q:α->β->γ->Prop}(x:α)(y:β)(z:γ)(h1:P x y z)(h2:Q x y z):∃x y z,P x y z/\Q x y z:=⟨x,y,z,h1,h2⟩
theorem Pw{P Q R:α->β->γ->Prop}(x:α)(y:β)(z:γ)(h1:P x y z)(h2:Q x y z)(h3:R x y z):∃x y z,P x y z/\Q x y z/\R x y z:=⟨x,y,z,h1,h2,h3⟩
theorem FP{P Q R S:α->β->γ->Prop}(x:α)(y:β)(z:γ)(h1:P x y z)(h2:Q x y z)(h3:R x y z)(h4:S x y z):∃x y z,P x y z/\Q x y z/\R x y z/\S x y z:=⟨x,y,z,h1,h2,h3,h4⟩
theorem KB{P Q R S T:α->β->γ->Prop}(x:α)(y:β)(z:γ)(h1:P x y z)(h2:Q x y z)(h3:R x y z)(h4:S x y z)(h5:T x y z):∃x y z,P x y z/\Q x y z/\R x y z/\S x y z/\T x y z:=⟨x,y,z,h1,h2,h3,h4,h5⟩
theorem CA{P Q R S T U:α->β->γ->Prop}(x:α)(y:β)(z:γ)(h1:P x y z)(h2:Q x y z)(h3:R x y z)(h4:S x y z)(h5:T x y z)(h6:U x y z):∃x y z,P x y z/\Q x y z/\R x y z/\S x y z/\T x y z/\U x y z:=⟨x,y,z,h1,h2,h3,h4,h5,h6⟩
theorem eX{P Q R S T U V W X:α->β->γ->Prop}(x:α)(y:β)(z:γ)(h1:P x y z)(h2:Q x y z)(h3:R x y z)(h4:S x y z)(h5:T x y z)(h6:U x y z)(h7:V x y z)(h8:W x y z)(h9:X x y z):∃x y z,P x y z/\Q x y z/\R x y z/\S x y z/\T x y z/\U x y z/\V x y z/\W x y z/\X x y z:=⟨x,y,z,h1,h2,h3,h4,h5,h6,h7,h8,h9⟩
theorem aJ{P Q R S T U V W X Y:α->β->γ->Prop}(x:α)(y:β)(z:γ)(h1:P x y z)(h2:Q x y z)(h3:R x y z)(h4:S x y z)(h5:T x y z)(h6:U x y z)(h7:V x y z)(h8:W x y z)(h9:X x y z)(h10:Y x y z):∃x y z,P x y z/\Q x y z/\R x y z/\S x y z/\T x y z/\U x y z/\V x y z/\W x y z/\X x y z/\Y x y z:=⟨x,y,z,h1,h2,h3,h4,h5,h6,h7,h8,h9,h10⟩
theorem aH{P Q R S T U V W X Y Z:α->β->γ->Prop}(x:α)(y:β)(z:γ)(h1:P x y z)(h2:Q x y z)(h3:R x y z)(h4:S x y z)(h5:T x y z)(h6:U x y z)(h7:V x y z)(h8:W x y z)(h9:X x y z)(h10:Y x y z)(h11:Z x y z):∃x y z,P x y z/\Q x y z/\R x y z/\S x y z/\T x y z/\U x y z/\V x y z/\W x y z/\X x y z/\Y x y z/\Z x y z:=⟨x,y,z,h1,h2,h3,h4,h5,h6,h7,h8,h9,h10,h11⟩
theorem EH{P:α->β->γ->δ->Prop}(x:α)(y:β)(z:γ)(u:δ)(h1:P x y z u):∃x y z u,P x y z u:=⟨x,y,z,u,h1⟩
theorem eW{P Q:α->β->γ->δ->Prop}(x:α)(y:β)(z:γ)(u:δ)(h1:P x y z u)(h2:Q x y z u):∃x y z u,P x y z u/\Q x y z u:=⟨x,y,z,u,h1,h2⟩
theorem Ug{P Q R:α->β->γ->δ->Prop}(x:α)(y:β)(z:γ)(u:δ)(h1:P x y z u)(h2:Q x y z u)(h3:R x y z u):∃x y z u,P x y z u/\Q x y z u/\R x y z u:=⟨x,y,z,u,h1,h2,h3⟩
theorem GR{P Q R S:α->β->γ->δ->Prop}(x:α)(y:β)(z:γ)(u:δ)(h1:P x y z u)(h2:Q x y z u)(h3:R x y z u)(h4:S x y z u):∃x y z u,P x y z u/\Q x y z u/\R x y z u/\S x y z u:=⟨x,y,z,u,h1,h2,h3,h4⟩
theorem eV{P Q R S T U V:α->β->γ->δ->Prop}(x:α)(y:β)(z:γ)(u:δ)(h1:P x y z u)(h2:Q x y z u)(h3:R x y z u)(h4:S x y z u)(h5:T x y z u)(h6:U x y z u)(h7:V x y z u):∃x y z u,P x y z u/\Q x y z u/\R x y z u/\S x y z u/\T x y z u/\U x y z u/\V x y z u:=⟨x,y,z,u,h1,h2,h3,h4,h5,h6,h7⟩
theorem eU{P Q R S T U V W:α->β->γ->δ->Prop}(x:α)(y:β)(z:γ)(u:δ)(h1:P x y z u)(h2:Q x y z u)(h3:R x y z u)(h4:S x y z u)(h5:T x y z u)(h6:U x y z u)(h7:V x y z u)(h8:W x y z u):∃x y z u,P x y z u/\Q x y z u/\R x y z u/\S x y z u/\T x y z u/\U x y z u/\V x y z u/\W x y z u:=⟨x,y,z,u,h1,h2,h3,h4,h5,h6,h7,h8⟩
theorem Xh{P Q R S T U V W X Y Z A B C D E F H:α->β->γ->δ->Prop}(x:α)(y:β)(z:γ)(u:δ)(h1:P x y z u)(h2:Q x y z u)(h3:R x y z u)(h4:S x y z u)(h5:T x y z u)(h6:U x y z u)(h7:V x y z u)(h8:W x y z u)(h9:X x y z u)(h10:Y x y z u)(h11:Z x y z u)(h12:A x y z u)(h13:B x y z u)(h14:C x y z u)(h15:D x y z u)(h16:E x y z u)(h17:F x y z u)(h18:H x y z u):∃x y z u,P x y z u/\Q x y z u/\R x y z u/\S x y z u/\T x y z u/\U x y z u/\V x y z u/\W x y z u/\X x y z u/\Y x y z u/\Z x y z u/\A x y z u/\B x y z u/\C x y z u/\D x y z u/\E x y z u/\F x y z u/\H x y z u:=⟨x,y,z,u,h1,h2,h3,h4,h5,h6,h7,h8,h9,h10,h11,h12,h13,h14,h15,h16,h17,h18⟩
theorem eT{P:α->β->γ->δ->ε->Prop}(x:α)(y:β)(z:γ)(u:δ)(v:ε)(h1:P x y z u v):∃x y z u v,P x y z u v:=⟨x,y,z,u,v,h1⟩
theorem eS{P Q R S T U V:α->β->γ->δ->ε->Prop}(x:α)(y:β)(z:γ)(u:δ)(v:ε)(h1:P x y z u v)(h2:Q x y z u v)(h3:R x y z u v)(h4:S x y z u v)(h5:T x y z u v)(h6:U x y z u v)(h7:V x y z u v):∃x y z u v,P x y z u v/\Q x y z u v/\R x y z u v/\S x y z u v/\T x y z u v/\U x y z u v/\V x y z u v:=⟨x,y,z,u,v,h1,h2,h3,h4,h5,h6,h7⟩
theorem eQ{P Q R S T:α->β->γ->δ->ε->ζ->Prop}(x:α)(y:β)(z:γ)(u:δ)(v:ε)(w:ζ)(h1:P x y z u v w)(h2:Q x y z u v w)(h3:R x y z u v w)(h4:S x y z u v w)(h5:T x y z u v w):∃x y z u v w,P x y z u v w/\Q x y z u v w/\R x y z u v w/\S x y z u v w/\T x y z u v w:=⟨x,y,z,u,v,w,h1,h2,h3,h4,h5⟩
theorem ZH{P Q R S T U:α->β->γ->δ->ε->ζ->Prop}(x:α)(y:β)(z:γ)(u:δ)(v:ε)(w:ζ)(h1:P x y z u v w)(h2:Q x y z u v w)(h3:R x y z u v w)(h4:S x y z u v w)(h5:T x y z u v w)(h6:U x y z u v w):∃x y z u v w,P x y z u v w/\Q x y z u v w/\R x y z u v w/\S x y z u v w/\T x y z u v w/\U x y z u v w:=⟨x,y,z,u,v,w,h1,h2,h3,h4,h5,h6⟩
theorem eP{P:α->β->γ->δ->ε->ζ->η->Prop}(x:α)(y:β)(z:γ)(u:δ)(v:ε)(w:ζ)(t:η)(h1:P x y z u v w t):∃x y z u v w t,P x y z u v w t:=⟨x,y,z,u,v,w,t,h1⟩
theorem eO{P Q R:α->β->γ->δ->ε->ζ->η->Prop}(x:α)(y:β)(z:γ)(u:δ)(v:ε)(w:ζ)(t:η)(h1:P x y z u v w t)(h2:Q x y z u v w t)(h3:R x y z u v w t):∃x y z u v w t,P x y z u v w t/\Q x y z u v w t/\R x y z u v w t:=⟨x,y,z,u,v,w,t,h1,h2,h3⟩
theorem eN{P Q R S:α->β->γ->δ->ε->ζ->η->Prop}(x:α)(y:β)(z:γ)(u:δ)(v:ε)(w:ζ)(t:η)(h1:P x y z u v w t)(h2:Q x y z u v w t)(h3:R x y z u v w t)(h4:S x y z u v w t):∃x y z u v w t,P x y z u v w t/\Q x y z u v w t/\R x y z u v w t/\S x y z u v w t:=⟨x,y,z,u,v,w,t,h1,h2,h3,h4⟩
end
section
noncomputable def CM:jN:=135
mutual
inductive Ak (h:j6):jD->jQ->List jN->Prop
 | none:Ak h .none .none []
 | bool (b):Ak h (.bool b) (.bool b) []
 | int (i t):Ak h (.int i t) (.int i) []
 | str (x t):Ak h (.str x t) (.str x) []
 | list {a o vs n xs as}:h.get? a=some o->o.cls=.type "list"->o.data=.seq vs n->Ae h vs.toList xs as->Ak h (.ref a) (.list xs) (a::as)
 | tuple {a o vs n xs as}:h.get? a=some o->o.cls=.type "tuple"->o.data=.seq vs n->Ae h vs.toList xs as->Ak h (.ref a) (.tuple xs) as
 | mt {a o vs n xs as}:h.get? a=some o->o.cls=.ref CM->o.data=.seq vs n->Ae h vs.toList xs as->Ak h (.ref a) (.dict [(.tuple xs,.none)]) (a::as)
inductive Ae (h:j6):List jD->List jQ->List jN->Prop
 | nil:Ae h [] [] []
 | cons {v vs d ds as bs}:Ak h v d as->Ae h vs ds bs->Ae h (v::vs) (d::ds) (as++bs)
end
theorem Ak.keeps{h h':j6}(k:∀b o,h.get? b=some o->h'.get? b=some o):∀{v:jD} {d:jQ} {as:List jN},Ak h v d as->Ak h' v d as:=by
 intro v d as r
 refine Ak.rec (motive_1:=λv d as _=>Ak h' v d as) (motive_2:=λvs ds as _=>Ae h' vs ds as) ?_ ?_ ?_ ?_ ?_ ?_ ?_ ?_ ?_ r
 ·exact .none
 ·exact .bool
 ·exact .int
 ·exact .str
 ·intro a o vs n xs as e1 e2 e3 _ ih;exact .list (k _ _ e1) e2 e3 ih
 ·intro a o vs n xs as e1 e2 e3 _ ih;exact .tuple (k _ _ e1) e2 e3 ih
 ·intro a o vs n xs as e1 e2 e3 _ ih;exact .mt (k _ _ e1) e2 e3 ih
 ·exact .nil
 ·intro v vs d ds as bs _ _ ih1 ih2;exact .cons ih1 ih2
theorem Ae.ind{h:j6}{P:List jD->List jQ->List jN->Prop}(n:P [] [] [])(c:∀{v:jD} {vs:List jD} {d:jQ} {ds:List jQ} {as bs:List jN},Ak h v d as->Ae h vs ds bs->P vs ds bs->P (v::vs) (d::ds) (as++bs)){vs:List jD}{ds:List jQ}{as:List jN}(r:Ae h vs ds as):P vs ds as:=
 Ae.rec (motive_1:=λ_ _ _ _=>True) (motive_2:=λvs ds as _=>P vs ds as) trivial (λ_=>trivial) (λ_ _=>trivial) (λ_ _=>trivial) (λ_ _ _ _ _=>trivial) (λ_ _ _ _ _=>trivial) (λ_ _ _ _ _=>trivial) n (λr rs _ ih=>c r rs ih) r
theorem Ae.keeps{h h':j6}(k:∀b o,h.get? b=some o->h'.get? b=some o){vs:List jD}{ds:List jQ}{as:List jN}(r:Ae h vs ds as):Ae h' vs ds as:=
 Ae.ind (P:=Ae h') .nil (λr _ ih=>.cons (Ak.keeps k r) ih) r
theorem Ak.lib{h:j6}:∀{v:jD} {d:jQ} {as:List jN},Ak h v d as->d.canLay0=true->PySem.Reads h v d as:=by
 intro v d as r
 refine Ak.rec (motive_1:=λv d as _=>d.canLay0=true->PySem.Reads h v d as) (motive_2:=λvs ds as _=>qO ds=true->PySem.ReadsAll h vs ds as) ?_ ?_ ?_ ?_ ?_ ?_ ?_ ?_ ?_ r
 ·intro _;exact .none
 ·intro b _;exact .bool b
 ·intro i t _;exact .int i t
 ·intro x t _;exact .str x t
 ·intro a o vs n xs as e1 e2 e3 _ ih c;exact .list e1 e2 e3 (ih (by simpa only[uj] using c))
 ·intro a o vs n xs as e1 e2 e3 _ ih c;exact .tuple e1 e2 e3 (ih (by simpa only[uj] using c))
 ·intro a o vs n xs as e1 e2 e3 _ ih c;simp only[uj] at c;exact lN c
 ·intro _;exact .nil
 ·intro v vs d ds as bs _ _ ih1 ih2 c
  rw[qO,kL] at c
  exact .cons (ih1 c.1) (ih2 c.2)
noncomputable def FV (o:nJ):Prop:=(∀c,o.data≠.cell c)/\∀f,o.data≠.fields f
structure Fg (R:j6->jD->List jN->Prop):Prop where
 keepBy:∀{h h':j6} {v:jD} {as:List jN},R h v as->(∀b∈as,∀o,h.get? b=some o->h'.get? b=some o)->
  (∀b o,h.get? b=some o->(o.cls=.type "tuple"/\∃vs n,o.data=.seq vs n)->h'.get? b=some o)->R h' v as
 solid:∀{h:j6} {v:jD} {as:List jN},R h v as->∀b∈as,∃o,h.get? b=some o/\FV o
theorem Fg.keeps{R:j6->jD->List jN->Prop}(S:Fg R){h h':j6}{v:jD}{as:List jN}(r:R h v as)(k:∀b o,h.get? b=some o->h'.get? b=some o):R h' v as:=
 S.keepBy r (λb _ o e=>k b o e) λb o e _=>k b o e
theorem Fg.live{R:j6->jD->List jN->Prop}(S:Fg R){h:j6}{v:jD}{as:List jN}(r:R h v as):∀b∈as,∃o,h.get? b=some o:=λb hb=>Af (S.solid r b hb) λo e _=>(Ag o e)
inductive AV where
 | py (d:jQ)
 | by(b:Array UInt8)
 | raw (v:jD)
 | obj (P:nJ->Prop)
 | st (R:j6->jD->List jN->Prop) (ok:Fg R)
noncomputable abbrev Ap:=List (jZ×jN)
noncomputable def Ap.has (O:Ap) (a:jN):Prop:=∃p∈O,p.2=a
noncomputable def VR (O:Ap) (h:j6):AV->jD->Prop
 | .py d,v=>∃as,Ak h v d as/\∀a∈as,¬O.has a
 | .by b,v=>∃t,v=.bytes b t
 | .raw u,v=>v=u
 | .obj P,v=>∃a o,v=.ref a/\h.get? a=some o/\P o/\¬O.has a/\FV o
 | .st R _,v=>∃as,R h v as/\∀a∈as,¬O.has a
inductive Bd where
 | val (a:AV)
 | own (ds:List jQ)
 | at (a:jN) (P:nJ->Prop)
noncomputable def XK (L:jN) (xI:j6) (O:Ap) (h:j6) (x:jZ):Bd->jD->Prop
 | .val a,v=>VR O h a v
 | .own ds,v=>∃a vs as,v=.ref a/\(x,a)∈O/\h.PlainList a vs/\Ae h vs.toList ds as/\(∀b∈as,¬O.has b)/\xI.get? a=none
 | .at a P,v=>v=.ref a/\(x,a)∈O/\(∃o,h.get? a=some o/\P o/\FV o/\o.cls≠.type "tuple")/\xI.get? a=none/\a≠L
noncomputable abbrev AX:=List (Option Bd)
noncomputable def Gk (h:j6) (env:xA) (m:jZ->Option jD) (x:jZ) (v:jD):Prop:=
 (env.kindOf x=some .local/\m x=some v)\/(env.kindOf x=some .cell/\∃c,env.cells.lookup x=some c/\h.IsCell c (some v))
structure Cx where
 prog:lF
 w:jY
 A:kC
 s₀:jG
 env:xA
 ns:List jZ
 V:Ap
structure St (Γ:Cx) (O:Ap) (σ:AX) (s:jG):Prop where
 keep:∀b o,Γ.s₀.heap.get? b=some o->s.heap.get? b=some o
 ex:∃m,s.heap.Ns Γ.env.locals m/\∀(i:Nat) (x:jZ) (b:Bd),Γ.ns[i]?=some x->σ[i]?=some (some b)->∃v,Gk s.heap Γ.env m x v/\XK Γ.env.locals Γ.s₀.heap O s.heap x b v
 cells:∀(x:jZ) (a:jN),Γ.env.cells.lookup x=some a->∃v,s.heap.IsCell a v
 nodup:(O.map (·.2)).Nodup
 live:∀p∈O,∃o,s.heap.get? p.2=some o
 sub:∀a,Ap.has Γ.V a->O.has a
 frame:Ap.has Γ.V Γ.env.locals
 fresh:Γ.s₀.heap.get? Γ.env.locals=none
theorem IsList.kept{h h':j6}{a:jN}{vs:Array jD}(x:h.IsList a vs)(k:∀b o,h.get? b=some o->h'.get? b=some o):h'.IsList a vs:=
 Af x λo ho r=>(Ac o (k _ _ ho) r)
theorem VR.keeps{O:Ap}{h h':j6}{a:AV}{v:jD}(r:VR O h a v)(k:∀b o,h.get? b=some o->h'.get? b=some o):VR O h' a v:=by
 cases a with
 | py d=>refine Af r λas r q=>?_;exact Ac as (Ak.keeps k r) q
 | «by» b=>exact r
 | raw u=>exact r
 | obj P=>refine C9 r λa o e g p q z=>?_;exact C5 a o e (k _ _ g) p q z
 | st R ok=>refine Af r λas r q=>?_;exact Ac as (ok.keeps r k) q
theorem XK.keeps{L:jN}{xI:j6}{O:Ap}{h h':j6}{x:jZ}{a:Bd}{v:jD}(r:XK L xI O h x a v)(k:∀b o,h.get? b=some o->h'.get? b=some o):XK L xI O h' x a v:=by
 cases a with
 | val a=>exact VR.keeps (O:=O) r k
 | own ds=>
  refine HZ r λa vs as e m l r q=>?_
  exact KB a vs as e m (AR l λn e=>(Ag n (k _ _ e))) (Ae.keeps k r) q
 | «at» a P=>refine CU r λe m zz1 f=>?_;obtain⟨o,g,p,z⟩:=zz1;exact⟨e,m,(Ba o (k _ _ g) p z),f⟩
theorem Gk.keeps{h h':j6}{env:xA}{m:jZ->Option jD}{x:jZ}{v:jD}(q:Gk h env m x v)(k:∀b o,h.get? b=some o->h'.get? b=some o):Gk h' env m x v:=
 q.imp id λ⟨a,c,e,l⟩=>⟨a,c,e,l.keeps k⟩
theorem St.keeps{Γ:Cx}{O:Ap}{σ:AX}{s:jG}(t:St Γ O σ s){h':j6}{tk:Nat}
 (k:∀b o,s.heap.get? b=some o->h'.get? b=some o):St Γ O σ {s with heap:=h',toks:=tk}:=by
 obtain⟨kp,⟨m,n,vs⟩,cl,nd,lv,sb,fr,fs⟩:=t
 exact⟨λb o e=>k b o (kp b o e),(Ac m (n.keeps k) λi x b e e'=>Af (vs i x b e e') λv hd r=>(Ac v (hd.keeps k) (r.keeps k))),λx c e=>AR (cl x c e) λv q=>(Ag v (q.keeps k)),nd,λp hp=>AR (lv p hp) λo e=>(Ag o (k _ _ e)),sb,fr,fs⟩
theorem St.notNew{Γ:Cx}{O:Ap}{σ:AX}{s:jG}(t:St Γ O σ s):¬O.has s.heap.objs.size:=by
 rintro⟨p,hp,e⟩
 obtain⟨o,ho⟩:=t.live p hp
 rw[e] at ho
 exact absurd (kt ho) (lr _)
theorem St.of_keeps{Γ:Cx}{O:Ap}{σ:AX}{s s':jG}(t:St Γ O σ s)(k:kZ s s'):St Γ O σ s':=by
 obtain⟨h',tk,rfl,k⟩:=k
 exact t.keeps k
theorem Keeps.rfl'{s:jG}{tk:Nat}:kZ s {s with toks:=tk}:=AT s.heap tk rfl λ_ _ e=>e
theorem Keeps.tr{a b c:jG}(x:kZ a b)(y:kZ b c):kZ a c:=by
 refine Ao x λh t zz1 k=>?_;clear x;obtain rfl:=zz1
 refine Ao y λh' t' zz1 k'=>?_;clear y;obtain rfl:=zz1
 exact AT h' t' rfl λb o e=>k' b o (k b o e)
theorem Keeps.re(s:jG):kZ s s:=AT s.heap s.toks rfl λ_ _ e=>e
section
variable (Γ:Cx)
noncomputable def Ev (σ:AX) (e:kJ) (av:AV):Prop:=
 ∀(O:Ap) (s:jG) (Q:jD->jG->Prop) (E:jD->jG->Prop),St Γ O σ s->
  (∀v s',St Γ O σ s'->kZ s s'->VR O s'.heap av v->Q v s')->wpAny (model Γ.prog Γ.w) Γ.A (eval e Γ.env) Q E s
noncomputable def Tv (σ:AX) (e:kJ) (b:Bool):Prop:=
 ∀(O:Ap) (s:jG) (Q:Bool->jG->Prop) (E:jD->jG->Prop),St Γ O σ s->
  (∀s',St Γ O σ s'->kZ s s'->Q b s')->wpAny (model Γ.prog Γ.w) Γ.A (isTrue e Γ.env (eval e Γ.env)) Q E s
end
section
variable {Γ:Cx} {σ:AX}
theorem Aa(i:Nat){x:jZ}{pos:mi}{a:AV}(hi:autoParam (Γ.ns[i]?=some x) aR)(h:autoParam (σ[i]?=some (some (.val a))) aR)(hk:autoParam (Γ.env.scope.kind=.function) aR)(hd:autoParam ((x == ("__debug__":jZ))=false) aK) :
 Ev Γ σ (.Name x pos) a:=by
 intro O s Q E t q
 refine Af t.ex λm n vs=>?_
 refine Af (vs i x _ hi h) λv hd' r=>?_
 rcases hd' with⟨k1,e⟩|⟨k1,c,hc,e⟩
 ·exact nH (mE hk k1 n e (q v s t (Keeps.re s) r)) hd
 ·exact nH (oq hk k1 hc e (q v s t (Keeps.re s) r)) hd
theorem Ai{i:Int}{k:Nat}{pos:mi}:Ev Γ σ (.Constant (.int i) k pos) (.py (.int i)):=by
 intro O s Q E t q
 exact wpAny_Constant_int (q _ _ (t.keeps λ_ _ e=>e) Keeps.rfl' (Ac [] (.int _ _) λ_ h=>nomatch h))
theorem BF{x:jZ}{k:Nat}{pos:mi}:Ev Γ σ (.Constant (.str x) k pos) (.py (.str x)):=by
 intro O s Q E t q
 exact tW (q _ _ (t.keeps λ_ _ e=>e) Keeps.rfl' (Ac [] (.str _ _) λ_ h=>nomatch h))
theorem Uf{x:Bool}{k:Nat}{pos:mi}:Ev Γ σ (.Constant (.bool x) k pos) (.py (.bool x)):=by
 intro O s Q E t q
 exact wpAny_Constant_bool (q _ _ t (Keeps.re s) (Ac [] (.bool _) λ_ h=>nomatch h))
theorem Fu{k:Nat}{pos:mi}:Ev Γ σ (.Constant .none k pos) (.py .none):=by
 intro O s Q E t q
 exact xv (q _ _ t (Keeps.re s) (Ac [] .none λ_ h=>nomatch h))
theorem VR.int_inv{O:Ap}{h:j6}{i:Int}{v:jD}(r:VR O h (.py (.int i)) v):∃t,v=.int i t:=by
 obtain⟨as,r,_⟩:=r;cases r;exact Ag _ rfl
theorem VR.str_inv{O:Ap}{h:j6}{i:jZ}{v:jD}(r:VR O h (.py (.str i)) v):∃t,v=.str i t:=by
 obtain⟨as,r,_⟩:=r;cases r;exact Ag _ rfl
theorem VR.bool_inv{O:Ap}{h:j6}{i:Bool}{v:jD}(r:VR O h (.py (.bool i)) v):v=.bool i:=by
 obtain⟨as,r,_⟩:=r;cases r;rfl
theorem VR.int(O:Ap)(h:j6)(i:Int)(t:uw):VR O h (.py (.int i)) (.int i t):=Ac [] (.int _ _) λ_ h=>nomatch h
theorem VR.str(O:Ap)(h:j6)(i:jZ)(t:uw):VR O h (.py (.str i)) (.str i t):=Ac [] (.str _ _) λ_ h=>nomatch h
theorem VR.bool(O:Ap)(h:j6)(i:Bool):VR O h (.py (.bool i)) (.bool i):=Ac [] (.bool _) λ_ h=>nomatch h
theorem De{l r:kJ}{op:Operator}{pos:mi}{a b d:AV}(hl:Ev Γ σ l a)(hr:Ev Γ σ r b)
 (h:∀(O:Ap) (s:jG) (x y:jD) (Q:jD->jG->Prop) (E:jD->jG->Prop),VR O s.heap a x->VR O s.heap b y->
  (∀v s',kZ s s'->VR O s'.heap d v->Q v s')->wpAny (model Γ.prog Γ.w) Γ.A (binaryOp op x y) Q E s) :
 Ev Γ σ (.BinOp l op r pos) d:=by
 intro O s Q E t q
 refine wpAny_BinOp (hl O s _ E t λx s1 t1 k1 r1=>hr O s1 _ E t1 λy s2 t2 k2 r2=>?_)
 have r1':VR O s2.heap a x:=by refine Ao k2 λh' tk zz1 k=>?_;clear k2;obtain rfl:=zz1;exact r1.keeps k
 exact h O s2 x y Q E r1' r2 λv s' k rv=>q v s' (t2.of_keeps k) (Keeps.tr (Keeps.tr k1 k2) k) rv
end
end
structure Gl (mg mb:jZ->Option jD) (h:j6):Prop where
 g:h.Ns mP mg
 b:h.Ns builtinsNs mb
 bt:∀x:jZ,x≠"__name__"->mb x=ww x
 nolimit:h.NoLimit
theorem Gl.keeps{mg mb:jZ->Option jD}{h h':j6}(G:Gl mg mb h)(k:∀b o,h.get? b=some o->h'.get? b=some o):Gl mg mb h':=
 ⟨G.g.keeps k,G.b.keeps k,G.bt,G.nolimit.keeps k⟩
structure A0 (A:kC) (n:Nat):Prop where
 handled:A.handled=none
 depth:A.depth+n<recursionLimit
 units:A.units+8*n+200<cLine
theorem A0.deeper{A:kC}{n:Nat}{env:xA}(r:A0 A (n+1)):A0 (A.deeper env) n:=
 ⟨r.handled,by have:=r.depth;show A.depth+1+n<_;rwa[this],by have:=r.units;show A.units+3+8*n+200<_;rwa[this]⟩
theorem A0.in1{A:kC}{n:Nat}(r:A0 A (n+1)):A0 A.in1 n:=
 ⟨r.handled,by have:=r.depth;show A.depth+n<_;rwa[this],by have:=r.units;show A.units+1+8*n+200<_;rwa[this]⟩
theorem A0.le{A:kC}{n k:Nat}(r:A0 A n)(h:k<=n):A0 A k:=
 ⟨r.handled,by have:=r.depth;rwa[h,this],by have:=r.units;rwa[h,this]⟩
theorem VR.kept{O:Ap}{s s':jG}{a:AV}{v:jD}(r:VR O s.heap a v)(k:kZ s s'):VR O s'.heap a v:=by
 obtain⟨h',tk,rfl,k⟩:=k;exact r.keeps k
section
variable {Γ:Cx} {σ:AX} {l r:kJ} {pos:mi} {a b:Int}
theorem Bl(hl:Ev Γ σ l (.py (.int a)))(hr:Ev Γ σ r (.py (.int b))):Ev Γ σ (.BinOp l .Add r pos) (.py (.int (a+b))):=
 De hl hr λO s x y Q E rx ry q=>by
  obtain⟨tx,rfl⟩:=rx.int_inv;obtain⟨ty,rfl⟩:=ry.int_inv
  exact P.add_int (q _ _ Keeps.rfl' (VR.int ..))
theorem Dd(hl:Ev Γ σ l (.py (.int a)))(hr:Ev Γ σ r (.py (.int b))):Ev Γ σ (.BinOp l .Sub r pos) (.py (.int (a-b))):=
 De hl hr λO s x y Q E rx ry q=>by
  obtain⟨tx,rfl⟩:=rx.int_inv;obtain⟨ty,rfl⟩:=ry.int_inv
  exact P.sub_int (q _ _ Keeps.rfl' (VR.int ..))
theorem Gd(hl:Ev Γ σ l (.py (.int a)))(hr:Ev Γ σ r (.py (.int b)))(hb:b.natAbs<2^64\/a.natAbs<2^64):Ev Γ σ (.BinOp l .Mult r pos) (.py (.int (a*b))):=
 De hl hr λO s x y Q E rx ry q=>by
  obtain⟨tx,rfl⟩:=rx.int_inv;obtain⟨ty,rfl⟩:=ry.int_inv
  exact P.mul_int (q _ _ Keeps.rfl' (VR.int ..)) (by
   rcases hb with hb|hb
   ·exact IntMulOk.of_right (vZ (by omega) (by omega))
   ·exact IntMulOk.of_left (vZ (by omega) (by omega)))
theorem Dz(hl:Ev Γ σ l (.py (.int a)))(hr:Ev Γ σ r (.py (.int b)))(hb:b≠0)(hs:b.natAbs<2^200):Ev Γ σ (.BinOp l .FloorDiv r pos) (.py (.int (a.fdiv b))):=
 De hl hr λO s x y Q E rx ry q=>by
  obtain⟨tx,rfl⟩:=rx.int_inv;obtain⟨ty,rfl⟩:=ry.int_inv
  exact floordiv_int hb (q _ _ Keeps.rfl' (VR.int ..)) (.inl (uA (by
   have h0:b.natAbs≠0:=by lia
   have:=(v9 h0).mpr hs
   rwa[this])))
theorem CB(hl:Ev Γ σ l (.py (.int a)))(hr:Ev Γ σ r (.py (.int b)))(hb:b≠0):Ev Γ σ (.BinOp l .Mod r pos) (.py (.int (a.fmod b))):=
 De hl hr λO s x y Q E rx ry q=>by
  obtain⟨tx,rfl⟩:=rx.int_inv;obtain⟨ty,rfl⟩:=ry.int_inv
  exact mod_int hb (q _ _ Keeps.rfl' (VR.int ..))
theorem Gc(hl:Ev Γ σ l (.py (.int a)))(hr:Ev Γ σ r (.py (.int b)))(h0:0<=b)(hb:b<=1000)(ha:a.natAbs<2^64):Ev Γ σ (.BinOp l .Pow r pos) (.py (.int (a^b.toNat))):=
 De hl hr λO s x y Q E rx ry q=>by
  obtain⟨tx,rfl⟩:=rx.int_inv;obtain⟨ty,rfl⟩:=ry.int_inv
  exact pow_int h0 (by
   have h64:ro a<=64:=vZ (by lia) (by lia)
   have:(ro a:Int)<=64:=by rwa[h64]
   calc (ro a:Int)*b<=64*b:=Int.mul_le_mul_of_nonneg_right this h0
    _<=64*1000:=by rwa[hb]
    _<=2^27:=by decide) (q _ _ Keeps.rfl' (VR.int ..))
theorem W7(hl:Ev Γ σ l (.py (.int a)))(hr:Ev Γ σ r (.py (.int b))):Ev Γ σ (.BinOp l .BitXor r pos) (.py (.int (oN a b))):=
 De hl hr λO s x y Q E rx ry q=>by
  obtain⟨tx,rfl⟩:=rx.int_inv;obtain⟨ty,rfl⟩:=ry.int_inv
  exact xor_int (q _ _ Keeps.rfl' (VR.int ..))
theorem Hm(hl:Ev Γ σ l (.py (.int a)))(hr:Ev Γ σ r (.py (.int b))):Ev Γ σ (.BinOp l .BitAnd r pos) (.py (.int (ke a b))):=
 De hl hr λO s x y Q E rx ry q=>by
  obtain⟨tx,rfl⟩:=rx.int_inv;obtain⟨ty,rfl⟩:=ry.int_inv
  exact and_int (q _ _ Keeps.rfl' (VR.int ..))
theorem eK(hl:Ev Γ σ l (.py (.int a)))(hr:Ev Γ σ r (.py (.int b))):Ev Γ σ (.BinOp l .BitOr r pos) (.py (.int (oz a b))):=
 De hl hr λO s x y Q E rx ry q=>by
  obtain⟨tx,rfl⟩:=rx.int_inv;obtain⟨ty,rfl⟩:=ry.int_inv
  exact or_int (q _ _ Keeps.rfl' (VR.int ..))
theorem Rn(hl:Ev Γ σ l (.py (.int a)))(hr:Ev Γ σ r (.py (.int b)))(h0:0<=b)(hb:b<=1000)(ha:a.natAbs<2^64):Ev Γ σ (.BinOp l .LShift r pos) (.py (.int (a*2^b.toNat))):=
 De hl hr λO s x y Q E rx ry q=>by
  obtain⟨tx,rfl⟩:=rx.int_inv;obtain⟨ty,rfl⟩:=ry.int_inv
  exact lshift_int_small h0 (by rwa[hb]) ha (q _ _ Keeps.rfl' (VR.int ..))
theorem aC(hl:Ev Γ σ l (.py (.int a)))(hr:Ev Γ σ r (.py (.int b)))(h0:0<=b):Ev Γ σ (.BinOp l .RShift r pos) (.py (.int (a.fdiv (2^b.toNat)))):=
 De hl hr λO s x y Q E rx ry q=>by
  obtain⟨tx,rfl⟩:=rx.int_inv;obtain⟨ty,rfl⟩:=ry.int_inv
  exact rshift_int h0 (q _ _ Keeps.rfl' (VR.int ..))
theorem Hk(hl:Ev Γ σ l (.py (.int a))):Ev Γ σ (.UnaryOp .USub l pos) (.py (.int (-a))):=by
 intro O s Q E t q
 refine wpAny_UnaryOp (hl O s _ E t λx s1 t1 k1 r1=>?_)
 obtain⟨tx,rfl⟩:=r1.int_inv
 exact P.neg_int (q _ _ (t1.keeps λ_ _ e=>e) (Keeps.tr k1 Keeps.rfl') (VR.int ..))
theorem HL{x:jZ}(h:(x.length == 0)=true):x=mJ:=by
 have hx:x.cps.size=0:=by simpa[sY] using h
 exact uS (by simpa[mJ] using hx)
theorem Hn{x y:jZ}(hl:Ev Γ σ l (.py (.str x)))(hr:Ev Γ σ r (.py (.str y)))(hs:x.length+y.length<=100000):Ev Γ σ (.BinOp l .Add r pos) (.py (.str (x++y))):=
 De hl hr λO s u v Q E rx ry q=>by
  obtain⟨tx,rfl⟩:=rx.str_inv;obtain⟨ty,rfl⟩:=ry.str_inv
  refine P.add_str ?_
  split
  ·rename_i h0
   obtain rfl:=HL h0
   exact q _ _ (Keeps.re s) (by rw[Str.empty_append];exact VR.str ..)
  ·split
   ·rename_i h0
    obtain rfl:=HL h0
    exact q _ _ (Keeps.re s) (by rw[ua];exact VR.str ..)
   ·refine⟨?_,q _ _ Keeps.rfl' (VR.str ..)⟩
    show(x++y).length<=sizeLine
    rw[Str.length_append,sizeLine_eq];rwa[hs]
theorem Eh{op:CmpOp}{u v:AV}{c:Bool}(hl:Ev Γ σ l u)(hr:Ev Γ σ r v)
 (h:∀(O:Ap) (s:jG) (x y:jD) (Q:jD->jG->Prop) (E:jD->jG->Prop),VR O s.heap u x->VR O s.heap v y->
  (∀s',kZ s s'->Q (.bool c) s')->wpAny (model Γ.prog Γ.w) Γ.A (compareOp op x y) Q E s)(hm:behindInMarks op r=false) :
 Tv Γ σ (.Compare l [op] [r] pos) c:=by
 intro O s Q E t q
 refine qg (hl O s _ E t λx s1 t1 k1 r1=>hr O s1 _ E t1 λy s2 t2 k2 r2=>?_) hm
 exact h O s2 x y _ E (r1.kept k2) r2 λs' k=>nR (q s' (t2.of_keeps k) (Keeps.tr (Keeps.tr k1 k2) k))
noncomputable def bA (op:CmpOp) (a b:Int):Option Bool:=match op with
 | .Lt=>some (decide (a<b)) | .LtE=>some (decide (a<=b)) | .Gt=>some (decide (b<a)) | .GtE=>some (decide (b<=a)) | .Eq=>some (decide (a=b)) | .NotEq=>some (!decide (a=b))
 | _=>none
theorem Xo{op:CmpOp}{c:Bool}(hc:bA op a b=some c)(O:Ap)(s:jG)(x y:jD)(Q:jD->jG->Prop)(E:jD->jG->Prop)(rx:VR O s.heap (.py (.int a)) x)(ry:VR O s.heap (.py (.int b)) y)
 (q:∀s',kZ s s'->Q (.bool c) s'):wpAny (model Γ.prog Γ.w) Γ.A (compareOp op x y) Q E s:=by
 obtain⟨tx,rfl⟩:=rx.int_inv;obtain⟨ty,rfl⟩:=ry.int_inv
 have q:=q s (Keeps.re s)
 cases op<;>simp only[bA,Option.some.injEq] at hc<;>(try cases hc)
 ·refine P.eq_int ?_;rw[show(a == b)=decide (a=b) from rfl];exact q
 ·refine P.ne_int ?_;rw[show(a != b)=!decide (a=b) from rfl];exact q
 ·exact P.lt_int q
 ·exact P.le_int q
 ·exact P.gt_int q
 ·exact P.ge_int q
theorem An{op:CmpOp}{c:Bool}(hl:Ev Γ σ l (.py (.int a)))(hr:Ev Γ σ r (.py (.int b)))(hc:autoParam (bA op a b=some c) aR)(hm:autoParam (behindInMarks op r=false) aR) :
 Tv Γ σ (.Compare l [op] [r] pos) c:=Eh hl hr (Xo hc) hm
theorem TN(x y:jZ):(x.cps.toList == y.cps.toList)=decide (x=y):=by
 rw[qh,beq_iff_eq,decide_eq_true_eq]
 exact⟨λh=>uS (ng.mp h),λh=>by rw[h]⟩
theorem Vo{x y:jZ}(O:Ap)(s:jG)(u v:jD)(Q:jD->jG->Prop)(E:jD->jG->Prop)(rx:VR O s.heap (.py (.str x)) u)(ry:VR O s.heap (.py (.str y)) v)
 (q:∀s',kZ s s'->Q (.bool (decide (x=y))) s'):wpAny (model Γ.prog Γ.w) Γ.A (compareOp .Eq u v) Q E s:=by
 obtain⟨tx,rfl⟩:=rx.str_inv;obtain⟨ty,rfl⟩:=ry.str_inv
 refine P.eq_str ?_;rw[TN];exact q s (Keeps.re s)
theorem Vn{x y:jZ}(O:Ap)(s:jG)(u v:jD)(Q:jD->jG->Prop)(E:jD->jG->Prop)(rx:VR O s.heap (.py (.str x)) u)(ry:VR O s.heap (.py (.str y)) v)
 (q:∀s',kZ s s'->Q (.bool (!decide (x=y))) s'):wpAny (model Γ.prog Γ.w) Γ.A (compareOp .NotEq u v) Q E s:=by
 obtain⟨tx,rfl⟩:=rx.str_inv;obtain⟨ty,rfl⟩:=ry.str_inv
 refine P.ne_str ?_;rw[show(x.cps.toList != y.cps.toList)=!(x.cps.toList == y.cps.toList) from rfl,TN];exact q s (Keeps.re s)
theorem IC{x y:jZ}(hl:Ev Γ σ l (.py (.str x)))(hr:Ev Γ σ r (.py (.str y)))(hm:autoParam (behindInMarks .Eq r=false) aR) :
 Tv Γ σ (.Compare l [.Eq] [r] pos) (decide (x=y)):=Eh hl hr Vo hm
theorem VN{x y:jZ}(hl:Ev Γ σ l (.py (.str x)))(hr:Ev Γ σ r (.py (.str y)))(hm:autoParam (behindInMarks .NotEq r=false) aR) :
 Tv Γ σ (.Compare l [.NotEq] [r] pos) (!decide (x=y)):=Eh hl hr Vn hm
theorem VO{e:kJ}{c:Bool}(h:Tv Γ σ e c):Tv Γ σ (.UnaryOp .Not e pos) (!c):=by
 intro O s Q E t q
 exact wpAny_isTrue_Not (h O s _ E t λs' t' k=>q s' t' k)
theorem ID{e:kJ}(h:Ev Γ σ e (.py (.int a)))(he:autoParam (isTrue e Γ.env (eval e Γ.env)=(do let v<-eval e Γ.env;mS e.pos;mq [v] (truthy v))) aR):Tv Γ σ e (a != 0):=by
 intro O s Q E t q
 refine oM (h O s _ E t λv s' t' k r=>?_) he
 obtain⟨tx,rfl⟩:=r.int_inv
 exact P.truthy_int (q s' t' k)
theorem Fi{e:kJ}{c:Bool}(h:Ev Γ σ e (.py (.bool c)))(he:autoParam (isTrue e Γ.env (eval e Γ.env)=(do let v<-eval e Γ.env;mS e.pos;mq [v] (truthy v))) aR):Tv Γ σ e c:=by
 intro O s Q E t q
 refine oM (h O s _ E t λv s' t' k r=>?_) he
 obtain rfl:=r.bool_inv
 exact nR (q s' t' k)
noncomputable def bw (Γ:Cx) (σ:AX) (op:BoolOp) (es:List kJ) (b:Bool):Prop:=
 ∀(O:Ap) (s:jG) (Q:Bool->jG->Prop) (E:jD->jG->Prop),St Γ O σ s->
  (∀s',St Γ O σ s'->kZ s s'->Q b s')->wpAny (model Γ.prog Γ.w) Γ.A (allTrue op es Γ.env) Q E s
theorem BC:bw Γ σ .And [] true:=λO s Q E t q=>wpAny_allTrue_And_nil (q s t (Keeps.re s))
theorem QR:bw Γ σ .Or [] false:=λO s Q E t q=>wpAny_allTrue_Or_nil (q s t (Keeps.re s))
theorem AP{e:kJ}{es:List kJ}{c d:Bool}(h:Tv Γ σ e c)(hs:c=true->bw Γ σ .And es d):bw Γ σ .And (e::es) (c&&d):=by
 intro O s Q E t q
 refine sv (h O s _ E t λs' t' k=>?_)
 cases c with
 | true=>exact hs rfl O s' Q E t' λs'' t'' k'=>q s'' t'' (Keeps.tr k k')
 | false=>exact q s' t' k
theorem IB{e:kJ}{es:List kJ}{c d:Bool}(h:Tv Γ σ e c)(hs:c=false->bw Γ σ .Or es d):bw Γ σ .Or (e::es) (c || d):=by
 intro O s Q E t q
 refine wpAny_allTrue_Or_cons (h O s _ E t λs' t' k=>?_)
 cases c with
 | false=>exact hs rfl O s' Q E t' λs'' t'' k'=>q s'' t'' (Keeps.tr k k')
 | true=>exact q s' t' k
theorem By{op:BoolOp}{es:List kJ}{c:Bool}(h:bw Γ σ op es c):Tv Γ σ (.BoolOp op es pos) c:=
 λO s Q E t q=>xt (h O s Q E t q)
theorem I8{e x y:kJ}{c:Bool}{u:AV}(h:Tv Γ σ e c)(hx:c=true->Ev Γ σ x u)(hy:c=false->Ev Γ σ y u):Ev Γ σ (.IfExp e x y pos) u:=by
 intro O s Q E t q
 refine wpAny_IfExp (h O s _ E t λs' t' k=>?_)
 cases c with
 | true=>exact hx rfl O s' Q E t' λv s'' t'' k' r=>q v s'' t'' (Keeps.tr k k') r
 | false=>exact hy rfl O s' Q E t' λv s'' t'' k' r=>q v s'' t'' (Keeps.tr k k') r
theorem Tv.cast{e:kJ}{c d:Bool}(h:Tv Γ σ e c)(q:c=d):Tv Γ σ e d:=q▸h
theorem Ev.cast{e:kJ}{c d:AV}(h:Ev Γ σ e c)(q:c=d):Ev Γ σ e d:=q▸h
end
noncomputable def DD (O:Ap) (h:j6):List AV->List jD->Prop
 | [],[]=>True
 | a::as,v::vs=>VR O h a v/\DD O h as vs
 | _,_=>False
theorem DD.keeps{O:Ap}{h h':j6}(k:∀b o,h.get? b=some o->h'.get? b=some o){as:List AV}{vs:List jD}(r:DD O h as vs):DD O h' as vs:=by
 induction as generalizing vs with
 | nil=>cases vs with
  | nil=>exact uE
  | cons _ _=>exact rq r
 | cons a as ih=>cases vs with
  | nil=>exact rq r
  | cons v vs=>exact⟨r.1.keeps k,ih r.2⟩
theorem DD.kept{O:Ap}{s s':jG}{as:List AV}{vs:List jD}(r:DD O s.heap as vs)(k:kZ s s'):DD O s'.heap as vs:=by
 obtain⟨h',tk,rfl,k⟩:=k;exact r.keeps k
theorem DD.ni{O:Ap}{h:j6}{vs:List jD}(r:DD O h [] vs):vs=[]:=by
 cases vs with
 | nil=>rfl
 | cons _ _=>exact rq r
theorem DD.ci{O:Ap}{h:j6}{a:AV}{as:List AV}{vs:List jD}(r:DD O h (a::as) vs):∃v ws,vs=v::ws/\VR O h a v/\DD O h as ws:=by
 cases vs with
 | nil=>exact rq r
 | cons v ws=>exact FQ v ws rfl r.1 r.2
theorem DD.length{O:Ap}{h:j6}{as:List AV}{vs:List jD}(r:DD O h as vs):vs.length=as.length:=by
 induction as generalizing vs with
 | nil=>rw[r.ni];rfl
 | cons a as ih=>exact BD r.ci λv ws e _ y=>e▸congrArg (· + 1) (ih y)
theorem DD.one{O:Ap}{h:j6}{a:AV}{vs:List jD}(r:DD O h [a] vs):∃v,vs=[v]/\VR O h a v:=
 BD r.ci λv ws e r1 r2=>Ac v (e.trans (congrArg _ r2.ni)) r1
theorem DD.two{O:Ap}{h:j6}{a b:AV}{vs:List jD}(r:DD O h [a,b] vs):∃v u,vs=[v,u]/\VR O h a v/\VR O h b u:=
 BD r.ci λv ws e r1 r2=>Af r2.one λu e2 r3=>FQ v u (e.trans (congrArg _ e2)) r1 r3
theorem DD.three{O:Ap}{h:j6}{a b c:AV}{vs:List jD}(r:DD O h [a,b,c] vs):∃v u x,vs=[v,u,x]/\VR O h a v/\VR O h b u/\VR O h c x:=
 BD r.ci λv ws e r1 r2=>BD r2.two λu x e2 r3 r4=>FP v u x (e.trans (congrArg _ e2)) r1 r3 r4
theorem DD.reads{O:Ap}{h:j6}{ds:List jQ}{vs:List jD}(r:DD O h (ds.map .py) vs):∃as,Ae h vs ds as/\∀a∈as,¬O.has a:=by
 induction ds generalizing vs with
 | nil=>rw[r.ni];exact Ac [] .nil λ_ h=>nomatch h
 | cons d ds ih=>
  refine BD r.ci λv ws e r1 r2=>Af r1 λas r q=>Af (ih r2) λbs rs qs=>?_
  rw[e];exact Ac (as++bs) (.cons r rs) λa ha=>(jW.mp ha).elim (q a) (qs a)
section
variable (Γ:Cx)
noncomputable def XJ (σ:AX) (es:List kJ) (avs:List AV):Prop:=
 ∀(O:Ap) (s:jG) (pos:mi) (Q:List jD->jG->Prop) (E:jD->jG->Prop),St Γ O σ s->
  (∀vs s',St Γ O σ s'->kZ s s'->DD O s'.heap avs vs->Q vs s')->wpAny (model Γ.prog Γ.w) Γ.A (spliced (backTo pos (starEach es Γ.env))) Q E s
end
noncomputable def AE:kJ->Bool
 | .Starred ..=>false
 | _=>true
theorem CC{e:kJ}{es:List kJ}{env:xA}(h:AE e=true):starEach (e::es) env=(false,eval e env)::starEach es env:=by
 cases e<;>first|rfl|cases h
theorem Bh{es:List kJ}{env:xA}{pos:mi}(h:es.all AE=true):(backTo pos (starEach es env)).any (·.1)=false:=by
 induction es with
 | nil=>rfl
 | cons e es ih=>
  rw[lE,kL] at h
  rw[CC h.1]
  show(false || _)=false
  rw[Bool.false_or]
  exact ih h.2
section
variable {Γ:Cx} {σ:AX} {pos:mi}
theorem Ah:XJ Γ σ [] []:=λO s p Q E t q=>pZ (q [] s t (Keeps.re s) trivial)
theorem Ab{e:kJ}{es:List kJ}{a:AV}{as:List AV}(h:Ev Γ σ e a)(hs:XJ Γ σ es as)(hp:autoParam (AE e=true) aR):XJ Γ σ (e::es) (a::as):=by
 intro O s p Q E t q
 exact args_cons (h O s _ E t λv s1 t1 k1 r1=>hs O s1 p _ E t1 λvs s2 t2 k2 r2=>q _ s2 t2 (Keeps.tr k1 k2) ⟨r1.kept k2,r2⟩) (CC hp)
theorem Vf{mg mb:jZ->Option jD}{x:jZ}{v:jD}(G:Gl mg mb Γ.s₀.heap)(hg:Γ.env.globals=mP)(h:mg x=some v)(hk:autoParam (Γ.env.scope.kind=.function) aR)(hx:autoParam (Γ.env.kindOf x=some .globalImplicit) aR)
 (hd:autoParam ((x == ("__debug__":jZ))=false) aD):Ev Γ σ (.Name x pos) (.raw v):=by
 intro O s Q E t q
 exact te hk hx (loadGlobal_global (by rw[hg];exact G.g.keeps t.keep) h (q v s t (Keeps.re s) rfl)) hd
theorem I9{mg mb:jZ->Option jD}{x:jZ}{v:jD}{d:AV}(G:Gl mg mb Γ.s₀.heap)(hg:Γ.env.globals=mP)(h:mg x=some v)(hr:∀O,VR O Γ.s₀.heap d v)(hk:autoParam (Γ.env.scope.kind=.function) aR)(hx:autoParam (Γ.env.kindOf x=some .globalImplicit) aR)
 (hd:autoParam ((x == ("__debug__":jZ))=false) aD):Ev Γ σ (.Name x pos) d:=by
 intro O s Q E t q
 exact te hk hx (loadGlobal_global (by rw[hg];exact G.g.keeps t.keep) h (q v s t (Keeps.re s) ((hr O).keeps t.keep))) hd
theorem Ro{mg mb:jZ->Option jD}{x:jZ}{v:jD}(G:Gl mg mb Γ.s₀.heap)(hg:Γ.env.globals=mP)(hb:Γ.env.builtins=builtinsNs)(h:mg x=none)(hv:ww x=some v)(hn:autoParam (x≠"__name__") aD)(hk:autoParam (Γ.env.scope.kind=.function) aR)(hx:autoParam (Γ.env.kindOf x=some .globalImplicit) aR)
 (hd:autoParam ((x == ("__debug__":jZ))=false) aD):Ev Γ σ (.Name x pos) (.raw v):=by
 intro O s Q E t q
 exact te hk hx (loadGlobal_builtin (by rw[hg];exact G.g.keeps t.keep) h (by rw[hb];exact G.b.keeps t.keep) ((G.bt x hn).trans hv) (q v s t (Keeps.re s) rfl)) hd
theorem Dy{es:List kJ}{ds:List jQ}(h:XJ Γ σ es (ds.map .py))(hs:autoParam (ds.length<=100000) aN):Ev Γ σ (.List es pos) (.py (.list ds)):=by
 intro O s Q E t q
 refine tV (h O s _ _ E t λvs s1 t1 k1 r1=>?_)
 refine Af r1.reads λas rs qs=>?_
 have hl:=r1.length
 rw[jK] at hl
 refine⟨by rw[hl,sizeLine_eq];rwa[hs],q _ _ (t1.keeps λ_ _ e=>jH _ e) (Keeps.tr k1 (AT _ s1.toks rfl λ_ _ e=>jH _ e)) ?_⟩
 refine Ac (s1.heap.objs.size::as) (.list (jS _ rfl) rfl rfl (Ae.keeps (λ_ _ e=>jH _ e) rs)) λa ha=>?_
 rcases jI.mp ha with rfl|ha
 ·exact t1.notNew
 ·exact qs a ha
theorem Au{es:List kJ}{ds:List jQ}{k:Nat}(h:XJ Γ σ es (ds.map .py))(hs:autoParam (ds.length<=100000) aN):Ev Γ σ (.Tuple es k pos) (.py (.tuple ds)):=by
 intro O s Q E t q
 refine xu (h O s _ _ E t λvs s1 t1 k1 r1=>?_)
 refine Af r1.reads λas rs qs=>?_
 have hl:=r1.length
 rw[jK] at hl
 refine⟨by rw[hl,sizeLine_eq];rwa[hs],q _ _ (t1.keeps λ_ _ e=>jH _ e) (Keeps.tr k1 (AT _ s1.toks rfl λ_ _ e=>jH _ e)) ?_⟩
 exact Ac as (.tuple (jS _ rfl) rfl rfl (Ae.keeps (λ_ _ e=>jH _ e) rs)) qs
end
theorem VR.list_inv{O:Ap}{h:j6}{ds:List jQ}{v:jD}(r:VR O h (.py (.list ds)) v):∃a vs as,v=.ref a/\h.IsList a vs/\Ae h vs.toList ds as/\¬O.has a/\∀b∈as,¬O.has b:=by
 refine Af r λas r q=>?_
 cases r with
 | list h1 h2 h3 h4=>exact KB _ _ _ rfl ⟨_,h1,h2,_,h3⟩ h4 (q _ (.head _)) λb hb=>q b (.tail _ hb)
theorem VR.tuple_inv{O:Ap}{h:j6}{ds:List jQ}{v:jD}(r:VR O h (.py (.tuple ds)) v):∃a vs as,v=.ref a/\vE h a vs/\Ae h vs.toList ds as/\∀b∈as,¬O.has b:=by
 refine Af r λas r q=>?_
 cases r with
 | tuple h1 h2 h3 h4=>exact FP _ _ _ rfl ⟨_,h1,h2,_,h3⟩ h4 q
theorem Al{h:j6}{vs:List jD}{ds:List jQ}{as:List jN}(r:Ae h vs ds as):vs.length=ds.length:=
 Ae.ind (P:=λvs ds _=>vs.length=ds.length) rfl (λ_ _ ih=>congrArg (· + 1) ih) r
theorem B4{h:j6}{vs:List jD}{ds:List jQ}{as:List jN}(r:Ae h vs ds as):∀{i:Nat} {d:jQ},ds[i]?=some d->∃v bs,vs[i]?=some v/\Ak h v d bs/\∀b∈bs,b∈as:=by
 refine Ae.ind (P:=λvs ds as=>∀{i:Nat} {d:jQ},ds[i]?=some d->∃v bs,vs[i]?=some v/\Ak h v d bs/\∀b∈bs,b∈as) (λe=>nomatch e) (λ{v vs d ds as bs} r _ ih {i e} he=>?_) r
 cases i with
 | zero=>obtain rfl:=kW he;exact FQ v as rfl r λb hb=>lO _ hb
 | succ i=>
  refine BD (ih (i:=i) he) λv bs e1 r q=>?_
  exact FQ v bs e1 r λb hb=>kR _ (q b hb)
section
variable {Γ:Cx} {σ:AX} {pos:mi} {l r:kJ} {i:Int}
theorem Ay{ds:List jQ}{d:jQ}(hl:Ev Γ σ l (.py (.list ds)))(hr:Ev Γ σ r (.py (.int i)))(h0:0<=i)(h1:i<2^63)(hd:ds[i.toNat]?=some d)
 (hs:autoParam (∀o x,subscripted r false o x=tw [o,x] (getItem o x)) aI):Ev Γ σ (.Subscript l r pos) (.py d):=by
 intro O s Q E t q
 refine uc (hl O s _ E t λx s1 t1 k1 r1=>hr O s1 _ E t1 λy s2 t2 k2 r2=>?_)
 refine HZ ((r1.kept k2).list_inv) λa vs as zz1 hl' rs _ qs=>?_;obtain rfl:=zz1
 obtain⟨ty,rfl⟩:=r2.int_inv
 refine BD (B4 rs hd) λv bs e1 rv qb=>?_
 exact vC hl'.typeIs ut.lookup (wpAny_getItem_list hl' h0 h1 (by simpa using e1) (q v s2 t2 (Keeps.tr k1 k2) (Ac bs rv λb hb=>qs b (qb b hb)))) (hs _ _)
theorem V9{i:Int}{n:Nat}(h0:0<=i)(h:i.toNat<n):seqIndex? i n=some i.toNat:=by
 unfold seqIndex?
 have h1:¬i<0:=by rwa[h0]
 have h2:(0<=i&&i<(n:Int))=true:=by
  rw[kL];exact⟨decide_eq_true h0,decide_eq_true (by rwa[h0,h])⟩
 simp only[h1,if_false]
 rw[if_pos (by simpa using h2)]
theorem A7{ds:List jQ}{d:jQ}(hl:Ev Γ σ l (.py (.tuple ds)))(hr:Ev Γ σ r (.py (.int i)))(h0:0<=i)(h1:i<2^63)(hd:ds[i.toNat]?=some d)
 (hs:autoParam (∀o x,subscripted r false o x=tw [o,x] (getItem o x)) aI):Ev Γ σ (.Subscript l r pos) (.py d):=by
 intro O s Q E t q
 refine uc (hl O s _ E t λx s1 t1 k1 r1=>hr O s1 _ E t1 λy s2 t2 k2 r2=>?_)
 refine Cf ((r1.kept k2).tuple_inv) λa vs as zz1 hl' rs qs=>?_;obtain rfl:=zz1
 obtain⟨ty,rfl⟩:=r2.int_inv
 refine BD (B4 rs hd) λv bs e1 rv qb=>?_
 have hlt:i.toNat<vs.size:=by
  have:=(jM.mp e1).1
  simpa using this
 exact vC hl'.typeIs slot_tuple_getitem.lookup (getItem_tuple hl' (by rwa[h0]) h1 (V9 h0 hlt) (by simpa using e1) (q v s2 t2 (Keeps.tr k1 k2) (Ac bs rv λb hb=>qs b (qb b hb)))) (hs _ _)
theorem H3{x:jZ}{c:Nat}(hl:Ev Γ σ l (.py (.str x)))(hr:Ev Γ σ r (.py (.int i)))(h0:0<=i)(h1:i<2^63)(hd:x.cps[i.toNat]?=some c)
 (hs:autoParam (∀o x,subscripted r false o x=tw [o,x] (getItem o x)) aI):Ev Γ σ (.Subscript l r pos) (.py (.str ⟨#[c]⟩)):=by
 intro O s Q E t q
 refine uc (hl O s _ E t λx s1 t1 k1 r1=>hr O s1 _ E t1 λy s2 t2 k2 r2=>?_)
 obtain⟨tx,rfl⟩:=(r1.kept k2).str_inv
 obtain⟨ty,rfl⟩:=r2.int_inv
 have hlt:i.toNat<x.cps.size:=(Array.getElem?_eq_some_iff.mp hd).1
 refine vC (vv _ _ _) F.slot_str_getitem.lookup (P.getItem_str ?_ (by rw[show x.length=x.cps.size from rfl,V9 h0 hlt];exact hd) (q _ _ (t2.keeps λ_ _ e=>e) (Keeps.tr (Keeps.tr k1 k2) Keeps.rfl') (VR.str ..))) (hs _ _)
 rw[sk];exact⟨decide_eq_false (by rwa[h0]),decide_eq_false (by rwa[h1])⟩
theorem AL{M:tP}{A:kC}{env:xA}{E:jD->jG->Prop}{s:jG}{f:jD}{e:kJ}{es:List kJ}{Q:Args->jG->Prop}(hp:(e::es).all AE=true)
 (h:wpAny M A (spliced (backTo pos (starEach (e::es) env))) (λvs s'=>Q ⟨vs,[]⟩ s') E s):wpAny M A (evalArgs f true (backTo pos (starEach (e::es) env)) []) Q E s:=by
 rw[lE,kL] at hp
 rw[CC hp.1] at h ⊢
 exact evalArgs_plain h
theorem CN{f e:kJ}{id:String}{es:List kJ}{avs:List AV}{c:AV}(hf:Ev Γ σ f (.raw (.builtin id)))(ha:XJ Γ σ (e::es) avs)
 (h:∀(O:Ap) (s:jG) (vs:List jD) (Q:jD->jG->Prop) (E:jD->jG->Prop),¬O.has s.heap.objs.size->DD O s.heap avs vs->(∀v s',kZ s s'->VR O s'.heap c v->Q v s')->wpAny (model Γ.prog Γ.w) Γ.A (call (.builtin id) vs) Q E s)
 (hp:autoParam ((e::es).all AE=true) aR)
 (he:autoParam (eval (.Call f (e::es) [] pos) Γ.env=(do kY pos (<-eval f Γ.env) [] (backTo pos (starEach (e::es) Γ.env)) (ma pos (ly [] Γ.env)))) aR):Ev Γ σ (.Call f (e::es) [] pos) c:=by
 intro O s Q E t q
 refine qS (hf O s _ E t λv s1 t1 k1 r1=>?_) he
 obtain rfl:v=.builtin id:=r1
 exact callWith_builtin (Bh hp) (AL hp (ha O s1 _ _ E t1 λvs s2 t2 k2 r2=>h O s2 vs Q E t2.notNew r2 λv s3 k3 r3=>q v s3 (t2.of_keeps k3) (Keeps.tr (Keeps.tr k1 k2) k3) r3))
theorem Et{f e:kJ}{id:String}{es:List kJ}{avs:List AV}{c:AV}(hf:Ev Γ σ f (.raw (.type id)))(ha:XJ Γ σ (e::es) avs)
 (h:∀(O:Ap) (s:jG) (vs:List jD) (Q:jD->jG->Prop) (E:jD->jG->Prop),¬O.has s.heap.objs.size->DD O s.heap avs vs->(∀v s',kZ s s'->VR O s'.heap c v->Q v s')->wpAny (model Γ.prog Γ.w) Γ.A (call (.type id) vs) Q E s)
 (hp:autoParam ((e::es).all AE=true) aR)
 (he:autoParam (eval (.Call f (e::es) [] pos) Γ.env=(do kY pos (<-eval f Γ.env) [] (backTo pos (starEach (e::es) Γ.env)) (ma pos (ly [] Γ.env)))) aR):Ev Γ σ (.Call f (e::es) [] pos) c:=by
 intro O s Q E t q
 refine qS (hf O s _ E t λv s1 t1 k1 r1=>?_) he
 obtain rfl:v=.type id:=r1
 exact o8 (Bh hp) (AL hp (ha O s1 _ _ E t1 λvs s2 t2 k2 r2=>h O s2 vs Q E t2.notNew r2 λv s3 k3 r3=>q v s3 (t2.of_keeps k3) (Keeps.tr (Keeps.tr k1 k2) k3) r3))
noncomputable def IX:AV->Option Nat
 | .py (.list ds)=>some ds.length
 | .py (.tuple ds)=>some ds.length
 | .py (.str x)=>some x.length
 | _=>none
theorem Xu{u:AV}{n:Nat}(hn:IX u=some n)(hs:n<2^60)(O:Ap)(s:jG)(vs:List jD)(Q:jD->jG->Prop)(E:jD->jG->Prop)(hO:¬O.has s.heap.objs.size)(rv:DD O s.heap [u] vs)
 (q:∀v s',kZ s s'->VR O s'.heap (.py (.int n)) v->Q v s'):wpAny (model Γ.prog Γ.w) Γ.A (call (.builtin "len") vs) Q E s:=by
 refine Af rv.one λv zz1 r=>?_;obtain rfl:=zz1
 cases u with
 | py d=>
  cases d with
  | list ds=>
   obtain rfl:ds.length=n:=kW hn
   refine Cf r.list_inv λa vs as zz1 hl rs _=>?_;obtain rfl:=zz1
   have e:=Al rs
   have e':vs.size=ds.length:=by rw[<-e];simp
   refine len_list hl (by rw[e'];rwa[hs]) ?_
   rw[e'];exact q _ _ Keeps.rfl' (VR.int ..)
  | tuple ds=>
   obtain rfl:ds.length=n:=kW hn
   refine Cf r.tuple_inv λa vs as zz1 hl rs _=>?_;obtain rfl:=zz1
   have e:=Al rs
   have e':vs.size=ds.length:=by rw[<-e];simp
   refine len_tuple hl (by rw[e'];rwa[hs]) ?_
   rw[e'];exact q _ _ Keeps.rfl' (VR.int ..)
  | str x=>
   obtain rfl:x.length=n:=kW hn
   obtain⟨t,rfl⟩:=r.str_inv
   exact P.len_str (by rwa[hs]) (q _ _ Keeps.rfl' (VR.int ..))
  | _=>exact B6 hn
 | _=>exact B6 hn
theorem Ds{f e:kJ}{u:AV}{n:Nat}(hf:Ev Γ σ f (.raw (.builtin "len")))(he:Ev Γ σ e u)(hn:autoParam (IX u=some n) aR)(hs:n<2^60)
 (hp:autoParam (AE e=true) aR)
 (hc:autoParam (eval (.Call f [e] [] pos) Γ.env=(do kY pos (<-eval f Γ.env) [] (backTo pos (starEach [e] Γ.env)) (ma pos (ly [] Γ.env)))) aR):Ev Γ σ (.Call f [e] [] pos) (.py (.int n)):=
 CN hf (Ab he Ah hp) (Xu hn hs) (by rw[lE,hp];rfl) hc
end
inductive AF where
 | next|brk|cont
 | ret (a:AV)
noncomputable def FR (O:Ap) (h:j6):AF->uT->Prop
 | .next,f=>f=.next
 | .brk,f=>f=.brk
 | .cont,f=>f=.cont
 | .ret a,f=>∃v,f=.ret v/\VR O h a v
noncomputable def AI (s s':jG):Prop:=∃h tk,s'={s with heap:=h,toks:=tk}
theorem AI.re(s:jG):AI s s:=AS _ _ rfl
theorem AI.tr{a b c:jG}(x:AI a b)(y:AI b c):AI a c:=by
 refine B1 x λh t zz1=>?_;clear x;obtain rfl:=zz1;refine B1 y λh' t' zz1=>?_;clear y;obtain rfl:=zz1;exact AS h' t' rfl
structure Fx (Γ:Cx) (O:Ap) (s:jG) (O':Ap) (s':jG):Prop where
 alike:AI s s'
 own:∀a,O'.has a->O.has a\/s.heap.get? a=none
 dom:∀b o,s.heap.get? b=some o->∃o',s'.heap.get? b=some o'
 kept:∀b o,s.heap.get? b=some o->¬O.has b->¬(∃x,(x,b)∈Γ.env.cells)->s'.heap.get? b=some o
 tups:∀b o,s.heap.get? b=some o->(o.cls=.type "tuple"/\∃vs n,o.data=.seq vs n)->s'.heap.get? b=some o
theorem Fx.re(Γ:Cx)(O:Ap)(s:jG):Fx Γ O s O s:=⟨AI.re s,λ_ h=>.inl h,λ_ o e=>(Ag o e),λ_ _ e _ _=>e,λ_ _ e _=>e⟩
theorem Fx.tr{Γ:Cx}{O O' O'':Ap}{s s' s'':jG}(x:Fx Γ O s O' s')(y:Fx Γ O' s' O'' s''):Fx Γ O s O'' s'':=by
 refine⟨x.alike.tr y.alike,λa h=>?_,λb o e=>?_,λb o e h1 h2=>?_,λb o e q=>y.tups b o (x.tups b o e q) q⟩
 ·rcases y.own a h with h|h
  ·exact x.own a h
  ·cases q:s.heap.get? a with
   | none=>exact .inr rfl
   | some o=>obtain⟨o',e'⟩:=x.dom _ _ q;exact B0 h e'
 ·obtain⟨o',e'⟩:=x.dom b o e
  exact y.dom b o' e'
 ·refine y.kept b o (x.kept b o e h1 h2) (λh=>?_) h2
  rcases x.own b h with h|h
  ·exact h1 h
  ·exact B0 h e
theorem Fx.of_keeps{Γ:Cx}{O:Ap}{s s':jG}(k:kZ s s'):Fx Γ O s O s':=by
 obtain⟨h,t,rfl,k⟩:=k
 exact⟨(AS h t rfl),λ_ h=>.inl h,λb o e=>(Ag o (k b o e)),λb o e _ _=>k b o e,λb o e _=>k b o e⟩
theorem Fx.new{Γ:Cx}{O:Ap}{s s':jG}{x:jZ}{a:jN}(k:kZ s s')(hn:s.heap.get? a=none):Fx Γ O s ((x,a)::O) s':=by
 obtain⟨h,t,rfl,k⟩:=k
 refine⟨(AS h t rfl),λb ⟨p,hp,e⟩=>?_,λb o e=>(Ag o (k b o e)),λb o e _ _=>k b o e,λb o e _=>k b o e⟩
 rcases jI.mp hp with rfl|hp
 ·have e:a=b:=e
  exact .inr (e▸hn)
 ·exact .inl (Ac p hp e)
noncomputable def X1 (Γ:Cx) (σ:AX) (st:md) (P:AF->AX->Prop):Prop:=
 ∀(O:Ap) (s:jG) (Q:uT->jG->Prop) (E:jD->jG->Prop),St Γ O σ s->
  (∀O' fl af σ' s',Fx Γ O s O' s'->St Γ O' σ' s'->FR O' s'.heap af fl->P af σ'->Q fl s')->wpAny (model Γ.prog Γ.w) Γ.A (exec st Γ.env) Q E s
noncomputable def Ex (Γ:Cx) (σ:AX) (ss:List md) (P:AF->AX->Prop):Prop:=
 ∀(O:Ap) (s:jG) (Q:uT->jG->Prop) (E:jD->jG->Prop),St Γ O σ s->
  (∀O' fl af σ' s',Fx Γ O s O' s'->St Γ O' σ' s'->FR O' s'.heap af fl->P af σ'->Q fl s')->wpAny (model Γ.prog Γ.w) Γ.A (execs ss Γ.env) Q E s
theorem Aj{Γ:Cx}{σ:AX}{P:AF->AX->Prop}(h:P .next σ):Ex Γ σ [] P:=
 λO s Q E t q=>l5 (q O .next .next σ s (Fx.re Γ O s) t rfl h)
theorem Ad{Γ:Cx}{σ:AX}{st:md}{ss:List md}{P:AF->AX->Prop}(h:X1 Γ σ st λaf σ'=>match af with | .next=>Ex Γ σ' ss P|af=>P af σ'):Ex Γ σ (st::ss) P:=by
 intro O s Q E t q
 refine km (h O s _ E t λO' fl af σ' s' a t' f p=>?_)
 cases af with
 | next=>
  obtain rfl:fl=.next:=f
  exact p O' s' Q E t' λO'' fl af σ'' s'' a' t'' f' p'=>q O'' fl af σ'' s'' (a.tr a') t'' f' p'
 | brk=>obtain rfl:fl=.brk:=f;exact q O' _ .brk σ' s' a t' rfl p
 | cont=>obtain rfl:fl=.cont:=f;exact q O' _ .cont σ' s' a t' rfl p
 | ret u=>refine Af f λv zz1 r=>?_;clear f;obtain rfl:=zz1;exact q O' _ (.ret u) σ' s' a t' (Ac v rfl r) p
structure Nm (Γ:Cx):Prop where
 nodup:Γ.ns.Nodup
 kind:Γ.env.scope.kind=.function
 apart:Γ.env.cells.Pairwise λx y=>x.2≠y.2
 names:(Γ.env.cells.map (·.1)).Nodup
 outer:∀a,Ap.has Γ.V a->a=Γ.env.locals\/∃o,Γ.s₀.heap.get? a=some o
theorem Bo{h h':j6}{L:jN}(hs:∀b,b≠L->∀o,h.get? b=some o->h'.get? b=some o)(hT:∀o,h.get? L=some o->¬(o.cls=.type "tuple"/\∃vs n,o.data=.seq vs n)) :
 (∀{v:jD} {d:jQ} {as:List jN},Ak h v d as->L∉as->Ak h' v d as):=by
 intro v d as r
 refine Ak.rec (motive_1:=λv d as _=>L∉as->Ak h' v d as) (motive_2:=λvs ds as _=>L∉as->Ae h' vs ds as) ?_ ?_ ?_ ?_ ?_ ?_ ?_ ?_ ?_ r
 ·intro _;exact .none
 ·intro b _;exact .bool b
 ·intro i t _;exact .int i t
 ·intro x t _;exact .str x t
 ·intro a o vs n xs as e1 e2 e3 _ ih hn
  rw[jI,not_or] at hn
  exact .list (hs _ (ln hn.1) _ e1) e2 e3 (ih hn.2)
 ·intro a o vs n xs as e1 e2 e3 _ ih hn
  refine .tuple (hs a ?_ _ e1) e2 e3 (ih hn)
  rintro rfl
  exact hT _ e1 ⟨e2,_,_,e3⟩
 ·intro a o vs n xs as e1 e2 e3 _ ih hn
  rw[jI,not_or] at hn
  exact .mt (hs _ (ln hn.1) _ e1) e2 e3 (ih hn.2)
 ·intro _;exact .nil
 ·intro v vs d ds as bs _ _ ih1 ih2 hn
  rw[jW,not_or] at hn
  exact .cons (ih1 hn.1) (ih2 hn.2)
theorem Aq{h h':j6}{L:jN}(hs:∀b,b≠L->∀o,h.get? b=some o->h'.get? b=some o)(hT:∀o,h.get? L=some o->¬(o.cls=.type "tuple"/\∃vs n,o.data=.seq vs n))
 {vs:List jD}{ds:List jQ}{as:List jN}(r:Ae h vs ds as):L∉as->Ae h' vs ds as:=
 Ae.ind (P:=λvs ds as=>L∉as->Ae h' vs ds as) (λ_=>.nil) (λr _ ih hn=>.cons (Bo hs hT r λz=>hn (lO _ z)) (ih λz=>hn (kR _ z))) r
theorem VR.avoid{O:Ap}{h h':j6}{L:jN}{a:AV}{v:jD}(r:VR O h a v)(hL:O.has L)(hs:∀b,b≠L->∀o,h.get? b=some o->h'.get? b=some o)
 (hT:∀o,h.get? L=some o->¬(o.cls=.type "tuple"/\∃vs n,o.data=.seq vs n)):VR O h' a v:=by
 cases a with
 | py d=>refine Af r λas r q=>?_;exact Ac as (Bo hs hT r λhm=>q _ hm hL) q
 | «by» b=>exact r
 | raw u=>exact r
 | obj P=>refine C9 r λa o e g p q z=>?_;exact C5 a o e (hs a (λw=>q (w▸hL)) _ g) p q z
 | st R ok=>refine Af r λas r q=>?_;exact Ac as (ok.keepBy r (λb hb o e=>hs b (λz=>q _ hb (z▸hL)) o e) (λb o e t=>hs b (λz=>hT o (z▸e) t) o e)) q
theorem A5{h:j6}{L:jN}{m:jZ->Option jD}(n:h.Ns L m):∀o,h.get? L=some o->¬(o.cls=.type "tuple"/\∃vs n,o.data=.seq vs n):=by
 refine Ec n λo es ep e hd _=>?_
 rintro o' e' ⟨_,vs,k,hd'⟩
 (replace e':=CQ e e';subst e')
 rw[hd] at hd';exact jU hd'
theorem En{h:j6}{L a:jN}{m:jZ->Option jD}{vs:Array jD}(n:h.Ns L m)(l:h.IsList a vs):a≠L:=by
 rintro rfl
 refine Ec n λo es ep e hd _=>?_
 refine Bu l λo' e' _ zr0=>AR zr0 λk hd'=>?_
 (replace e':=CQ e e';subst e')
 rw[hd] at hd';exact jU hd'
theorem Gf{h:j6}{L a:jN}{m:jZ->Option jD}{v:Option jD}(n:h.Ns L m)(l:h.IsCell a v):a≠L:=by
 rintro rfl
 refine Ec n λo es ep e hd _=>?_
 obtain⟨o',e',hd'⟩:=l
 (replace e':=CQ e e';subst e')
 rw[hd] at hd';exact jU hd'
theorem Cq{h:j6}{c a:jN}{v:Option jD}{vs:Array jD}(n:h.IsCell c v)(l:h.IsList a vs):a≠c:=by
 rintro rfl
 obtain⟨o,e,hd⟩:=n
 refine Bu l λo' e' _ zr0=>AR zr0 λk hd'=>?_
 (replace e':=CQ e e';subst e')
 rw[hd] at hd';exact jU hd'
section
variable {Γ:Cx} {σ:AX} {pos:mi}
theorem AJ{h h':j6}{L:jN}(hs:ou L h h'):∀b,b≠L->∀o,h.get? b=some o->h'.get? b=some o:=λb hb o e=>(hs.2 b hb).trans e
theorem XK.avoidNs{xI:j6}{O:Ap}{h h':j6}{L:jN}{m:jZ->Option jD}{x:jZ}{b:Bd}{v:jD}(r:XK L xI O h x b v)(n:h.Ns L m)(hL:O.has L)(hs:∀b,b≠L->∀o,h.get? b=some o->h'.get? b=some o):XK L xI O h' x b v:=by
 cases b with
 | val a=>exact VR.avoid (O:=O) r hL hs (A5 n)
 | own ds=>
  refine CR r λa' vs' as e1 m1 l1 r1 q1 f1=>?_
  have hne:=En n l1.isList
  exact CA a' vs' as e1 m1 (AR l1 λo ho=>(Ag o (hs _ hne _ ho))) (Aq hs (A5 n) r1 λhm=>q1 _ hm hL) q1 f1
 | «at» a P=>refine CU r λe m zz1 f=>?_;obtain⟨o,g,p,z⟩:=zz1;exact⟨e,m,(Ba o (hs a f.2 _ g) p z),f⟩
theorem AG{O:Ap}{s:jG}(N:Nm Γ){i:Nat}{x:jZ}{b:Bd}{v:jD}{Q:Unit->jG->Prop}{E:jD->jG->Prop}(hi:Γ.ns[i]?=some x)(hlt:i<σ.length)(hk:Γ.env.kindOf x=some .local)(t:St Γ O σ s)(r:XK Γ.env.locals Γ.s₀.heap O s.heap x b v)
 (q:∀s',AI s s'->(∀b o,b≠Γ.env.locals->s.heap.get? b=some o->s'.heap.get? b=some o)->St Γ O (σ.set i (some b)) s'->Q () s'):wpAny (model Γ.prog Γ.w) Γ.A (storeName Γ.env x v) Q E s:=by
 obtain⟨kp,⟨m,n,vs⟩,cl,nd,lv,sb,fr,fs⟩:=t
 refine wpAny_storeName_local hk n (λh' hn hs=>q _ (AS _ _ rfl) (λb o h1 e=>AJ hs b h1 o e) ?_) (by rw[N.kind];rfl)
 have hO:O.has Γ.env.locals:=sb _ fr
 have hget:=AJ hs
 refine⟨λb o e=>hget b (λz=>by rw[z,fs] at e;exact B6 e) o (kp b o e),(Ac _ hn λj y b' e e'=>?_),λy c e=>?_,nd,λp hp=>?_,sb,fr,fs⟩
 ·by_cases hj:j=i
  ·subst hj
   (replace e:=CQ hi e;subst e)
   rw[lQ hlt] at e'
   cases e'
   exact Ac v (.inl ⟨hk,by simp⟩) (XK.avoidNs r n hO hget)
  ·rw[lR (ln hj)] at e'
   refine Af (vs j y b' e e') λu hd r'=>?_
   have hy:y≠x:=by
    rintro rfl
    exact hj ((mr (jM.mp e).1 N.nodup).mp (e.trans hi.symm))
   refine Ac u ?_ (XK.avoidNs r' n hO hget)
   rcases hd with⟨k1,e1⟩|⟨k1,c,hc,ic⟩
   ·exact .inl ⟨k1,by simp[hy,e1]⟩
   ·exact .inr ⟨k1,c,hc,ic.sameBut hs (Gf n ic)⟩
 ·obtain⟨u,ic⟩:=cl y c e
  exact Ag u (ic.sameBut hs (Gf n ic))
 ·obtain⟨o,e⟩:=lv p hp
  by_cases hp':p.2=Γ.env.locals
  ·refine CG hn λo' _ _ e' _=>?_
   exact Ag o' (hp'▸e')
  ·exact Ag o (hget _ hp' _ e)
theorem Fx.ofBut{O:Ap}{σ':AX}{s s':jG}(t:St Γ O σ s)(a:AI s s')(k:∀b o,b≠Γ.env.locals->s.heap.get? b=some o->s'.heap.get? b=some o)(t':St Γ O σ' s'):Fx Γ O s O s':=by
 refine Af t.ex λm n _=>?_
 refine Af t'.ex λm' n' _=>?_
 refine⟨a,λ_ h=>.inl h,λb o e=>?_,λb o e h1 _=>k b o (λz=>h1 (z▸t.sub _ t.frame)) e,λb o e q=>k b o (λz=>A5 n o (z▸e) q) e⟩
 by_cases hb:b=Γ.env.locals
 ·refine CG n' λo' _ _ e' _=>?_;exact Ag o' (hb▸e')
 ·exact Ag o (k b o hb e)
theorem G4{O:Ap}{s:jG}(N:Nm Γ){i:Nat}{x:jZ}{b:Bd}{v:jD}{Q:Unit->jG->Prop}{E:jD->jG->Prop}(hi:Γ.ns[i]?=some x)(hlt:i<σ.length)(hk:Γ.env.kindOf x=some .local)(t:St Γ O σ s)(r:XK Γ.env.locals Γ.s₀.heap O s.heap x b v)
 (q:∀s',Fx Γ O s O s'->St Γ O (σ.set i (some b)) s'->Q () s'):wpAny (model Γ.prog Γ.w) Γ.A (storeName Γ.env x v) Q E s:=
 AG N hi hlt hk t r λs' a k t'=>q s' (Fx.ofBut t a k t') t'
theorem OR{O:Ap}{s:jG}(N:Nm Γ){i:Nat}{x:jZ}{a:AV}{v:jD}{Q:Unit->jG->Prop}{E:jD->jG->Prop}(hi:Γ.ns[i]?=some x)(hlt:i<σ.length)(hk:Γ.env.kindOf x=some .local)(t:St Γ O σ s)(r:VR O s.heap a v)
 (q:∀s',Fx Γ O s O s'->St Γ O (σ.set i (some (.val a))) s'->Q () s'):wpAny (model Γ.prog Γ.w) Γ.A (storeName Γ.env x v) Q E s:=
 G4 N (b:=.val a) hi hlt hk t r q
theorem Di{h:j6}{c:jN}{v:Option jD}(n:h.IsCell c v):∀o,h.get? c=some o->¬(o.cls=.type "tuple"/\∃vs n,o.data=.seq vs n):=by
 refine Af n λo e hd=>?_
 rintro o' e' ⟨_,vs,k,hd'⟩
 (replace e':=CQ e e';subst e')
 rw[hd] at hd';exact jU hd'
theorem Gv{h:j6}{c:jN}{u:Option jD}(ic:h.IsCell c u):∀{v:jD} {d:jQ} {as:List jN},Ak h v d as->c∉as:=by
 intro v d as r
 obtain⟨oc,ec,dc⟩:=ic
 refine Ak.rec (motive_1:=λv d as _=>c∉as) (motive_2:=λvs ds as _=>c∉as) ?_ ?_ ?_ ?_ ?_ ?_ ?_ ?_ ?_ r
 ·exact λh=>nomatch h
 ·exact λ_ h=>nomatch h
 ·exact λ_ _ h=>nomatch h
 ·exact λ_ _ h=>nomatch h
 ·intro a o vs n xs as e1 e2 e3 _ ih hm
  rcases jI.mp hm with rfl|hm
  ·(replace e1:=CQ ec e1;subst e1);rw[dc] at e3;exact jU e3
  ·exact ih hm
 ·intro a o vs n xs as e1 e2 e3 _ ih hm;exact ih hm
 ·intro a o vs n xs as e1 e2 e3 _ ih hm
  rcases jI.mp hm with rfl|hm
  ·(replace e1:=CQ ec e1;subst e1);rw[dc] at e3;exact jU e3
  ·exact ih hm
 ·exact λh=>nomatch h
 ·intro v vs d ds as bs _ _ ih1 ih2 hm
  exact(jW.mp hm).elim ih1 ih2
theorem ED{h:j6}{c:jN}{u:Option jD}(ic:h.IsCell c u){v:List jD}{d:List jQ}{as:List jN}(r:Ae h v d as):c∉as:=
 Ae.ind (P:=λ_ _ as=>c∉as) (λh=>nomatch h) (λr _ ih h=>(jW.mp h).elim (Gv ic r) ih) r
theorem VR.avoidCell{O:Ap}{h h':j6}{c:jN}{u:Option jD}{a:AV}{v:jD}(r:VR O h a v)(ic:h.IsCell c u)(hs:∀b,b≠c->∀o,h.get? b=some o->h'.get? b=some o):VR O h' a v:=by
 cases a with
 | py d=>refine Af r λas r q=>?_;exact Ac as (Bo hs (Di ic) r (Gv ic r)) q
 | «by» b=>exact r
 | raw u=>exact r
 | obj P=>refine C9 r λa o e g p q z=>?_;exact C5 a o e (hs a (λw=>by obtain⟨o',e',d⟩:=ic;rw[<-w,g] at e';(replace e':=si e';subst e');exact z.1 _ d) _ g) p q z
 | st R ok=>refine Af r λas r q=>?_;exact Ac as (ok.keepBy r (λb hb o e=>hs b (λw=>by obtain⟨o',e',d⟩:=ic;obtain⟨o2,e2,z2⟩:=ok.solid r b hb;rw[w,e'] at e2;(replace e2:=si e2;subst e2);exact z2.1 _ d) o e) (λb o e t=>hs b (λw=>Di ic o (w▸e) t) o e)) q
theorem NZ{O:Ap}{s:jG}(N:Nm Γ){i:Nat}{x:jZ}{c:jN}{a:AV}{v:jD}{Q:Unit->jG->Prop}{E:jD->jG->Prop}(hi:Γ.ns[i]?=some x)(hlt:i<σ.length)(hk:Γ.env.kindOf x=some .cell)
 (hc:Γ.env.cells.lookup x=some c)(hf:Γ.s₀.heap.get? c=none)(t:St Γ O σ s)(r:VR O s.heap a v)
 (q:∀s',Fx Γ O s O s'->St Γ O (σ.set i (some (.val a))) s'->Q () s'):wpAny (model Γ.prog Γ.w) Γ.A (storeName Γ.env x v) Q E s:=by
 obtain⟨kp,⟨m,n,vs⟩,cl,nd,lv,sb,fr,fs⟩:=t
 obtain⟨yg,ic⟩:=cl x c hc
 refine wpAny_storeName_cell N.kind hk hc ic λh' ic' hs=>q _ ⟨(AS _ _ rfl),λ_ h=>.inl h,λb o e=>?_,λb o e _ h2=>AJ hs b (λz=>h2 (Ag x (z▸mem_of_lookup hc))) o e,λb o e q=>AJ hs b (λz=>Di ic o (z▸e) q) o e⟩ ?_
 ·by_cases hb:b=c
  ·refine Af ic' λo' e' _=>?_;exact Ag o' (hb▸e')
  ·exact Ag o (AJ hs b hb o e)
 have hget:=AJ hs
 have hLc:Γ.env.locals≠c:=ln (Gf n ic)
 refine⟨λb o e=>hget b (λz=>by rw[z,hf] at e;exact B6 e) o (kp b o e),(Ac m (n.sameBut hs hLc) λj y b e e'=>?_),λy c' e=>?_,nd,λp hp=>?_,sb,fr,fs⟩
 ·by_cases hj:j=i
  ·subst hj
   (replace e:=CQ hi e;subst e)
   rw[lQ hlt] at e'
   cases e'
   exact Ac v (.inr ⟨hk,c,hc,ic'⟩) (VR.avoidCell r ic hget)
  ·rw[lR (ln hj)] at e'
   refine Af (vs j y b e e') λu hd r'=>?_
   have hy:y≠x:=by
    rintro rfl
    exact hj ((mr (jM.mp e).1 N.nodup).mp (e.trans hi.symm))
   refine Ac u ?_ ?_
   ·rcases hd with⟨k1,e1⟩|⟨k1,c',hc',ic1⟩
    ·exact .inl ⟨k1,e1⟩
    ·refine .inr ⟨k1,c',hc',ic1.sameBut hs λz=>hy ?_⟩
     exact name_of_addr N.apart (mem_of_lookup hc') (z▸mem_of_lookup hc)
   ·cases b with
    | val a=>exact VR.avoidCell (O:=O) r' ic hget
    | own ds=>
     refine CR r' λa' vs' as e1 m1 l1 r1 q1 f1=>?_
     have hne:=Cq ic l1.isList
     exact CA a' vs' as e1 m1 (AR l1 λo ho=>(Ag o (hget _ hne _ ho))) (Aq hget (Di ic) r1 (ED ic r1)) q1 f1
    | «at» a2 P=>
     refine CU r' λe1 m1 zz1 f1=>?_;obtain⟨o,g,p,z⟩:=zz1
     exact⟨e1,m1,(Ba o (hget a2 (λw=>by obtain⟨o',e',d⟩:=ic;rw[<-w,g] at e';(replace e':=si e';subst e');exact z.1.1 _ d) _ g) p z),f1⟩
 ·by_cases hz:c'=c
  ·subst hz;exact Ag _ ic'
  ·obtain⟨u,ic1⟩:=cl y c' e
   exact Ag u (ic1.sameBut hs hz)
 ·obtain⟨o,e⟩:=lv p hp
  by_cases hp':p.2=c
  ·refine Af ic' λo' e' _=>?_
   exact Ag o' (hp'▸e')
  ·exact Ag o (hget _ hp' _ e)
theorem CX{h h':j6}:(∀{v:jD} {d:jQ} {as:List jN},Ak h v d as->(∀b∈as,∀o,h.get? b=some o->h'.get? b=some o)->
 (∀b o,h.get? b=some o->(o.cls=.type "tuple"/\∃vs n,o.data=.seq vs n)->h'.get? b=some o)->Ak h' v d as):=by
 intro v d as r
 refine Ak.rec (motive_1:=λv d as _=>(∀b∈as,∀o,h.get? b=some o->h'.get? b=some o)->(∀b o,h.get? b=some o->(o.cls=.type "tuple"/\∃vs n,o.data=.seq vs n)->h'.get? b=some o)->Ak h' v d as)
  (motive_2:=λvs ds as _=>(∀b∈as,∀o,h.get? b=some o->h'.get? b=some o)->(∀b o,h.get? b=some o->(o.cls=.type "tuple"/\∃vs n,o.data=.seq vs n)->h'.get? b=some o)->Ae h' vs ds as) ?_ ?_ ?_ ?_ ?_ ?_ ?_ ?_ ?_ r
 ·intro _ _;exact .none
 ·intro b _ _;exact .bool b
 ·intro i t _ _;exact .int i t
 ·intro x t _ _;exact .str x t
 ·intro a o vs n xs as e1 e2 e3 _ ih k t
  exact .list (k _ (.head _) _ e1) e2 e3 (ih (λb hb=>k b (.tail _ hb)) t)
 ·intro a o vs n xs as e1 e2 e3 _ ih k t
  exact .tuple (t _ _ e1 ⟨e2,_,_,e3⟩) e2 e3 (ih k t)
 ·intro a o vs n xs as e1 e2 e3 _ ih k t
  exact .mt (k _ (.head _) _ e1) e2 e3 (ih (λb hb=>k b (.tail _ hb)) t)
 ·intro _ _;exact .nil
 ·intro v vs d ds as bs _ _ ih1 ih2 k t
  exact .cons (ih1 (λb hb=>k b (lO _ hb)) t) (ih2 (λb hb=>k b (kR _ hb)) t)
theorem Dq{h h':j6}(t:∀b o,h.get? b=some o->(o.cls=.type "tuple"/\∃vs n,o.data=.seq vs n)->h'.get? b=some o){v:List jD}{d:List jQ}{as:List jN}(r:Ae h v d as):(∀b∈as,∀o,h.get? b=some o->h'.get? b=some o)->Ae h' v d as:=
 Ae.ind (P:=λv d as=>(∀b∈as,∀o,h.get? b=some o->h'.get? b=some o)->Ae h' v d as) (λ_=>.nil) (λr _ ih k=>.cons (CX r (λb hb=>k b (lO _ hb)) t) (ih λb hb=>k b (kR _ hb))) r
theorem DP{O O':Ap}{s s':jG}(t:St Γ O σ s)(nd:(Γ.env.cells.map (·.1)).Nodup)(f:Fx Γ O s O' s'){v:List jD}{d:List jQ}{as:List jN}(r:Ae s.heap v d as)(q:∀b∈as,¬O.has b):Ae s'.heap v d as:=
 Dq f.tups r λb hb o e=>f.kept b o e (q b hb) λEM=>AR EM λx hx=>by
  obtain⟨u,ic⟩:=t.cells x b (by
   have:∀(l:List (jZ×jN)),(l.map (·.1)).Nodup->(x,b)∈l->l.lookup x=some b:=by
    intro l nd hm
    induction l with
    | nil=>cases hm
    | cons p l ih=>
     rw[kO,mf] at nd
     rw[rg]
     rcases jI.mp hm with e|hm
     ·rw[<-e];simp
     ·have:(x == p.1)=false:=by
       rw[beq_eq_false_iff_ne]
       rintro rfl
       exact nd.1 (kq.mpr (Ac _ hm rfl))
      rw[this];exact ih nd.2 hm
   exact this _ nd hx)
  exact ED ic r hb
end
theorem nW:Nonempty jY:=⟨aWorld 0⟩
theorem nP:Nonempty jE:=⟨(aWorld 0).params⟩
theorem nA:Nonempty kC:=⟨{}⟩
theorem nS:Nonempty jG:=⟨{}⟩
theorem nD:Nonempty jQ:=⟨.none⟩
theorem nV:Nonempty AV:=⟨.py .none⟩
theorem nC:Nonempty Cx:=⟨⟨default,aWorld 0,{},{},default,[],[]⟩⟩
noncomputable def bz:List Type->Type
 | []=>Prop
 | α::l=>α->bz l
noncomputable def fX:List Type->Type
 | []=>Unit
 | α::l=>α×fX l
noncomputable def iG:(l:List Type)->bz l->Prop
 | [],p=>p
 | _::l,p=>∀a,iG l (p a)
noncomputable def fC:(l:List Type)->bz l->fX l->Prop
 | [],p,_=>p
 | _::l,p,x=>fC l (p x.1) x.2
noncomputable def fv:List Type->Prop
 | []=>True
 | α::l=>Nonempty α/\fv l
theorem EN:∀(l:List Type) (p:bz l),(∀x,fC l p x)->iG l p
 | [],_,h=>h ()
 | _::l,p,h=>λa=>EN l (p a) λx=>h (a,x)
theorem ne1:∀(l:List Type),fv l->Nonempty (fX l)
 | [],_=>⟨()⟩
 | _::l,h=>h.1.elim λa=>(ne1 l h.2).elim λx=>⟨(a,x)⟩
noncomputable def iZ {l:List Type} (n:fv l) (p:bz l):fX l:=@Classical.epsilon _ (ne1 l n) λx=>¬fC l p x
theorem iu{l:List Type}{n:fv l}{p:bz l}(h:fC l p (iZ n p)):iG l p:=
 EN l p λx=>tT λq=>@Classical.epsilon_spec _ (λx=>¬fC l p x) ⟨x,q⟩ h
local macro_rules
 | `(tactic| delta $ds* at $[$hs:term]*)=>do
  let l<-ds.foldrM (λ_ b=>`(_::$b)) (<-`([]))
  let mut x<-`(iZ N P)
  let mut ls:=#[]
  for d in ds do
   ls:=ls.push (d,<-`(Prod.fst $x))
   x<-`(Prod.snd $x)
  let b<-ls.foldrM (λ(d,v) b=>`(@(letI $d :=$v;$b))) (<-`(@((?_:P $ds*))))
  `(tactic| (revert $hs*;revert $ds*;haveI:=nW;haveI:=nP;haveI:=nA;haveI:=nS;haveI:=nD;haveI:=nV;haveI:=nC;refine @(letI P:bz $l :=_;letI N:fv $l :=(by(repeat refine And.intro inferInstance ?_);exact uE);@(iu (n:=N) (p:=P) $b));intro $hs*))
section
variable {Γ:Cx} {σ:AX} {pos:mi} {P:AF->AX->Prop}
theorem At(N:Nm Γ)(i:Nat){x:jZ}{p:mi}{e:kJ}{a:AV}(h:Ev Γ σ e a)(hP:P .next (σ.set i (some (.val a))))(hi:autoParam (Γ.ns[i]?=some x) aR)(hlt:autoParam (i<σ.length) aN)(hk:autoParam (Γ.env.kindOf x=some .local) aR)
 (hs:autoParam (qX e (some (.Name x p)) pos.line Γ.env=pure false) aR):X1 Γ σ (.Assign [.Name x p] e pos) P:=by
 intro O s Q E t q
 exact l9 (h O s _ E t λv s1 t1 k1 r1=>OR N hi hlt hk t1 r1 λs2 a2 t2=>q O .next .next _ s2 ((Fx.of_keeps k1).tr a2) t2 rfl hP) hs
theorem CP(N:Nm Γ)(i:Nat){x:jZ}{c:jN}{p:mi}{e:kJ}{a:AV}(h:Ev Γ σ e a)(hP:P .next (σ.set i (some (.val a))))(hc:Γ.env.cells.lookup x=some c)(hf:Γ.s₀.heap.get? c=none)(hi:autoParam (Γ.ns[i]?=some x) aR)(hlt:autoParam (i<σ.length) aN)(hk:autoParam (Γ.env.kindOf x=some .cell) aR)
 (hs:autoParam (qX e (some (.Name x p)) pos.line Γ.env=pure false) aR):X1 Γ σ (.Assign [.Name x p] e pos) P:=by
 intro O s Q E t q
 exact l9 (h O s _ E t λv s1 t1 k1 r1=>NZ N hi hlt hk hc hf t1 r1 λs2 a2 t2=>q O .next .next _ s2 ((Fx.of_keeps k1).tr a2) t2 rfl hP) hs
theorem AQ{e:kJ}{a:AV}(h:Ev Γ σ e a)(hP:P (.ret a) σ):X1 Γ σ (.Return (some e) pos) P:=by
 intro O s Q E t q
 exact pV (h O s _ E t λv s1 t1 k1 r1=>q O _ (.ret a) σ s1 (Fx.of_keeps k1) t1 (Ac v rfl r1) hP)
theorem L4(hP:P .brk σ):X1 Γ σ (.Break pos) P:=
 λO s Q E t q=>wpAny_Break (q O _ .brk σ s (Fx.re Γ O s) t rfl hP)
theorem BI{e:kJ}{b:Bool}{ss us:List md}(h:Tv Γ σ e b)(h1:b=true->Ex Γ σ ss P)(h0:b=false->Ex Γ σ us P):X1 Γ σ (.If e ss us pos) P:=by
 intro O s Q E t q
 refine ur (h O s _ E t λs1 t1 k1=>?_)
 cases b with
 | true=>exact h1 rfl O s1 Q E t1 λO' fl af σ' s' a t' f p=>q O' fl af σ' s' ((Fx.of_keeps k1).tr a) t' f p
 | false=>exact h0 rfl O s1 Q E t1 λO' fl af σ' s' a t' f p=>q O' fl af σ' s' ((Fx.of_keeps k1).tr a) t' f p
theorem Iz{x:jZ}{k:Nat}{p:mi}(hP:P .next σ)(hi:autoParam (interactive Γ.env=false) aR):X1 Γ σ (.Expr (.Constant (.str x) k p) pos) P:=by
 intro O s Q E t q
 exact nI (tW (q O .next .next σ _ (Fx.of_keeps Keeps.rfl') (t.keeps λ_ _ e=>e) rfl hP)) hi
theorem VH(N:Nm Γ)(i:Nat){x:jZ}{p:mi}{e:kJ}{a b:Int}(ha:autoParam (σ[i]?=some (some (.val (.py (.int a))))) aR)(h:Ev Γ σ e (.py (.int b)))(hP:P .next (σ.set i (some (.val (.py (.int (a+b)))))))(hi:autoParam (Γ.ns[i]?=some x) aR)(hlt:autoParam (i<σ.length) aN)(hk:autoParam (Γ.env.kindOf x=some .local) aR) :
 X1 Γ σ (.AugAssign (.Name x p) .Add e pos) P:=by
 intro O s Q E t q
 refine Af t.ex λm n vs=>?_
 refine Af (vs i x _ hi ha) λv hd' r=>?_
 rcases hd' with⟨k1,e1⟩|⟨k1,_⟩
 ·refine wpAny_AugAssign_Name (mE N.kind k1 n e1 (h O s _ E t λu s1 t1 k2 r1=>?_))
  obtain⟨tv,rfl⟩:=VR.int_inv (O:=O) r
  obtain⟨tu,rfl⟩:=r1.int_inv
  exact PySem.P.iadd_int (OR N hi hlt hk (t1.keeps λ_ _ e=>e) (VR.int O _ _ _) λs2 a2 t2=>q O .next .next _ s2 ((Fx.of_keeps k2).tr (Fx.tr (Fx.of_keeps Keeps.rfl') a2)) t2 rfl hP)
 ·rw[hk] at k1;exact on (si k1)
theorem Ap.mem_inj{O:Ap}(nd:(O.map (·.2)).Nodup){x y:jZ}{a:jN}(h:(x,a)∈O)(h':(y,a)∈O):x=y:=by
 induction O with
 | nil=>cases h
 | cons p O ih=>
  rw[kO,mf] at nd
  rcases jI.mp h with e|h<;>rcases jI.mp h' with e'|h'
  ·rw[<-e'] at e;exact(Prod.mk.inj e).1
  ·exact absurd (kq.mpr ⟨_,h',by rw[<-e]⟩) nd.1
  ·exact absurd (kq.mpr ⟨_,h,by rw[<-e']⟩) nd.1
  ·exact ih nd.2 h h'
theorem aw(N:Nm Γ){O:Ap}{s:jG}{i:Nat}{x:jZ}{ds:List jQ}(t:St Γ O σ s)(hi:Γ.ns[i]?=some x)(h:σ[i]?=some (some (.own ds))):∃O',Fx Γ O s O' s/\St Γ O' (σ.set i (some (.val (.py (.list ds))))) s:=by
 delta Γ σ O s i x ds at N t hi h
 obtain⟨kp,⟨m,n,vs⟩,cl,nd,lv,sb,fr,fs⟩:=t
 refine Af (vs i x _ hi h) λv hd zr0=>CR zr0 λa ws as zz1 m1 l1 r1 q1 f1=>?_;obtain rfl:=zz1
 have hlt:i<σ.length:=(jM.mp h).1
 have hsub:∀b,Ap.has (O.filter λp=>!decide (p.2=a)) b->O.has b:=λb ⟨p,hp,e⟩=>Ac p ((kd.mp hp).1) e
 have hna:¬Ap.has (O.filter λp=>!decide (p.2=a)) a:=by
  intro zz1;refine Af zz1 λp hp e=>?_
  have:=(kd.mp hp).2
  simp[e] at this
 have haL:a≠Γ.env.locals:=En n l1.isList
 refine⟨O.filter λp=>!decide (p.2=a),⟨AI.re s,λb hb=>.inl (hsub b hb),λ_ o e=>(Ag o e),λ_ _ e _ _=>e,λ_ _ e _=>e⟩,kp,(Ac m n λj y b e e'=>?_),cl,?_,λp hp=>lv p (kd.mp hp).1,λb hb=>?_,fr,fs⟩
 ·by_cases hj:j=i
  ·subst hj
   (replace e:=CQ hi e;subst e)
   rw[lQ hlt] at e'
   cases e'
   refine⟨_,hd,a::as,?_,?_⟩
   ·obtain⟨n,e⟩:=l1
    exact .list e rfl rfl r1
   ·intro b hb
    rcases jI.mp hb with rfl|hb
    ·exact hna
    ·exact λz=>q1 b hb (hsub b z)
  ·rw[lR (ln hj)] at e'
   refine Af (vs j y b e e') λu hd' r'=>?_
   refine Ac u hd' ?_
   cases b with
   | val w=>
    cases w with
    | py d=>refine Af r' λbs r q=>?_;exact Ac bs r λb hb z=>q b hb (hsub b z)
    | «by» b=>exact r'
    | raw w=>exact r'
    | obj P=>refine C9 r' λa1 o e1 g p q z=>?_;exact C5 a1 o e1 g p (λh=>q (hsub a1 h)) z
    | st R ok=>refine Af r' λbs r q=>?_;exact Ac bs r λb hb z=>q b hb (hsub b z)
   | own es=>
    refine CR r' λa' ws' as' e1 m1' l1' r1' q1' f1'=>?_
    refine CA a' ws' as' e1 (kd.mpr ⟨m1',?_⟩) l1' r1' (λb hb z=>q1' b hb (hsub b z)) f1'
    have:a'≠a:=by
     rintro rfl
     have:=Ap.mem_inj nd m1 m1'
     subst this
     exact hj ((mr (jM.mp e).1 N.nodup).mp (e.trans hi.symm))
    simp[this]
   | «at» a' P=>
    refine CU r' λe1 m1' g1 f1'=>?_
    refine⟨e1,kd.mpr ⟨m1',?_⟩,g1,f1'⟩
    have:a'≠a:=by
     rintro rfl
     have:=Ap.mem_inj nd m1 m1'
     subst this
     exact hj ((mr (jM.mp e).1 N.nodup).mp (e.trans hi.symm))
    simp[this]
 ·exact qd (pp _ pf) nd
 ·refine Af (sb b hb) λp hp e=>?_
  refine Ac p (kd.mpr ⟨hp,?_⟩) e
  have:p.2≠a:=by
   rw[e]
   rcases N.outer b hb with rfl|⟨o,ho⟩
   ·exact ln haL
   ·rintro rfl;exact B0 f1 ho
  simp[this]
theorem Ct(N:Nm Γ)(i:Nat){x:jZ}{ds:List jQ}{ss:List md}(h:Ex Γ (σ.set i (some (.val (.py (.list ds))))) ss P)(hi:autoParam (Γ.ns[i]?=some x) aR)(hs:autoParam (σ[i]?=some (some (.own ds))) aR):Ex Γ σ ss P:=by
 intro O s Q E t q
 refine Af (aw N t hi hs) λO' f' t'=>?_
 exact h O' s Q E t' λO'' fl af σ' s' a=>q O'' fl af σ' s' (f'.tr a)
noncomputable def XO (Γ:Cx) (σ:AX) (e:kJ) (ds:List jQ):Prop:=
 ∀(O:Ap) (s:jG) (Q:jD->jG->Prop) (E:jD->jG->Prop),St Γ O σ s->
  (∀a vs as s',kZ s s'->s.heap.get? a=none->s'.heap.PlainList a vs->Ae s'.heap vs.toList ds as->(∀b∈as,¬O.has b)->a∉as->Q (.ref a) s')->wpAny (model Γ.prog Γ.w) Γ.A (eval e Γ.env) Q E s
theorem BA{h:j6}:∀{v:jD} {d:jQ} {as:List jN},Ak h v d as->∀b∈as,∃o,h.get? b=some o:=by
 intro v d as r
 refine Ak.rec (motive_1:=λv d as _=>∀b∈as,∃o,h.get? b=some o) (motive_2:=λvs ds as _=>∀b∈as,∃o,h.get? b=some o) ?_ ?_ ?_ ?_ ?_ ?_ ?_ ?_ ?_ r
 ·exact λ_ h=>nomatch h
 ·exact λ_ _ h=>nomatch h
 ·exact λ_ _ _ h=>nomatch h
 ·exact λ_ _ _ h=>nomatch h
 ·intro a o vs n xs as e1 e2 e3 _ ih b hm
  rcases jI.mp hm with rfl|hm
  ·exact Ag _ e1
  ·exact ih b hm
 ·intro a o vs n xs as e1 e2 e3 _ ih;exact ih
 ·intro a o vs n xs as e1 e2 e3 _ ih b hm
  rcases jI.mp hm with rfl|hm
  ·exact Ag _ e1
  ·exact ih b hm
 ·exact λ_ h=>nomatch h
 ·intro v vs d ds as bs _ _ ih1 ih2 b hm
  exact(jW.mp hm).elim (ih1 b) (ih2 b)
theorem Bv{h:j6}{v:List jD}{d:List jQ}{as:List jN}(r:Ae h v d as):∀b∈as,∃o,h.get? b=some o:=
 Ae.ind (P:=λ_ _ as=>∀b∈as,∃o,h.get? b=some o) (λ_ h=>nomatch h) (λr _ ih b h=>(jW.mp h).elim (BA r b) (ih b)) r
theorem CH{es:List kJ}{ds:List jQ}{p:mi}(h:XJ Γ σ es (ds.map .py))(hs:ds.length<=100000):XO Γ σ (.List es p) ds:=by
 intro O s Q E t q
 refine tV (h O s _ _ E t λvs s1 t1 k1 r1=>?_)
 refine Af r1.reads λas rs qs=>?_
 have hl:=r1.length
 rw[jK] at hl
 refine⟨by rw[hl,sizeLine_eq];rwa[hs],q s1.heap.objs.size vs.toArray as _ (Keeps.tr k1 (AT _ s1.toks rfl λ_ _ e=>jH _ e)) ?_ (Ag 0 (jS _ rfl)) (Ae.keeps (λ_ _ e=>jH _ e) rs) qs λhm=>?_⟩
 ·cases e:s.heap.get? s1.heap.objs.size with
  | none=>rfl
  | some o=>
   refine Ao k1 λh' tk zz1 k=>?_;clear k1;obtain rfl:=zz1
   exact absurd (kt (k _ _ e)) (lr _)
 ·obtain⟨o,e⟩:=Bv rs _ hm
  exact absurd (kt e) (lr _)
theorem ET{O:Ap}{s s':jG}{a:jN}{x:jZ}(t:St Γ O σ s)(k:kZ s s')(h:s.heap.get? a=none)(h':∃o,s'.heap.get? a=some o):St Γ ((x,a)::O) σ s':=by
 delta Γ σ O s at s' a x t k h h'
 have t':=t.of_keeps k
 obtain⟨kp,⟨m,n,vs⟩,cl,nd,lv,sb,fr,fs⟩:=t
 obtain⟨hh,tk,rfl,k⟩:=k
 have hna:¬O.has a:=by
  rintro⟨p,hp,e⟩
  obtain⟨o,ho⟩:=lv p hp
  rw[e,h] at ho;exact B6 ho
 have hav:∀(as:List jN),(∀b∈as,∃o,s.heap.get? b=some o)->(∀b∈as,¬O.has b)->∀b∈as,¬Ap.has ((x,a)::O) b:=by
  rintro as hl hq b hb ⟨p,hp,e⟩
  rcases jI.mp hp with rfl|hp
  ·obtain⟨o,ho⟩:=hl b hb
   have e:a=b:=e
   rw[<-e,h] at ho;exact B6 ho
  ·exact hq b hb (Ac p hp e)
 refine⟨t'.keep,(Ac m (n.keeps k) λi y b e e'=>?_),t'.cells,?_,λp hp=>?_,λb hb=>?_,fr,fs⟩
 ·obtain⟨v,hd,r⟩:=vs i y b e e'
  refine Ac v (hd.keeps k) ?_
  cases b with
  | val w=>
   cases w with
   | py d=>obtain⟨bs,r,q⟩:=r;exact Ac bs (Ak.keeps k r) (hav bs (BA r) q)
   | «by» b=>exact r
   | raw w=>exact r
   | obj P=>obtain⟨a1,o,e1,g,p,q,z⟩:=r;exact C5 a1 o e1 (k _ _ g) p (hav [a1] (λb hb=>by rw[jJ.mp hb];exact Ag o g) (λb hb=>by rw[jJ.mp hb];exact q) a1 (.head _)) z
   | st R ok=>obtain⟨bs,r,q⟩:=r;exact Ac bs (ok.keeps r k) (hav bs (ok.live r) q)
  | own ds=>
   obtain⟨a',ws',as',e1,m1',l1',r1',q1',f1'⟩:=r
   exact CA a' ws' as' e1 (.tail _ m1') (AR l1' λn e=>(Ag n (k _ _ e))) (Ae.keeps k r1') (hav as' (Bv r1') q1') f1'
  | «at» a' P=>obtain⟨e1,m1',⟨o,g,p,z⟩,f1'⟩:=r;exact⟨e1,.tail _ m1',(Ba o (k _ _ g) p z),f1'⟩
 ·rw[kO,mf]
  refine⟨λhm=>?_,nd⟩
  obtain⟨p,hp,e⟩:=kq.mp hm
  exact hna (Ac p hp e)
 ·rcases jI.mp hp with rfl|hp
  ·exact h'
  ·exact t'.live p hp
 ·obtain⟨p,hp,e⟩:=sb b hb
  exact Ac p (.tail _ hp) e
theorem Gn(N:Nm Γ)(i:Nat){x:jZ}{p:mi}{e:kJ}{ds:List jQ}(h:XO Γ σ e ds)(hP:P .next (σ.set i (some (.own ds))))(hi:autoParam (Γ.ns[i]?=some x) aR)(hlt:autoParam (i<σ.length) aN)(hk:autoParam (Γ.env.kindOf x=some .local) aR)
 (hs:autoParam (qX e (some (.Name x p)) pos.line Γ.env=pure false) aR):X1 Γ σ (.Assign [.Name x p] e pos) P:=by
 intro O s Q E t q
 refine l9 (h O s _ E t λa vs as s1 k1 hn l1 r1 q1 hna=>?_) hs
 have t1:=ET (x:=x) t k1 hn (AR l1 λn e=>(Ag _ e))
 refine G4 N (b:=.own ds) hi hlt hk t1 (CA a vs as rfl (.head _) l1 r1 ?_ ?_) λs2 a2 t2=>q _ .next .next _ s2 (Fx.tr (Fx.new k1 hn) a2) t2 rfl hP
 ·rintro b hb ⟨p,hp,e⟩
  rcases jI.mp hp with rfl|hp
  ·have e:a=b:=e
   exact hna (e▸hb)
  ·exact q1 b hb (Ac p hp e)
 ·exact gn λo e=>by have:=t.keep _ _ e;exact B0 hn this
end
theorem DZ{h:j6}{v:jD}{d:jQ}{bs:List jN}(r:Ak h v d bs){vs:List jD}{ds:List jQ}{as:List jN}(rs:Ae h vs ds as):Ae h (vs++[v]) (ds++[d]) (as++bs):=
 Ae.ind (P:=λvs ds as=>Ae h (vs++[v]) (ds++[d]) (as++bs)) (by have:=Ae.cons r (.nil (h:=h));rw[kH] at this;exact this) (λr' _ ih=>by rw[l8];exact .cons r' ih) rs
theorem UU{h:j6}{L:jN}{m m':jZ->Option jD}(n:h.Ns L m)(n':h.Ns L m'):m=m':=by
 refine Cf n λo es ep e hd hk hm=>?_
 refine Cf n' λo' es' ep' e' hd' hk' hm'=>?_
 (replace e':=CQ e e';subst e')
 rw[hd] at hd';cases hd'
 funext x
 rw[<-hm x,<-hm' x]
theorem Pg{h:j6}{env:xA}{m:jZ->Option jD}{x:jZ}{v v':jD}(q:Gk h env m x v)(q':Gk h env m x v'):v=v':=by
 rcases q with⟨k,e⟩|⟨k,c,hc,o,ho,hd⟩<;>rcases q' with⟨k',e'⟩|⟨k',c',hc',o',ho',hd'⟩
 ·rw[e] at e';exact kW e'
 ·rw[k] at k';exact on (si k')
 ·rw[k] at k';exact on (si k')
 ·(replace hc':=CQ hc hc';subst hc')
  (replace ho':=CQ ho ho';subst ho')
  rw[hd] at hd';cases hd'
  rfl
section
variable {Γ:Cx} {σ:AX} {pos:mi} {P:AF->AX->Prop}
theorem UI(N:Nm Γ){O:Ap}{s:jG}{i:Nat}{x:jZ}{a:jN}{ds:List jQ}{d:jQ}{v:jD}{Q:jD->jG->Prop}{E:jD->jG->Prop}(t:St Γ O σ s)(hi:Γ.ns[i]?=some x)(hσ:σ[i]?=some (some (.own ds)))
 (hm:∃m,s.heap.Ns Γ.env.locals m/\Gk s.heap Γ.env m x (.ref a))(hs:ds.length<=100000)(r:VR O s.heap (.py d) v)
 (q:∀s',Fx Γ O s O s'->St Γ O (σ.set i (some (.own (ds++[d])))) s'->Q .none s'):wpAny (model Γ.prog Γ.w) Γ.A (call (.builtin "list.append") [.ref a,v]) Q E s:=by
 delta Γ σ O s Q E at N i x a ds d v t hi hσ hm hs r q
 obtain⟨kp,⟨m,n,vs⟩,cl,nd,lv,sb,fr,fs⟩:=t
 have hlt:i<σ.length:=(jM.mp hσ).1
 refine Af (vs i x _ hi hσ) λv0 hd zr0=>CR zr0 λa' ws as zz1 m1 l1 r1 q1 f1=>?_;obtain rfl:=zz1
 obtain rfl:a'=a:=by
  refine Af hm λm' n' hd'=>?_
  obtain rfl:=UU n n'
  exact Value.ref.inj (Pg hd hd')
 refine Af r λbs rv qv=>?_
 have hsz:ws.size<=sizeLine:=by
  have:=Al r1
  have e:ws.size=ds.length:=by rw[<-this];simp
  rw[e,sizeLine_eq];rwa[hs]
 have hT0:∀o,s.heap.get? a'=some o->¬(o.cls=.type "tuple"/\∃vs n,o.data=.seq vs n):=by
  obtain⟨n,e⟩:=l1
  rintro o e' ⟨hc,_⟩
  (replace e':=CQ e e';subst e');exact absurd (show jX "list"=jX "tuple" from hc) (by decide)
 refine rV (hsz:=hsz) l1 λh' hl' hs'=>q _ ⟨(AS _ _ rfl),λ_ h=>.inl h,λb o e=>?_,λb o e h1 _=>AJ hs' b (λz=>h1 (z▸(Ac _ m1 rfl))) o e,λb o e q=>AJ hs' b (λz=>hT0 o (z▸e) q) o e⟩ ?_
 ·by_cases hb:b=a'
  ·obtain⟨k,e'⟩:=hl';exact Ag _ (hb▸e')
  ·exact Ag o (AJ hs' b hb o e)
 have hget:=AJ hs'
 have haO:O.has a':=Ac _ m1 rfl
 have hT:∀o,s.heap.get? a'=some o->¬(o.cls=.type "tuple"/\∃vs n,o.data=.seq vs n):=by
  obtain⟨n,e⟩:=l1
  rintro o e' ⟨hc,_⟩
  (replace e':=CQ e e';subst e');exact absurd (show jX "list"=jX "tuple" from hc) (by decide)
 have hLa:=En n l1.isList
 refine⟨λb o e=>hget b (λz=>by rw[z,f1] at e;exact B6 e) o (kp b o e),(Ac m (n.sameBut hs' (ln hLa)) λj y b e e'=>?_),λy c e=>?_,nd,λp hp=>?_,sb,fr,fs⟩
 ·have held:∀{y:jZ} {u:jD},Gk s.heap Γ.env m y u->Gk h' Γ.env m y u:=λz=>z.imp id λ⟨k,c,hc,ic⟩=>⟨k,c,hc,ic.sameBut hs' (ln (Cq ic l1.isList))⟩
  by_cases hj:j=i
  ·subst hj
   (replace e:=CQ hi e;subst e)
   rw[lQ hlt] at e'
   cases e'
   refine⟨.ref a',held hd,a',ws.push v,as++bs,rfl,m1,hl',?_,λb hb=>(jW.mp hb).elim (q1 b) (qv b),f1⟩
   rw[qT]
   exact DZ (Bo hget hT rv λhm=>qv _ hm haO) (Aq hget hT r1 λhm=>q1 _ hm haO)
  ·rw[lR (ln hj)] at e'
   refine Af (vs j y b e e') λu hd' r'=>?_
   refine Ac u (held hd') ?_
   cases b with
   | val w=>exact VR.avoid (O:=O) r' haO hget hT
   | own es=>
    refine CR r' λa2 ws' as' e1 m1' l1' r1' q1' f1'=>?_
    have hne:a2≠a':=by
     rintro rfl
     have:=Ap.mem_inj nd m1 m1'
     subst this
     exact hj ((mr (jM.mp e).1 N.nodup).mp (e.trans hi.symm))
    exact CA a2 ws' as' e1 m1' (AR l1' λn e=>(Ag n (hget _ hne _ e))) (Aq hget hT r1' λhm=>q1' _ hm haO) q1' f1'
   | «at» a2 P=>
    refine CU r' λe1 m1' zz1 f1'=>?_;obtain⟨o,g,p,z⟩:=zz1
    have hne:a2≠a':=by
     rintro rfl
     have:=Ap.mem_inj nd m1 m1'
     subst this
     exact hj ((mr (jM.mp e).1 N.nodup).mp (e.trans hi.symm))
    exact⟨e1,m1',(Ba o (hget _ hne _ g) p z),f1'⟩
 ·obtain⟨u,ic⟩:=cl y c e
  exact Ag u (ic.sameBut hs' (ln (Cq ic l1.isList)))
 ·obtain⟨o,e⟩:=lv p hp
  by_cases hp':p.2=a'
  ·obtain⟨k,e'⟩:=hl'
   exact Ag _ (hp'▸e')
  ·exact Ag o (hget _ hp' _ e)
theorem AO(N:Nm Γ)(i:Nat){x:jZ}{p ap cp:mi}{e:kJ}{pl:vi Bool}{ds:List jQ}{d:jQ}(h:Ev Γ σ e (.py d))(hs:ds.length<=100000)(hP:P .next (σ.set i (some (.own (ds++[d])))))(hσ:autoParam (σ[i]?=some (some (.own ds))) aR)(hi:autoParam (Γ.ns[i]?=some x) aR)(hp:autoParam (AE e=true) aR)
 (hd:autoParam ((x == ("__debug__":jZ))=false) aK)(hin:autoParam (interactive Γ.env=false) aR)
 (he:autoParam (eval (.Call (.Attribute (.Name x p) "append" ap) [e] [] cp) Γ.env=(do
  let ov<-eval (.Name x p) Γ.env
  mS ap.atName
  let (f,first)<-mq [ov] (nz ov "append" pl)
  kY cp f first (backTo cp (starEach [e] Γ.env)) [])) aR) :
 X1 Γ σ (.Expr (.Call (.Attribute (.Name x p) "append" ap) [e] [] cp) pos) P:=by
 intro O s Q E t q
 refine nI (mj ?_ he) hin
 refine Af t.ex λm n vs=>?_
 refine Af (vs i x _ hi hσ) λv0 hd' zr0=>CR zr0 λa ws as zz1 m1 l1 r1 q1 f1=>?_;obtain rfl:=zz1
 have key:∀(Q':jD->jG->Prop),Q' (.ref a) s->wpAny (model Γ.prog Γ.w) Γ.A (eval (.Name x p) Γ.env) Q' E s:=by
  intro Q' hq
  rcases hd' with⟨k1,e1⟩|⟨k1,c,hc,ic⟩
  ·exact nH (mE N.kind k1 n e1 hq) hd
  ·exact nH (oq N.kind k1 hc ic hq) hd
 refine key _ ?_
 refine mM l1.isList.typeIs F.plainAttrs_list F.slot_list_append F.type_list_append (λb hb=>?_) ?_
 ·cases hb
  obtain⟨k,e⟩:=l1
  exact Ac _ e rfl
 ·refine callWith_builtin (Bh (by rw[lE,hp];rfl)) (AL (by rw[lE,hp];rfl) (Ab h Ah hp O s _ _ E t λus s1 t1 k1 r1=>?_))
  refine Af r1.one λv zz1 rv=>?_;obtain rfl:=zz1
  refine UI N t1 hi hσ ?_ hs rv λs2 a2 t2=>q O .next .next _ s2 ((Fx.of_keeps k1).tr a2) t2 rfl hP
  refine Ao k1 λh' tk zz1 k=>?_;clear k1;obtain rfl:=zz1
  exact Ac m (n.keeps k) (hd'.keeps k)
end
section
variable {Γ:Cx} {σ:AX} {pos:mi} {P:AF->AX->Prop}
noncomputable def As (Γ:Cx) (σ:AX) (tgt:kJ) (d:jQ) (σ':AX):Prop:=
 ∀(O:Ap) (s:jG) (v:jD) (Q:Unit->jG->Prop) (E:jD->jG->Prop),St Γ O σ s->VR O s.heap (.py d) v->
  (∀s',AI s s'->(∀b o,b≠Γ.env.locals->s.heap.get? b=some o->s'.heap.get? b=some o)->St Γ O σ' s'->Q () s')->wpAny (model Γ.prog Γ.w) Γ.A (assign tgt Γ.env v) Q E s
theorem BH(N:Nm Γ)(i:Nat){x:jZ}{p:mi}{d:jQ}(hi:autoParam (Γ.ns[i]?=some x) aR)(hlt:autoParam (i<σ.length) aN)(hk:autoParam (Γ.env.kindOf x=some .local) aR):As Γ σ (.Name x p) d (σ.set i (some (.val (.py d)))):=by
 intro O s v Q E t r q
 exact lK (AG N (b:=.val (.py d)) hi hlt hk t r q)
noncomputable def DY (Γ:Cx):List Nat->List kJ->Prop
 | [],[]=>True
 | i::is,.Name x _::es=>Γ.ns[i]?=some x/\Γ.env.kindOf x=some .local/\DY Γ is es
 | _,_=>False
noncomputable def F2 (σ:AX):List Nat->List jQ->AX
 | i::is,d::ds=>F2 (σ.set i (some (.val (.py d)))) is ds
 | _,_=>σ
theorem E2:∀{is:List Nat} {es:List kJ},DY Γ is es->(assignEach es Γ.env).length=is.length/\(assignEach es Γ.env).findIdx? (·.1)=none:=by
 intro is
 delta Γ at is
 induction is with
 | nil=>
  intro es h
  cases es with
  | nil=>exact⟨rfl,rfl⟩
  | cons=>exact h.elim
 | cons i is ih=>
  intro es h
  cases es with
  | nil=>exact h.elim
  | cons e es=>
   obtain⟨x,p,rfl,hn⟩:∃x p,e=.Name x p/\DY Γ is es:=by
    cases e with
    | Name x p=>exact AT x p rfl h.2.2
    | _=>exact h.elim
   obtain⟨h1,h2⟩:=ih hn
   have e:assignEach (.Name x p::es) Γ.env=(false,assign (.Name x p) Γ.env)::assignEach es Γ.env:=rfl
   rw[e]
   refine⟨by rw[j9,j9,h1],?_⟩
   rw[List.findIdx?_cons]
   simp[h2]
theorem Bg{h:j6}{vs:List jD}{as:List jN}(r:Ae h vs [] as):vs=[]:=by
 generalize e:([]:List jQ)=ds at r
 cases r with
 | nil=>rfl
 | cons=>cases e
theorem AK{h:j6}{vs:List jD}{d:jQ}{ds:List jQ}{as:List jN}(r:Ae h vs (d::ds) as):∃v ws bs cs,vs=v::ws/\Ak h v d bs/\Ae h ws ds cs/\as=bs++cs:=by
 generalize e:d::ds=es at r
 cases r with
 | nil=>cases e
 | cons r rs=>cases e;exact GR _ _ _ _ rfl r rs rfl
theorem HS(N:Nm Γ)(Q:Unit->jG->Prop)(E:jD->jG->Prop):∀(is:List Nat) (es:List kJ) (ds:List jQ),DY Γ is es->∀(σ:AX) (O:Ap) (s:jG) (vs:List jD) (as:List jN),(∀i∈is,i<σ.length)->is.length=ds.length->
 St Γ O σ s->Ae s.heap vs ds as->(∀b∈as,¬O.has b)->(∀s',AI s s'->(∀b o,b≠Γ.env.locals->s.heap.get? b=some o->s'.heap.get? b=some o)->St Γ O (F2 σ is ds) s'->Q () s')->wpAny (model Γ.prog Γ.w) Γ.A (v4 ((assignEach es Γ.env).map (·.2)) vs) Q E s:=by
 intro is
 delta Γ Q E at N is
 induction is with
 | nil=>
  intro es ds hn σ O s vs as hlt hl t r qa q
  cases es with
  | cons=>exact hn.elim
  | nil=>
   cases ds with
   | cons=>cases hl
   | nil=>
    obtain rfl:=Bg r
    exact jL (q s (AI.re s) (λ_ _ _ e=>e) t)
 | cons i is ih=>
  intro es ds hn σ O s vs as hlt hl t r qa q
  cases es with
  | nil=>exact hn.elim
  | cons e es=>
   cases e with
   | Name x p=>
    refine C1 hn λhi hk h=>?_
    cases ds with
    | nil=>cases hl
    | cons d ds=>
     refine Cz (AK r) λv ws bs cs zz1 r1 rs zz2=>?_;obtain rfl:=zz1;obtain rfl:=zz2
     have e:assignEach (.Name x p::es) Γ.env=(false,assign (.Name x p) Γ.env)::assignEach es Γ.env:=rfl
     rw[e]
     refine rD (lK (AG N (b:=.val (.py d)) hi (hlt i (.head _)) hk t (Ac _ r1 λb hb=>qa b (lO _ hb)) λs1 a1 u1 t1=>?_))
     have f1:=Fx.ofBut t a1 u1 t1
     exact ih es ds h _ O s1 ws cs (λj hj=>by rw[nM];exact hlt j (.tail _ hj)) (qY hl) t1 (DP t N.names f1 rs λb hb=>qa b (kR _ hb)) (λb hb=>qa b (kR _ hb)) λs2 a2 u2 t2=>q s2 (a1.tr a2) (λb o hb e=>u2 b o hb (u1 b o hb e)) t2
   | _=>exact hn.elim
theorem BV(N:Nm Γ)(hh:Γ.A.handled=none)(is:List Nat){es:List kJ}{k:Nat}{p:mi}{ds:List jQ}(hn:DY Γ is es)(hlt':autoParam ((is.all λi=>mC i σ.length)=true) aR)(hl:autoParam (is.length=ds.length) aR):As Γ σ (.Tuple es k p) (.tuple ds) (F2 σ is ds):=by
 intro O s v Q E t r q
 have hlt:∀i∈is,i<σ.length:=λi hi=>jV (kA.mp hlt' i hi)
 refine Cf r.tuple_inv λa vs as zz1 ht rs qs=>?_;obtain rfl:=zz1
 obtain⟨h1,h2⟩:=E2 hn
 have hsz:vs.size=ds.length:=by rw[<-Al rs];simp
 refine wpAny_assign_Tuple hh ht (by rw[h1,hl,hsz]) h2 λh' he=>?_
 have k:kZ s {s with heap:=h'}:=AT h' s.toks rfl λb o e=>he b o (lz (kt e)) e
 exact HS N _ _ is es ds hn _ _ _ _ _ hlt hl (t.of_keeps k) (Ae.keeps (λb o e=>he b o (lz (kt e)) e) rs) qs λs2 a2 u2 t2=>q s2 (AI.tr (AS h' s.toks rfl) a2) (λb o hb e=>u2 b o hb (he b o (lz (kt e)) e)) t2
theorem Gm{es:List kJ}{k:Nat}{p:mi}{e:kJ}{d:jQ}{σ':AX}(h:Ev Γ σ e (.py d))(ha:As Γ σ (.Tuple es k p) d σ')(hP:P .next σ')
 (hs:autoParam (tM [ow es k p] e pos.line Γ.env=pure false) aR)(hw:autoParam (nv [ow es k p] e Γ.env=pure none) aR):X1 Γ σ (.Assign [.Tuple es k p] e pos) P:=by
 intro O s Q E t q
 exact wD (h O s _ E t λv s1 t1 k1 r1=>ha O s1 v _ E t1 r1 λs2 a2 u2 t2=>q O .next .next σ' s2 ((Fx.of_keeps k1).tr (Fx.ofBut t1 a2 u2 t2)) t2 rfl hP) hs hw
theorem St.butFields{O:Ap}{s:jG}{h':j6}{tk:Nat}{wr:List jN}(t:St Γ O σ s)(k:∀b o,b∉wr->s.heap.get? b=some o->h'.get? b=some o)(hf:∀b∈wr,∃o fs,s.heap.get? b=some o/\o.data=.fields fs)(hO:∀b∈wr,¬O.has b)(h0:∀b∈wr,Γ.s₀.heap.get? b=none) :
 St Γ O σ {s with heap:=h',toks:=tk}:=by
 delta Γ σ O s h' tk wr at t k hf hO h0
 obtain⟨kp,⟨m,n,vs⟩,cl,nd,lv,sb,fr,fs⟩:=t
 have nf:∀{b:jN} {o:nJ},s.heap.get? b=some o->(∀f,o.data≠.fields f)->h'.get? b=some o:=λ{b o} e hn=>k b o (λhb=>by
  refine Ao (hf b hb) λo' f e' d'=>?_
  (replace e':=CQ e e';subst e')
  exact hn _ d') e
 have rd:∀{v:jD} {d:jQ} {as:List jN},Ak s.heap v d as->Ak h' v d as:=by
  intro v d as r
  refine Ak.rec (motive_1:=λv d as _=>Ak h' v d as) (motive_2:=λvs ds as _=>Ae h' vs ds as) ?_ ?_ ?_ ?_ ?_ ?_ ?_ ?_ ?_ r
  ·exact .none
  ·exact .bool
  ·exact .int
  ·exact .str
  ·intro a o vs n xs as e1 e2 e3 _ ih;exact .list (nf e1 (λf z=>by rw[e3] at z;exact jU z)) e2 e3 ih
  ·intro a o vs n xs as e1 e2 e3 _ ih;exact .tuple (nf e1 (λf z=>by rw[e3] at z;exact jU z)) e2 e3 ih
  ·intro a o vs n xs as e1 e2 e3 _ ih;exact .mt (nf e1 (λf z=>by rw[e3] at z;exact jU z)) e2 e3 ih
  ·exact .nil
  ·intro v vs d ds as bs _ _ ih1 ih2;exact .cons ih1 ih2
 have rdA:∀{v:List jD} {d:List jQ} {as:List jN},Ae s.heap v d as->Ae h' v d as:=by
  intro v d as r
  induction v generalizing d as with
  | nil=>cases r;exact .nil
  | cons v vs ih=>cases r with|cons r rs=>exact .cons (rd r) (ih rs)
 have ce:∀{c:jN} {u:Option jD},s.heap.IsCell c u->h'.IsCell c u:=λ{c u} ⟨o,e,d⟩=>Ac o (nf e (λf z=>by rw[d] at z;exact jU z)) d
 refine⟨λb o e=>k b o (λhb=>by exact B0 (h0 b hb) e) (kp b o e),(Ac m ?_ λi x b e e'=>?_),λx c e=>?_,nd,λp hp=>?_,sb,fr,fs⟩
 ·refine Ec n λo es ep e hd r=>?_
  exact Pw o es ep (nf e (λf z=>by rw[hd] at z;exact jU z)) hd r
 ·refine Af (vs i x b e e') λv hd r=>?_
  refine Ac v (hd.imp id λ⟨k1,c,hc,ic⟩=>⟨k1,c,hc,ce ic⟩) ?_
  cases b with
  | val a=>
   cases a with
   | py d=>refine Af r λas r q=>?_;exact Ac as (rd r) q
   | «by» b=>exact r
   | raw u=>exact r
   | obj P=>refine C9 r λa1 o e1 g p q z=>?_;exact C5 a1 o e1 (nf g z.2) p q z
   | st R ok=>refine Af r λas r q=>?_;exact Ac as (ok.keepBy r (λb hb o e=>Af (ok.solid r b hb) λo' e' z=>nf e (λf d=>by(replace e':=CQ e e';subst e');exact z.2 _ d)) (λb o e ⟨_,vs,n,d⟩=>nf e (λf z=>by rw[d] at z;exact jU z))) q
  | own ds=>
   refine CR r λa' ws' as' e1 m1' l1' r1' q1' f1'=>?_
   exact CA a' ws' as' e1 m1' (AR l1' λn e=>(Ag n (nf e (λf z=>by cases z)))) (rdA r1') q1' f1'
  | «at» a' P=>refine CU r λe1 m1' zz1 f1'=>?_;obtain⟨o,g,p,z⟩:=zz1;exact⟨e1,m1',(Ba o (nf g z.1.2) p z),f1'⟩
 ·obtain⟨u,ic⟩:=cl x c e
  exact Ag u (ce ic)
 ·obtain⟨o,e⟩:=lv p hp
  exact Ag o (k _ _ (λhb=>hO _ hb (Ac p hp rfl)) e)
end
section
variable {Γ:Cx} {σ:AX} {pos:mi} {P:AF->AX->Prop}
noncomputable def Do (Γ:Cx) (O:Ap) (h:j6) (b:jN):Prop:=
 (∃o,h.get? b=some o/\o.cls=.type "tuple"/\∃vs n,o.data=.seq vs n)\/(¬O.has b/\(∀x,(x,b)∉Γ.env.cells)/\∃o,h.get? b=some o)
theorem Do.fx{O O':Ap}{s s':jG}{b:jN}(h:Do Γ O s.heap b)(f:Fx Γ O s O' s'):Do Γ O' s'.heap b/\∀o,s.heap.get? b=some o->s'.heap.get? b=some o:=by
 rcases h with⟨o,e,c,d⟩|⟨h1,h2,o,e⟩
 ·have e':=f.tups b o e ⟨c,d⟩
  exact⟨.inl (Ba o e' c d),λo' q=>by(replace q:=CQ e q;subst q);exact e'⟩
 ·have k:∀o,s.heap.get? b=some o->s'.heap.get? b=some o:=λo q=>f.kept b o q h1 λEM=>AR EM λx hx=>h2 x hx
  refine⟨.inr ⟨λz=>?_,h2,o,k o e⟩,k⟩
  rcases f.own b z with z|z
  ·exact h1 z
  ·exact B0 z e
theorem Do.but{O:Ap}{h h':j6}{wr:List jN}{b:jN}(x:Do Γ O h b)(k:∀b o,b∉wr->h.get? b=some o->h'.get? b=some o)(hf:∀b∈wr,∃o fs,h.get? b=some o/\o.data=.fields fs)(hl:∀b∈wr,∃o,h'.get? b=some o):Do Γ O h' b:=by
 rcases x with⟨o,e,c,vs,n,d⟩|⟨h1,h2,o,e⟩
 ·refine .inl ⟨o,k b o (λhb=>?_) e,c,vs,n,d⟩
  refine Ao (hf b hb) λo' fs e' d'=>?_
  (replace e':=CQ e e';subst e');rw[d] at d';exact jU d'
 ·refine .inr ⟨h1,h2,?_⟩
  by_cases hb:b∈wr
  ·exact hl b hb
  ·exact Ag o (k b o hb e)
theorem Do.rec{O:Ap}{h:j6}{b:jN}(x:Do Γ O h b)(hf:∃o fs,h.get? b=some o/\o.data=.fields fs):¬O.has b:=by
 rcases x with⟨o,e,c,vs,n,d⟩|⟨h1,_⟩
 ·refine Ao hf λo' fs e' d'=>?_
  (replace e':=CQ e e';subst e');rw[d] at d';exact jU d'
 ·exact h1
noncomputable def RO (Γ:Cx) (σ:AX) (tgt e:kJ) (ds:List jQ):Prop:=
 ∀(O:Ap) (s:jG) (Q:jD->jG->Prop) (E:jD->jG->Prop),St Γ O σ s->
 (∀I fp wr R Md T (s':jG) (vs:List jD) (es:List jQ) (as:List jN),kZ s s'->wy Γ.prog Γ.w Γ.A tgt I fp wr ds.length R Md T->T 0 s'.heap->
  St Γ O σ s'->(∀i (s:jG) (Q:jD->jG->Prop) (E:jD->jG->Prop),T i s.heap->Q (.ref I) s->wpAny (model Γ.prog Γ.w) Γ.A (pyIter (.ref I)) Q E s)->(∀b∈fp,Do Γ O s'.heap b)->(∀b∈wr,s.heap.get? b=none)->
  (∀i h,T i h->∀b∈wr,∃o fs,h.get? b=some o/\o.data=.fields fs)->
  Ae s'.heap vs es as->(∀b∈as,¬O.has b)->
  (∀i v h d,ds[i]?=some d->R i v h->Ae h vs es as->∃bs,Ak h v d bs/\∀b∈bs,b∈as)->
  Q (.ref I) s')->wpAny (model Γ.prog Γ.w) Γ.A (eval e Γ.env) (λx xL=>wpAny (model Γ.prog Γ.w) Γ.A (pyIter x) Q E xL) E s
theorem DR(N:Nm Γ){x:jZ}{b:jN}(h:(x,b)∈Γ.env.cells):Γ.env.cells.lookup x=some b:=by
 have:∀(l:List (jZ×jN)),(l.map (·.1)).Nodup->(x,b)∈l->l.lookup x=some b:=by
  intro l nd hm
  induction l with
  | nil=>cases hm
  | cons p l ih=>
   rw[kO,mf] at nd
   rw[rg]
   rcases jI.mp hm with e|hm
   ·rw[<-e];simp
   ·have:(x == p.1)=false:=by
     rw[beq_eq_false_iff_ne]
     rintro rfl
     exact nd.1 (kq.mpr (Ac _ hm rfl))
    rw[this];exact ih nd.2 hm
 exact this _ N.names h
theorem Wv(N:Nm Γ){O:Ap}{s:jG}(t:St Γ O σ s){b:jN}(h:∀v,¬s.heap.IsCell b v):∀x,(x,b)∉Γ.env.cells:=by
 intro x hx
 obtain⟨v,ic⟩:=t.cells x b (DR N hx)
 exact h v ic
theorem Bt{h h':j6}{wr:List jN}(k:∀b o,b∉wr->h.get? b=some o->h'.get? b=some o)(hf:∀b∈wr,∃o fs,h.get? b=some o/\o.data=.fields fs){v:List jD}{d:List jQ}{as:List jN}(r:Ae h v d as):Ae h' v d as:=by
 have nf:∀{b:jN} {o:nJ},h.get? b=some o->(∀f,o.data≠.fields f)->h'.get? b=some o:=λ{b o} e hn=>k b o (λhb=>by
  refine Ao (hf b hb) λo' f e' d'=>?_
  (replace e':=CQ e e';subst e')
  exact hn _ d') e
 have rd:∀{v:jD} {d:jQ} {as:List jN},Ak h v d as->Ak h' v d as:=by
  intro v d as r
  refine Ak.rec (motive_1:=λv d as _=>Ak h' v d as) (motive_2:=λvs ds as _=>Ae h' vs ds as) ?_ ?_ ?_ ?_ ?_ ?_ ?_ ?_ ?_ r
  ·exact .none
  ·exact .bool
  ·exact .int
  ·exact .str
  ·intro a o vs n xs as e1 e2 e3 _ ih;exact .list (nf e1 (λf z=>by rw[e3] at z;exact jU z)) e2 e3 ih
  ·intro a o vs n xs as e1 e2 e3 _ ih;exact .tuple (nf e1 (λf z=>by rw[e3] at z;exact jU z)) e2 e3 ih
  ·intro a o vs n xs as e1 e2 e3 _ ih;exact .mt (nf e1 (λf z=>by rw[e3] at z;exact jU z)) e2 e3 ih
  ·exact .nil
  ·intro v vs d ds as bs _ _ ih1 ih2;exact .cons ih1 ih2
 induction v generalizing d as with
 | nil=>cases r;exact .nil
 | cons v vs ih=>cases r with|cons r rs=>exact .cons (rd r) (ih rs)
noncomputable def fA (Γ:Cx) (σ:AX) (tgt:kJ) (ds:List jQ) (O:Ap) (s:jG) (Q:jD->jG->Prop):Prop:=
 (∀I fp wr R Md T (s':jG) (vs:List jD) (es:List jQ) (as:List jN),kZ s s'->wy Γ.prog Γ.w Γ.A tgt I fp wr ds.length R Md T->T 0 s'.heap->
  St Γ O σ s'->(∀i (s:jG) (Q:jD->jG->Prop) (E:jD->jG->Prop),T i s.heap->Q (.ref I) s->wpAny (model Γ.prog Γ.w) Γ.A (pyIter (.ref I)) Q E s)->(∀b∈fp,Do Γ O s'.heap b)->(∀b∈wr,s.heap.get? b=none)->
  (∀i h,T i h->∀b∈wr,∃o fs,h.get? b=some o/\o.data=.fields fs)->
  Ae s'.heap vs es as->(∀b∈as,¬O.has b)->
  (∀i v h d,ds[i]?=some d->R i v h->Ae h vs es as->∃bs,Ak h v d bs/\∀b∈bs,b∈as)->
  Q (.ref I) s')
theorem VG(N:Nm Γ){tgt iter:kJ}{body orelse:List md}{ds:List jQ}{O:Ap}{s0:jG}{Q:uT->jG->Prop}{E:jD->jG->Prop}(R:jG->Prop)
 (hI:∀Q,(∀s,St Γ O σ s->R s->fA Γ σ tgt ds O s Q)->wpAny (model Γ.prog Γ.w) Γ.A (eval iter Γ.env) (λx xL=>wpAny (model Γ.prog Γ.w) Γ.A (pyIter x) Q E xL) E s0)(Inv:Nat->AX->Prop)(h0:Inv 0 σ)
 (step:∀i d σ1,ds[i]?=some d->Inv i σ1->∃σ2,As Γ σ1 tgt d σ2/\Ex Γ σ2 body (λaf σ3=>match af with | .next=>Inv (i+1) σ3 | .cont=>Inv (i+1) σ3 | .brk=>P .next σ3 | .ret a=>P (.ret a) σ3))
 (hend:∀σ1,Inv ds.length σ1->Ex Γ σ1 orelse P)
 (q:∀s O' fl af σ' s',R s->Fx Γ O s O' s'->St Γ O' σ' s'->FR O' s'.heap af fl->P af σ'->Q fl s')
 (hs:autoParam (∀x,foldedSetIterable iter Γ.env x=pure x) aI):wpAny (model Γ.prog Γ.w) Γ.A (exec (.For tgt iter body orelse pos) Γ.env) Q E s0:=by
 delta Γ σ pos P tgt iter body orelse ds O s0 Q E R Inv at N hI h0 step hend q hs
 refine wpAny_For (hI _ λs t Rs I fp wr R Md T s1 vs es as k1 W hT _ _ hfp hwr hfd rs qs rd=>?_) hs
 have t1:=t.of_keeps k1
 have h0':∀b∈wr,Γ.s₀.heap.get? b=none:=λb hb=>gn λo e=>by have:=t.keep _ _ e;exact B0 (hwr b hb) this
 refine xw
  (λk s'=>∃i O1 σ1,k=ds.length+1-i/\i<=ds.length/\St Γ O1 σ1 s'/\Inv i σ1/\Fx Γ O s O1 s'/\T i s'.heap/\Ae s'.heap vs es as/\(∀b∈as,¬O1.has b)/\(∀b∈fp,Do Γ O1 s'.heap b)) ?_ (ds.length+1)
  (eX 0 O σ rfl (kh _) t1 h0 (Fx.of_keeps k1) hT rs qs hfp)
 rintro k s' ⟨i,O1,σ1,rfl,hi,t',hInv,f',hT',rs',qs',hO1⟩
 have hwrs:∀b o,s.heap.get? b=some o->b∉wr:=λb o e hb=>by exact B0 (hwr b hb) e
 by_cases hlt:i<ds.length
 ·refine W.item i _ _ _ hlt hT' λv xK xO hMd xN=>?_
  refine W.go i v _ _ _ hMd λxM hR xS xR=>?_
  dsimp only
  have hk:∀b o,b∉wr->s'.heap.get? b=some o->xM.get? b=some o:=λb o hb e=>xR b o hb (xN b o hb e)
  have hfd':=hfd i _ hT'
  have t2:St Γ O1 σ1 {s' with heap:=xM,toks:=xO}:=t'.butFields hk hfd' (λb hb=>(hO1 b (W.sub b hb)).rec (hfd' b hb)) h0'
  have rs2:Ae xM vs es as:=Bt hk hfd' rs'
  obtain⟨d,hd⟩:∃d,ds[i]?=some d:=Ag _ (jR hlt)
  refine Af (rd i v xM d hd hR rs2) λbs rv qv=>?_
  refine Af (step i d σ1 hd hInv) λσ2 ha hb=>?_
  have hlive:∀b o,s'.heap.get? b=some o->∃o',xM.get? b=some o':=λb o e=>by
   by_cases hb:b∈wr
   ·refine Ao (hfd _ _ xS b hb) λo' fs e' _=>?_
    exact Ag o' e'
   ·exact Ag o (hk b o hb e)
  have f2:Fx Γ O s O1 {s' with heap:=xM,toks:=xO}:=
   ⟨f'.alike.tr (AS _ _ rfl),f'.own,λb o e=>AR (f'.dom b o e) λo' e'=>hlive b o' e',λb o e h1 h2=>hk b o (hwrs b o e) (f'.kept b o e h1 h2),λb o e h1=>hk b o (hwrs b o e) (f'.tups b o e h1)⟩
  have hO2:∀b∈fp,Do Γ O1 xM b:=λb hb=>(hO1 b hb).but hk hfd' λb hb=>Ao (hfd _ _ xS b hb) λo _ e _=>(Ag o e)
  refine ha O1 _ v _ _ t2 (Ac bs rv λb hb=>qs' b (qv b hb)) λs3 a3 u3 t3=>?_
  have f3:=Fx.ofBut t2 a3 u3 t3
  refine hb O1 s3 _ _ t3 λO2 fl af σ3 s4 f4 t4 hfl hP=>?_
  have f24:=f3.tr f4
  have next:Inv (i+1) σ3->∃m,m<ds.length+1-i/\∃i O1 σ1,m=ds.length+1-i/\i<=ds.length/\St Γ O1 σ1 s4/\Inv i σ1/\Fx Γ O s O1 s4/\T i s4.heap/\Ae s4.heap vs es as/\(∀b∈as,¬O1.has b)/\(∀b∈fp,Do Γ O1 s4.heap b):=by
   intro hI'
   have own4:∀b,(∃o,xM.get? b=some o)->¬O1.has b->¬O2.has b:=λb ⟨o,e⟩ h1 h2=>by
    rcases f24.own b h2 with z|z
    ·exact h1 z
    ·have z:xM.get? b=none:=z
     exact B0 z e
   refine⟨ds.length+1-(i+1),by rwa[hlt],i+1,O2,σ3,rfl,hlt,t4,hI',f2.tr f24,?_,DP t2 N.names f24 rs2 qs',λb hb=>?_,λb hb=>(Do.fx (s:={s' with heap:=xM,toks:=xO}) (hO2 b hb) f24).1⟩
   ·exact W.frame _ _ _ xS λb hb o e=>(Do.fx (s:={s' with heap:=xM,toks:=xO}) (hO2 b hb) f24).2 o e
   ·exact own4 b (Bv rs2 b hb) (qs' b hb)
  cases af with
  | next=>obtain rfl:fl=.next:=hfl;exact next hP
  | cont=>obtain rfl:fl=.cont:=hfl;exact next hP
  | brk=>obtain rfl:fl=.brk:=hfl;exact q s O2 .next .next σ3 s4 Rs (f2.tr f24) t4 rfl hP
  | ret a=>refine Af hfl λv zz1 r=>?_;clear hfl;obtain rfl:=zz1;exact q s O2 _ (.ret a) σ3 s4 Rs (f2.tr f24) t4 (Ac v rfl r) hP
 ·have hin:i=ds.length:=by rwa[hi,hlt]
  subst hin
  refine W.done _ _ _ hT' λxK xO xN=>?_
  have hfd':=hfd _ _ hT'
  have t2:St Γ O1 σ1 {s' with heap:=xK,toks:=xO}:=t'.butFields xN hfd' (λb hb=>(hO1 b (W.sub b hb)).rec (hfd' b hb)) h0'
  have f2:Fx Γ O s O1 {s' with heap:=xK,toks:=xO}:=
   ⟨f'.alike.tr (AS _ _ rfl),f'.own,λb o e=>AR (f'.dom b o e) λo' e'=>(Ag o' (xN b o' (hwrs b o e) e')),λb o e h1 h2=>xN b o (hwrs b o e) (f'.kept b o e h1 h2),λb o e h1=>xN b o (hwrs b o e) (f'.tups b o e h1)⟩
  exact hend σ1 hInv O1 _ _ _ t2 λO2 fl af σ3 s4 f4 t4 hfl hP=>q s O2 fl af σ3 s4 Rs (f2.tr f4) t4 hfl hP
theorem EO(N:Nm Γ){tgt iter:kJ}{body orelse:List md}{ds:List jQ}(hI:RO Γ σ tgt iter ds)(Inv:Nat->AX->Prop)(h0:Inv 0 σ)
 (step:∀i d σ1,ds[i]?=some d->Inv i σ1->∃σ2,As Γ σ1 tgt d σ2/\Ex Γ σ2 body (λaf σ3=>match af with | .next=>Inv (i+1) σ3 | .cont=>Inv (i+1) σ3 | .brk=>P .next σ3 | .ret a=>P (.ret a) σ3))
 (hend:∀σ1,Inv ds.length σ1->Ex Γ σ1 orelse P)
 (hs:autoParam (∀x,foldedSetIterable iter Γ.env x=pure x) aI):X1 Γ σ (.For tgt iter body orelse pos) P:=by
 intro O s Q E t q
 exact VG N (λs'=>s'=s) (λQ' hQ=>hI O s Q' E t (hQ s t rfl)) Inv h0 step hend (λs' O' fl af σ' s'' hs' fx t' fr p=>by subst hs';exact q O' fl af σ' s'' fx t' fr p) hs
end
theorem DS{prog:lF}{w:jY}{A:kC}{s:jG}{E:jD->jG->Prop}{target:kJ}{I:jN}{v:jD}{Q:Unit->jG->Prop}{T:String}{fs:Array jD}(hit:∃o,s.heap.get? I=some o/\o.cls=.type T/\o.data=.fields fs)
 (hT:["enumerate","zip","dict_itemiterator","dict_reverseitemiterator","odict_iterator","itertools.zip_longest","itertools.pairwise"].contains T=false)(h:Q () s):wpAny (model prog w) A (vg target (.ref I) v) Q E s:=by
 refine Bu hit λo ho hc hd=>?_
 unfold vg
 cases target<;>first
  | exact jL h
  | (cases v<;>first
   | exact jL h
   | (refine jC (su ho ?_)
      rw[hc,hd]
      dsimp only
      rw[hT]
      exact jL h))
theorem AW{s s':jG}{a:jN}(k:kZ s s')(h:s'.heap.objs.size<=a):s.heap.get? a=none:=by
 cases e:s.heap.get? a with
 | none=>rfl
 | some o=>
  obtain⟨h',tk,rfl,k⟩:=k
  exact absurd (kt (k _ _ e)) (pt.mpr h)
theorem Keeps.push(s:jG)(o:nJ):kZ s {s with heap:=s.heap.push o}:=AT _ s.toks rfl λ_ _ e=>jH _ e
section
variable {Γ:Cx} {σ:AX} {pos:mi} {tgt e:kJ}
theorem O7(N:Nm Γ){O:Ap}{s:jG}(t:St Γ O σ s){b:jN}(h:s.heap.objs.size<=b):∀x,(x,b)∉Γ.env.cells:=by
 intro x hx
 obtain⟨v,o,ho,_⟩:=t.cells x b (DR N hx)
 exact absurd (kt ho) (pt.mpr h)
theorem Q8{O:Ap}{s:jG}(t:St Γ O σ s){b:jN}(h:s.heap.objs.size<=b):¬O.has b:=by
 rintro⟨p,hp,e⟩
 obtain⟨o,ho⟩:=t.live p hp
 rw[e] at ho
 exact absurd (kt ho) (pt.mpr h)
theorem E6(N:Nm Γ){O:Ap}{s:jG}(t:St Γ O σ s){h:j6}{b:jN}(hb:s.heap.objs.size<=b)(hl:∃o,h.get? b=some o):Do Γ O h b:=
 .inr ⟨Q8 t hb,O7 N t hb,hl⟩
theorem T7(N:Nm Γ){O:Ap}{s:jG}(t:St Γ O σ s){a:jN}{vs:Array jD}(hl:s.heap.IsList a vs)(hO:¬O.has a):Do Γ O s.heap a:=
 .inr ⟨hO,Wv N t λv ic=>Cq ic hl rfl,Af hl λo e _=>(Ag o e)⟩
theorem I6{v:jD}{O:Ap}{s1:jG}{ds:List jQ}{Q:jD->jG->Prop}{E:jD->jG->Prop}(N:Nm Γ)(hh:Γ.A.handled=none)(t1:St Γ O σ s1)(r1:VR O s1.heap (.py (.list ds)) v)(q:fA Γ σ tgt ds O s1 Q):wpAny (model Γ.prog Γ.w) Γ.A (pyIter v) Q E s1:=by
 refine HZ r1.list_inv λa vs as zz1 hl rs ha qs=>?_;obtain rfl:=zz1
 refine wpAny_pyIter_list hl ?_
 have hlen:vs.size=ds.length:=by rw[<-Al rs];simp
 have hne:a≠s1.heap.objs.size:=by refine Af hl λo e _=>?_;exact lz (kt e)
 have W0:=Walks.list (prog:=Γ.prog) (w:=Γ.w) hh s1.heap.objs.size a hne vs
 have W:=rQ (target:=tgt) W0 (λi v s Q E st q=>DS (Bu st.1 λo e c d=>(Ba o e c d)) rfl q)
 rw[hlen] at W
 have k2:=Keeps.push s1 {cls:=.type "list_iterator",data:=.fields #[.ref a,.int 0 0]}
 have t2:=t1.of_keeps k2
 refine q _ _ _ _ _ _ _ _ ds as k2 W ⟨(Ba _ (jS _ rfl) rfl rfl),IsList.kept hl λ_ _ e=>jH _ e⟩ t2 W0.self (λb hb=>?_) (λb hb=>?_) ?_ (Ae.keeps (λ_ _ e=>jH _ e) rs) qs ?_
 ·rcases jI.mp hb with rfl|hb
  ·exact E6 N t1 (jP _) (Ag _ (jS _ rfl))
  ·obtain rfl:=jJ.mp hb
   exact T7 N t2 (IsList.kept hl λ_ _ e=>jH _ e) ha
 ·obtain rfl:=jJ.mp hb
  exact AW (Keeps.re s1) (jP _)
 ·rintro i h ⟨⟨o,e,c,d⟩,_⟩ b hb
  obtain rfl:=jJ.mp hb
  exact AT o _ e d
 ·intro i v h d hd hv r
  refine BD (B4 r hd) λv' bs e1 r1 q1=>?_
  have hv:vs[i]?=some v:=hv
  have:vs.toList[i]?=some v:=by simpa using hv
  (replace e1:=CQ this e1;subst e1)
  exact Ac bs r1 q1
theorem C3(N:Nm Γ)(hh:Γ.A.handled=none){ds:List jQ}(h:Ev Γ σ e (.py (.list ds))):RO Γ σ tgt e ds:=by
 intro O s Q E t q
 exact h O s _ E t λv s1 t1 k1 r1=>I6 N hh t1 r1 λI fp wr R Md T s' vs es as k W hT t2 self hfp hwr=>q I fp wr R Md T s' vs es as (Keeps.tr k1 k) W hT t2 self hfp λb hb=>gn λo e=>by obtain⟨h1,tk,rfl,k1⟩:=k1;have:=k1 _ _ e;exact B0 (hwr b hb) this
theorem Ft(N:Nm Γ)(hh:Γ.A.handled=none){ds:List jQ}(h:Ev Γ σ e (.py (.tuple ds))):RO Γ σ tgt e ds:=by
 intro O s Q E t q
 refine h O s _ E t λv s1 t1 k1 r1=>?_
 refine Cf r1.tuple_inv λa vs as zz1 hl rs qs=>?_;obtain rfl:=zz1
 refine tU hl ?_
 have hlen:vs.size=ds.length:=by rw[<-Al rs];simp
 have hne:a≠s1.heap.objs.size:=by refine Af hl λo e _=>?_;exact lz (kt e)
 have W0:=Walks.tuple (prog:=Γ.prog) (w:=Γ.w) hh s1.heap.objs.size a hne vs
 have W:=rQ (target:=tgt) W0 (λi v s Q E st q=>DS (Bu st.1 λo e c d=>(Ba o e c d)) rfl q)
 rw[hlen] at W
 have k2:=Keeps.push s1 {cls:=.type "tuple_iterator",data:=.fields #[.ref a,.int 0 0]}
 have t2:=t1.of_keeps k2
 have hl2:vE (s1.heap.push {cls:=.type "tuple_iterator",data:=.fields #[.ref a,.int 0 0]}) a vs:=Af hl λo e r=>(Ac o (jH _ e) r)
 refine q _ _ _ _ _ _ _ _ ds as (Keeps.tr k1 k2) W ⟨(Ba _ (jS _ rfl) rfl rfl),hl2⟩ t2 W0.self (λb hb=>?_) (λb hb=>?_) ?_ (Ae.keeps (λ_ _ e=>jH _ e) rs) qs ?_
 ·rcases jI.mp hb with rfl|hb
  ·exact E6 N t1 (jP _) (Ag _ (jS _ rfl))
  ·obtain rfl:=jJ.mp hb
   refine Bu hl2 λo e c zr0=>AR zr0 λn d=>?_
   exact .inl ⟨o,e,c,_,n,d⟩
 ·obtain rfl:=jJ.mp hb
  exact AW k1 (jP _)
 ·rintro i h ⟨⟨o,e,c,d⟩,_⟩ b hb
  obtain rfl:=jJ.mp hb
  exact AT o _ e d
 ·intro i v h d hd hv r
  refine BD (B4 r hd) λv' bs e1 r1 q1=>?_
  have hv:vs[i]?=some v:=hv
  have:vs.toList[i]?=some v:=by simpa using hv
  (replace e1:=CQ this e1;subst e1)
  exact Ac bs r1 q1
noncomputable def DK (b:Array UInt8):List jQ:=b.toList.map λc=>.int c.toNat
theorem Ky(N:Nm Γ)(hh:Γ.A.handled=none){b:Array UInt8}(h:Ev Γ σ e (.by b)):RO Γ σ tgt e (DK b):=by
 intro O s Q E t q
 refine h O s _ E t λv s1 t1 k1 r1=>?_
 obtain⟨tk,rfl⟩:=r1
 refine KBw.pyIter_bytes ?_
 have hlen:b.size=(DK b).length:=by simp[DK]
 have W0:=KBw.walks (prog:=Γ.prog) (w:=Γ.w) hh s1.heap.objs.size b tk
 have W:=rQ (target:=tgt) W0 (λi v s Q E st q=>DS (Bu st λo e c d=>(Ba o e c d)) rfl q)
 rw[hlen] at W
 have k2:=Keeps.push s1 {cls:=.type "bytes_iterator",data:=.fields #[.bytes b tk,.int 0 0]}
 refine q _ _ _ _ _ _ _ [] [] [] (Keeps.tr k1 k2) W (Ba _ (jS _ rfl) rfl rfl) (t1.of_keeps k2) W0.self (λb hb=>?_) (λb hb=>?_) ?_ .nil (λ_ h=>nomatch h) ?_
 ·obtain rfl:=jJ.mp hb
  exact E6 N t1 (jP _) (Ag _ (jS _ rfl))
 ·obtain rfl:=jJ.mp hb
  exact AW k1 (jP _)
 ·intro i h zz1 b hb;refine Bu zz1 λo e c d=>?_
  obtain rfl:=jJ.mp hb
  exact AT o _ e d
 ·intro i v h d hd zz1 r;refine Ao zz1 λc u hc zz2=>?_;clear zz1;obtain rfl:=zz2
  obtain rfl:d=.int c.toNat:=by
   simp only[DK,kc,oJ,hc] at hd
   simpa using hd.symm
  exact Ac [] (.int _ _) λ_ h=>nomatch h
noncomputable def AN (a b c:Int):List jQ:=(kf (kI a b c).toNat).map λi=>.int (a+(i:Nat)*c)
theorem Fa(N:Nm Γ)(hh:Γ.A.handled=none){a b c:Int}(hs:mD a b c=true){O:Ap}{s s1:jG}{r:jN}{tu u v:uw}{Q:jD->jG->Prop}{E:jD->jG->Prop}(t1:St Γ O σ s1)(k1:kZ s s1)(hr:IsRange s1.heap r a b c tu u v)
 (q:∀I fp wr R Md T (s':jG) (vs:List jD) (es:List jQ) (as:List jN),kZ s s'->wy Γ.prog Γ.w Γ.A tgt I fp wr (AN a b c).length R Md T->T 0 s'.heap->St Γ O σ s'->(∀i (s:jG) (Q:jD->jG->Prop) (E:jD->jG->Prop),T i s.heap->Q (.ref I) s->wpAny (model Γ.prog Γ.w) Γ.A (pyIter (.ref I)) Q E s)->(∀b∈fp,Do Γ O s'.heap b)->(∀b∈wr,s.heap.get? b=none)->
  (∀i h,T i h->∀b∈wr,∃o fs,h.get? b=some o/\o.data=.fields fs)->
  Ae s'.heap vs es as->(∀b∈as,¬O.has b)->
  (∀i v h d,(AN a b c)[i]?=some d->R i v h->Ae h vs es as->∃bs,Ak h v d bs/\∀b∈bs,b∈as)->
  Q (.ref I) s'):wpAny (model Γ.prog Γ.w) Γ.A (pyIter (.ref r)) Q E s1:=by
 refine wpAny_pyIter_range hr hs ?_
 have hlen:(kI a b c).toNat=(AN a b c).length:=by simp[AN]
 have W0:=Walks.range (prog:=Γ.prog) (w:=Γ.w) hh s1.heap.objs.size a c (kI a b c).toNat
 have W:=rQ (target:=tgt) W0 (λi v s Q E st q=>DS (Ba _ st rfl rfl) rfl q)
 have WS:=W0.self
 rw[hlen] at W WS
 have k2:=Keeps.push s1 {cls:=.type "range_iterator",data:=.fields #[rawInt a,rawInt (kI a b c),rawInt c]}
 refine q _ _ _ _ _ _ _ [] [] [] (Keeps.tr k1 k2) W ?_ (t1.of_keeps k2) WS (λb hb=>?_) (λb hb=>?_) ?_ .nil (λ_ h=>nomatch h) ?_
 ·have hn:0<=kI a b c:=by
   unfold kI
   split
   ·split
    ·rename_i h1 h2;have:=qp (a:=b-a-1) (b:=c) (by rwa[h2]) (by rwa[h1]);rwa[this]
    ·rwa[]
   ·split
    ·rename_i h1 h2;have:=qp (a:=a-b-1) (b:=-c) (by rwa[h2]) (by rwa[h1]);rwa[this]
    ·rwa[]
  have e1:a+((0:Nat):Int)*c=a:=by simp
  have e2:(((AN a b c).length:Nat):Int)-((0:Nat):Int)=kI a b c:=by rw[<-hlen];rwa[hn]
  show IsRangeIter _ _ (a+((0:Nat):Int)*c) ((((AN a b c).length:Nat):Int)-((0:Nat):Int)) c
  rw[e1,e2];exact jS _ rfl
 ·obtain rfl:=jJ.mp hb
  exact E6 N t1 (jP _) (Ag _ (jS _ rfl))
 ·obtain rfl:=jJ.mp hb
  exact AW k1 (jP _)
 ·intro i h st b hb
  obtain rfl:=jJ.mp hb
  exact AT _ _ st rfl
 ·rintro i v h d hd ⟨t,rfl⟩ r
  obtain rfl:d=.int (a+i*c):=by
   simp only[AN,kc] at hd
   cases q:(kf (kI a b c).toNat)[i]? with
   | none=>rw[q] at hd;exact B6 hd
   | some j=>
    rw[q] at hd
    have:i=j:=by rw[List.getElem?_range] at q<;>first|(exact kW q)|(have:=(jM.mp q).1;simpa using this)
    subst this
    simpa using hd.symm
  exact Ac [] (.int _ _) λ_ h=>nomatch h
theorem Bz{M:tP}{A:kC}{s:jG}{env:xA}{E:jD->jG->Prop}{pos:mi}{id:String}{e:kJ}{es:List kJ}{Q:jD->jG->Prop}(hp:(e::es).all AE=true)
 (h:wpAny M A (spliced (backTo pos (starEach (e::es) env))) (λvs s'=>wpAny M A (call (.type id) vs) Q E s') E s) :
 wpAny M A (kY pos (.type id) [] (backTo pos (starEach (e::es) env)) []) Q E s:=
 o8 (Bh hp) (AL hp h)
theorem Ga(N:Nm Γ)(hh:Γ.A.handled=none){f x:kJ}{b:Int}(hf:Ev Γ σ f (.raw (.type "range")))(h1:Ev Γ σ x (.py (.int b)))(hs:mD 0 b 1=true)(hp:autoParam ([x].all AE=true) aR)
 (he:autoParam (eval (.Call f [x] [] pos) Γ.env=(do kY pos (<-eval f Γ.env) [] (backTo pos (starEach [x] Γ.env)) (ma pos (ly [] Γ.env)))) aR):RO Γ σ tgt (.Call f [x] [] pos) (AN 0 b 1):=by
 intro O s Q E t q
 refine qS (hf O s _ E t λv s1 t1 k1 r1=>?_) he
 obtain rfl:v=.type "range":=r1
 refine Bz hp (Ab h1 Ah (by simpa using hp) O s1 _ _ E t1 λvs s2 t2 k2 r2=>?_)
 refine Af r2.one λv zz1 rv=>?_;obtain rfl:=zz1
 obtain⟨tv,rfl⟩:=rv.int_inv
 refine call_range_1 ?_
 have k3:kZ s2 {s2 with heap:=s2.heap.push {cls:=.type "range",data:=.fields #[.int 0 s2.toks,.int b tv,.int 1 (s2.toks+1)]},toks:=s2.toks+1+1}:=AT _ _ rfl λ_ _ e=>jH _ e
 exact Fa N hh hs (t2.of_keeps k3) (Keeps.tr (Keeps.tr k1 k2) k3) (vj ..) q
theorem I5(N:Nm Γ)(hh:Γ.A.handled=none){f x y:kJ}{a b:Int}(hf:Ev Γ σ f (.raw (.type "range")))(h1:Ev Γ σ x (.py (.int a)))(h2:Ev Γ σ y (.py (.int b)))(hs:mD a b 1=true)(hp:autoParam ([x,y].all AE=true) aR)
 (he:autoParam (eval (.Call f [x,y] [] pos) Γ.env=(do kY pos (<-eval f Γ.env) [] (backTo pos (starEach [x,y] Γ.env)) (ma pos (ly [] Γ.env)))) aR):RO Γ σ tgt (.Call f [x,y] [] pos) (AN a b 1):=by
 intro O s Q E t q
 refine qS (hf O s _ E t λv s1 t1 k1 r1=>?_) he
 obtain rfl:v=.type "range":=r1
 have hp':AE x=true/\AE y=true:=by simpa using hp
 refine Bz hp (Ab h1 (Ab h2 Ah hp'.2) hp'.1 O s1 _ _ E t1 λvs s2 t2 k2 r2=>?_)
 refine BD r2.two λv u zz1 rv ru=>?_;obtain rfl:=zz1
 obtain⟨tv,rfl⟩:=rv.int_inv
 obtain⟨tu,rfl⟩:=ru.int_inv
 refine call_range_2 ?_
 have k3:kZ s2 {s2 with heap:=s2.heap.push {cls:=.type "range",data:=.fields #[.int a tv,.int b tu,.int 1 s2.toks]},toks:=s2.toks+1}:=AT _ _ rfl λ_ _ e=>jH _ e
 exact Fa N hh hs (t2.of_keeps k3) (Keeps.tr (Keeps.tr k1 k2) k3) (vj ..) q
theorem F9(N:Nm Γ)(hh:Γ.A.handled=none){f x y z:kJ}{a b c:Int}(hf:Ev Γ σ f (.raw (.type "range")))(h1:Ev Γ σ x (.py (.int a)))(h2:Ev Γ σ y (.py (.int b)))(h3:Ev Γ σ z (.py (.int c)))(hs:mD a b c=true)(hc:c≠0)(hc':c.natAbs<2^200)(hp:autoParam ([x,y,z].all AE=true) aR)
 (he:autoParam (eval (.Call f [x,y,z] [] pos) Γ.env=(do kY pos (<-eval f Γ.env) [] (backTo pos (starEach [x,y,z] Γ.env)) (ma pos (ly [] Γ.env)))) aR):RO Γ σ tgt (.Call f [x,y,z] [] pos) (AN a b c):=by
 intro O s Q E t q
 refine qS (hf O s _ E t λv s1 t1 k1 r1=>?_) he
 obtain rfl:v=.type "range":=r1
 have hp':AE x=true/\AE y=true/\AE z=true:=by simpa using hp
 refine Bz hp (Ab h1 (Ab h2 (Ab h3 Ah hp'.2.2) hp'.2.1) hp'.1 O s1 _ _ E t1 λvs s2 t2 k2 r2=>?_)
 refine Cf r2.three λv u x zz1 rv ru rx=>?_;obtain rfl:=zz1
 obtain⟨tv,rfl⟩:=rv.int_inv
 obtain⟨tu,rfl⟩:=ru.int_inv
 obtain⟨tx,rfl⟩:=rx.int_inv
 refine call_range_3 hc ?_ (.inl (uA (by
  have h0:c.natAbs≠0:=by lia
  have:=(v9 h0).mpr hc'
  rwa[this])))
 have k3:kZ s2 {s2 with heap:=s2.heap.push {cls:=.type "range",data:=.fields #[.int a tv,.int b tu,.int c tx]},toks:=s2.toks}:=AT _ _ rfl λ_ _ e=>jH _ e
 exact Fa N hh hs (t2.of_keeps k3) (Keeps.tr (Keeps.tr k1 k2) k3) (vj ..) q
end
section
set_option tactic.hygienic true
open Sem (wp)
open Builtin
section
variable {prog:lF} {w:jY} {A:kC} {E:jD->jG->Prop} {s:jG}
theorem GB{it l:jN}{i:Nat}{items}{x:jD}{Q:jD->jG->Prop}(hit:s.heap.IsTupleIter it l i)
 (hl:s.heap.IsTuple l items)(hx:items[i]?=some x)
 (hQ:∀h',h'.IsTupleIter it l (i+1)->ou it s.heap h'->Q x {s with heap:=h'}) :
 wpAny (model prog w) A (oh (.ref it)) Q E s:=by
 refine Bu (id hit) λo ho hc hd=>?_
 refine Bu hl λol hol _ zr0=>AR zr0 λnl hdl=>?_
 unfold oh
 refine jC (m6 (name:=jB "__next__") hit.typeIs F.slot_tuple_iterator_next
  (lJ F.slot_tuple_iterator_next hit.typeIs F.entry_tuple_iterator_next ?_ (F.args_tuple_iterator_next_1 _)))
 show wpAny _ _ (field (.ref it) 0>>=_) _ _ s
 refine jC (nU ho hd (x:=.ref l) rfl ?_)
 show wpAny _ _ (if(kz l == jF)=true then _ else _) _ _ s
 rw[if_neg (show ¬((kz l == jF)=true) from ll)]
 show wpAny _ _ (field (.ref it) 1>>=_) _ _ s
 refine jC (nU ho hd (x:=.int i 0) rfl ?_)
 show wpAny _ _ (rW (.ref l)>>=_) _ _ s
 refine jC (mZ hol hdl ?_)
 simp only[ku,hx]
 refine jC (sV ho hd (by simp) (jL (Ac x rfl (jL (hQ _ ?_ (me ..))))))
 exact Ba _ (mN _ ho (vR (qP hd _))) ((wK ..).trans hc) (by
  rw[qP hd];simp[rawInt])
theorem Hd{it l:jN}{i:Nat}{items}{Q:jD->jG->Prop}(hh:A.handled=none)
 (hit:s.heap.IsTupleIter it l i)(hl:s.heap.IsTuple l items)(hx:items[i]?=none)
 (hE:∀h' e,ub it s.heap h'->(∃o,h'.get? e=some o/\o.cls=.type "StopIteration")->E (.ref e) {s with heap:=h'}) :
 wpAny (model prog w) A (oh (.ref it)) Q E s:=by
 delta prog w A E s it l i items Q at hh hit hl hx hE
 refine Bu (id hit) λo ho hc hd=>?_
 refine Bu hl λol hol _ zr0=>AR zr0 λnl hdl=>?_
 unfold oh
 refine jC (m6 (name:=jB "__next__") hit.typeIs F.slot_tuple_iterator_next
  (lJ F.slot_tuple_iterator_next hit.typeIs F.entry_tuple_iterator_next ?_ (F.args_tuple_iterator_next_1 _)))
 show wpAny _ _ (field (.ref it) 0>>=_) _ _ s
 refine jC (nU ho hd (x:=.ref l) rfl ?_)
 show wpAny _ _ (if(kz l == jF)=true then _ else _) _ _ s
 rw[if_neg (show ¬((kz l == jF)=true) from ll)]
 show wpAny _ _ (field (.ref it) 1>>=_) _ _ s
 refine jC (nU ho hd (x:=.int i 0) rfl ?_)
 show wpAny _ _ (rW (.ref l)>>=_) _ _ s
 refine jC (mZ hol hdl ?_)
 simp only[ku,hx]
 refine jC (sr (jC (sV ho hd (by simp) ?_)))
 show wpAny _ _ (newExc (.type "StopIteration") []>>=_) _ _ _
 refine jC ?_
 simp only[newExc,newTuple]
 refine jC (oY ?_ (by size_fits))
 refine jC (m:=sW _ _) (lC (a:=jF) (by first|rfl|(simp only[sW];rfl)) ?_)
 refine oY ?_ (by size_fits)
 unfold raiseNew
 refine jC (wpAny_handled ?_)
 first|rw[show A.in1.handled=none from hh]|rw[hh]
 refine jC (jL (wpAny_throw ?_))
 exact hE _ _ (((me ..).extBut.push _).push _) (Ac _ (jS _ rfl) rfl)
end
theorem Rv{prog:lF}{w:jY}{A:kC}(hh:A.handled=none)(it l:jN)(hne:l≠it)(items:Array jD) :
 Draws prog w A it [it,l] items.size (λi v=>items[i]?=some v) (λi h=>h.IsTupleIter it l i/\h.IsTuple l items) where
 live:=λ_ _ st=>Af st.1 λo ho _=>(Ag o ho)
 frame:=λ_ _ _ st hk=>⟨st.1.at λo e=>hk it (by simp) o e,st.2.at λo e=>hk l (by simp) o e⟩
 item:=λi s Q E hi st hQ=>by
  refine GB st.1 st.2 (x:=items[i]) (by simp[hi]) λh' hit' hs'=>?_
  exact hQ _ h' s.toks (by simp[hi]) ⟨hit',st.2.extBut hs'.extBut hne⟩ hs'
 done:=λs Q E st hE=>Hd hh st.1 st.2 (by simp) hE
theorem gB{M:tP}{A:kC}{E:jD->jG->Prop}{s:jG}{f:List (Code×mi)->Bool}{Q:Bool->jG->Prop}(h:∀b,Q b s):wpAny M A stack (λst s=>wpAny M A (pure (f st)) Q E s) E s:=wpAny_stack_any λ_=>jL (h _)
theorem E3(l:jN)(items:Array jD)(n:Nat)(dct:Option jN)(sl:Array (Option jD)) :
 Meets (ko.«enumerate.__new__» ⟨[.type "enumerate",.ref l],[]⟩) (λ_ R s=>s.heap.get? l=some {cls:=.type "tuple",dict:=dct,data:=.seq items n,slots:=sl}/\
  R (.ok (.ret (.ref (s.heap.push {cls:=.type "tuple_iterator",data:=.fields #[.ref l,.int 0 0]}).objs.size)))
   {s with heap:=(s.heap.push {cls:=.type "tuple_iterator",data:=.fields #[.ref l,.int 0 0]}).push {cls:=.type "enumerate",data:=.fields #[.none,.bool false,.ref s.heap.objs.size,rawInt 0,.none,.none]}}):=
 .of_wp λprog w A R s h=>by
  obtain⟨hp,g,d,tk,os⟩:=s;refine Cg h λhl h=>?_
  have hsub:=sub_enumerate
  have hL:Heap.IsTuple (Shared.heap ⟨hp,g,d,tk,os⟩) l items:=⟨_,hl,rfl,n,rfl⟩
  wp_walk using oK hl
  refine gB λb=>?_
  cases b
  ·wp_walk using oK hl,tU hL
   exact Ac _ rfl h
  ·wp_walk using oK hl,tU hL
   exact Ac _ rfl h
theorem Fd{prog:lF}{w:jY}{A:kC}{E:jD->jG->Prop}{s:jG}{l:jN}{items:Array jD}{Q:jD->jG->Prop}(hL:s.heap.IsTuple l items)
 (h:∀h',IsEnum h' (s.heap.objs.size+1) s.heap.objs.size 0 .none->h'.IsTupleIter s.heap.objs.size l 0->h'.objs.size=s.heap.objs.size+2->
  (∀b o,s.heap.get? b=some o->h'.get? b=some o)->Q (.ref (s.heap.objs.size+1)) {s with heap:=h'}) :
 wpAny (model prog w) A (call (.type "enumerate") [.ref l]) Q E s:=by
 obtain⟨⟨c,dct,dt,sl⟩,hl,hc,n,hd⟩:=hL
 replace hc:c=.type "tuple":=hc
 replace hd:dt=.seq items n:=hd
 subst hc hd
 refine callType_new F.called_enumerate (by decide) (F.typeCall_enumerate_1 _) (F.newCall_enumerate_1 _) (λobj=>F.args_object_init_2 obj _) F.entry_enumerate_new
  (E3 l items n dct sl) ⟨hl,?_⟩
 have hz:(s.heap.push {cls:=.type "tuple_iterator",data:=.fields #[.ref l,.int 0 0]}).objs.size=s.heap.objs.size+1:=mT ..
 show _/\_
 rw[hz]
 have he:IsEnum ((s.heap.push {cls:=.type "tuple_iterator",data:=.fields #[.ref l,.int 0 0]}).push
  {cls:=.type "enumerate",data:=.fields #[.none,.bool false,.ref s.heap.objs.size,rawInt 0,.none,.none]}) (s.heap.objs.size+1) s.heap.objs.size 0 .none:=by
  have:=jS (s.heap.push {cls:=.type "tuple_iterator",data:=.fields #[.ref l,.int 0 0]})
   (o:={cls:=.type "enumerate",data:=.fields #[.none,.bool false,.ref s.heap.objs.size,rawInt 0,.none,.none]}) rfl
  rw[hz] at this;exact this
 refine⟨(Ac _ he rfl),h _ he (Ba _ (jH _ (jS _ rfl)) rfl rfl) (by rw[mT,hz]) λb o x=>jH _ (jH _ x)⟩
section
variable {Γ:Cx} {σ:AX} {pos:mi} {e:kJ}
noncomputable def Ce (ds:List jQ):List jQ:=ds.mapIdx λi d=>.tuple [.int i,d]
theorem Eu{ds:List jQ}{i:Nat}{d:jQ}(h:(Ce ds)[i]?=some d):∃d',ds[i]?=some d'/\d=.tuple [.int i,d']:=by
 simp only[Ce,oW] at h
 cases q:ds[i]? with
 | none=>rw[q] at h;exact B6 h
 | some d'=>rw[q] at h;exact⟨d',rfl,by simpa using h.symm⟩
theorem QX{h:j6}{T:jN}{i:Int}{t:uw}{x:jD}{d:jQ}{bs:List jN}(hT:h.IsTuple T #[.int i t,x])(r:Ak h x d bs):Ak h (.ref T) (.tuple [.int i,d]) bs:=by
 refine Bu hT λo e c zr0=>AR zr0 λn dd=>?_
 have:=Ak.tuple e c dd (.cons (.int i t) (.cons r .nil))
 simpa using this
theorem Gb(N:Nm Γ){O:Ap}{s s1 s2:jG}{elts:List kJ}{k:Nat}{p:mi}{it:jN}{fp:List jN}{n:Nat}{P:Nat->jD->Prop}{T:Nat->j6->Prop}{Q:jD->jG->Prop}{E:jD->jG->Prop}{ds es:List jQ}{vs:List jD}{as:List jN}
 (D:Draws Γ.prog Γ.w Γ.A.in1 it fp n P T)(t1:St Γ O σ s1)(k1:kZ s s1)(k2:kZ s1 s2)(hz:s1.heap.objs.size<=it)(hei:it≠it+1)(hef:it+1∉fp)(hif:it∈fp)(hn:n=ds.length)
 (he:IsEnum s2.heap (it+1) it 0 .none)(hT:T 0 s2.heap)(hfp:∀b∈fp,Do Γ O s2.heap b)(hrec:∀i h,T i h->∃o fs,h.get? it=some o/\o.data=.fields fs)
 (rs:Ae s2.heap vs es as)(qs:∀b∈as,¬O.has b)(rd:∀i v h d,ds[i]?=some d->P i v->Ae h vs es as->∃bs,Ak h v d bs/\∀b∈bs,b∈as)
 (q:∀I fp wr R Md T (s':jG) (vs:List jD) (es:List jQ) (as:List jN),kZ s s'->wy Γ.prog Γ.w Γ.A (.Tuple elts k p) I fp wr (Ce ds).length R Md T->T 0 s'.heap->St Γ O σ s'->(∀i (s:jG) (Q:jD->jG->Prop) (E:jD->jG->Prop),T i s.heap->Q (.ref I) s->wpAny (model Γ.prog Γ.w) Γ.A (pyIter (.ref I)) Q E s)->(∀b∈fp,Do Γ O s'.heap b)->(∀b∈wr,s.heap.get? b=none)->
  (∀i h,T i h->∀b∈wr,∃o fs,h.get? b=some o/\o.data=.fields fs)->
  Ae s'.heap vs es as->(∀b∈as,¬O.has b)->
  (∀i v h d,(Ce ds)[i]?=some d->R i v h->Ae h vs es as->∃bs,Ak h v d bs/\∀b∈bs,b∈as)->
  Q (.ref I) s'):wpAny (model Γ.prog Γ.w) Γ.A (pyIter (.ref (it+1))) Q E s2:=by
 refine wpAny_pyIter_enum he ?_
 have W0:=(WalksT.enumerateD D (it+1) (ln hei) hef hif).toU
 have W:=KTurns.ofWalksU (elts:=elts) (k:=k) (pos:=p) W0
 have hlen:(Ce ds).length=ds.length:=by simp[Ce]
 rw[hn,<-hlen] at W
 refine q _ _ _ _ _ _ _ vs es as (Keeps.tr k1 k2) W ⟨(Ag _ he),hT⟩ (t1.of_keeps k2) W0.self (λb hb=>?_) (λb hb=>?_) ?_ rs qs ?_
 ·rcases jI.mp hb with rfl|hb
  ·exact E6 N t1 (pL hz) (Ag _ he)
  ·exact hfp b hb
 ·rcases jI.mp hb with rfl|hb
  ·exact AW k1 (pL hz)
  ·rw[jJ.mp hb];exact AW k1 hz
 ·rintro i h ⟨⟨old,he⟩,hT⟩ b hb
  rcases jI.mp hb with rfl|hb
  ·exact AT _ _ he rfl
  ·rw[jJ.mp hb];exact hrec i h hT
 ·intro i v h d hd zz1 r;refine BD zz1 λT' vals zz2 zz3 hT'=>?_;clear zz1;obtain rfl:=zz2;obtain⟨t,x,hP,rfl⟩:=zz3
  refine Af (Eu hd) λd' hd' zz1=>?_;obtain rfl:=zz1
  refine Af (rd i x h d' hd' hP r) λbs r1 q1=>?_
  exact Ac bs (QX hT' r1) q1
variable {elts:List kJ} {k:Nat} {p:mi}
theorem Vd(N:Nm Γ)(hh:Γ.A.handled=none){f x:kJ}{ds:List jQ}(hf:Ev Γ σ f (.raw (.type "enumerate")))(h1:Ev Γ σ x (.py (.list ds)))(hp:autoParam ([x].all AE=true) aR)
 (he:autoParam (eval (.Call f [x] [] pos) Γ.env=(do kY pos (<-eval f Γ.env) [] (backTo pos (starEach [x] Γ.env)) (ma pos (ly [] Γ.env)))) aR):RO Γ σ (.Tuple elts k p) (.Call f [x] [] pos) (Ce ds):=by
 intro O s Q E t q
 refine qS (hf O s _ E t λv s1 t1 k1 r1=>?_) he
 obtain rfl:v=.type "enumerate":=r1
 refine Bz hp (Ab h1 Ah (by simpa using hp) O s1 _ _ E t1 λvs s2 t2 k2 r2=>?_)
 refine Af r2.one λv zz1 rv=>?_;obtain rfl:=zz1
 refine HZ rv.list_inv λa vs as zz1 hl rs ha qs=>?_;obtain rfl:=zz1
 refine call_enumerate_list hl λh' hE hI hsz hk=>?_
 have hlt:a<s2.heap.objs.size:=by refine Af hl λo e _=>?_;exact kt e
 have k3:kZ s2 {s2 with heap:=h'}:=AT h' s2.toks rfl hk
 have hl':h'.IsList a vs:=IsList.kept hl hk
 refine Gb N (Draws.list (A:=Γ.A.in1) hh s2.heap.objs.size a (lz hlt) vs) t2 (Keeps.tr k1 k2) k3 (jP _) (lz (ml _)) ?_ (.head _) (by rw[<-Al rs];simp) hE ⟨hI,hl'⟩ (λb hb=>?_) ?_ (Ae.keeps hk rs) qs ?_ q
 ·intro hm
  rcases jI.mp hm with e|hm
  ·exact absurd e (rp _)
  ·have:=jJ.mp hm;exact absurd hlt (by rw[<-this];exact pt.mpr (qZ _))
 ·rcases jI.mp hb with rfl|hb
  ·exact E6 N t2 (jP _) (Af hI λo e _=>(Ag o e))
  ·obtain rfl:=jJ.mp hb
   exact T7 N (t2.of_keeps k3) hl' ha
 ·rintro i h ⟨⟨o,e,c,d⟩,_⟩
  exact AT o _ e d
 ·intro i v h d hd hv r
  refine BD (B4 r hd) λv' bs e1 r1 q1=>?_
  have hv:vs[i]?=some v:=hv
  have:vs.toList[i]?=some v:=by simpa using hv
  (replace e1:=CQ this e1;subst e1)
  exact Ac bs r1 q1
theorem Vc(N:Nm Γ)(hh:Γ.A.handled=none){f x:kJ}{ds:List jQ}(hf:Ev Γ σ f (.raw (.type "enumerate")))(h1:Ev Γ σ x (.py (.tuple ds)))(hp:autoParam ([x].all AE=true) aR)
 (he:autoParam (eval (.Call f [x] [] pos) Γ.env=(do kY pos (<-eval f Γ.env) [] (backTo pos (starEach [x] Γ.env)) (ma pos (ly [] Γ.env)))) aR):RO Γ σ (.Tuple elts k p) (.Call f [x] [] pos) (Ce ds):=by
 intro O s Q E t q
 refine qS (hf O s _ E t λv s1 t1 k1 r1=>?_) he
 obtain rfl:v=.type "enumerate":=r1
 refine Bz hp (Ab h1 Ah (by simpa using hp) O s1 _ _ E t1 λvs s2 t2 k2 r2=>?_)
 refine Af r2.one λv zz1 rv=>?_;obtain rfl:=zz1
 refine Cf rv.tuple_inv λa vs as zz1 hl rs qs=>?_;obtain rfl:=zz1
 refine Fd hl λh' hE hI hsz hk=>?_
 have hlt:a<s2.heap.objs.size:=by refine Af hl λo e _=>?_;exact kt e
 have k3:kZ s2 {s2 with heap:=h'}:=AT h' s2.toks rfl hk
 have hl':h'.IsTuple a vs:=Af hl λo e r=>(Ac o (hk _ _ e) r)
 refine Gb N (Rv (A:=Γ.A.in1) hh s2.heap.objs.size a (lz hlt) vs) t2 (Keeps.tr k1 k2) k3 (jP _) (lz (ml _)) ?_ (.head _) (by rw[<-Al rs];simp) hE ⟨hI,hl'⟩ (λb hb=>?_) ?_ (Ae.keeps hk rs) qs ?_ q
 ·intro hm
  rcases jI.mp hm with e|hm
  ·exact absurd e (rp _)
  ·have:=jJ.mp hm;exact absurd hlt (by rw[<-this];exact pt.mpr (qZ _))
 ·rcases jI.mp hb with rfl|hb
  ·exact E6 N t2 (jP _) (Af hI λo e _=>(Ag o e))
  ·obtain rfl:=jJ.mp hb
   refine Bu hl' λo e c zr0=>AR zr0 λn d=>?_
   exact .inl ⟨o,e,c,_,n,d⟩
 ·rintro i h ⟨⟨o,e,c,d⟩,_⟩
  exact AT o _ e d
 ·intro i v h d hd hv r
  refine BD (B4 r hd) λv' bs e1 r1 q1=>?_
  have hv:vs[i]?=some v:=hv
  have:vs.toList[i]?=some v:=by simpa using hv
  (replace e1:=CQ this e1;subst e1)
  exact Ac bs r1 q1
noncomputable def Dv (x:jZ):List jQ:=x.cps.toList.map λc=>.str ⟨#[c]⟩
theorem Kx(N:Nm Γ)(hh:Γ.A.handled=none){f x:kJ}{u:jZ}(hf:Ev Γ σ f (.raw (.type "enumerate")))(h1:Ev Γ σ x (.py (.str u)))(hp:autoParam ([x].all AE=true) aR)
 (he:autoParam (eval (.Call f [x] [] pos) Γ.env=(do kY pos (<-eval f Γ.env) [] (backTo pos (starEach [x] Γ.env)) (ma pos (ly [] Γ.env)))) aR):RO Γ σ (.Tuple elts k p) (.Call f [x] [] pos) (Ce (Dv u)):=by
 intro O s Q E t q
 refine qS (hf O s _ E t λv s1 t1 k1 r1=>?_) he
 obtain rfl:v=.type "enumerate":=r1
 refine Bz hp (Ab h1 Ah (by simpa using hp) O s1 _ _ E t1 λvs s2 t2 k2 r2=>?_)
 refine Af r2.one λv zz1 rv=>?_;obtain rfl:=zz1
 obtain⟨tv,rfl⟩:=rv.str_inv
 refine call_enumerate_str λh' hE hI hsz hk=>?_
 have k3:kZ s2 {s2 with heap:=h'}:=AT h' s2.toks rfl hk
 have hD:Draws Γ.prog Γ.w Γ.A.in1 s2.heap.objs.size [s2.heap.objs.size] u.cps.size (λi v=>∃c t,u.cps[i]?=some c/\v=.str ⟨#[c]⟩ t) (λi h=>h.IsStrIter s2.heap.objs.size (strIterType u) u tv i):=by
  unfold strIterType
  split
  ·exact Draws.strAscii (A:=Γ.A.in1) hh _ _ _
  ·exact Draws.strWide (A:=Γ.A.in1) hh _ _ _
 refine Gb N hD t2 (Keeps.tr k1 k2) k3 (jP _) (lz (ml _)) ?_ (.head _) (by simp[Dv]) hE hI (λb hb=>?_) ?_ .nil (λ_ h=>nomatch h) ?_ q
 ·intro hm
  exact absurd (jJ.mp hm) (rp _)
 ·obtain rfl:=jJ.mp hb
  exact E6 N t2 (jP _) (Af hI λo e _=>(Ag o e))
 ·intro i h zz1;refine Bu zz1 λo e c d=>?_
  exact AT o _ e d
 ·intro i v h d hd zz1 r;refine Ao zz1 λc t hc zz2=>?_;clear zz1;obtain rfl:=zz2
  obtain rfl:d=.str ⟨#[c]⟩:=by
   simp only[Dv,kc,oJ,hc] at hd
   simpa using hd.symm
  exact Ac [] (.str _ _) λ_ h=>nomatch h
end
end
noncomputable def Le (σ0 σ1:AX):Prop:=∀(i:Nat) (b:Bd),σ0[i]?=some (some b)->σ1[i]?=some (some b)
theorem St.le{Γ:Cx}{O:Ap}{σ0 σ1:AX}{s:jG}(h:Le σ0 σ1)(t:St Γ O σ1 s):St Γ O σ0 s:=by
 delta Γ O σ0 σ1 s at h t
 obtain⟨kp,⟨m,n,vs⟩,cl,nd,lv,sb,fr,fs⟩:=t
 exact⟨kp,(Ac m n λi x b e e'=>vs i x b e (h i b e')),cl,nd,lv,sb,fr,fs⟩
section
variable {Γ:Cx} {σ:AX} {pos:mi} {P:AF->AX->Prop}
theorem Ef{test:kJ}{body orelse:List md}(Inv:Nat->AX->Prop){n:Nat}(h0:Inv n σ)
 (step:∀n σ1,Inv n σ1->∃b,Tv Γ σ1 test b/\(b=true->Ex Γ σ1 body (λaf σ3=>match af with | .next=>∃k,k<n/\Inv k σ3 | .cont=>∃k,k<n/\Inv k σ3 | .brk=>P .next σ3 | .ret a=>P (.ret a) σ3))/\(b=false->Ex Γ σ1 orelse P)):X1 Γ σ (.While test body orelse pos) P:=by
 intro O s Q E t q
 delta Γ σ pos P test body orelse Inv n O s Q E at h0 step t q
 refine wpAny_While (codeAny_whileLoop (λn s'=>∃O1 σ1,St Γ O1 σ1 s'/\Inv n σ1/\Fx Γ O s O1 s') ?_ n (FQ O σ t h0 (Fx.re Γ O s)))
 intro n s' zz1;refine BD zz1 λO1 σ1 t1 hI f1=>?_
 refine Bu (step n σ1 hI) λb hb h1 h2=>?_
 refine hb O1 s' _ _ t1 λs2 t2 k2=>?_
 have f2:=f1.tr (Fx.of_keeps k2)
 cases b with
 | true=>
  rw[if_pos rfl]
  refine h1 rfl O1 s2 _ _ t2 λO3 fl af σ3 s3 f3 t3 hfl hP=>?_
  cases af with
  | next=>obtain rfl:fl=.next:=hfl;refine Af hP λk hk hi=>?_;exact⟨k,hk,O3,σ3,t3,hi,f2.tr f3⟩
  | cont=>obtain rfl:fl=.cont:=hfl;refine Af hP λk hk hi=>?_;exact⟨k,hk,O3,σ3,t3,hi,f2.tr f3⟩
  | brk=>obtain rfl:fl=.brk:=hfl;exact q O3 .next .next σ3 s3 (f2.tr f3) t3 rfl hP
  | ret a=>refine Af hfl λv zz1 r=>?_;clear hfl;obtain rfl:=zz1;exact q O3 _ (.ret a) σ3 s3 (f2.tr f3) t3 (Ac v rfl r) hP
 | false=>
  rw[if_neg ll]
  exact h2 rfl O1 s2 _ _ t2 λO3 fl af σ3 s3 f3 t3 hfl hP=>q O3 fl af σ3 s3 (f2.tr f3) t3 hfl hP
theorem L3(N:Nm Γ){tgt iter:kJ}{body orelse:List md}{ds:List jQ}(hI:RO Γ σ tgt iter ds)(Inv:Nat->AX->Prop)(h0:Inv 0 σ)
 (step:∀i d,ds[i]?=some d->∀R:AF->AX->Prop,(∀af σ3,(match af with | .next=>Inv (i+1) σ3 | .cont=>Inv (i+1) σ3 | .brk=>P .next σ3 | .ret a=>P (.ret a) σ3)->R af σ3)->∀σ1,Inv i σ1->∃σ2,As Γ σ1 tgt d σ2/\Ex Γ σ2 body R)
 (hend:∀σ1,Inv ds.length σ1->Ex Γ σ1 orelse P)
 (hs:autoParam (∀x,foldedSetIterable iter Γ.env x=pure x) aI):X1 Γ σ (.For tgt iter body orelse pos) P:=
 EO N hI Inv h0 (λi d σ1 hd h=>step i d hd _ (λ_ _ h=>h) σ1 h) hend hs
theorem VE{test:kJ}{body orelse:List md}(Inv:Nat->AX->Prop){n:Nat}(h0:Inv n σ)
 (step:∀n,∀R R':AF->AX->Prop,(∀af σ3,(match af with | .next=>∃k,k<n/\Inv k σ3 | .cont=>∃k,k<n/\Inv k σ3 | .brk=>P .next σ3 | .ret a=>P (.ret a) σ3)->R af σ3)->(∀af σ3,P af σ3->R' af σ3)->
  ∀σ1,Inv n σ1->∃b,Tv Γ σ1 test b/\(b=true->Ex Γ σ1 body R)/\(b=false->Ex Γ σ1 orelse R')):X1 Γ σ (.While test body orelse pos) P:=
 Ef Inv h0 λn σ1 h=>step n _ _ (λ_ _ h=>h) (λ_ _ h=>h) σ1 h
theorem Iu{O:Ap}{s:jG}{h':j6}{tk:Nat}{a:jN}{y:jZ}(N:Nm Γ)(t:St Γ O σ s)(ha:(y,a)∈O)(hy:y∉Γ.ns)(haL:a≠Γ.env.locals)(hac:∀x,(x,a)∉Γ.env.cells)(h0:Γ.s₀.heap.get? a=none)
 (hT:∀o,s.heap.get? a=some o->¬(o.cls=.type "tuple"/\∃vs n,o.data=.seq vs n))(k:∀b o,b≠a->s.heap.get? b=some o->h'.get? b=some o)(hl:∃o,h'.get? a=some o):St Γ O σ {s with heap:=h',toks:=tk}:=by
 delta Γ σ O s h' tk a y at N t ha hy haL hac h0 hT k hl
 obtain⟨kp,⟨m,n,vs⟩,cl,nd,lv,sb,fr,fs⟩:=t
 have haO:O.has a:=Ac _ ha rfl
 have hget:∀b,b≠a->∀o,s.heap.get? b=some o->h'.get? b=some o:=λb hb o e=>k b o hb e
 have hcell:∀{x:jZ} {c:jN} {u:Option jD},Γ.env.cells.lookup x=some c->s.heap.IsCell c u->h'.IsCell c u:=λ{x c u} e ⟨o,ho,d⟩=>Ac o (hget c (λz=>hac x (z▸mem_of_lookup e)) o ho) d
 refine⟨λb o e=>k b o (λz=>by rw[z,h0] at e;exact B6 e) (kp b o e),(Ac m (n.at' λo e=>hget _ (ln haL) o e) λi x b e e'=>?_),λx c e=>?_,nd,λp hp=>?_,sb,fr,fs⟩
 ·refine Af (vs i x b e e') λv hd r=>?_
  refine Ac v (hd.imp id λ⟨k1,c,hc,ic⟩=>⟨k1,c,hc,hcell hc ic⟩) ?_
  cases b with
  | val w=>exact VR.avoid (O:=O) r haO hget hT
  | own ds=>
   refine CR r λa' ws' as' e1 m1' l1' r1' q1' f1'=>?_
   have hne:a'≠a:=by
    rintro rfl
    have:=Ap.mem_inj nd m1' ha
    subst this
    exact hy (kx e)
   exact CA a' ws' as' e1 m1' (AR l1' λn e=>(Ag n (hget _ hne _ e))) (Aq hget hT r1' λhm=>q1' _ hm haO) q1' f1'
  | «at» a' P=>
   refine CU r λe1 m1' zz1 f1'=>?_;obtain⟨o,g,p,z⟩:=zz1
   have hne:a'≠a:=by
    rintro rfl
    have:=Ap.mem_inj nd m1' ha
    subst this
    exact hy (kx e)
   exact⟨e1,m1',(Ba o (hget _ hne _ g) p z),f1'⟩
 ·obtain⟨u,ic⟩:=cl x c e
  exact Ag u (hcell e ic)
 ·obtain⟨o,e⟩:=lv p hp
  by_cases hp':p.2=a
  ·rw[hp'];exact hl
  ·exact Ag o (hget _ hp' _ e)
theorem X4{O:Ap}{s:jG}{h':j6}{tk:Nat}{a:jN}{y:jZ}(N:Nm Γ)(t:St Γ O σ s)(ha:(y,a)∈O)(hy:y∉Γ.ns)(hV:¬Ap.has Γ.V a)(hac:∀x,(x,a)∉Γ.env.cells)(h0:Γ.s₀.heap.get? a=none)
 (hT:∀o,s.heap.get? a=some o->¬(o.cls=.type "tuple"/\∃vs n,o.data=.seq vs n))(k:∀b o,b≠a->s.heap.get? b=some o->h'.get? b=some o):St Γ (O.filter λp=>!decide (p.2=a)) σ {s with heap:=h',toks:=tk}:=by
 delta Γ σ O s h' tk a y at N t ha hy hV hac h0 hT k
 obtain⟨kp,⟨m,n,vs⟩,cl,nd,lv,sb,fr,fs⟩:=t
 have haO:O.has a:=Ac _ ha rfl
 have hsub:∀b,Ap.has (O.filter λp=>!decide (p.2=a)) b->O.has b:=λb ⟨p,hp,e⟩=>Ac p ((kd.mp hp).1) e
 have haL:a≠Γ.env.locals:=λe=>hV (e▸fr)
 have hget:∀b,b≠a->∀o,s.heap.get? b=some o->h'.get? b=some o:=λb hb o e=>k b o hb e
 have hcell:∀{x:jZ} {c:jN} {u:Option jD},Γ.env.cells.lookup x=some c->s.heap.IsCell c u->h'.IsCell c u:=λ{x c u} e ⟨o,ho,d⟩=>Ac o (hget c (λz=>hac x (z▸mem_of_lookup e)) o ho) d
 refine⟨λb o e=>k b o (λz=>by rw[z,h0] at e;exact B6 e) (kp b o e),(Ac m (n.at' λo e=>hget _ (ln haL) o e) λi x b e e'=>?_),λx c e=>?_,?_,λp hp=>?_,λb hb=>?_,fr,fs⟩
 ·refine Af (vs i x b e e') λv hd r=>?_
  refine Ac v (hd.imp id λ⟨k1,c,hc,ic⟩=>⟨k1,c,hc,hcell hc ic⟩) ?_
  cases b with
  | val w=>
   have r':=VR.avoid (O:=O) r haO hget hT
   cases w with
   | py d=>refine Af r' λbs r q=>?_;exact Ac bs r λb hb z=>q b hb (hsub b z)
   | «by» b=>exact r'
   | raw w=>exact r'
   | obj P=>refine C9 r' λa1 o e1 g p q z=>?_;exact C5 a1 o e1 g p (λh=>q (hsub a1 h)) z
   | st R ok=>refine Af r' λbs r q=>?_;exact Ac bs r λb hb z=>q b hb (hsub b z)
  | own ds=>
   refine CR r λa' ws' as' e1 m1' l1' r1' q1' f1'=>?_
   have hne:a'≠a:=by
    rintro rfl
    have:=Ap.mem_inj nd m1' ha
    subst this
    exact hy (kx e)
   exact CA a' ws' as' e1 (kd.mpr ⟨m1',by simp[hne]⟩) (AR l1' λn e=>(Ag n (hget _ hne _ e))) (Aq hget hT r1' λhm=>q1' _ hm haO) (λb hb z=>q1' b hb (hsub b z)) f1'
  | «at» a' P=>
   refine CU r λe1 m1' zz1 f1'=>?_;obtain⟨o,g,p,z⟩:=zz1
   have hne:a'≠a:=by
    rintro rfl
    have:=Ap.mem_inj nd m1' ha
    subst this
    exact hy (kx e)
   exact⟨e1,kd.mpr ⟨m1',by simp[hne]⟩,(Ba o (hget _ hne _ g) p z),f1'⟩
 ·obtain⟨u,ic⟩:=cl x c e
  exact Ag u (hcell e ic)
 ·exact qd (pp _ pf) nd
 ·obtain⟨h1,h2⟩:=kd.mp hp
  obtain⟨o,e⟩:=lv p h1
  exact Ag o (hget _ (by simpa using h2) _ e)
 ·refine Af (sb b hb) λp hp e=>?_
  refine Ac p (kd.mpr ⟨hp,?_⟩) e
  have:p.2≠a:=by rw[e];rintro rfl;exact hV hb
  simp[this]
end
section
variable {prog:lF} {w:jY} {A:kC} {E:jD->jG->Prop} {R:td->jG->Prop} {s:jG}
theorem Ou{elt target iter:kJ}{scope:sZ}{pos:mi}{it acc:jD}{env:xA}(I:Nat->jG->Prop)
 (turn:∀n s,I n s->wpAny (model prog w) A (pyNext it) (λr xL=>match r with
  | none=>R (.ok .next) xL
  | some v=>wpAny (model prog w) A (vg target it v) (λ_ xL=>wpAny (model prog w) A (assign target env v) (λ_ xQ=>wpAny (model prog w) A (eval elt env) (λx xT=>
   wpAny (model prog w) A (call (.builtin "list.append") [acc,x]) (λ_ x1=>∃m,m<n/\I m x1) (notedBy (model prog w) A env λe s'=>R (.error e) s') xT) (notedBy (model prog w) A env λe s'=>R (.error e) s') xQ) (notedBy (model prog w) A env λe s'=>R (.error e) s') xL) (notedBy (model prog w) A env λe s'=>R (.error e) s') xL) (notedBy (model prog w) A env λe s'=>R (.error e) s') s)
 (n:Nat)(h:I n s):codeAny (model prog w) A (.compLoop (.ListComp elt [⟨target,iter,[],0⟩] scope pos) 0 it acc env) R s:=by
 delta prog w A R s elt target iter scope pos it acc env I n at turn h
 refine codeAny_loop rfl I (λn s hI=>?_) n h
 show wpAny _ A ((compTurn (.ListComp elt [⟨target,iter,[],0⟩] scope pos) 0 it acc env).onRaise (λx=>do noteFrame x env;theTreesLotGoes x)) _ _ s
 refine wpAny_noted ?_
 rw[compTurn_list]
 refine jC (rB (jC (lT (turn n s hI) (λr xL xK=>?_) λ_ _ h'=>h')))
 cases r with
 | none=>exact jL xK
 | some v=>
  refine jC (lT xK (λ_ yh x6=>jC (lT x6 (λ_ xJ xM=>jC (wpAny_tests_nil ?_)) λ_ _ h'=>h')) λ_ _ h'=>h')
  exact jC (jC (lT xM (λx xT x7=>jC (lT x7 (λ_ x1 x8=>jL (jL ⟨rfl,x8⟩)) λ_ _ h'=>h')) λ_ _ h'=>h'))
end
noncomputable def bE (Γ:Cx) (X:jN->Prop) (J:j6->Prop) (O:Ap) (σ:AX) (e:kJ) (av:AV):Prop:=
 ∀(s:jG) (Q:jD->jG->Prop) (E:jD->jG->Prop),St Γ O σ s->(∀b,X b->O.has b)->J s.heap->
  (∀v s',St Γ O σ s'->AI s s'->(∀b o,¬X b->s.heap.get? b=some o->s'.heap.get? b=some o)->J s'.heap->VR O s'.heap av v->Q v s')->wpAny (model Γ.prog Γ.w) Γ.A (eval e Γ.env) Q E s
noncomputable def Cx.comp (Γ:Cx) (scope:sZ) (cl:List (jZ×jN)) (ns:List jZ) (C:jN):Cx:={Γ with env:=xa scope cl C Γ.env,ns:=ns,V:=[("",C)]}
section
variable {Γ:Cx} {σ:AX} {pos:mi}
structure BS (Γ:Cx) (σ:AX) (scope:sZ) (cl:List (jZ×jN)) (ns:List jZ) (σ0:AX):Prop where
 clos:vw scope Γ.env=pure cl
 cell:∀y∈scope.names,y.2≠.cell
 kind:scope.kind=.function
 names:∀y∈scope.names,y.2=.local->scope.names.lookup y.1=some .local
 nm:∀C,Nm (Γ.comp scope cl ns C)
 empty:("":jZ)∉ns
 sub:∀x c,(x,c)∈cl->Γ.env.cells.lookup x=some c
 held:∀(C:jN) (i:Nat) (x:jZ) (b:Bd),ns[i]?=some x->σ0[i]?=some (some b)->∃(j:Nat) (av:AV) (c:jN),b=.val av/\Γ.ns[j]?=some x/\σ[j]?=some (some (.val av))/\Γ.env.kindOf x=some .cell/\Γ.env.cells.lookup x=some c/\cl.lookup x=some c/\(xa scope cl C Γ.env).kindOf x=some .cell
theorem H7{elt tgt iter:kJ}{scope:sZ}{cl:List (jZ×jN)}{ns:List jZ}{σ0:AX}{pos:mi}{ds rs:List jQ}{O:Ap}{s xJ:jG}{E:jD->jG->Prop}{RR:jD->jN->td->jG->Prop}(X':jN->Prop)(J:jN->jN->j6->Prop)
 {I:jN}{fp wr:List jN}{Rr Md:Nat->jD->j6->Prop}{T:Nat->j6->Prop}{vs:List jD}{es:List jQ}{as:List jN}
 (N:Nm Γ)(X:BS Γ σ scope cl ns σ0)(hlen:ds.length=rs.length)(hsz:rs.length<=100000)
 (body:∀C D,Γ.s₀.heap.get? C=none->Nm (Γ.comp scope cl ns C)->∀(i:Nat) (d:jQ),ds[i]?=some d->∃σ1 r,rs[i]?=some r/\Le σ0 σ1/\As (Γ.comp scope cl ns C) σ0 tgt d σ1/\bE (Γ.comp scope cl ns C) X' (J C D) (("",C)::("",D)::O) σ1 elt (.py r))
 (hXO:∀b,X' b->O.has b)(hX2:∀b,X' b->∀o,xJ.heap.get? b=some o->¬(o.cls=.type "tuple"/\∃vs n,o.data=.seq vs n))(hJ0:∀C D h,xJ.heap.get? C=none->xJ.heap.get? D=none->(∃o,h.get? C=some o)->(∃o,h.get? D=some o)->(∀b o,xJ.heap.get? b=some o->h.get? b=some o)->J C D h)
 (hJ:∀C D h h',(∀b o,h.get? b=some o->b≠C->b≠D->b∉wr->h'.get? b=some o)->(∀b o,h.get? b=some o->∃o',h'.get? b=some o')->J C D h->J C D h')(hJX:∀C D h,J C D h->∀b,X' b->∀o,h.get? b=some o->¬(o.cls=.type "tuple"/\∃vs n,o.data=.seq vs n))
 (k0:kZ s xJ)(W:wy Γ.prog Γ.w Γ.A tgt I fp wr ds.length Rr Md T)(hT:T 0 xJ.heap)(t:St Γ O σ xJ)
 (self:∀i (s:jG) (Q:jD->jG->Prop) (E:jD->jG->Prop),T i s.heap->Q (.ref I) s->wpAny (model Γ.prog Γ.w) Γ.A (pyIter (.ref I)) Q E s)
 (hfp:∀b∈fp,Do Γ O xJ.heap b)(hwr:∀b∈wr,s.heap.get? b=none)(hs0:∀b o,Γ.s₀.heap.get? b=some o->s.heap.get? b=some o)(hfd:∀i h,T i h->∀b∈wr,∃o fs,h.get? b=some o/\o.data=.fields fs)
 (hrs:Ae xJ.heap vs es as)(has:∀b∈as,¬O.has b)
 (rd:∀(i:Nat) (v:jD) (h:j6) (d:jQ),ds[i]?=some d->Rr i v h->Ae h vs es as->∃bs,Ak h v d bs/\∀b∈bs,b∈as)
 (hRR:∀D C (s':jG) ys bs,AI xJ s'->(∀b o,b∉wr->¬X' b->xJ.heap.get? b=some o->s'.heap.get? b=some o)->(∃h0,J C D h0/\∀b o,b∉wr->h0.get? b=some o->s'.heap.get? b=some o)->(∀b∈wr,∃o,xJ.heap.get? b=some o)->xJ.heap.get? D=none->xJ.heap.get? C=none->D≠C->(∃m,s'.heap.Ns C m)->s'.heap.PlainList D ys->Ae s'.heap ys.toList rs bs->
  (∀b∈bs,¬O.has b/\b≠C/\b≠D)->RR (.ref D) C (.ok .next) s') :
 wpAny (model Γ.prog Γ.w) Γ.A (newList []) (λacc xQ=>wpAny (model Γ.prog Γ.w) Γ.A (newFunctionEnv scope Γ.env.globals cl [] Γ.env.qual none .none (some Γ.env)) (λcenv xT=>
  codeAny (model Γ.prog Γ.w) Γ.A (.compStart (.ListComp elt [⟨tgt,iter,[],0⟩] scope pos) 0 (.ref I) acc {cenv with scope:=relabel scope Γ.env}) (RR acc cenv.locals) xT) E xQ) E xJ:=by
 delta Γ σ elt tgt iter scope cl ns σ0 pos ds rs O s xJ E RR X' J I fp wr Rr Md T vs es as at N X hlen hsz body hXO hX2 hJ0 hJ hJX k0 W hT t self hfp hwr hs0 hfd hrs has rd hRR
 refine oY (wpAny_newFunctionEnv X.cell (by intro y hy;simp at hy) (λxK xU xW=>?_) X.kind)
 dsimp only at xU xW ⊢
 generalize hH2:xJ.heap.push {cls:=.type "list",dict:=none,data:=.seq ([]:List jD).toArray}=H2 at xU xW ⊢
 have hC:H2.objs.size=xJ.heap.objs.size+1:=by rw[<-hH2,mT]
 generalize hCn:H2.objs.size=C at xU xW hC ⊢
 have hDC:xJ.heap.objs.size≠C:=by rw[hC];exact lz (ml _)
 have below:∀b,b<xJ.heap.objs.size->b≠C/\b≠xJ.heap.objs.size:=λb hb=>⟨by rw[hC];exact lz (Nat.lt_succ_of_lt hb),lz hb⟩
 have old:∀b o,xJ.heap.get? b=some o->xK.get? b=some o:=λb o e=>xW.extBut b o (below b (kt e)).1 (jH _ (hH2▸jH _ e))
 generalize hDn:xJ.heap.objs.size=D at *
 have hacc:xK.PlainList D #[]:=Ag _ (xW.extBut _ _ hDC (jH _ (hH2▸hDn▸jS _ rfl)))
 have freshD:xJ.heap.get? D=none:=gn λo' e=>absurd (kt e) (by rw[hDn];exact lr _)
 have freshC:xJ.heap.get? C=none:=gn λo' e=>absurd (kt e) (by rw[hDn,hC];exact pt.mpr (qZ _))
 have hC0:Γ.s₀.heap.get? C=none:=gn λo e=>by have:=t.keep _ _ e;exact B0 freshC this
 have hD0:Γ.s₀.heap.get? D=none:=gn λo e=>by have:=t.keep _ _ e;exact B0 freshD this
 have notO:∀a,xJ.heap.get? a=none->¬O.has a:=by
  rintro a ha ⟨p,hp,e⟩
  obtain⟨o,ho⟩:=t.live p hp
  rw[e,ha] at ho;exact B6 ho
 have h0':∀b∈wr,Γ.s₀.heap.get? b=none:=λb hb=>gn λo e=>by have:=hs0 _ _ e;exact B0 (hwr b hb) this
 have hfpl:∀b∈fp,∃o,xJ.heap.get? b=some o:=λb hb=>by
  rcases hfp b hb with⟨o,e,_⟩|⟨_,_,o,e⟩<;>exact Ag o e
 have hfpCD:∀b∈fp,b≠C/\b≠D:=λb hb=>by
  obtain⟨o,e⟩:=hfpl b hb
  exact⟨(by rintro rfl;exact B0 freshC e),(by rintro rfl;exact B0 freshD e)⟩
 have N':=X.nm C
 have hwrO:∀b∈wr,¬Ap.has (("",C)::("",D)::O) b:=by
  rintro b hb ⟨p,hp,e⟩
  have hb':=W.sub b hb
  rcases jI.mp hp with rfl|hp
  ·exact(hfpCD b hb').1 e.symm
  ·rcases jI.mp hp with rfl|hp
   ·exact(hfpCD b hb').2 e.symm
   ·exact(hfp b hb').rec (hfd 0 _ hT b hb) (Ac p hp e)
 have avoid3:∀(bs:List jN),(∀b∈bs,∃o,xJ.heap.get? b=some o)->(∀b∈bs,¬O.has b)->∀b∈bs,¬Ap.has (("",C)::("",D)::O) b:=by
  rintro bs hl hq b hb ⟨p,hp,e⟩
  obtain⟨o,ho⟩:=hl b hb
  rcases jI.mp hp with rfl|hp
  ·have e:C=b:=e
   rw[<-e,freshC] at ho;exact B6 ho
  ·rcases jI.mp hp with rfl|hp
   ·have e:D=b:=e
    rw[<-e,freshD] at ho;exact B6 ho
   ·exact hq b hb (Ac p hp e)
 have tin:∀tk,St (Γ.comp scope cl ns C) (("",C)::("",D)::O) σ0 {xJ with heap:=xK,toks:=tk}:=by
  intro tk
  refine⟨λb o e=>old b o (t.keep b o e),(Ac _ xU λi x b e e'=>?_),λx c e=>?_,?_,λp hp=>?_,?_,(Ac _ (.head _) rfl),hC0⟩
  ·obtain⟨j,av,c,zz1,e1,e2,k1,c1,c2,k2⟩:=(X.held C i x b e e');obtain rfl:=zz1
   refine Af t.ex λm n hv=>?_
   refine Af (hv j x _ e1 e2) λv hd r=>?_
   rcases hd with⟨k3,_⟩|⟨k3,c',hc',ic⟩
   ·rw[k1] at k3;exact on (si k3)
   ·(replace hc':=CQ c1 hc';subst hc')
    refine Ac v (.inr ⟨k2,c,c2,ic.keeps old⟩) ?_
    have r:VR O xJ.heap av v:=r
    show VR _ xK av v
    cases av with
    | py d=>refine Af r λbs r q=>?_;exact Ac bs (Ak.keeps old r) (avoid3 bs (BA r) q)
    | «by» b=>exact r
    | raw u=>exact r
    | obj P=>refine C9 r λa1 o e1 g p q z=>?_;exact C5 a1 o e1 (old _ _ g) p (avoid3 [a1] (λb hb=>by rw[jJ.mp hb];exact Ag o g) (λb hb=>by rw[jJ.mp hb];exact q) a1 (.head _)) z
    | st R ok=>refine Af r λbs r q=>?_;exact Ac bs (ok.keeps r old) (avoid3 bs (ok.live r) q)
  ·obtain⟨v,ic⟩:=t.cells x c (X.sub x c (mem_of_lookup e))
   exact Ag v (ic.keeps old)
  ·rw[kO,kO,mf,mf]
   refine⟨λhm=>?_,λhm=>?_,t.nodup⟩
   ·rcases jI.mp hm with e|hm
    ·exact hDC e.symm
    ·obtain⟨p,hp,e⟩:=kq.mp hm
     exact notO C freshC (Ac p hp e)
   ·obtain⟨p,hp,e⟩:=kq.mp hm
    exact notO D freshD (Ac p hp e)
  ·rcases jI.mp hp with rfl|hp
   ·refine CG xU λo _ _ e _=>?_;exact Ag o e
   ·rcases jI.mp hp with rfl|hp
    ·obtain⟨n,e⟩:=hacc;exact Ag _ e
    ·obtain⟨o,e⟩:=t.live p hp;exact Ag o (old _ _ e)
  ·intro a zz1;refine Af zz1 λp hp e=>?_
   obtain rfl:=jJ.mp hp
   exact Ac _ (.head _) e
 have hDcell:∀x,(x,D)∉(Γ.comp scope cl ns C).env.cells:=by
  intro x hx
  have:=X.sub x D hx
  obtain⟨v,o,ho,_⟩:=t.cells x D this
  exact B0 freshD ho
 have hDX:¬X' D:=λz=>notO D freshD (hXO D z)
 have fpX:∀b∈fp,¬X' b:=λb hb z=>by
  obtain⟨o,e⟩:=hfpl b hb
  rcases hfp b hb with⟨o',e',ht⟩|⟨h1,_⟩
  ·exact hX2 b z o' e' ht
  ·exact h1 (hXO b z)
 have loop:∀xQ:jG,xQ={xJ with heap:=xK,toks:=xJ.toks+([]:List (jZ×jD)).length}->
  codeAny (model Γ.prog Γ.w) Γ.A (.compLoop (.ListComp elt [⟨tgt,iter,[],0⟩] scope pos) 0 (.ref I) (.ref D) (xa scope cl C Γ.env)) (RR (.ref D) C) xQ:=by
  rintro xQ rfl
  refine Ou (λk s'=>∃i ys bs,k=ds.length+1-i/\i<=ds.length/\AI xJ s'/\(∀b o,b∉wr->¬X' b->xJ.heap.get? b=some o->s'.heap.get? b=some o)/\J C D s'.heap/\T i s'.heap/\Ae s'.heap vs es as/\s'.heap.PlainList D ys/\Ae s'.heap ys.toList (rs.take i) bs/\
   (∀b∈bs,¬Ap.has (("",C)::("",D)::O) b)/\St (Γ.comp scope cl ns C) (("",C)::("",D)::O) σ0 s') ?_ (ds.length+1)
   (aH 0 (#[]) [] rfl (kh _) (AS _ _ rfl) (λb o _ _ e=>old b o e) (hJ0 C D _ freshC freshD (CG xU λo _ _ e _=>(Ag o e)) (AR hacc λ_ e=>(Ag _ e)) old) (W.frame _ _ _ hT λb _ o e=>old b o e) (Ae.keeps old hrs) hacc .nil (λ_ h=>nomatch h) (tin _))
  rintro k s' ⟨i,ys,bs,rfl,hi,al,hk,hj,hT',hrs',hpl,hr,hbs,t'⟩
  by_cases hlt:i<ds.length
  ·refine W.item i _ _ _ hlt hT' λv xM xZ hMd xR=>?_
   refine W.go i v _ _ _ hMd λxP hR x2 x9=>?_
   dsimp only
   have kk:∀b o,b∉wr->s'.heap.get? b=some o->xP.get? b=some o:=λb o hb e=>x9 b o hb (xR b o hb e)
   have hfd':=hfd i _ hT'
   have t3:St (Γ.comp scope cl ns C) (("",C)::("",D)::O) σ0 {s' with heap:=xP,toks:=xZ}:=t'.butFields kk hfd' hwrO h0'
   have rs3:Ae xP vs es as:=Bt kk hfd' hrs'
   obtain⟨d,hd⟩:∃d,ds[i]?=some d:=Ag _ (jR hlt)
   refine Af (rd i v xP d hd hR rs3) λcs rv qv=>?_
   refine E8 (body C D hC0 N' i d hd) λσ1 r hr1 hle hAs hEv=>?_
   have hasO:=avoid3 as (Bv hrs) has
   refine hAs _ _ v _ _ t3 (Ac cs rv λb hb=>hasO b (qv b hb)) λs4 a4 u4 t4=>?_
   have j3:J C D xP:=hJ C D _ _ (λb o e _ _ h3=>kk b o h3 e) (λb o e=>by
    by_cases hb:b∈wr
    ·refine Ao (hfd _ _ x2 b hb) λo' _ e' _=>?_;exact Ag o' e'
    ·exact Ag o (kk b o hb e)) hj
   have j4:J C D s4.heap:=hJ C D xP _ (λb o e h1 _ _=>u4 b o h1 e) (λb o e=>by
    by_cases hb:b=C
    ·refine Af t4.ex λm4 zz1 _=>?_;obtain⟨o',_,_,e',_⟩:=zz1;exact Ag o' (hb▸e')
    ·exact Ag o (u4 b o hb e)) j3
   refine hEv _ _ _ t4 (λb hb=>(hXO b hb).elim λp hp=>Ac p (.tail _ (.tail _ hp.1)) hp.2) j4 λx s5 t5 a5 k5 j5 r5=>?_
   have hDw:D∉wr:=λhb=>(hfpCD D (W.sub D hb)).2 rfl
   have hCw:C∉wr:=λhb=>(hfpCD C (W.sub C hb)).1 rfl
   refine B1 a5 λh5 tk5 zz1=>?_;clear a5;obtain rfl:=zz1
   have to5:∀b o,b≠C->b∉wr->¬X' b->s'.heap.get? b=some o->h5.get? b=some o:=λb o h1 h2 h3 e=>k5 b o h3 (u4 b o h1 (kk b o h2 e))
   have to5':∀b o,b≠C->¬X' b->xP.get? b=some o->h5.get? b=some o:=λb o h1 h3 e=>k5 b o h3 (u4 b o h1 e)
   have tp5:∀b o,xP.get? b=some o->(o.cls=.type "tuple"/\∃vs n,o.data=.seq vs n)->h5.get? b=some o:=λb o e ht=>to5' b o (λz=>by
    refine Af t3.ex λm3 n3 _=>?_
    subst z
    exact A5 n3 o e ht) (λz=>hJX C D xP j3 b z o e ht) e
   have hpl5:h5.PlainList D ys:=AR hpl λn e=>(Ag n (to5 _ _ hDC hDw hDX e))
   have hysz:ys.size<=sizeLine:=by
    have:=Al hr
    have e:ys.size=(rs.take i).length:=by rw[<-this];simp
    rw[e,sizeLine_eq,lp];rwa[hlen,hsz,hlt]
   refine Af r5 λxs rx qx=>?_
   refine rV (hsz:=hysz) hpl5 λh6 hpl6 hs6=>?_
   have g6:∀b,b≠D->∀o,h5.get? b=some o->h6.get? b=some o:=AJ hs6
   have hT5:∀o,h5.get? D=some o->¬(o.cls=.type "tuple"/\∃vs n,o.data=.seq vs n):=by
    obtain⟨n,e⟩:=hpl5
    rintro o e' ⟨hc,_⟩
    (replace e':=CQ e e';subst e');exact absurd (show jX "list"=jX "tuple" from hc) (by decide)
   have hDO:Ap.has (("",C)::("",D)::O) D:=Ac _ (.tail _ (.head _)) rfl
   have hCO:Ap.has (("",C)::("",D)::O) C:=Ac _ (.head _) rfl
   have t6:St (Γ.comp scope cl ns C) (("",C)::("",D)::O) σ1 {s4 with heap:=h6,toks:=tk5}:=
    Iu N' (s:={s4 with heap:=h5,toks:=tk5}) t5 (a:=D) (y:="") (.tail _ (.head _)) X.empty hDC hDcell hD0 hT5 (λb o hb e=>g6 b hb o e) (AR hpl6 λn e=>(Ag _ e))
   refine⟨ds.length+1-(i+1),by rwa[hlen,hlt],i+1,ys.push x,bs++xs,rfl,hlt,(al.tr (AS xP xZ rfl)).tr (a4.tr (AS _ _ rfl)),λb o hb hx e=>?_,hJ C D h5 _ (λb o e _ h2 _=>g6 b h2 o e) (λb o e=>by
    by_cases hb:b=D
    ·obtain⟨n,e'⟩:=hpl6;exact Ag _ (hb▸e')
    ·exact Ag o (g6 b hb o e)) j5,?_,?_,hpl6,?_,?_,St.le hle t6⟩
   ·have hb1:b≠C:=by rintro rfl;exact B0 freshC e
    have hb2:b≠D:=by rintro rfl;exact B0 freshD e
    exact g6 b hb2 o (to5 b o hb1 hb hx (hk b o hb hx e))
   ·exact W.frame _ _ _ x2 λb hb o e=>g6 b (hfpCD b hb).2 o (to5' b o (hfpCD b hb).1 (fpX b hb) e)
   ·have r5':Ae h5 vs es as:=by
     exact Dq tp5 rs3 λb hb o e=>to5' b o (λz=>hasO b hb (z▸hCO)) (λz=>has b hb (hXO b z)) e
    exact Aq g6 hT5 r5' λhm=>hasO D hm hDO
   ·have r3':Ae xP ys.toList (rs.take i) bs:=Bt kk hfd' hr
    have r5':Ae h5 ys.toList (rs.take i) bs:=by
     exact Dq tp5 r3' λb hb o e=>to5' b o (λz=>hbs b hb (z▸hCO)) (λz=>hbs b hb ((hXO b z).elim λp hp=>Ac p (.tail _ (.tail _ hp.1)) hp.2)) e
    have r6':=Aq g6 hT5 r5' λhm=>hbs D hm hDO
    have rx6:=Bo g6 hT5 rx λhm=>qx D hm hDO
    have:=DZ rx6 r6'
    rw[qT,kQ,hr1]
    exact this
   ·intro b hb
    rcases jW.mp hb with hb|hb
    ·exact hbs b hb
    ·exact qx b hb
  ·have hin:i=ds.length:=by rwa[hlen,hi,hlt]
   subst hin
   refine W.done _ _ _ hT' λxM xZ xR=>?_
   have hfd':=hfd _ _ hT'
   have hDw:D∉wr:=λhb=>(hfpCD D (W.sub D hb)).2 rfl
   have hCw:C∉wr:=λhb=>(hfpCD C (W.sub C hb)).1 rfl
   have r2:Ae xM ys.toList (rs.take ds.length) bs:=Bt xR hfd' hr
   rw[hlen,lD] at r2
   refine Af t'.ex λm' n' _=>?_
   refine hRR D C _ ys bs (al.tr (AS _ _ rfl)) (λb o hb hx e=>xR b o hb (hk b o hb hx e)) (Ac _ hj λb o hb e=>xR b o hb e) (λb hb=>hfpl b (W.sub b hb)) freshD freshC hDC (Ag m' (n'.at' λo e=>xR _ o hCw e)) (AR hpl λn e=>(Ag n (xR _ _ hDw e))) r2 λb hb=>⟨λEM=>Af EM λp hp e=>hbs b hb (Ac p (.tail _ (.tail _ hp)) e),?_,?_⟩
   ·rintro rfl;exact hbs _ hb (Ac _ (.head _) rfl)
   ·rintro rfl;exact hbs _ hb (Ac _ (.tail _ (.head _)) rfl)
 exact codeAny_compStart_list (loop _ rfl) (self 0 _ _ _ (W.frame _ _ _ hT λb _ o e=>old b o e) (loop _ rfl))
theorem Ji{elt tgt iter:kJ}{scope:sZ}{cl:List (jZ×jN)}{ns:List jZ}{σ0:AX}{pos:mi}{ds rs:List jQ}{O:Ap}{s xJ:jG}{E:jD->jG->Prop}{RR:jD->jN->td->jG->Prop}
 {I:jN}{fp wr:List jN}{Rr Md:Nat->jD->j6->Prop}{T:Nat->j6->Prop}{vs:List jD}{es:List jQ}{as:List jN}
 (N:Nm Γ)(X:BS Γ σ scope cl ns σ0)(hlen:ds.length=rs.length)(hsz:rs.length<=100000)
 (body:∀C,Γ.s₀.heap.get? C=none->Nm (Γ.comp scope cl ns C)->∀(i:Nat) (d:jQ),ds[i]?=some d->∃σ1 r,rs[i]?=some r/\Le σ0 σ1/\As (Γ.comp scope cl ns C) σ0 tgt d σ1/\Ev (Γ.comp scope cl ns C) σ1 elt (.py r))
 (k0:kZ s xJ)(W:wy Γ.prog Γ.w Γ.A tgt I fp wr ds.length Rr Md T)(hT:T 0 xJ.heap)(t:St Γ O σ xJ)
 (self:∀i (s:jG) (Q:jD->jG->Prop) (E:jD->jG->Prop),T i s.heap->Q (.ref I) s->wpAny (model Γ.prog Γ.w) Γ.A (pyIter (.ref I)) Q E s)
 (hfp:∀b∈fp,Do Γ O xJ.heap b)(hwr:∀b∈wr,s.heap.get? b=none)(hs0:∀b o,Γ.s₀.heap.get? b=some o->s.heap.get? b=some o)(hfd:∀i h,T i h->∀b∈wr,∃o fs,h.get? b=some o/\o.data=.fields fs)
 (hrs:Ae xJ.heap vs es as)(has:∀b∈as,¬O.has b)
 (rd:∀(i:Nat) (v:jD) (h:j6) (d:jQ),ds[i]?=some d->Rr i v h->Ae h vs es as->∃bs,Ak h v d bs/\∀b∈bs,b∈as)
 (hRR:∀D C (s':jG) ys bs,AI xJ s'->(∀b o,b∉wr->xJ.heap.get? b=some o->s'.heap.get? b=some o)->(∀b∈wr,∃o,xJ.heap.get? b=some o)->xJ.heap.get? D=none->xJ.heap.get? C=none->D≠C->(∃m,s'.heap.Ns C m)->s'.heap.PlainList D ys->Ae s'.heap ys.toList rs bs->
  (∀b∈bs,¬O.has b/\b≠C/\b≠D)->RR (.ref D) C (.ok .next) s') :
 wpAny (model Γ.prog Γ.w) Γ.A (newList []) (λacc xQ=>wpAny (model Γ.prog Γ.w) Γ.A (newFunctionEnv scope Γ.env.globals cl [] Γ.env.qual none .none (some Γ.env)) (λcenv xT=>
  codeAny (model Γ.prog Γ.w) Γ.A (.compStart (.ListComp elt [⟨tgt,iter,[],0⟩] scope pos) 0 (.ref I) acc {cenv with scope:=relabel scope Γ.env}) (RR acc cenv.locals) xT) E xQ) E xJ:=by
 refine H7 (λ_=>False) (λ_ _ _=>True) N X hlen hsz (λC D hC N' i d hd=>?_) (λ_ h=>h.elim) (λ_ h=>h.elim) (λ_ _ _ _ _ _ _ _=>trivial) (λ_ _ _ _ _ _ _=>trivial) (λ_ _ _ _ _ h=>h.elim) k0 W hT t self hfp hwr hs0 hfd hrs has rd λD C s' ys bs al hk _=>hRR D C s' ys bs al λb o hb e=>hk b o hb (λh=>h) e
 refine E8 (body C hC N' i d hd) λσ1 r h1 h2 h3 h4=>?_
 exact C6 σ1 r h1 h2 h3 λs Q E t _ _ q=>h4 _ s Q E t λv s' t' k rv=>q v s' t' (by refine Ao k λh' tk zz1 _=>?_;clear k;obtain rfl:=zz1;exact AS _ _ rfl) (λb o _ e=>by obtain⟨h',tk,rfl,k⟩:=k;exact k b o e) trivial rv
end
section
variable {Γ:Cx} {σ:AX} {pos:mi} {P:AF->AX->Prop}
theorem Be{e:kJ}{ds:List jQ}(h:XO Γ σ e ds):Ev Γ σ e (.py (.list ds)):=by
 intro O s Q E t q
 refine h O s Q E t λa vs as s' k hn hl r hq hna=>q _ s' (t.of_keeps k) k (Ac (a::as) ?_ λb hb=>?_)
 ·obtain⟨n,e⟩:=hl
  exact .list e rfl rfl r
 ·rcases jI.mp hb with rfl|hb
  ·rintro⟨p,hp,e⟩
   obtain⟨o,ho⟩:=t.live p hp
   rw[e,hn] at ho;exact B6 ho
  ·exact hq b hb
theorem C4{elt tgt iter:kJ}{scope:sZ}{cl:List (jZ×jN)}{ns:List jZ}{σ0:AX}{ds rs:List jQ}(N:Nm Γ)(X:BS Γ σ scope cl ns σ0)(hI:RO Γ σ tgt iter ds)(hlen:ds.length=rs.length)(hsz:rs.length<=100000)
 (body:∀C,Γ.s₀.heap.get? C=none->Nm (Γ.comp scope cl ns C)->∀(i:Nat) (d:jQ),ds[i]?=some d->∃σ1 r,rs[i]?=some r/\Le σ0 σ1/\As (Γ.comp scope cl ns C) σ0 tgt d σ1/\Ev (Γ.comp scope cl ns C) σ1 elt (.py r))
 (hs:autoParam (∀x,foldedSetIterable iter Γ.env x=pure x) aI):XO Γ σ (.ListComp elt [⟨tgt,iter,[],0⟩] scope pos) rs:=by
 intro O s Q E t q
 rw[eval_ListComp]
 refine rC (use:=none) rfl hs X.clos X.kind X.names (hI O s _ E t λI fp wr R Md T s2 vs es as k2 W hT t2 self hfp hwr hfd hrs has rd=>?_)
 refine Ji (RR:=λacc C=>compPost (model Γ.prog Γ.w) Γ.A E none Q acc C) N X hlen hsz body k2 W hT t2 self hfp hwr t.keep hfd hrs has rd ?_
 rintro D C s' ys bs al hk hwl hD hC hDC ⟨m,hn⟩ hl hr hb
 refine Ac m hn λh' hs'=>?_
 have g:=AJ hs'
 have hDs:s.heap.get? D=none:=gn λo e=>by obtain⟨h2,tk,rfl,k2⟩:=k2;have:=k2 _ _ e;exact B0 hD this
 have hT0:=A5 hn
 refine q D ys bs {s' with heap:=h'} ?_ hDs (AR hl λn e=>(Ag n (g _ hDC _ e))) (Aq g hT0 hr λhm=>(hb C hm).2.1 rfl) (λb hb'=>(hb b hb').1) (λhm=>(hb D hm).2.2 rfl)
 obtain⟨h2,tk2,rfl,k2⟩:=k2
 obtain⟨h3,tk3,rfl⟩:=al
 exact AT h' tk3 rfl λb o e=>g b (λz=>by have:=k2 _ _ e;rw[z,hC] at this;exact B6 this) o (hk b o (λhb=>by exact B0 (hwr b hb) e) (k2 _ _ e))
theorem UJ{O:Ap}{s s':jG}{ps:List (jZ×jN)}(t:St Γ O σ s)(k:kZ s s')(h:∀p∈ps,s.heap.get? p.2=none)(h':∀p∈ps,∃o,s'.heap.get? p.2=some o)(hnd:(ps.map (·.2)).Nodup):St Γ (ps++O) σ s':=by
 delta Γ σ O s at s' ps t k h h' hnd
 have t':=t.of_keeps k
 obtain⟨kp,⟨m,n,vs⟩,cl,nd,lv,sb,fr,fs⟩:=t
 obtain⟨hh,tk,rfl,k⟩:=k
 have hna:∀p∈ps,¬O.has p.2:=by
  rintro q hq ⟨p,hp,e⟩
  obtain⟨o,ho⟩:=lv p hp
  rw[e,h q hq] at ho;exact B6 ho
 have hav:∀(as:List jN),(∀b∈as,∃o,s.heap.get? b=some o)->(∀b∈as,¬O.has b)->∀b∈as,¬Ap.has (ps++O) b:=by
  rintro as hl hq b hb ⟨p,hp,e⟩
  rcases jW.mp hp with hp|hp
  ·obtain⟨o,ho⟩:=hl b hb
   rw[<-e,h p hp] at ho;exact B6 ho
  ·exact hq b hb (Ac p hp e)
 refine⟨t'.keep,(Ac m (n.keeps k) λi y b e e'=>?_),t'.cells,?_,λp hp=>?_,λb hb=>?_,fr,fs⟩
 ·obtain⟨v,hd,r⟩:=vs i y b e e'
  refine Ac v (hd.keeps k) ?_
  cases b with
  | val w=>
   cases w with
   | py d=>obtain⟨bs,r,q⟩:=r;exact Ac bs (Ak.keeps k r) (hav bs (BA r) q)
   | «by» b=>exact r
   | raw w=>exact r
   | obj P=>obtain⟨a1,o,e1,g,p,q,z⟩:=r;exact C5 a1 o e1 (k _ _ g) p (hav [a1] (λb hb=>by rw[jJ.mp hb];exact Ag o g) (λb hb=>by rw[jJ.mp hb];exact q) a1 (.head _)) z
   | st R ok=>obtain⟨bs,r,q⟩:=r;exact Ac bs (ok.keeps r k) (hav bs (ok.live r) q)
  | own ds=>
   obtain⟨a',ws',as',e1,m1',l1',r1',q1',f1'⟩:=r
   exact CA a' ws' as' e1 (kR _ m1') (AR l1' λn e=>(Ag n (k _ _ e))) (Ae.keeps k r1') (hav as' (Bv r1') q1') f1'
  | «at» a' P=>obtain⟨e1,m1',⟨o,g,p,z⟩,f1'⟩:=r;exact⟨e1,kR _ m1',(Ba o (k _ _ g) p z),f1'⟩
 ·rw[kB,tB]
  refine⟨hnd,nd,λa ha b hb=>?_⟩
  rintro rfl
  obtain⟨p,hp,e⟩:=kq.mp ha
  obtain⟨p',hp',e'⟩:=kq.mp hb
  exact hna p hp (Ac p' hp' (e'.trans e.symm))
 ·rcases jW.mp hp with hp|hp
  ·exact h' p hp
  ·exact t'.live p hp
 ·obtain⟨p,hp,e⟩:=sb b hb
  exact Ac p (kR _ hp) e
theorem Kj{elt tgt iter:kJ}{scope:sZ}{cl:List (jZ×jN)}{ns:List jZ}{σ0:AX}{ds rs:List jQ}{y:jZ}{py cpos:mi}(N:Nm Γ)(hN:("":jZ)∉Γ.ns)(j:Nat)(X:BS Γ σ scope cl ns σ0)(hI:RO Γ σ tgt iter ds)(hlen:ds.length=rs.length)(hsz:rs.length<=100000)
 (body:∀C,Γ.s₀.heap.get? C=none->Nm (Γ.comp scope cl ns C)->∀(i:Nat) (d:jQ),ds[i]?=some d->∃σ1 r,rs[i]?=some r/\Le σ0 σ1/\As (Γ.comp scope cl ns C) σ0 tgt d σ1/\Ev (Γ.comp scope cl ns C) σ1 elt (.py r))
 (hP:P .next (σ.set j (some (.own rs))))
 (hi:autoParam (Γ.ns[j]?=some y) aR)(hlt:autoParam (j<σ.length) aN)(hk:autoParam (Γ.env.kindOf y=some .local) aR)
 (hsw:autoParam (qX (.ListComp elt [⟨tgt,iter,[],0⟩] scope cpos) (some (.Name y py)) pos.line Γ.env=pure true) aR)
 (hs:autoParam (∀x,foldedSetIterable iter Γ.env x=pure x) aI):X1 Γ σ (.Assign [.Name y py] (.ListComp elt [⟨tgt,iter,[],0⟩] scope cpos) pos) P:=by
 intro O s Q E t q
 rw[exec_Assign_Name_used _ _ _ _ hsw]
 refine jC (rB (jC ?_))
 show wpAny _ Γ.A (do let _<-comprehension (.ListComp elt [⟨tgt,iter,[],0⟩] scope cpos) scope Γ.env _ (newList []) false (eval iter Γ.env) (some (assign (.Name y py) Γ.env))) _ _ s
 refine jC (lT (rC (use:=some (assign (.Name y py) Γ.env)) (Q:=λ_ s'=>Q .next s') rfl hs X.clos X.kind X.names
  (hI O s _ E t λI fp wr R Md T s2 vs es as k2 W hT t2 self hfp hwr hfd hrs has rd=>?_)) (λ_ s' hq=>jL (jL hq)) λ_ _ e=>e)
 refine Ji (RR:=λacc C=>compPost (model Γ.prog Γ.w) Γ.A E (some (assign (.Name y py) Γ.env)) (λ_ s'=>Q .next s') acc C) N X hlen hsz body k2 W hT t2 self hfp hwr t.keep hfd hrs has rd ?_
 rintro D C s' ys bs al hkk hwl hD hC hDC ⟨m,hn⟩ hl hr hb
 have hDs:s.heap.get? D=none:=gn λo e=>by obtain⟨h2,tk,rfl,k2⟩:=k2;have:=k2 _ _ e;exact B0 hD this
 have hCs:s.heap.get? C=none:=gn λo e=>by obtain⟨h2,tk,rfl,k2⟩:=k2;have:=k2 _ _ e;exact B0 hC this
 have k':kZ s s':=by
  obtain⟨h2,tk2,rfl,k2⟩:=k2
  obtain⟨h3,tk3,rfl⟩:=al
  exact AT h3 tk3 rfl λb o e=>hkk b o (λhb=>by exact B0 (hwr b hb) e) (k2 _ _ e)
 have t3:St Γ ([(y,D),("",C)]++O) σ s':=by
  refine UJ t k' (λp hp=>?_) (λp hp=>?_) ?_
  ·rcases jI.mp hp with rfl|hp
   ·exact hDs
   ·obtain rfl:=jJ.mp hp;exact hCs
  ·rcases jI.mp hp with rfl|hp
   ·obtain⟨n,e⟩:=hl;exact Ag _ e
   ·obtain rfl:=jJ.mp hp;refine CG hn λo _ _ e _=>?_;exact Ag o e
  ·show [D,C].Nodup
   simp[hDC]
 have s0:∀a,s.heap.get? a=none->Γ.s₀.heap.get? a=none:=λa ha=>gn λo e=>by have:=t.keep _ _ e;exact B0 ha this
 have hCL:C≠Γ.env.locals:=by
  rintro rfl
  refine Af t.ex λm' n' _=>?_
  refine CG n' λo _ _ e _=>?_
  exact B0 hCs e
 show wpAny _ Γ.A (assign (.Name y py) Γ.env (.ref D)) _ _ _
 refine lK (AG N (b:=.own rs) hi hlt hk t3 (CA D ys bs rfl (.head _) hl hr ?_ (s0 D hDs)) λs4 a4 u4 t4=>?_)
 ·intro b hb' zz1;refine Af zz1 λp hp e=>?_
  rcases jW.mp hp with hp|hp
  ·rcases jI.mp hp with rfl|hp
   ·exact(hb b hb').2.2 e.symm
   ·obtain rfl:=jJ.mp hp;exact(hb b hb').2.1 e.symm
  ·exact(hb b hb').1 (Ac p hp e)
 have hn4:s4.heap.Ns C m:=hn.at' λo e=>u4 C o hCL e
 refine Ac m hn4 λh' hs'=>?_
 have g:=AJ hs'
 have hCV:¬Ap.has Γ.V C:=by
  intro hv
  rcases N.outer C hv with e|⟨o,e⟩
  ·exact hCL e
  ·exact B0 (s0 C hCs) e
 have hCc:∀x,(x,C)∉Γ.env.cells:=by
  intro x hx
  obtain⟨v,o,ho,_⟩:=t.cells x C (DR N hx)
  exact B0 hCs ho
 have t5:=X4 (tk:=s4.toks) N t4 (a:=C) (y:="") (lO _ (.tail _ (.head _))) hN hCV hCc (s0 C hCs) (A5 hn4) (λb o hb e=>g b hb o e)
 refine Af t.ex λmL nL _=>?_
 refine q _ .next .next _ {s4 with heap:=h'} ⟨?_,λa ha=>?_,λb o e=>?_,λb o e h1 h2=>?_,λb o e h1=>?_⟩ t5 rfl hP
 ·refine Ao k' λh6 tk6 zz1 _=>?_;clear k';obtain rfl:=zz1
  exact AI.tr (AS h6 tk6 rfl) (a4.tr (AS h' s4.toks rfl))
 ·refine Af ha λp hp e=>?_
  rcases jW.mp (kd.mp hp).1 with hp'|hp'
  ·rcases jI.mp hp' with rfl|hp'
   ·exact .inr (e▸hDs)
   ·obtain rfl:=jJ.mp hp';exact .inr (e▸hCs)
  ·exact .inl (Ac p hp' e)
 ·have hbC:b≠C:=by rintro rfl;exact B0 hCs e
  refine Ao k' λh6 tk6 zz1 k6=>?_;clear k';obtain rfl:=zz1
  have e6:=k6 _ _ e
  by_cases hbL:b=Γ.env.locals
  ·refine Af t5.ex λm5 n5 _=>?_
   refine CG n5 λo' _ _ e' _=>?_
   exact Ag o' (hbL▸e')
  ·exact Ag o (g b hbC o (u4 b o hbL e6))
 ·have hbC:b≠C:=by rintro rfl;exact B0 hCs e
  refine Ao k' λh6 tk6 zz1 k6=>?_;clear k';obtain rfl:=zz1
  exact g b hbC o (u4 b o (λz=>h1 (z▸t.sub _ t.frame)) (k6 _ _ e))
 ·have hbC:b≠C:=by rintro rfl;exact B0 hCs e
  refine Ao k' λh6 tk6 zz1 k6=>?_;clear k';obtain rfl:=zz1
  exact g b hbC o (u4 b o (λz=>A5 nL o (z▸e) h1) (k6 _ _ e))
end
noncomputable def HK (xI:j6) (s:jG):Prop:=∀b o,xI.get? b=some o->s.heap.get? b=some o
structure CJ (O:Ap) (s:jG):Prop where
 nodup:(O.map (·.2)).Nodup
 live:∀p∈O,∃o,s.heap.get? p.2=some o
theorem St.ownOk{Γ:Cx}{O:Ap}{σ:AX}{s:jG}(t:St Γ O σ s):CJ O s:=⟨t.nodup,t.live⟩
noncomputable def Fn (prog:lF) (w:jY) (xI:j6) (n:Nat) (f:jD) (kws:List jZ) (avs kavs:List AV) (r:AV):Prop:=
 ∀(A:kC) (O:Ap) (s:jG) (vs kvs:List jD) (Q:jD->jG->Prop) (E:jD->jG->Prop),A0 A n->HK xI s->CJ O s->DD O s.heap avs vs->DD O s.heap kavs kvs->
  (∀v s',kZ s s'->VR O s'.heap r v->Q v s')->wpAny (model prog w) A (call f vs (kws.zip kvs)) Q E s
noncomputable def Dx (prog:lF) (w:jY) (A:kC) (s:jG) (fd:nY) (a:jN) (ns:List jZ) (O:Ap):Cx:=
 ⟨prog,w,A.deeper (callEnvC fd s.heap.objs.size a),s,callEnvC fd s.heap.objs.size a,ns,("",s.heap.objs.size)::O⟩
noncomputable def Bi (avs:List AV) (k:Nat):AX:=avs.map (λa=>some (.val a))++lg k none
theorem H9{kindOf:jZ->Option vA}:∀{bs:List (jZ×jD)} {m:jZ->Option jD} {x:jZ},(∀p∈bs,p.1≠x)->bindL kindOf bs m x=m x
 | [],_,_,_=>rfl
 | (n,v)::r,m,x,h=>by
  unfold bindL
  rw[H9 λp hp=>h p (.tail _ hp)]
  have:x≠n:=λe=>h (n,v) (.head _) e.symm
  split
  ·simp[this]
  ·rfl
theorem Ia{kindOf:jZ->Option vA}:∀{bs:List (jZ×jD)} {m:jZ->Option jD} {x:jZ},(∀p∈bs,p.1≠x)->bindC kindOf bs m x=m x
 | [],_,_,_=>rfl
 | (n,v)::r,m,x,h=>by
  unfold bindC
  rw[Ia λp hp=>h p (.tail _ hp)]
  have:x≠n:=λe=>h (n,v) (.head _) e.symm
  split
  ·rfl
  ·simp[this]
theorem PI{kindOf:jZ->Option vA}:∀{bs:List (jZ×jD)} {m:jZ->Option jD} {i:Nat} {x:jZ} {v:jD},(bs.map (·.1)).Nodup->bs[i]?=some (x,v)->kindOf x=some .local->bindL kindOf bs m x=some v:=by
 intro bs
 induction bs with
 | nil=>exact λ_ e _=>nomatch e
 | cons p r ih=>
  intro m i x v nd e k
  rw[kO,mf] at nd
  cases i with
  | zero=>
   obtain rfl:=kW e
   show bindL kindOf r (if kindOf x=some .local then _ else _) x=_
   rw[if_pos k,H9]
   ·simp
   ·exact λp hp e=>nd.1 (kq.mpr (Ac p hp e))
  | succ i=>exact ih nd.2 e k
theorem PJ{kindOf:jZ->Option vA}{bs:List (jZ×jD)}{m:jZ->Option jD}{i:Nat}{x:jZ}{v:jD}(nd:(bs.map (·.1)).Nodup)(e:bs[i]?=some (x,v))(k:kindOf x=some .cell):bindC kindOf bs m x=some v:=by
 induction bs generalizing m i with
 | nil=>exact nomatch e
 | cons p r ih=>
  rw[kO,mf] at nd
  unfold bindC
  cases i with
  | zero=>
   obtain rfl:=kW e
   show bindC kindOf r (if kindOf x=some .local then _ else _) x=_
   rw[if_neg (by rw[k];decide),Ia]
   ·simp
   ·intro p hp e
    exact nd.1 (kq.mpr (Ac p hp e))
  | succ i=>exact ih nd.2 e
theorem TH{O:Ap}{h:j6}{a:AV}:∀{as:List AV} {vs:List jD} {i:Nat},DD O h as vs->as[i]?=some a->∃v,vs[i]?=some v/\VR O h a v:=by
 intro as
 induction as with
 | nil=>intro vs i _ e;simp at e
 | cons b as ih=>
  intro vs i r e
  cases vs with
  | nil=>exact r.elim
  | cons v vs=>
   cases i with
   | zero=>cases e;exact Ac v rfl r.1
   | succ i=>
    refine Af (ih (vs:=vs) (i:=i) r.2 (by simpa using e)) λu e1 r1=>?_
    exact Ac u (by simpa using e1) r1
theorem DD.append{O:Ap}{h:j6}{as bs:List AV}{vs us:List jD}(x:DD O h as vs)(y:DD O h bs us):DD O h (as++bs) (vs++us):=by
 induction as generalizing vs with
 | nil=>rw[x.ni];exact y
 | cons a as ih=>
  refine BD x.ci λv ws e r1 r2=>?_
  rw[e];exact⟨r1,ih r2⟩
structure Bf (fd:nY) (body:List md) (ps ns:List jZ):Prop where
 body:fd.body=.stmts body
 clo:fd.closure=[]
 kinds:∀x∈ps,fd.scope.names.lookup x=some .local\/(fd.scope.names.lookup x=some .cell/\∀L,((cellsFrom L fd.scope.names []).lookup x).isSome=true)
 co:fd.scope.isCoroutine=false
 gen:fd.scope.isGenerator=false
 kind:fd.scope.kind=.function
 pre:∃rest,ns=ps++rest
 nodup:ns.Nodup
 empty:("":jZ)∉ns
 cells:∀L,((cellsFrom L fd.scope.names []).map (·.1)).Nodup
theorem KG{prog:lF}{w:jY}{A:kC}{xI:j6}{n:Nat}{a:jN}{o:nJ}{fd:nY}{body:List md}{ps ns:List jZ}{avs:List AV}{r:AV}{args:Args}{vs:List jD}{O:Ap}{s:jG}{Q:jD->jG->Prop}{E:jD->jG->Prop}
 (X:Bf fd body ps ns)(ho:xI.get? a=some o)(hd:o.data=.func fd)(hlim:xI.NoLimit)(hcd:xI.CodeRec fd.code fd.qualname)
 (room:A0 A (n+1))(hk:HK xI s)(own:CJ O s)(hbind:uz s fd args (ps.zip vs))(hlen:vs.length=ps.length)(rv:DD O s.heap avs vs)
 (hB:Nm (Dx prog w A s fd a ns O)->A0 (A.deeper (callEnvC fd s.heap.objs.size a)) n->Ex (Dx prog w A s fd a ns O) (Bi avs (ns.length-ps.length)) body (λaf _=>af=.ret r))
 (q:∀v s',kZ s s'->VR O s'.heap r v->Q v s'):wpAny (model prog w) A (call (.ref a) args.pos args.kw) Q E s:=by
 delta prog w A xI n a o fd body ps ns avs args vs O s Q E at r X ho hd hlim hcd room hk own hbind hlen rv hB q
 have hkind:∀x∈ps.zip vs,fd.scope.names.lookup x.1=some .local\/(fd.scope.names.lookup x.1=some .cell/\((cellsFrom (s.heap.objs.size+1) fd.scope.names []).lookup x.1).isSome=true):=by
  intro x hx
  rcases X.kinds x.1 (xl hx).1 with h|⟨h,h'⟩
  ·exact .inl h
  ·exact .inr ⟨h,h' _⟩
 obtain⟨rest,hns⟩:=X.pre
 have hps:(ps.zip vs).map (·.1)=ps:=wS (tF hlen.symm)
 have hpsn:((ps.zip vs).map (·.1)).Nodup:=by
  rw[hps]
  have:=X.nodup
  rw[hns] at this
  exact(tB.mp this).1
 refine mU (wJ (by have:=room.depth;rwa[this]) (hk _ _ ho) hd X.co X.gen X.body (E7 hcd λc oc vs tq h1 h2 h3=>(Ug c oc vs tq h1 (hk _ _ h2) h3)) (hbind _ _ _ _ ?_))
 rw[X.clo]
 refine q8 X.kind hkind λenv he s' x=>?_
 subst he
 refine⟨(hlim.keeps hk).keeps x.toInCall.keep,codeAny_func ?_⟩
 have hfresh:s.heap.get? s.heap.objs.size=none:=gn λo' e=>absurd (kt e) (lr _)
 have hnO:¬O.has s.heap.objs.size:=by
  rintro⟨p,hp,e⟩
  obtain⟨o',ho'⟩:=own.live p hp
  rw[e] at ho'
  exact absurd (kt ho') (lr _)
 have N:Nm (Dx prog w A s fd a ns O):=by
  refine⟨X.nodup,X.kind,x.apart,X.cells _,?_⟩
  intro b zz1;refine Af zz1 λp hp e=>?_
  rcases jI.mp hp with rfl|hp
  ·exact .inl e.symm
  ·exact .inr (e▸own.live p hp)
 have hL:(ps.zip vs).length=ps.length:=by rw[List.length_zip,hlen,Nat.min_self]
 have hk2:s'.heap.get? s.heap.objs.size≠none:=by
  refine CG x.toInCall.ns λo' _ _ e _=>?_
  intro h
  have e:s'.heap.get? s.heap.objs.size=some o':=e
  exact B0 h e
 have t:St (Dx prog w A s fd a ns O) (("",s.heap.objs.size)::O) (Bi avs (ns.length-ps.length)) s':=by
  refine⟨x.toInCall.keep,(Ac _ x.toInCall.ns λi y b e e'=>?_),λy c e=>?_,?_,λp hp=>?_,λ_ h=>h,(Ac _ (.head _) rfl),hfresh⟩
  ·have e:ns[i]?=some y:=e
   unfold Bi at e'
   have hi:i<avs.length:=by
    by_cases hi:i<avs.length
    ·exact hi
    ·rw[uK (by simpa using om hi)] at e'
     obtain⟨_,e'⟩:=jM.mp e'
     simp at e'
   rw[pb (by simpa using hi),kc] at e'
   refine Af (j8.mp e') λav hav e'=>?_
   (replace e':=si e';subst e')
   refine Af (TH rv hav) λv hv rv1=>?_
   have hip:i<ps.length:=by rw[<-hlen,<-rv.length] at *;exact(jM.mp hv).1
   have hy:ps[i]?=some y:=by rw[hns,pb hip] at e;exact e
   have hz:(ps.zip vs)[i]?=some (y,v):=by rw[uX];exact⟨hy,hv⟩
   refine Ac v ?_ ?_
   ·rcases X.kinds y (kx hy) with hl|⟨hl,hc⟩
    ·exact .inl ⟨hl,PI hpsn hz hl⟩
    ·obtain⟨c,hc⟩:=uH.mp (hc (s.heap.objs.size+1))
     refine .inr ⟨hl,c,hc,?_⟩
     have:=x.cell y c hc
     rwa[PJ hpsn hz hl] at this
   ·show VR _ _ av v
    cases av with
    | py d=>
     refine Af rv1 λas r q=>?_
     refine Ac as (Ak.keeps x.toInCall.keep r) ?_
     rintro b hb ⟨p,hp,e⟩
     rcases jI.mp hp with rfl|hp
     ·obtain⟨o',ho'⟩:=BA r b hb
      have e:s.heap.objs.size=b:=e
      rw[<-e,hfresh] at ho';exact B6 ho'
     ·exact q b hb (Ac p hp e)
    | «by» b=>exact rv1
    | raw u=>exact rv1
    | st R ok=>
     refine Af rv1 λas r q=>?_
     refine Ac as (ok.keeps r x.toInCall.keep) ?_
     rintro b hb ⟨p,hp,e⟩
     rcases jI.mp hp with rfl|hp
     ·obtain⟨o',ho'⟩:=ok.live r b hb
      have e:s.heap.objs.size=b:=e
      rw[<-e,hfresh] at ho';exact B6 ho'
     ·exact q b hb (Ac p hp e)
    | obj P=>
     refine C9 rv1 λa1 o e1 g p q z=>?_
     refine C5 a1 o e1 (x.toInCall.keep _ _ g) p ?_ z
     rintro⟨p,hp,e⟩
     rcases jI.mp hp with rfl|hp
     ·have e:s.heap.objs.size=a1:=e
      rw[<-e,hfresh] at g;exact B6 g
     ·exact q (Ac p hp e)
  ·exact Ag _ (x.cell y c e)
  ·rw[kO,mf]
   refine⟨λhm=>?_,own.nodup⟩
   obtain⟨p,hp,e⟩:=kq.mp hm
   exact hnO (Ac p hp e)
  ·rcases jI.mp hp with rfl|hp
   ·refine CG x.toInCall.ns λo' _ _ e _=>?_;exact Ag o' e
   ·obtain⟨o',e⟩:=own.live p hp;exact Ag o' (x.toInCall.keep _ _ e)
 refine hB N room.deeper _ s' _ _ t λO' fl af σ' s'' f t' hfl hP=>?_
 subst hP
 refine Af hfl λv zz1 rv'=>?_;clear hfl;obtain rfl:=zz1
 refine q v s'' ?_ ?_
 ·refine B1 x.toInCall.same λh1 tk1 zz1=>?_;obtain rfl:=zz1
  refine B1 f.alike λh2 tk2 zz1=>?_;obtain rfl:=zz1
  exact AT h2 tk2 rfl t'.keep
 ·cases r with
  | py d=>
   refine Af rv' λas r q=>?_
   exact Ac as r λb hb hO=>q b hb (t'.sub b (Af hO λp hp e=>(Ac p (.tail _ hp) e)))
  | «by» b=>exact rv'
  | raw u=>exact rv'
  | st R ok=>
   refine Af rv' λas r q=>?_
   exact Ac as r λb hb hO=>q b hb (t'.sub b (Af hO λp hp e=>(Ac p (.tail _ hp) e)))
  | obj P=>refine C9 rv' λa1 o e1 g p q z=>?_;exact C5 a1 o e1 g p (λhO=>q (t'.sub a1 (Af hO λp hp e=>(Ac p (.tail _ hp) e)))) z
theorem I3{prog:lF}{w:jY}{xI:j6}{n:Nat}{a:jN}{o:nJ}{fd:nY}{body:List md}{ps ns:List jZ}{avs:List AV}{r:AV}
 (X:Bf fd body ps ns)(ho:xI.get? a=some o)(hd:o.data=.func fd)(hlim:xI.NoLimit)(hcd:xI.CodeRec fd.code fd.qualname)(hlen:avs.length=ps.length)
 (hbind:∀s vs,HK xI s->vs.length=ps.length->uz s fd ⟨vs,[]⟩ (ps.zip vs))
 (hB:∀A s O,HK xI s->Nm (Dx prog w A s fd a ns O)->A0 (A.deeper (callEnvC fd s.heap.objs.size a)) n->Ex (Dx prog w A s fd a ns O) (Bi avs (ns.length-ps.length)) body (λaf _=>af=.ret r)):Fn prog w xI (n+1) (.ref a) [] avs [] r:=by
 intro A O s vs kvs Q E room hk own rv _ q
 have hl:vs.length=ps.length:=by rw[rv.length,hlen]
 exact KG (args:=⟨vs,[]⟩) X ho hd hlim hcd room hk own (hbind s vs hk hl) hl rv (hB A s O hk) q
theorem Hg{prog:lF}{w:jY}{xI:j6}{n:Nat}{a:jN}{o:nJ}{fd:nY}{body:List md}{ps ns:List jZ}{kws:List jZ}{avs kavs davs:List AV}{dv:List jD}{r:AV}
 (X:Bf fd body ps ns)(ho:xI.get? a=some o)(hd:o.data=.func fd)(hlim:xI.NoLimit)(hcd:xI.CodeRec fd.code fd.qualname)(hlen:avs.length+kavs.length+davs.length=ps.length)(hdv:∀O h,DD O h davs dv)
 (hbind:∀s vs kvs,HK xI s->vs.length=avs.length->kvs.length=kavs.length->uz s fd ⟨vs,kws.zip kvs⟩ (ps.zip ((vs++kvs)++dv)))
 (hB:∀A s O,HK xI s->Nm (Dx prog w A s fd a ns O)->A0 (A.deeper (callEnvC fd s.heap.objs.size a)) n->Ex (Dx prog w A s fd a ns O) (Bi ((avs++kavs)++davs) (ns.length-ps.length)) body (λaf _=>af=.ret r)):Fn prog w xI (n+1) (.ref a) kws avs kavs r:=by
 intro A O s vs kvs Q E room hk own rv rk q
 have hl:((vs++kvs)++dv).length=ps.length:=by rw[j7,j7,rv.length,rk.length,(hdv O s.heap).length,hlen]
 exact KG (args:=⟨vs,kws.zip kvs⟩) X ho hd hlim hcd room hk own (hbind s vs kvs hk rv.length rk.length) hl ((rv.append rk).append (hdv O s.heap)) (hB A s O hk) q
section
variable {Γ:Cx} {σ:AX} {pos:mi}
theorem YW{f e:kJ}{es:List kJ}{xI:j6}{n:Nat}{a:jN}{o:nJ}{fd:nY}{avs:List AV}{r:AV}(F:Fn Γ.prog Γ.w xI n (.ref a) [] avs [] r)(room:A0 Γ.A n)(hk:HK xI Γ.s₀)(ho:xI.get? a=some o)(hd:o.data=.func fd)
 (hf:Ev Γ σ f (.raw (.ref a)))(ha:XJ Γ σ (e::es) avs)(hp:autoParam ((e::es).all AE=true) aR)
 (he:autoParam (eval (.Call f (e::es) [] pos) Γ.env=(do kY pos (<-eval f Γ.env) [] (backTo pos (starEach (e::es) Γ.env)) (ma pos (ly [] Γ.env)))) aR):Ev Γ σ (.Call f (e::es) [] pos) r:=by
 intro O s Q E t q
 refine qS (hf O s _ E t λv s1 t1 k1 r1=>?_) he
 obtain rfl:v=.ref a:=r1
 refine callWith_function (o:=o) (fd:=fd) (AL hp (ha O s1 _ _ E t1 λvs s2 t2 k2 r2=>⟨⟨t2.keep _ _ (hk _ _ ho),hd⟩,?_⟩))
 exact F Γ.A O s2 vs [] Q E room (λb o e=>t2.keep _ _ (hk _ _ e)) t2.ownOk r2 trivial λv s3 k3 r3=>q v s3 (t2.of_keeps k3) (Keeps.tr (Keeps.tr k1 k2) k3) r3
end
theorem Keeps.pushT(s:jG)(o:nJ)(tk:Nat):kZ s {s with heap:=s.heap.push o,toks:=tk}:=AT _ tk rfl λ_ _ e=>jH _ e
theorem EE{h:j6}{vs us:List jD}{ds es:List jQ}{as bs:List jN}(x:Ae h vs ds as)(y:Ae h us es bs):Ae h (vs++us) (ds++es) (as++bs):=
 Ae.ind (P:=λvs ds as=>Ae h (vs++us) (ds++es) (as++bs)) y (λr _ ih=>by rw[l8];exact .cons r ih) x
theorem FG{h:j6}:∀{vs:List jD} {ns:List Int} {as:List jN},Ae h vs (ns.map .int) as->tA vs ns/\as=[]:=by
 intro vs ns
 induction ns generalizing vs with
 | nil=>intro as r;cases Bg r;cases r;exact⟨.nil,rfl⟩
 | cons n ns ih=>
  intro as r
  refine Cz (AK r) λv ws bs cs zz1 r1 r2 zz2=>?_;obtain rfl:=zz1;obtain rfl:=zz2
  obtain⟨h1,rfl⟩:=ih r2
  cases r1
  exact⟨.cons _ _ h1,rfl⟩
theorem FE{h:j6}:∀{vs:List jD} {ns:List jZ} {as:List jN},Ae h vs (ns.map .str) as->StrsAre vs ns/\as=[]:=by
 intro vs ns
 induction ns generalizing vs with
 | nil=>intro as r;cases Bg r;cases r;exact⟨.nil,rfl⟩
 | cons n ns ih=>
  intro as r
  refine Cz (AK r) λv ws bs cs zz1 r1 r2 zz2=>?_;obtain rfl:=zz1;obtain rfl:=zz2
  obtain⟨h1,rfl⟩:=ih r2
  cases r1
  exact⟨.cons _ _ h1,rfl⟩
theorem FF{h:j6}{vs:List jD}{ds:List jQ}{as:List jN}(r:Ae h vs ds as)(is:List Nat):∃bs,Ae h (is.filterMap (vs[·]?)) (is.filterMap (ds[·]?)) bs/\∀b∈bs,b∈as:=by
 induction is with
 | nil=>exact Ac [] .nil λ_ h=>nomatch h
 | cons i is ih=>
  refine Af ih λbs r1 q1=>?_
  have hl:=Al r
  cases e:ds[i]? with
  | none=>
   have e':vs[i]?=none:=by rw[List.getElem?_eq_none_iff] at e ⊢;rwa[hl,e]
   rw[vc e',vc e]
   exact Ac bs r1 q1
  | some d=>
   refine BD (B4 r e) λv cs e' r2 q2=>?_
   rw[vb e',vb e]
   exact Ac (cs++bs) (.cons r2 r1) λb hb=>(jW.mp hb).elim (q2 b) (q1 b)
section
variable {Γ:Cx} {σ:AX} {pos:mi}
noncomputable def bD (Γ:Cx) (σ:AX) (e:Option kJ) (p:Option Int):Prop:=
 ∀(O:Ap) (s:jG) (Q:jD->jG->Prop) (E:jD->jG->Prop),St Γ O σ s->
  (∀v s',St Γ O σ s'->kZ s s'->IsPart v p->Q v s')->wpAny (model Γ.prog Γ.w) Γ.A (evalPart e Γ.env) Q E s
theorem E9:bD Γ σ none none:=λO s Q E t q=>jL (q _ s t (Keeps.re s) .none)
theorem GM{e:kJ}{i:Int}(h:Ev Γ σ e (.py (.int i))):bD Γ σ (some e) (some i):=by
 intro O s Q E t q
 exact h O s Q E t λv s' t' k r=>by
  obtain⟨tk,rfl⟩:=r.int_inv
  exact q _ s' t' k (.int _ _)
noncomputable def F5 (ds:List jQ) (lo hi st:Option Int):List jQ:=
 ((sliceRange (sliceBounds lo hi st ds.length).1 (sliceBounds lo hi st ds.length).2.1 (sliceBounds lo hi st ds.length).2.2).filterMap (ds[·]?))
theorem EB{h:j6}{vs:Array jD}{ds:List jQ}{as:List jN}(r:Ae h vs.toList ds as)(lo hi st:Option Int):∃bs,Ae h (slicePick vs lo hi st).toList (F5 ds lo hi st) bs/\∀b∈bs,b∈as:=by
 have hl:vs.size=ds.length:=by rw[<-Al r];simp
 refine Af (FF r (sliceRange (sliceBounds lo hi st ds.length).1 (sliceBounds lo hi st ds.length).2.1 (sliceBounds lo hi st ds.length).2.2)) λbs r1 q1=>?_
 refine Ac bs ?_ q1
 unfold slicePick F5
 rw[hl]
 simpa using r1
theorem Hh{value:kJ}{lower upper:Option kJ}{p:mi}{ds:List jQ}{lo hi:Option Int}(hv:Ev Γ σ value (.py (.list ds)))(hl:bD Γ σ lower lo)(hu:bD Γ σ upper hi)(hs:ds.length<=100000)
 (ht:autoParam (∀o r,letTemporaryGo value o r=pure ()) aI):XO Γ σ (.Subscript value (.Slice lower upper none p) pos) (F5 ds lo hi none):=by
 intro O s Q E t q
 refine wI ut.lookup (hv O s _ E t λo s1 t1 k1 r1=>?_) ht
 refine w6 (hl O s1 _ E t1 λl s2 t2 k2 pl=>hu O s2 _ E t2 λu s3 t3 k3 pu=>jL ?_)
 refine HZ ((r1.kept (Keeps.tr k2 k3)).list_inv) λa vs as zz1 hl' rs ha qs=>?_;obtain rfl:=zz1
 have hsz:vs.size=ds.length:=by rw[<-Al rs];simp
 have hl4:(s3.heap.push {cls:=.type "slice",data:=.fields #[l,u,.none]}).IsList a vs:=IsList.kept hl' λ_ _ e=>jH _ e
 refine⟨hl4.typeIs,vX (lo:=lo) (hi:=hi) (st:=none) hl4 (rf ..) pl pu .none (by simp) ?_ (by rw[hsz,sizeLine_eq];rwa[hs])⟩
 refine Af (EB rs lo hi none) λbs r2 q2=>?_
 have kk:=Keeps.tr (Keeps.tr (Keeps.tr k1 k2) k3) (Keeps.push s3 {cls:=.type "slice",data:=.fields #[l,u,.none]})
 have k4:=Keeps.push {s3 with heap:=s3.heap.push {cls:=.type "slice",data:=.fields #[l,u,.none]}} {cls:=.type "list",data:=.seq (slicePick vs lo hi none)}
 have r3:=Ae.keeps (λ_ _ e=>jH {cls:=.type "slice",data:=.fields #[l,u,.none]} e) r2
 refine q _ _ bs _ (Keeps.tr kk k4) (AW kk (jP _)) (Ag 0 (jS _ rfl)) (Ae.keeps (λ_ _ e=>jH _ e) r3) (λb hb=>qs b (q2 b hb)) λhm=>?_
 refine AR (Bv r3 _ hm) λo e=>?_
 exact absurd (kt e) (lr _)
theorem Rm{value st:kJ}{lower upper:Option kJ}{p:mi}{ds:List jQ}{lo hi:Option Int}{c:Int}(hv:Ev Γ σ value (.py (.list ds)))(hl:bD Γ σ lower lo)(hu:bD Γ σ upper hi)(hst:Ev Γ σ st (.py (.int c)))(hc:c≠0)(hs:ds.length<=100000)
 (ht:autoParam (∀o r,letTemporaryGo value o r=pure ()) aI):XO Γ σ (.Subscript value (.Slice lower upper (some st) p) pos) (F5 ds lo hi (some c)):=by
 intro O s Q E t q
 refine wpAny_Subscript_Slice_step ut.lookup (hv O s _ E t λo s1 t1 k1 r1=>?_) ht
 refine w6 (hl O s1 _ E t1 λl s2 t2 k2 pl=>hu O s2 _ E t2 λu s3' t3' k3' pu=>GM hst O s3' _ E t3' λz s3 t3 k3'' pz=>?_)
 have k3:=Keeps.tr k3' k3''
 refine HZ ((r1.kept (Keeps.tr k2 k3)).list_inv) λa vs as zz1 hl' rs ha qs=>?_;obtain rfl:=zz1
 have hsz:vs.size=ds.length:=by rw[<-Al rs];simp
 have hl4:(s3.heap.push {cls:=.type "slice",data:=.fields #[l,u,z]}).IsList a vs:=IsList.kept hl' λ_ _ e=>jH _ e
 refine⟨hl4.typeIs,vX (lo:=lo) (hi:=hi) (st:=some c) hl4 (rf ..) pl pu pz (by simpa using hc) ?_ (by rw[hsz,sizeLine_eq];rwa[hs,hsz])⟩
 refine Af (EB rs lo hi (some c)) λbs r2 q2=>?_
 have kk:=Keeps.tr (Keeps.tr (Keeps.tr k1 k2) k3) (Keeps.push s3 {cls:=.type "slice",data:=.fields #[l,u,z]})
 have k4:=Keeps.push {s3 with heap:=s3.heap.push {cls:=.type "slice",data:=.fields #[l,u,z]}} {cls:=.type "list",data:=.seq (slicePick vs lo hi (some c))}
 have r3:=Ae.keeps (λ_ _ e=>jH {cls:=.type "slice",data:=.fields #[l,u,z]} e) r2
 refine q _ _ bs _ (Keeps.tr kk k4) (AW kk (jP _)) (Ag 0 (jS _ rfl)) (Ae.keeps (λ_ _ e=>jH _ e) r3) (λb hb=>qs b (q2 b hb)) λhm=>?_
 refine AR (Bv r3 _ hm) λo e=>?_
 exact absurd (kt e) (lr _)
theorem Ps{f e:kJ}{ns:List Int}(hh:Γ.A.handled=none)(hf:Ev Γ σ f (.raw (.type "bytes")))(he:Ev Γ σ e (.py (.list (ns.map .int))))(hr:∀n∈ns,0<=n/\n<256)(hs:ns.length<=100000)(hp:autoParam (AE e=true) aR)
 (hc:autoParam (eval (.Call f [e] [] pos) Γ.env=(do kY pos (<-eval f Γ.env) [] (backTo pos (starEach [e] Γ.env)) (ma pos (ly [] Γ.env)))) aR):Ev Γ σ (.Call f [e] [] pos) (.by (byteArr ns)):=
 Et hf (Ab he Ah hp) (λO s vs Q E hO rv q=>by
  refine Af rv.one λv zz1 r=>?_;obtain rfl:=zz1
  refine Cf r.list_inv λa vs as zz1 hl rs _=>?_;obtain rfl:=zz1
  obtain⟨hi,_⟩:=FG rs
  refine call_bytes_ints (vs:=vs.toList) (by simpa using hl) hi hr ?_ hh λh' t k hk=>q _ _ (AT h' k rfl hk) (Ag _ rfl)
  rw[Al rs,jK,sizeLine_eq];rwa[hs]) (by rw[lE,hp];rfl) hc
theorem aG{f e:kJ}{n:Int}(hf:Ev Γ σ f (.raw (.builtin "chr")))(he:Ev Γ σ e (.py (.int n)))(h0:0<=n)(h1:n<=1114111)(hp:autoParam (AE e=true) aR)
 (hc:autoParam (eval (.Call f [e] [] pos) Γ.env=(do kY pos (<-eval f Γ.env) [] (backTo pos (starEach [e] Γ.env)) (ma pos (ly [] Γ.env)))) aR):Ev Γ σ (.Call f [e] [] pos) (.py (.str ⟨#[n.toNat]⟩)):=
 CN hf (Ab he Ah hp) (λO s vs Q E hO rv q=>by
  refine Af rv.one λv zz1 r=>?_;obtain rfl:=zz1
  obtain⟨t,rfl⟩:=r.int_inv
  exact chr_of_range h0 h1 (q _ _ Keeps.rfl' (VR.str ..))) (by rw[lE,hp];rfl) hc
theorem Pq{f e:kJ}{n:Int}(hf:Ev Γ σ f (.raw (.type "str")))(he:Ev Γ σ e (.py (.int n)))(hn:n.natAbs<2^64)(hp:autoParam (AE e=true) aR)
 (hc:autoParam (eval (.Call f [e] [] pos) Γ.env=(do kY pos (<-eval f Γ.env) [] (backTo pos (starEach [e] Γ.env)) (ma pos (ly [] Γ.env)))) aR):Ev Γ σ (.Call f [e] [] pos) (.py (.str (toString n))):=
 Et hf (Ab he Ah hp) (λO s vs Q E hO rv q=>by
  refine Af rv.one λv zz1 r=>?_;obtain rfl:=zz1
  obtain⟨t,rfl⟩:=r.int_inv
  exact PySem.P.str_of_int (by
   by_cases h0:n.natAbs=0
   ·rw[h0];decide
   ·have:=(v9 h0).mpr hn;rwa[this]) (q _ _ Keeps.rfl' (VR.str ..))) (by rw[lE,hp];rfl) hc
theorem Xc{f x y:kJ}{a b:Int}(hh:Γ.A.handled=none)(hf:Ev Γ σ f (.raw (.builtin "min")))(hx:Ev Γ σ x (.py (.int a)))(hy:Ev Γ σ y (.py (.int b)))(hp:autoParam ([x,y].all AE=true) aR)
 (hc:autoParam (eval (.Call f [x,y] [] pos) Γ.env=(do kY pos (<-eval f Γ.env) [] (backTo pos (starEach [x,y] Γ.env)) (ma pos (ly [] Γ.env)))) aR):Ev Γ σ (.Call f [x,y] [] pos) (.py (.int (if b<a then b else a))):=by
 have hp':AE x=true/\AE y=true:=by simpa using hp
 exact CN hf (Ab hx (Ab hy Ah hp'.2) hp'.1) (λO s vs Q E hO rv q=>by
  refine BD rv.two λv u zz1 r r'=>?_;obtain rfl:=zz1
  obtain⟨t,rfl⟩:=r.int_inv
  obtain⟨t',rfl⟩:=r'.int_inv
  refine min_two_ints hh λh' tk hk=>?_
  by_cases h:b<a
  ·rw[if_pos h];rw[if_pos h] at q;exact q _ _ (AT h' tk rfl hk) (VR.int ..)
  ·rw[if_neg h];rw[if_neg h] at q;exact q _ _ (AT h' tk rfl hk) (VR.int ..)) hp hc
theorem J9:∀{vs:List jD} {ns:List Int},tA vs ns->∃xs:Array (Int×uw),vs.toArray=w9 xs/\xs.toList.map (·.1)=ns:=by
 intro vs ns r
 induction r with
 | nil=>exact Ac (#[]) (by simp[w9]) rfl
 | cons n t h ih=>
  refine Af ih λxs e1 e2=>?_
  refine⟨((n,t)::xs.toList).toArray,?_,by simp[e2]⟩
  have:(xs.map λp=>jT p.1 p.2).toList=_:=congrArg Array.toList e1.symm
  simp only[w9,pR] at *
  simp[this]
theorem aA{f e:kJ}{ns:List Int}(hh:Γ.A.handled=none)(hf:Ev Γ σ f (.raw (.builtin "sum")))(he:Ev Γ σ e (.py (.list (ns.map .int))))(hp:autoParam (AE e=true) aR)
 (hc:autoParam (eval (.Call f [e] [] pos) Γ.env=(do kY pos (<-eval f Γ.env) [] (backTo pos (starEach [e] Γ.env)) (ma pos (ly [] Γ.env)))) aR):Ev Γ σ (.Call f [e] [] pos) (.py (.int ns.sum)):=
 CN hf (Ab he Ah hp) (λO s vs Q E hO rv q=>by
  refine Af rv.one λv zz1 r=>?_;obtain rfl:=zz1
  refine Cf r.list_inv λa vs as zz1 hl rs _=>?_;obtain rfl:=zz1
  obtain⟨hi,_⟩:=FG rs
  refine Af (J9 hi) λxs e1 e2=>?_
  have e1:vs=w9 xs:=by simpa using e1
  refine sum_intListG hh (e1▸hl) λh' tk t' hk=>?_
  have:preSum (numAt xs) xs.size=ns.sum:=by
   rw[preSum_eq,<-e2,rA (by simp)]
  rw[this]
  exact q _ _ (AT h' tk rfl hk) (VR.int ..)) (by rw[lE,hp];rfl) hc
theorem Ve{l r:kJ}{x:jZ}{n:Int}(hl:Ev Γ σ l (.py (.str x)))(hr:Ev Γ σ r (.py (.int n)))(h0:0<=n)(h1:n<=4)(hx:x.length=1):Ev Γ σ (.BinOp l .Mult r pos) (.py (.str ⟨(lg n.toNat x.cps).foldl (·++·) #[]⟩)):=
 De hl hr λO s u v Q E rx ry q=>by
  obtain⟨tx,rfl⟩:=rx.str_inv;obtain⟨ty,rfl⟩:=ry.int_inv
  refine PySem.P.mul_str (by rw[sk];exact⟨decide_eq_false (by rwa[h0]),decide_eq_false (by rwa[h1])⟩) (λhn _=>?_) (λhn _=>?_) ?_
  ·rw[hx]
   have:n=1\/n=2\/n=3\/n=4:=by rwa[h1,hn]
   rcases this with rfl|rfl|rfl|rfl<;>decide
  ·rw[hx]
   have:n=1\/n=2\/n=3\/n=4:=by rwa[h1,hn]
   rcases this with rfl|rfl|rfl|rfl<;>decide +kernel
  ·split
   ·have:n=0:=by(rename_i z0;rwa[h0,z0])
    subst this
    exact⟨by decide,q _ _ Keeps.rfl' (VR.str ..)⟩
   ·split
    ·have:n=1:=by
      rename_i h
      simpa[hx] using h
     subst this
     exact q _ _ (Keeps.re s) (by
      have:(⟨(lg (1:Int).toNat x.cps).foldl (·++·) #[]⟩:jZ)=x:=uS (by simp)
      rw[this];exact VR.str ..)
    ·refine⟨?_,q _ _ Keeps.rfl' (VR.str ..)⟩
     have:n=1\/n=2\/n=3\/n=4\/n=0:=by(rename_i z0 _;rwa[h1,z0])
     have hz:x.cps.size=1:=hx
     show sY _<=sizeLine
     rw[sizeLine_eq]
     rcases this with rfl|rfl|rfl|rfl|rfl<;>simp[sY,hz]
theorem GO{e:kJ}{x:jZ}{k:Nat}{p ap cp:mi}{pl:vi Bool}{ys:List jZ}(he:Ev Γ σ e (.py (.list (ys.map .str))))(hx:x.length<=16)(hw:(ys.map (·.length)).sum+ys.length<=1048576)(hp:autoParam (AE e=true) aR)
 (hc:autoParam (eval (.Call (.Attribute (.Constant (.str x) k p) "join" ap) [e] [] cp) Γ.env=(do
  let ov<-eval (.Constant (.str x) k p) Γ.env
  mS ap.atName
  let (f,first)<-mq [ov] (nz ov "join" pl)
  kY cp f first (backTo cp (starEach [e] Γ.env)) [])) aR):Ev Γ σ (.Call (.Attribute (.Constant (.str x) k p) "join" ap) [e] [] cp) (.py (.str (mO x ys))):=by
 intro O s Q E t q
 have h0:Ev Γ σ (.Constant (.str x) k p) (.py (.str x)):=BF
 refine mj ?_ hc
 refine h0 O s _ E t λv s1 t1 k1 r1=>?_
 obtain⟨tv,rfl⟩:=r1.str_inv
 refine @mM _ _ _ _ _ _ _ _ _ _ (vv _ _ _) F.plainAttrs_str F.slot_str_join F.type_str_join (λ_ e=>nomatch e) ?_
 refine callWith_builtin (Bh (by rw[lE,hp];rfl)) (AL (by rw[lE,hp];rfl) (Ab he Ah hp O s1 _ _ E t1 λus s2 t2 k2 r2=>?_))
 refine Af r2.one λv zz1 rv=>?_;obtain rfl:=zz1
 refine Cf rv.list_inv λa vs as zz1 hl rs _=>?_;obtain rfl:=zz1
 obtain⟨hi,_⟩:=FE rs
 exact join_listW hl hi hx hw λt' k=>q _ _ (t2.keeps λ_ _ e=>e) (Keeps.tr (Keeps.tr k1 k2) Keeps.rfl') (VR.str ..)
theorem eh{l r:kJ}{a b:jQ}(hl:Ev Γ σ l (.py a))(hr:Ev Γ σ r (.py b))(ha:pD a=true)(hb:pD b=true)(hu:Γ.A.units+64<cLine)(hm:autoParam (behindInMarks .NotEq r=false) aR):Tv Γ σ (.Compare l [.NotEq] [r] pos) (!PyData.eqv a b):=
 Eh hl hr (λO s x y Q E rx ry q=>by
  refine Af rx λas rx _=>?_;refine Af ry λbs ry _=>?_
  exact SeqAt.compareNe_shaped (rx.lib (pE ha)) (ry.lib (pE hb)) ha hb hu (q s (Keeps.re s))) hm
theorem ZA{l r:kJ}{u v:jD}(hl:Ev Γ σ l (.raw u))(hr:Ev Γ σ r (.raw v))(hp:plainIs u v=true)(hm:autoParam (behindInMarks .Is r=false) aR):Tv Γ σ (.Compare l [.Is] [r] pos) (u == v):=
 Eh hl hr (λO s x y Q E rx ry q=>by
  obtain rfl:x=u:=rx
  obtain rfl:y=v:=ry
  exact vu hp (q s (Keeps.re s))) hm
theorem G3{l r:kJ}{u:AV}{c:Bool}(hl:Ev Γ σ l u)(hr:Ev Γ σ r (.py .none))(hv:∀O h v,VR O h u v->(v == .none)=c)(hm:autoParam (behindInMarks .Is r=false) aR):Tv Γ σ (.Compare l [.Is] [r] pos) c:=
 Eh hl hr (λO s x y Q E rx ry q=>by
  obtain⟨_,ry,_⟩:=ry
  cases ry
  refine is_none_gen ?_
  rw[hv _ _ _ rx];exact q s (Keeps.re s)) hm
end
noncomputable def Rx (scope:sZ) (ns:List jZ):Bool:=
 scope.names.all (λy=>y.2 != .cell)&&scope.kind == .function&&scope.names.all (λy=>y.2 != .local || scope.names.lookup y.1 == some .local)&&decide ns.Nodup&&!ns.contains ""
theorem BS.of{Γ:Cx}{σ:AX}{scope:sZ}{cl:List (jZ×jN)}{ns:List jZ}{σ0:AX}(h:Rx scope ns=true)(hclos:vw scope Γ.env=pure cl)(hap:cl.Pairwise λx y=>x.2≠y.2)(hnm:(cl.map (·.1)).Nodup)
 (hsub:∀x c,(x,c)∈cl->Γ.env.cells.lookup x=some c)
 (held:∀(C:jN) (i:Nat) (x:jZ) (b:Bd),ns[i]?=some x->σ0[i]?=some (some b)->∃(j:Nat) (av:AV) (c:jN),b=.val av/\Γ.ns[j]?=some x/\σ[j]?=some (some (.val av))/\Γ.env.kindOf x=some .cell/\Γ.env.cells.lookup x=some c/\cl.lookup x=some c/\(xa scope cl C Γ.env).kindOf x=some .cell):BS Γ σ scope cl ns σ0:=by
 simp only[Rx,kL,oO,decide_eq_true_eq] at h
 obtain⟨⟨⟨⟨h1,h2⟩,h3⟩,h4⟩,h5⟩:=h
 refine⟨hclos,λy hy=>?_,beq_iff_eq.mp h2,λy hy hl=>?_,λC=>⟨h4,?_,hap,hnm,?_⟩,λhm=>?_,hsub,held⟩
 ·have:=kA.mp h1 y hy
  simpa using this
 ·have:=kA.mp h3 y hy
  rw[hl] at this
  simpa using this
 ·exact beq_iff_eq.mp h2
 ·intro a zz1;refine Af zz1 λp hp e=>?_
  obtain rfl:=jJ.mp hp
  exact .inl e.symm
 ·have:ns.contains ("":jZ)=true:=rT.mpr hm
  rw[this] at h5;exact lN h5
theorem BS.none{Γ:Cx}{σ:AX}{scope:sZ}{ns:List jZ}(h:Rx scope ns=true)(hclos:vw scope Γ.env=pure []):BS Γ σ scope [] ns (lg ns.length none):=by
 refine .of h hclos .nil uI (λ_ _ h=>nomatch h) λC i x b e e'=>?_
 obtain⟨_,e'⟩:=jM.mp e'
 simp at e'
theorem Le.none{k:Nat}{σ:AX}:Le (lg k none) σ:=by
 intro i b e
 obtain⟨_,e⟩:=jM.mp e
 simp at e
theorem UZ{prog:lF}{w:jY}{A:kC}{E:jD->jG->Prop}{s:jG}{l b:jN}{vs ws:Array jD}{Q:jD->jG->Prop}(hl:s.heap.IsList l vs)(hb:s.heap.IsList b ws)
 (h:Q (.ref s.heap.objs.size) {s with heap:=s.heap.push {cls:=.type "list",data:=.seq (vs++ws)}})(hsz:vs.size+ws.size<=sizeLine):wpAny (model prog w) A (binaryOp .Add (.ref l) (.ref b)) Q E s:=by
 obtain⟨⟨cls,dd,data,sl⟩,ho,hc,n,hd⟩:=id hl
 obtain⟨⟨cls2,dd2,data2,sl2⟩,ho2,hc2,n2,hd2⟩:=id hb
 simp only at hc hd hc2 hd2
 subst hc hd hc2 hd2
 exact concat_meets (Ac _ ho rfl) (Ac _ ho2 rfl) noFill_list_add seq_list_add PySem.F.slot_list_add PySem.F.entry_list_add (PySem.F.args_list_add_2 _ _) (list_addW l b vs ws n n2 dd dd2 sl sl2 hsz) ⟨ho,ho2,h⟩
section
variable {Γ:Cx} {σ:AX} {pos:mi}
theorem GN{l r:kJ}{ds es:List jQ}(hl:Ev Γ σ l (.py (.list ds)))(hr:Ev Γ σ r (.py (.list es)))(hs:ds.length+es.length<=100000):XO Γ σ (.BinOp l .Add r pos) (ds++es):=by
 intro O s Q E t q
 refine wpAny_BinOp (hl O s _ E t λx s1 t1 k1 r1=>hr O s1 _ E t1 λy s2 t2 k2 r2=>?_)
 refine HZ ((r1.kept k2).list_inv) λa vs as zz1 hl1 rs1 _ q1=>?_;obtain rfl:=zz1
 refine HZ r2.list_inv λb us bs zz1 hl2 rs2 _ q2=>?_;obtain rfl:=zz1
 have hz1:vs.size=ds.length:=by rw[<-Al rs1];simp
 have hz2:us.size=es.length:=by rw[<-Al rs2];simp
 refine UZ hl1 hl2 ?_ (by rw[hz1,hz2,sizeLine_eq];rwa[hs])
 have r3:=EE rs1 rs2
 rw[<-pe] at r3
 refine q _ _ (as++bs) _ (Keeps.tr (Keeps.tr k1 k2) (Keeps.push _ _)) (AW (Keeps.tr k1 k2) (jP _)) (Ag 0 (jS _ rfl)) (Ae.keeps (λ_ _ e=>jH _ e) r3) (λb hb=>(jW.mp hb).elim (q1 b) (q2 b)) λhm=>?_
 obtain⟨o,e⟩:=Bv r3 _ hm
 exact absurd (kt e) (lr _)
end
inductive Ee:List (jD×jD)->List (Int×jZ)->Prop
 | nil:Ee [] []
 | cons (k:Int) (t:uw) (x:jZ) (u:uw) {vs ps}:Ee vs ps->Ee ((.int k t,.str x u)::vs) ((k,x)::ps)
noncomputable def Ix (kvs:List (Int×jD)) (ps:List (Int×jZ)):Prop:=kvs.map (·.1)=ps.map (·.1)/\StrsAre (kvs.map (·.2)) (ps.map (·.2))
theorem Ee.vals{vs:List (jD×jD)}{ps:List (Int×jZ)}(r:Ee vs ps):allIntKeys vs=true/\Ix (intKeyPairs vs) ps:=by
 induction r with
 | nil=>exact⟨rfl,rfl,.nil⟩
 | cons k t x u h ih=>exact⟨ih.1,congrArg (k::·) ih.2.1,.cons x u ih.2.2⟩
theorem Ix.at{k:Int}{x:jZ}:∀{kvs:List (Int×jD)} {ps:List (Int×jZ)},Ix kvs ps->ps.lookup k=some x->∃t,valueAt kvs k=some (.str x t):=by
 intro kvs
 delta k x at kvs
 induction kvs with
 | nil=>intro ps ⟨h1,h2⟩ e;cases ps with
  | nil=>exact B6 e
  | cons=>cases h1
 | cons kv kvs ih=>
  intro ps ⟨h1,h2⟩ e
  cases ps with
  | nil=>cases h1
  | cons p ps=>
   obtain⟨k',v⟩:=kv
   obtain⟨k2,y⟩:=p
   obtain⟨h1a,h1'⟩:=wn h1
   have h1a:k'=k2:=h1a
   subst h1a
   cases h2 with
   | cons _ t h2'=>
    rw[rg] at e
    unfold valueAt
    rw[mh]
    by_cases hk:k'=k
    ·subst hk
     simp at e
     subst e
     exact⟨t,by simp⟩
    ·have:(k == k')=false:=beq_eq_false_iff_ne.mpr (ln hk)
     rw[this] at e
     simp only[hk,decide_false]
     exact ih ⟨h1',h2'⟩ e
section
variable {Γ:Cx} {σ:AX} {pos:mi}
noncomputable def Ez (prog:lF) (w:jY) (ps:List (Int×jZ)) (o:nJ):Prop:=∃kvs,o.IsDictOf (intKind prog w) kvs/\Ix kvs ps
noncomputable def Ze (Γ:Cx) (σ:AX) (keys:List (Option kJ)) (values:List kJ) (ps:List (Int×jZ)):Prop:=
 ∀(O:Ap) (s:jG) (pos:mi) (Q:List (jD×jD)->jG->Prop) (E:jD->jG->Prop),St Γ O σ s->
  (∀vs s',St Γ O σ s'->kZ s s'->Ee vs ps->Q vs s')->wpAny (model Γ.prog Γ.w) Γ.A (evalPairs (pairTrees keys values Γ.env pos)) Q E s
theorem W5:Ze Γ σ [] [] []:=λO s pos Q E t q=>pairTrees_nil_walk (q [] s t (Keeps.re s) .nil)
theorem Fs{k v:kJ}{ks:List (Option kJ)}{vs:List kJ}{i:Int}{x:jZ}{ps:List (Int×jZ)}(hk:Ev Γ σ k (.py (.int i)))(hv:Ev Γ σ v (.py (.str x)))(h:Ze Γ σ ks vs ps):Ze Γ σ (some k::ks) (v::vs) ((i,x)::ps):=by
 intro O s pos Q E t q
 refine pairTrees_cons_walk (hk O s _ E t λa s1 t1 k1 r1=>hv O s1 _ E t1 λb s2 t2 k2 r2=>h O s2 pos _ E t2 λrs s3 t3 k3 r3=>?_)
 obtain⟨ta,rfl⟩:=r1.int_inv
 obtain⟨tb,rfl⟩:=r2.str_inv
 exact q _ s3 t3 (Keeps.tr (Keeps.tr k1 k2) k3) (.cons _ _ _ _ r3)
theorem YV{keys:List (Option kJ)}{values:List kJ}{ps:List (Int×jZ)}(h:Ze Γ σ keys values ps)(hall:autoParam (keys.all (·.isSome)=true) aR)(hl:autoParam (keys.length=values.length) aR)(h0:keys≠[]:=by intro h;cases h)(hlen:autoParam (keys.length<=15) aN)(hnd:autoParam ((ps.map (·.1)).Nodup) aD) :
 Ev Γ σ (.Dict keys values pos) (.obj (Ez Γ.prog Γ.w ps)):=by
 intro O s Q E t q
 delta Γ σ pos keys values ps O s Q E at h hall hl h0 hlen hnd t q
 have k0:=Keeps.push s {cls:=.type "dict",data:=.dict #[]}
 refine wpAny_Dict_walk (knd:=intKind Γ.prog Γ.w) hall hl h0 hlen (h O _ pos _ E (t.of_keeps k0) λvs s1 t1 k1 r1=>?_)
 obtain⟨h1,h2⟩:=r1.vals
 refine display_done_int h1 (by rw[h2.1];exact hnd) ?_ λh' hd hs=>?_
 ·obtain⟨hh,tk,rfl,k1⟩:=k1
  exact(sL s.heap).keep k1
 ·have kk:kZ s {s1 with heap:=h',toks:=s1.toks+vs.length}:=by
   obtain⟨hh,tk,rfl,k1⟩:=k1
   refine AT h' (tk+vs.length) rfl λb o e=>?_
   exact AJ hs b (lz (kt e)) o (k1 b o (jH _ e))
  refine Af (pi.mp hd) λo ho hdo=>?_
  refine q _ _ (t.of_keeps kk) kk (C5 _ o rfl ho (Ac _ hdo h2) t.notNew ?_)
  refine Cf hd λ_ es ep ho' _ hdat _=>?_
  (replace ho':=CQ ho ho';subst ho')
  exact⟨(λc e=>by rw[hdat] at e;exact jU e),(λc e=>by rw[hdat] at e;exact jU e)⟩
theorem Oo{l r:kJ}{ps:List (Int×jZ)}{i:Int}{x:jZ}(hl:Ev Γ σ l (.obj (Ez Γ.prog Γ.w ps)))(hr:Ev Γ σ r (.py (.int i)))(h:ps.lookup i=some x)
 (hs:autoParam (∀o x,subscripted r false o x=tw [o,x] (getItem o x)) aI):Ev Γ σ (.Subscript l r pos) (.py (.str x)):=by
 intro O s Q E t q
 refine uc (hl O s _ E t λu s1 t1 k1 r1=>hr O s1 _ E t1 λy s2 t2 k2 r2=>?_)
 refine C9 (r1.kept k2) λa o zz1 ho zz2 _ _=>?_;obtain rfl:=zz1;obtain⟨kvs,hd,hv⟩:=zz2
 obtain⟨ty,rfl⟩:=r2.int_inv
 have hdo:s2.heap.DictOf (intKind Γ.prog Γ.w) a kvs:=pi.mpr (Ac o ho hd)
 obtain⟨t',ht'⟩:=hv.at h
 exact vC hdo.typeIs slot_dict_getitem.lookup (wpAny_getItem_of (uO _ _ i ty) hdo.mapOf ht' (q _ _ (t2.keeps λ_ _ e=>e) (Keeps.tr (Keeps.tr k1 k2) Keeps.rfl') (VR.str ..))) (hs _ _)
end
noncomputable abbrev pw:lF:=jO
noncomputable def stm (i:Nat):md:=(pw.main.body[i]?).getD (.Pass ⟨0,0,0,0⟩)
noncomputable def PA:md->jZ
 | .FunctionDef n ..=>n
 | _=>""
noncomputable def GS:md->Arguments
 | .FunctionDef _ a ..=>a
 | _=>default
noncomputable def Am:md->List md
 | .FunctionDef _ _ b ..=>b
 | _=>[]
noncomputable def Cm:md->sZ
 | .FunctionDef _ _ _ _ _ _ s ..=>s
 | _=>default
noncomputable def Az (i:Nat) (pm cd doc dv kdv:jD):nY:={docDef (PA (stm i)) (GS (stm i)) (Am (stm i)) (Cm (stm i)) pm cd doc with defaults:=dv,kwdefaults:=kdv}
structure Av (h:j6) (i:Nat) (a:jN) (dv kdv:jD):Prop where
 ex:∃o pm cd doc,h.get? a=some o/\o.data=.func (Az i pm cd doc dv kdv)/\h.CodeRec cd (PA (stm i))
theorem BM:∀{names:List (jZ×vA)} {L L':Nat} {acc acc':List (jZ×jN)},acc.map (·.1)=acc'.map (·.1)->(cellsFrom L names acc).map (·.1)=(cellsFrom L' names acc').map (·.1)
 | [],_,_,_,_,h=>h
 | (name,kind)::r,L,L',acc,acc',h=>by
  unfold cellsFrom
  split
  ·exact BM (by rw[kO,kO,h])
  ·exact BM h
theorem D0:∀{l:List (jZ×jN)} {x:jZ},(l.lookup x).isSome=(l.map (·.1)).contains x
 | [],_=>rfl
 | (n,c)::r,x=>by
  rw[rg,kO,List.contains_cons]
  cases h:x == n with
  | true=>simp
  | false=>simpa using D0
noncomputable def Uk (s:md) (ps ns:List jZ):Bool:=
 ps.all (λx=>(Cm s).names.lookup x == some .local || ((Cm s).names.lookup x == some .cell&&((cellsFrom 0 (Cm s).names []).map (·.1)).contains x))&&!(Cm s).isCoroutine&&!(Cm s).isGenerator&&(Cm s).kind == .function&&
 ps.isPrefixOf ns&&decide ns.Nodup&&!ns.contains ""&&decide ((cellsFrom 0 (Cm s).names []).map (·.1)).Nodup
theorem Bf.of{i:Nat}{pm cd doc dv kdv:jD}{ps ns:List jZ}(h:Uk (stm i) ps ns=true):Bf (Az i pm cd doc dv kdv) (Am (stm i)) ps ns:=by
 delta i pm cd doc dv kdv ps ns at h
 simp only[Uk,kL,oO,decide_eq_true_eq] at h
 obtain⟨⟨⟨⟨⟨⟨⟨h1,h2⟩,h3⟩,h4⟩,h5⟩,h6⟩,h7⟩,h8⟩:=h
 refine⟨rfl,rfl,λx hx=>?_,h2,h3,beq_iff_eq.mp h4,?_,h6,λhm=>?_,λL=>?_⟩
 ·have:=kA.mp h1 x hx
  simp only[rP,kL,beq_iff_eq] at this
  rcases this with h|⟨h,h'⟩
  ·exact .inl h
  ·refine .inr ⟨h,λL=>?_⟩
   rw[D0,BM (L':=0) (acc':=[]) rfl];exact h'
 ·obtain⟨r,hr⟩:=uJ.mp h5
  exact Ag r hr.symm
 ·have:ns.contains ("":jZ)=true:=rT.mpr hm
  rw[this] at h7;exact lN h7
 ·rw[BM (L':=0) (acc':=[]) rfl];exact h8
noncomputable def RE:List jZ:=["range","len","sum","bytes","chr","min","sorted","enumerate","str","type","bytearray","bool","int","list","map","set","tuple","repr"]
structure Br (mg mb:jZ->Option jD) (h:j6):Prop where
 gl:Gl mg mb h
 none:∀x∈RE,mg x=none
section
variable {Γ:Cx} {σ:AX} {pos:mi} {mg mb:jZ->Option jD} {xI:j6}
theorem A1{x:jZ}{v:jD}(T:Br mg mb xI)(hk:HK xI Γ.s₀)(hg:autoParam (Γ.env.globals=mP) aR)(hb:autoParam (Γ.env.builtins=builtinsNs) aR)(hx:autoParam (x∈RE) aD)(hv:autoParam (ww x=some v) aD)(hn:autoParam (x≠"__name__") aD)(hkd:autoParam (Γ.env.scope.kind=.function) aR)(hxk:autoParam (Γ.env.kindOf x=some .globalImplicit) aR)
 (hd:autoParam ((x == ("__debug__":jZ))=false) aD):Ev Γ σ (.Name x pos) (.raw v):=
 Ro (T.gl.keeps hk) hg hb (T.none x hx) hv hn hkd hxk hd
theorem BU{x:jZ}{v:jD}(T:Br mg mb xI)(hk:HK xI Γ.s₀)(h:mg x=some v)(hg:autoParam (Γ.env.globals=mP) aR)(hkd:autoParam (Γ.env.scope.kind=.function) aR)(hxk:autoParam (Γ.env.kindOf x=some .globalImplicit) aR)
 (hd:autoParam ((x == ("__debug__":jZ))=false) aD):Ev Γ σ (.Name x pos) (.raw v):=
 Vf (T.gl.keeps hk) hg h hkd hxk hd
end
theorem Ea{w:jY}{xI:j6}{n:Nat}{i:Nat}{a:jN}{ps ns:List jZ}{avs:List AV}{dv kdv:jD}{r:AV}(FO:Av xI i a dv kdv)(X:∀pm cd doc,Bf (Az i pm cd doc dv kdv) (Am (stm i)) ps ns)(hlim:xI.NoLimit)(hlen:avs.length=ps.length)
 (hbind:∀pm cd doc vs,vs.length=ps.length->l6 (Az i pm cd doc dv kdv) ⟨vs,[]⟩=pure (ps.zip vs))
 (hB:∀pm cd doc A s O,HK xI s->Nm (Dx pw w A s (Az i pm cd doc dv kdv) a ns O)->A0 (A.deeper (callEnvC (Az i pm cd doc dv kdv) s.heap.objs.size a)) n->Ex (Dx pw w A s (Az i pm cd doc dv kdv) a ns O) (Bi avs (ns.length-ps.length)) (Am (stm i)) (λaf _=>af=.ret r)):Fn pw w xI (n+1) (.ref a) [] avs [] r:=by
 refine E7 FO.ex λo pm cd doc ho hd hcd=>?_
 exact I3 (X pm cd doc) ho hd hlim hcd hlen (λs vs _ hl=>.of_eq (hbind pm cd doc vs hl)) (hB pm cd doc)
theorem Pe{α:Type}{n:Nat}{vs:List α}(h:vs.length=n+1):∃v ws,vs=v::ws/\ws.length=n:=by
 cases vs with
 | nil=>exact nomatch h
 | cons v ws=>exact AT v ws rfl (qY h)
theorem GF{α:Type}{vs:List α}(h:vs.length=1):∃v,vs=[v]:=
 Ao (Pe h) λv ws e h=>Ag v (e.trans (congrArg _ (qc h)))
theorem Yy{α:Type}{vs:List α}(h:vs.length=3):∃v u x,vs=[v,u,x]:=
 Ao (Pe h) λv ws e h=>Ao (Pe h) λu ws e2 h=>AR (GF h) λx e3=>Jd v u x (e.trans (congrArg _ (e2.trans (congrArg _ e3))))
theorem Yx{α:Type}{vs:List α}(h:vs.length=4):∃v u x y,vs=[v,u,x,y]:=
 Ao (Pe h) λv ws e h=>FN (Yy h) λu x y e3=>EH v u x y (e.trans (congrArg _ e3))
theorem EF{α:Type}(ds:List α)(a n:Nat):((kf n).map (a+·)).filterMap (ds[·]?)=(ds.drop a).take n:=by
 induction n generalizing a with
 | zero=>simp
 | succ n ih=>
  rw[rM,kB,List.filterMap_append,ih,kQ]
  congr 1
  cases h:ds[a+n]? with
  | none=>simp[h,qN]
  | some d=>simp[h,qN]
theorem iW(k n:Nat):max 0 (min (k:Int) (n:Int))=((min k n:Nat):Int):=by
 rcases Nat.le_total k n with h|h
 ·rw[uD h,xH (tI.mpr h)];exact xq (oH _)
 ·rw[xk h,xo (tI.mpr h)];exact xq (oH _)
theorem UQ(ds:List jQ)(k:Nat):F5 ds none (some k) none=ds.take k:=by
 unfold F5
 have e:sliceBounds none (some (k:Int)) none ds.length=(((0:Nat):Int),((min k ds.length:Nat):Int),1):=by
  simp only[sliceBounds,wm,show(1:Int)>0 by decide,if_true]
  have h:¬((k:Int)<0):=by rwa[]
  simp only[h,if_false]
  rw[iW];rfl
 rw[e]
 simp only[sliceRange_one]
 rw[EF]
 simp only[xE,vG]
 rw[<-List.take_take,lD]
theorem Kp(ds:List jQ)(k:Nat):F5 ds (some k) none none=ds.drop k:=by
 unfold F5
 have e:sliceBounds (some (k:Int)) none none ds.length=(((min k ds.length:Nat):Int),((ds.length:Nat):Int),1):=by
  simp only[sliceBounds,wm,show(1:Int)>0 by decide,if_true]
  have h:¬((k:Int)<0):=by rwa[]
  simp only[h,if_false]
  rw[iW]
 rw[e]
 simp only[sliceRange_one]
 rw[EF]
 by_cases h:k<=ds.length
 ·rw[uD h,rA (by rw[rh];rwa[])]
 ·rw[xk (by rwa[h]),List.drop_eq_nil_of_le (as:=ds) (i:=k) (by rwa[h]),List.drop_length,List.take_nil]
noncomputable def NW (t:Int):Int:=(oN (2^(t.fmod 24).toNat) (2^((t.fdiv 24).fmod 24).toNat)).fmod 65536
noncomputable def Co (few:List Int) (k:Nat):Int×Int:=((few.getD (2*k) 0).fmod 65536,if 2*(k:Int)+1<few.length then few.getD (2*k+1) 0 else 0)
noncomputable def Dr (few:List Int) (n:Nat):List Int:=33188::(kf n).map λk=>(Co few k).1
noncomputable def CK (few:List Int) (n:Nat):List Int:=33261::(kf n).map λk=>oN (Co few k).1 (NW (Co few k).2)
noncomputable def HO (script:List Int):Nat:=((script.take 4).length+1)/2
noncomputable def Bs (script:List Int):List Int×List Int:=
 let l:=Dr (script.take 4) (HO script)
 let r:=CK (script.take 4) (HO script)
 let rest:=script.sum.fmod 8
 if rest=1 then(l.drop 1,r) else if rest=2 then(l,r.drop 1) else if rest=3 then([],r) else if rest=4 then(l,[]) else if rest=5 then(l,r.reverse) else(l,r)
noncomputable def Cr (l:List Int):jQ:=.list (l.map .int)
theorem Wq(ds:List jQ)(h:ds.length<=3):F5 ds none none (some (-1))=ds.reverse:=by
 have key:∀(n:Nat) (is:List Nat),(sliceRange (sliceBounds none none (some (-1)) n).1 (sliceBounds none none (some (-1)) n).2.1 (sliceBounds none none (some (-1)) n).2.2)=is->ds.length=n->F5 ds none none (some (-1))=is.filterMap (ds[·]?):=by
  intro n is h1 h2
  unfold F5
  rw[h2,h1]
 cases ds with
 | nil=>exact key 0 [] (by decide +kernel) rfl
 | cons a ds=>cases ds with
  | nil=>exact key 1 [0] (by decide +kernel) rfl
  | cons b ds=>cases ds with
   | nil=>exact key 2 [1,0] (by decide +kernel) rfl
   | cons c ds=>cases ds with
    | nil=>exact key 3 [2,1,0] (by decide +kernel) rfl
    | cons d ds=>exact absurd (show ds.length+4<=3 from h) (by rwa[])
noncomputable def ac:List jZ:=["script","left","right","few","k","mode","turn","rest"]
theorem gp(pm cd doc dv kdv:jD):Bf (Az 41 pm cd doc dv kdv) (Am (stm 41)) ["script"] ac:=.of (by decide +kernel)
theorem T8{l:List Int}{i:Nat}(h:i<l.length):(l.map lY)[i]?=some (.int (l.getD i 0)):=by
 rw[kc,jR h]
 simp[h]
theorem UP{prog:lF}{w:jY}{A:kC}{s:jG}{O:Ap}{a:jN}{mg mb:jZ->Option jD}{xI:j6}{pm cd doc dv kdv:jD}(T:Br mg mb xI)(hk:HK xI s)(script:List Int)(hs:script.length<=63)
 (N:Nm (Dx prog w A s (Az 41 pm cd doc dv kdv) a ac O))(room:A0 (A.deeper (callEnvC (Az 41 pm cd doc dv kdv) s.heap.objs.size a)) 0) :
 Ex (Dx prog w A s (Az 41 pm cd doc dv kdv) a ac O) (Bi [.py (Cr script)] 7) (Am (stm 41)) (λaf _=>af=.ret (.py (.tuple [Cr (Bs script).1,Cr (Bs script).2]))):=by
 delta prog w A s O a mg mb xI pm cd doc dv kdv script at T hk hs N room
 have hh:=room.handled
 refine Ad (Gn N 1 (CH (Ab Ai Ah) (ds:=[.int 33188]) (by decide)) ?_)
 refine Ad (Gn N 2 (CH (Ab Ai Ah) (ds:=[.int 33261]) (by decide)) ?_)
 refine Ad (At N 3 (Be (Hh (Aa 0) E9 (GM Ai) (by rw[jK];rwa[hs]))) ?_)
 rw[show(4:Int)=((4:Nat):Int) from rfl,UQ,<-List.map_take]
 generalize hf:script.take 4=few
 have hfl:few.length<=4:=by rw[<-hf,lp];rwa[]
 have hsum:∃z,z=script.sum.fmod 8:=Ag _ rfl
 have hlen:(AN 0 ((few.map lY).length:Nat) 2).length=(few.length+1)/2:=by
  simp only[AN,jK,lI]
  unfold kI
  simp only[show(2:Int)>0 by decide,if_true]
  split<;>(rename_i z0;rwa[z0])
 refine Ad (EO N (F9 N hh (A1 T hk) Ai (Ds (A1 T hk) (Aa 3) rfl (by rw[jK];rwa[hfl])) Ai ?_ (by decide) (by decide))
  (λi σ=>∃x y z,σ=[some (.val (.py (Cr script))),some (.own ((Dr few i).map .int)),some (.own ((CK few i).map .int)),some (.val (.py (Cr few))),x,y,z,none]) (Jd none none none rfl) ?_ ?_)
 ·rw[jK]
  have:few.length=0\/few.length=1\/few.length=2\/few.length=3\/few.length=4:=by rwa[hfl]
  rcases this with h|h|h|h|h<;>rw[h]<;>decide +kernel
 ·intro i d σ1 hd zz1;refine FN zz1 λx y z zz2=>?_;clear zz1;obtain rfl:=zz2
  have hi:i<(few.length+1)/2:=by rw[<-hlen];exact(jM.mp hd).1
  obtain rfl:d=.int (0+(i:Nat)*2):=by
   simp only[AN,kc] at hd
   refine Af (j8.mp hd) λj h1 h2=>?_
   obtain⟨_,h1⟩:=jM.mp h1
   rw[po] at h1
   subst h1;exact h2.symm
  have hn:((0:Int)+(i:Nat)*2).toNat=2*i:=by rwa[]
  have hn1:((0:Int)+(i:Nat)*2+1).toNat=2*i+1:=by rwa[]
  refine Ac _ (BH N 4) ?_
  refine Ad (At N 5 (CB (Ay (d:=.int (few.getD (2*i) 0)) (Aa 3) (Aa 4) (by rwa[]) (by rwa[hfl,hi]) (by rw[hn];exact T8 (by rwa[hi]))) Ai (by decide)) ?_)
  refine Ad (At N 6 (a:=.py (.int (Co few i).2)) (I8 (An (c:=decide (0+(i:Int)*2+1<few.length)) (Bl (Aa 4) Ai) (Ds (A1 T hk) (Aa 3) rfl (by rw[jK];rwa[hfl])) (by rw[jK];rfl)) (λh=>?_) (λh=>?_)) ?_)
  ·have h:=of_decide_eq_true h
   refine Ev.cast (Ay (d:=.int (few.getD (2*i+1) 0)) (Aa 3) (Bl (Aa 4) Ai) (by rwa[]) (by rwa[hfl,hi]) (by rw[hn1];exact T8 (by rwa[h]))) ?_
   unfold Co
   rw[if_pos (by rwa[h])]
  ·have h:=of_decide_eq_false h
   refine Ev.cast Ai ?_
   unfold Co
   rw[if_neg (by rwa[h])]
  refine Ad (AO N 1 (Aa 5) ?_ ?_)
  ·simp only[Dr,jK,j9,lI];rwa[hfl,hi]
  have pw24:∀k:Int,0<=k.fmod 24/\k.fmod 24<=1000:=λk=>by
   have h1:=kM k (b:=24) (by decide)
   have h2:=lm k (b:=24) (by decide)
   rwa[h1,h2]
  refine Ad (AO N 2 (W7 (Aa 5) (CB (W7 (Gc Ai (CB (Aa 6) Ai (by decide)) (pw24 _).1 (pw24 _).2 (by decide)) (Gc Ai (CB (Dz (Aa 6) Ai (by decide) (by decide)) Ai (by decide)) (pw24 _).1 (pw24 _).2 (by decide))) Ai (by decide))) ?_ ?_)
  ·simp only[CK,jK,j9,lI];rwa[hfl,hi]
  refine Aj (Jd (some (.val (.py (.int (0+(i:Nat)*2))))) (some (.val (.py (.int ((few.getD (2*i) 0).fmod 65536))))) (some (.val (.py (.int (Co few i).2)))) ?_)
  show [_,some (Bd.own ((Dr few i).map lY++[_])),some (Bd.own ((CK few i).map lY++[_])),_,_,_,_,_]=_
  have e1:(Dr few i).map lY++[lY ((few.getD (2*i) 0).fmod 65536)]=(Dr few (i+1)).map lY:=by
   simp[Dr,rM,Co]
  have e2:(CK few i).map lY++[lY (oN ((few.getD (2*i) 0).fmod 65536) (NW (Co few i).2))]=(CK few (i+1)).map lY:=by
   simp[CK,rM,Co]
  rw[<-e1,<-e2]
  rfl
 ·intro σ1 zz1;refine FN zz1 λx y z zz2=>?_;clear zz1;obtain rfl:=zz2
  rw[hlen]
  refine Aj ?_
  refine Ct N 1 (Ct N 2 ?_)
  refine Ad (At N 7 (CB (aA hh (A1 T hk) (Aa 0)) Ai (by decide)) ?_)
  have hN:HO script=(few.length+1)/2:=by rw[HO,hf]
  have hN2:(few.length+1)/2<=2:=by rwa[hfl]
  have hl:Bs script=(let l:=Dr few ((few.length+1)/2);let r:=CK few ((few.length+1)/2);let rest:=script.sum.fmod 8
   if rest=1 then(l.drop 1,r) else if rest=2 then(l,r.drop 1) else if rest=3 then([],r) else if rest=4 then(l,[]) else if rest=5 then(l,r.reverse) else(l,r)):=by
   unfold Bs;rw[hN,hf]
  generalize hL:Dr few ((few.length+1)/2)=L at hl
  generalize hR:CK few ((few.length+1)/2)=R at hl
  have hLl:L.length<=3:=by rw[<-hL];simp[Dr];rwa[hfl]
  have hRl:R.length<=3:=by rw[<-hR];simp[CK];rwa[hfl]
  generalize hrest:script.sum.fmod 8=rest at hl
  dsimp only at hl
  refine Ad (BI (b:=decide (rest=1)) (An (Aa 7) Ai) (λh=>?_) (λh=>Aj ?_))
  ·refine Ad (AQ (Au (ds:=[_,_]) (Ab (Be (Hh (Aa 1) (GM Ai) E9 (by rw[jK];rwa[hLl]))) (Ab (Aa 2) Ah)) (jV rfl)) ?_)
   rw[hl,if_pos (of_decide_eq_true h),show(1:Int)=((1:Nat):Int) from rfl,Kp,<-List.map_drop]
   rfl
  have h1:=of_decide_eq_false h
  refine Ad (BI (b:=decide (rest=2)) (An (Aa 7) Ai) (λh=>?_) (λh=>Aj ?_))
  ·refine Ad (AQ (Au (ds:=[_,_]) (Ab (Aa 1) (Ab (Be (Hh (Aa 2) (GM Ai) E9 (by rw[jK];rwa[hRl]))) Ah)) (jV rfl)) ?_)
   rw[hl,if_neg h1,if_pos (of_decide_eq_true h),show(1:Int)=((1:Nat):Int) from rfl,Kp,<-List.map_drop]
   rfl
  have h2:=of_decide_eq_false h
  refine Ad (BI (b:=decide (rest=3)) (An (Aa 7) Ai) (λh=>?_) (λh=>Aj ?_))
  ·refine Ad (AQ (Au (ds:=[_,_]) (Ab (Dy (ds:=[]) Ah (by decide)) (Ab (Aa 2) Ah)) (jV rfl)) ?_)
   rw[hl,if_neg h1,if_neg h2,if_pos (of_decide_eq_true h)]
   rfl
  have h3:=of_decide_eq_false h
  refine Ad (BI (b:=decide (rest=4)) (An (Aa 7) Ai) (λh=>?_) (λh=>Aj ?_))
  ·refine Ad (AQ (Au (ds:=[_,_]) (Ab (Aa 1) (Ab (Dy (ds:=[]) Ah (by decide)) Ah)) (jV rfl)) ?_)
   rw[hl,if_neg h1,if_neg h2,if_neg h3,if_pos (of_decide_eq_true h)]
   rfl
  have h4:=of_decide_eq_false h
  refine Ad (BI (b:=decide (rest=5)) (An (Aa 7) Ai) (λh=>?_) (λh=>Aj ?_))
  ·refine Ad (AQ (Au (ds:=[_,_]) (Ab (Aa 1) (Ab (Be (Rm (Aa 2) E9 E9 (Hk Ai) (by decide) (by rw[jK];rwa[hRl]))) Ah)) (jV rfl)) ?_)
   rw[hl,if_neg h1,if_neg h2,if_neg h3,if_neg h4,if_pos (of_decide_eq_true h),Wq _ (by rw[jK];exact hRl),<-List.map_reverse]
   rfl
  have h5:=of_decide_eq_false h
  refine Ad (AQ (Au (ds:=[_,_]) (Ab (Aa 1) (Ab (Aa 2) Ah)) (jV rfl)) ?_)
  rw[hl,if_neg h1,if_neg h2,if_neg h3,if_neg h4,if_neg h5]
  rfl
theorem bg(pm cd doc v:jD):l6 (Az 41 pm cd doc .none .none) ⟨[v],[]⟩=pure [((jB "script"),v)]:=by rfl
theorem Yd{w:jY}{xI:j6}{a:jN}{mg mb:jZ->Option jD}(T:Br mg mb xI)(FO:Av xI 41 a .none .none)(script:List Int)(hs:script.length<=63) :
 Fn pw w xI 1 (.ref a) [] [.py (Cr script)] [] (.py (.tuple [Cr (Bs script).1,Cr (Bs script).2])):=
 Ea FO (λpm cd doc=>gp pm cd doc _ _) T.gl.nolimit rfl (λpm cd doc vs h=>by obtain⟨v,rfl⟩:=GF h;exact bg pm cd doc v) (λpm cd doc A s O hk N room=>UP T hk script hs N room)
noncomputable def aa:List jZ:=["row","octets","mode"]
theorem gm(pm cd doc dv kdv:jD):Bf (Az 42 pm cd doc dv kdv) (Am (stm 42)) ["row"] aa:=.of (by decide +kernel)
noncomputable def AD (row:List Int):List Int:=row.flatMap λm=>[m.fdiv 256,m.fmod 256]
theorem J0{row:List Int}{i:Nat}{m:Int}(h:row[i]?=some m):AD (row.take (i+1))=AD (row.take i)++[m.fdiv 256]++[m.fmod 256]:=by
 rw[AD,kQ,h]
 simp[AD]
theorem CL(row:List Int):(AD row).length=2*row.length:=by
 induction row with
 | nil=>rfl
 | cons m r ih=>simp only[AD,lu,j7,j9,lq] at *;rwa[ih]
theorem Fr{row:List Int}{i:Nat}{d:jQ}(hd:(row.map lY)[i]?=some d):∃m,row[i]?=some m/\d=.int m:=by
 rw[kc] at hd
 refine Af (j8.mp hd) λm h1 h2=>?_
 exact Ac m h1 h2.symm
theorem O4{prog:lF}{w:jY}{A:kC}{s:jG}{O:Ap}{a:jN}{mg mb:jZ->Option jD}{xI:j6}{pm cd doc dv kdv:jD}(T:Br mg mb xI)(hk:HK xI s)(row:List Int)(hr:row.length<=63)(hb:∀m∈row,0<=m/\m<65536)
 (N:Nm (Dx prog w A s (Az 42 pm cd doc dv kdv) a aa O))(room:A0 (A.deeper (callEnvC (Az 42 pm cd doc dv kdv) s.heap.objs.size a)) 0) :
 Ex (Dx prog w A s (Az 42 pm cd doc dv kdv) a aa O) (Bi [.py (Cr row)] 2) (Am (stm 42)) (λaf _=>af=.ret (.by (byteArr (AD row)))):=by
 refine Ad (Gn N 1 (CH Ah (ds:=[]) (by decide)) ?_)
 refine Ad (EO N (C3 N room.handled (Aa 0)) (λi σ=>∃z,σ=[some (.val (.py (Cr row))),some (.own ((AD (row.take i)).map .int)),z]) (Ag _ rfl) ?_ ?_)
 ·rintro i d σ1 hd ⟨z,rfl⟩
  refine Af (Fr hd) λm hm zz1=>?_;obtain rfl:=zz1
  have hi:i<row.length:=(jM.mp hm).1
  have hz:(AD (row.take i)).length<=200:=by rw[CL,lp];rwa[hr,hi]
  refine Ac _ (BH N 2) ?_
  refine Ad (AO N 1 (Dz (Aa 2) Ai (by decide) (by decide)) ?_ ?_)
  ·rw[jK];rwa[hz]
  refine Ad (AO N 1 (CB (Aa 2) Ai (by decide)) ?_ ?_)
  ·rw[j7,jK];simp only[j9,lq];rwa[hz]
  refine Aj (Ag (some (.val (.py (.int m)))) ?_)
  rw[J0 hm,kB,kB]
  rfl
 ·rintro σ1 ⟨z,rfl⟩
  rw[jK,lD]
  refine Aj (Ct N 1 ?_)
  refine Ad (AQ (Ps room.handled (A1 T hk) (Aa 1) ?_ ?_) rfl)
  ·intro n hn
   refine Af (lw.mp hn) λm hm hn=>?_
   have:=hb m hm
   rcases jI.mp hn with rfl|hn
   ·rw[kF _ (by decide)];rwa[this]
   ·obtain rfl:=jJ.mp hn
    rw[kT _ (by decide)];rwa[]
  ·rw[CL];rwa[hr]
theorem bf(pm cd doc v:jD):l6 (Az 42 pm cd doc .none .none) ⟨[v],[]⟩=pure [((jB "row"),v)]:=by rfl
theorem US{w:jY}{xI:j6}{a:jN}{mg mb:jZ->Option jD}(T:Br mg mb xI)(FO:Av xI 42 a .none .none)(row:List Int)(hr:row.length<=63)(hb:∀m∈row,0<=m/\m<65536) :
 Fn pw w xI 1 (.ref a) [] [.py (Cr row)] [] (.by (byteArr (AD row))):=
 Ea FO (λpm cd doc=>gm pm cd doc _ _) T.gl.nolimit rfl (λpm cd doc vs h=>by obtain⟨v,rfl⟩:=GF h;exact bf pm cd doc v) (λpm cd doc A s O hk N room=>O4 T hk row hr hb N room)
noncomputable def Z9:List jZ:=["octets"]
theorem gk(pm cd doc dv kdv:jD):Bf (Az 43 pm cd doc dv kdv) (Am (stm 43)) ["octets"] Z9:=.of (by decide +kernel)
noncomputable def V1 (b:List Nat):jZ:=⟨b.toArray⟩
theorem UE{prog:lF}{w:jY}{A:kC}{s:jG}{O:Ap}{a:jN}{mg mb:jZ->Option jD}{xI:j6}{pm cd doc dv kdv:jD}(T:Br mg mb xI)(hk:HK xI s)(b:Array UInt8)(hb:b.size<=1000)
 (N:Nm (Dx prog w A s (Az 43 pm cd doc dv kdv) a Z9 O))(room:A0 (A.deeper (callEnvC (Az 43 pm cd doc dv kdv) s.heap.objs.size a)) 0) :
 Ex (Dx prog w A s (Az 43 pm cd doc dv kdv) a Z9 O) (Bi [.by b] 0) (Am (stm 43)) (λaf _=>af=.ret (.py (.str (mO "" (b.toList.map λc=>⟨#[c.toNat]⟩))))):=by
 refine Ad (AQ (GO (Be (ds:=(b.toList.map λc=>(⟨#[c.toNat]⟩:jZ)).map .str) (C4 N (ns:=["octet"]) (BS.none (by decide +kernel) rfl) (Ky N room.handled (Aa 0)) ?_ ?_ ?_)) (by decide) ?_) rfl)
 ·simp[DK]
 ·simpa using kN hb (by decide)
 ·intro C hC N' i d hd
  simp only[DK,kc,oJ] at hd
  refine Af (j8.mp hd) λc h1 zz1=>?_;obtain rfl:=zz1
  refine C6 _ (.str ⟨#[c.toNat]⟩) (by simp[h1]) Le.none (BH N' 0) ?_
  have hc:=c.toNat_lt
  exact aG (n:=c.toNat) (A1 T hk) (Aa 0) (by rwa[]) (by rwa[hc])
 ·have e:qM (sY∘λc:UInt8=>(⟨#[c.toNat]⟩:jZ)) b.toList=b.toList.map λ_=>1:=l3 λc _=>rfl
  rw[mw,jK,e,show(b.toList.map λ_=>1)=lg b.toList.length 1 from rN ..,nc]
  have:b.toList.length=b.size:=by simp
  rwa[hb,this]
theorem be(pm cd doc v:jD):l6 (Az 43 pm cd doc .none .none) ⟨[v],[]⟩=pure [((jB "octets"),v)]:=by rfl
theorem TJ{w:jY}{xI:j6}{a:jN}{mg mb:jZ->Option jD}(T:Br mg mb xI)(FO:Av xI 43 a .none .none)(b:Array UInt8)(hb:b.size<=1000) :
 Fn pw w xI 1 (.ref a) [] [.by b] [] (.py (.str (mO "" (b.toList.map λc=>⟨#[c.toNat]⟩)))):=
 Ea FO (λpm cd doc=>gk pm cd doc _ _) T.gl.nolimit rfl (λpm cd doc vs h=>by obtain⟨v,rfl⟩:=GF h;exact be pm cd doc v) (λpm cd doc A s O hk N room=>UE T hk b hb N room)
theorem iA{α:Type}{a0 a1:α}{P:Nat->α->Prop}(h0:P 0 a0)(h1:P 1 a1):∀(i:Nat) (d:α),[a0,a1][i]?=some d->P i d
 | 0,_,e=>si e▸h0
 | 1,_,e=>si e▸h1
theorem jb{α:Type}{a0 a1 a2:α}{P:Nat->α->Prop}(h0:P 0 a0)(h1:P 1 a1)(h2:P 2 a2):∀(i:Nat) (d:α),[a0,a1,a2][i]?=some d->P i d
 | 0,_,e=>si e▸h0
 | i+1,d,e=>iA (P:=λi d=>P (i+1) d) h1 h2 i d e
theorem fE{α β:Type}{a1 a2:α}{b1 b2:β}{P:Nat->α->β->Prop}(h1:P 0 a1 b1)(h2:P 1 a2 b2):∀(i:Nat) (x:α) (b:β),[a1,a2][i]?=some x->[some b1,some b2][i]?=some (some b)->P i x b:=by
 intro i x b e
 refine iA (P:=λi x=>[some b1,some b2][i]?=some (some b)->P i x b) (λe=>?_) (λe=>?_) i x e
 ·rw[<-si (si e)];exact h1
 ·rw[<-si (si e)];exact h2
theorem sn{α β:Type}{a0:α}{as:List α}{bs:List (Option β)}{P:Nat->α->β->Prop}(h:∀(i:Nat) (x:α) (b:β),as[i]?=some x->bs[i]?=some (some b)->P (i+1) x b):∀(i:Nat) (x:α) (b:β),(a0::as)[i]?=some x->(none::bs)[i]?=some (some b)->P i x b
 | 0,_,_,_,e=>B6 (si e)
 | i+1,x,b,e,e'=>h i x b e e'
theorem sc{α β:Type}{a0:α}{b0:β}{as:List α}{bs:List (Option β)}{P:Nat->α->β->Prop}(h0:P 0 a0 b0)(h:∀(i:Nat) (x:α) (b:β),as[i]?=some x->bs[i]?=some (some b)->P (i+1) x b):∀(i:Nat) (x:α) (b:β),(a0::as)[i]?=some x->(some b0::bs)[i]?=some (some b)->P i x b
 | 0,_,_,e,e'=>si e▸si (si e')▸h0
 | i+1,x,b,e,e'=>h i x b e e'
theorem ek{β:Type}{x:Option β}{l:List (Option β)}{b:β}:∀{j:Nat},(none::l)[j]?=some (some b)->(x::l)[j]?=some (some b)
 | 0,e=>B6 (si e)
 | _+1,e=>e
theorem iQ{β:Type}{x y:Option β}{l:List (Option β)}{b:β}:∀{j:Nat},(none::none::l)[j]?=some (some b)->(x::y::l)[j]?=some (some b)
 | 0,e=>B6 (si e)
 | _+1,e=>ek (l:=l) e
noncomputable def Wu:List jZ:=["row","size","signs","number","mode","wanting","count","told"]
theorem gj(pm cd doc dv kdv:jD):Bf (Az 44 pm cd doc dv kdv) (Am (stm 44)) ["row","size","signs"] Wu:=.of (by decide +kernel)
noncomputable def FH (row:List Int):Int:=row.foldl (λn m=>n*65536+m) 0
noncomputable def B3 (row:List Int) (size:Int):Int:=(-16*(row.length:Int)).fmod size
noncomputable def AC (row:List Int) (size:Int):Int:=(16*(row.length:Int)+B3 row size).fdiv size
noncomputable def Fv (row:List Int) (size k:Int):Int:=((FH row*2^(B3 row size).toNat).fdiv (2^(size*k).toNat)).fmod (2^size.toNat)
noncomputable def Cv (row:List Int) (size:Int) (signs:jZ):List jZ:=(kf (AC row size).toNat).map λi=>⟨#[signs.cps.getD (Fv row size (AC row size-1-(i:Nat))).toNat 0]⟩
noncomputable def Ff (row:List Int) (size:Int) (signs:jZ):jZ:=mO "" (Cv row size signs)++⟨(lg ((-AC row size).fmod 4).toNat (jB "=").cps).foldl (·++·) #[]⟩
theorem Bk{s:jG}{a:jN}(h:s.heap.objs.size<=a):s.heap.get? a=none:=gn λo e=>absurd (kt e) (pt.mpr h)
theorem Q6{row:List Int}{i:Nat}{m:Int}(h:row[i]?=some m):FH (row.take (i+1))=FH (row.take i)*65536+m:=by
 rw[FH,kQ,h]
 simp[FH]
theorem OS{c:Int}(h0:0<=c):kI (c-1) (-1) (-1)=c:=by
 unfold kI
 simp only[show ¬((-1:Int)>0) by decide,if_false,Int.neg_neg,Int.ediv_one]
 split<;>omega
theorem UL{c:Int}(h0:0<=c)(h1:c<=1000):mD (c-1) (-1) (-1)=true:=by
 unfold mD
 rw[OS h0]
 simp only[sF,kL,rP,decide_eq_true_eq,beq_iff_eq,show ¬((-1:Int)>0) by decide,if_false]
 rwa[h0,h1]
theorem Q0{a b c:Int}{i:Nat}{d:jQ}(hd:(AN a b c)[i]?=some d):d=.int (a+(i:Nat)*c)/\i<(AN a b c).length:=by
 refine⟨?_,(jM.mp hd).1⟩
 simp only[AN,kc] at hd
 refine Af (j8.mp hd) λj h1 h2=>?_
 obtain⟨_,h1⟩:=jM.mp h1
 rw[po] at h1
 subst h1;exact h2.symm
theorem HQ{c:Int}(h0:0<=c):(AN (c-1) (-1) (-1)).length=c.toNat:=by
 unfold AN
 rw[jK,lI,OS h0]
theorem jz{a b c:jZ}{L:Nat}:List.Pairwise (λx y=>x.2≠y.2) ([(a,L+1),(b,L+1+1),(c,L+1+1+1)]:List (jZ×jN)):=by
 have h1:L+1≠L+1+1:=by rwa[]
 have h2:L+1≠L+1+1+1:=by rwa[]
 have h3:L+1+1≠L+1+1+1:=by rwa[]
 refine .cons (λy hy=>?_) (.cons (λy hy=>?_) (.cons (λy hy=>nomatch hy) .nil))
 ·rcases jI.mp hy with rfl|hy
  ·exact h1
  ·obtain rfl:=jJ.mp hy;exact h2
 ·obtain rfl:=jJ.mp hy;exact h3
theorem Vu{prog:lF}{w:jY}{A:kC}{s:jG}{O:Ap}{a:jN}{mg mb:jZ->Option jD}{xI:j6}{pm cd doc dv kdv:jD}(T:Br mg mb xI)(hk:HK xI s)(row:List Int)(hr:row.length<=3)(size:Int)(hs1:1<=size)(hs2:size<=8)(signs:jZ)(hsg:signs.length=2^size.toNat)
 (N:Nm (Dx prog w A s (Az 44 pm cd doc dv kdv) a Wu O))(room:A0 (A.deeper (callEnvC (Az 44 pm cd doc dv kdv) s.heap.objs.size a)) 0) :
 Ex (Dx prog w A s (Az 44 pm cd doc dv kdv) a Wu O) (Bi [.py (Cr row),.py (.int size),.py (.str signs)] 5) (Am (stm 44)) (λaf _=>af=.ret (.py (.str (Ff row size signs)))):=by
 delta prog w A s O a mg mb xI pm cd doc dv kdv row size signs at T hk hr hs1 hs2 hsg N room
 have hh:=room.handled
 have hfr:s.heap.get? (s.heap.objs.size+1+1+1)=none:=Bk (by rwa[])
 have hcn:(Dx prog w A s (Az 44 pm cd doc dv kdv) a Wu O).env.cells.lookup (jB "number")=some (s.heap.objs.size+1+1+1):=by kernel_rfl
 refine Ad (CP N 3 Ai ?_ hcn hfr)
 refine Ad (EO N (C3 N hh (Aa 0)) (λi σ=>∃z,σ=[some (.val (.py (Cr row))),some (.val (.py (.int size))),some (.val (.py (.str signs))),some (.val (.py (.int (FH (row.take i))))),z,none,none,none]) (Ag _ rfl) ?_ ?_)
 ·rintro i d σ1 hd ⟨z,rfl⟩
  refine Af (Fr hd) λm hm zz1=>?_;obtain rfl:=zz1
  refine Ac _ (BH N 4) ?_
  refine Ad (CP N 3 (Bl (Gd (Aa 3) Ai (.inl (by decide))) (Aa 4)) ?_ hcn hfr)
  refine Aj (Ag (some (.val (.py (.int m)))) ?_)
  rw[Q6 hm]
  rfl
 ·rintro σ1 ⟨z,rfl⟩
  rw[jK,lD]
  refine Aj ?_
  have hlen:IX (.py (Cr row))=some row.length:=by simp[IX,Cr]
  refine Ad (At N 5 (a:=.py (.int (B3 row size))) (CB (Gd (Hk Ai) (Ds (A1 T hk) (Aa 0) hlen (by rwa[hr])) (.inr (by decide))) (Aa 1) (by rwa[hs1,hs2])) ?_)
  refine Ad (At N 6 (a:=.py (.int (AC row size))) (Dz (Bl (Gd Ai (Ds (A1 T hk) (Aa 0) hlen (by rwa[hr])) (.inr (by decide))) (Aa 5)) (Aa 1) (by rwa[hs1,hs2]) (by(clear_value *;omega))) ?_)
  have hw:0<=B3 row size/\B3 row size<size:=by
   unfold B3
   exact⟨kM _ (by rwa[hs1,hs2]),lm _ (by rwa[hs1,hs2])⟩
  have hc:0<=AC row size/\AC row size<=56:=by
   unfold AC
   rw[kF _ (by rwa[hs1,hs2])]
   constructor
   ·exact qp (by rwa[hr,hw]) (by rwa[hs1,hs2])
   ·exact Int.ediv_le_of_le_mul (by rwa[hs1,hs2]) (by have:(56:Int)*1<=56*size:=un hs1 (by rwa[]);rwa[hr,hw])
  refine Ad (CP N 3 (Gd (Aa 3) (Gc Ai (Aa 5) (by rwa[hw]) (by rwa[hs1,hs2,hw]) (by decide)) (.inl ?_)) ?_ hcn hfr)
  ·have:(2:Int)^(B3 row size).toNat<=2^8:=by
    exact_mod_cast nO (by decide) (show(B3 row size).toNat<=8 by rwa[hs1,hs2,hw])
   have h2:(0:Int)<=2^(B3 row size).toNat:=oX (by decide)
   (clear_value *;omega)
  refine Ad (Kj N (show jB ""∉Wu by decide +kernel) 7 (cl:=[(jB "size",s.heap.objs.size+1),(jB "signs",s.heap.objs.size+1+1),(jB "number",s.heap.objs.size+1+1+1)]) (ns:=["k","number","signs","size"])
   (σ0:=[none,some (.val (.py (.int (FH row*2^(B3 row size).toNat)))),some (.val (.py (.str signs))),some (.val (.py (.int size)))])
   (rs:=(Cv row size signs).map .str)
   (BS.of (by decide +kernel) rfl jz (show([jB "size",jB "signs",jB "number"]:List jZ).Nodup by decide +kernel) ?_ ?_) (F9 N hh (A1 T hk) (Dd (Aa 6) Ai) (Hk Ai) (Hk Ai) ?_ (by decide) (by decide)) ?_ ?_ ?_ ?_)
  ·intro x c h
   rcases jI.mp h with e|h
   ·cases e;kernel_rfl
   ·rcases jI.mp h with e|h
    ·cases e;kernel_rfl
    ·obtain e:=jJ.mp h
     cases e;kernel_rfl
  ·exact λC=>sn (sc (⟨3,_,s.heap.objs.size+1+1+1,rfl,rfl,rfl,by kernel_rfl,by kernel_rfl,by kernel_rfl,by kernel_rfl⟩) (fE (⟨2,_,s.heap.objs.size+1+1,rfl,rfl,rfl,by kernel_rfl,by kernel_rfl,by kernel_rfl,by kernel_rfl⟩) (⟨1,_,s.heap.objs.size+1,rfl,rfl,rfl,by kernel_rfl,by kernel_rfl,by kernel_rfl,by kernel_rfl⟩)))
  ·exact UL hc.1 (by rwa[hc])
  ·rw[HQ hc.1];simp[Cv]
  ·simp only[Cv,jK,lI];rwa[hc]
  ·intro C hC N' i d hd
   obtain⟨rfl,hi⟩:=Q0 hd
   rw[HQ hc.1] at hi
   have hx:AC row size-1+(i:Nat)*-1=AC row size-1-(i:Nat):=by rwa[]
   have hpow:∀n:Nat,n<=500->(2:Int)^n≠0:=λn _=>by
    have:(0:Int)<2^n:=sB (by decide)
    rwa[this]
   have hk0:0<=size*(AC row size-1+(i:Nat)*-1):=uY (by rwa[hs1,hs2]) (by rwa[hi])
   have hk1:size*(AC row size-1+(i:Nat)*-1)<=56:=by
    have h1:size*AC row size<=16*(row.length:Int)+B3 row size:=by
     unfold AC
     rw[kF _ (by rwa[hs1,hs2])]
     exact Int.mul_ediv_self_le (by rwa[hs1,hs2])
    have h2:size*(AC row size-1+(i:Nat)*-1)<=size*AC row size:=un (by rwa[]) (by rwa[hs1,hs2])
    rwa[hr,hs1,hs2,hw,h1,h2]
   have hd0:0<=Fv row size (AC row size-1-(i:Nat)):=kM _ (sB (by decide))
   have hd1:Fv row size (AC row size-1-(i:Nat))<2^size.toNat:=lm _ (sB (by decide))
   have h8:(2:Int)^size.toNat<=2^8:=by exact_mod_cast nO (by decide) (show size.toNat<=8 by rwa[hs1,hs2])
   have hsg':((2:Int)^size.toNat).toNat=2^size.toNat:=by
    have:((2^size.toNat:Nat):Int)=(2:Int)^size.toNat:=by push_cast;rfl
    rwa[hsg,h8,this]
   refine C6 _ _ (by simp[Cv,hi];rfl) ?_ (BH N' 0) ?_
   ·exact λj b=>ek
   ·refine H3 (Aa 2) (Ev.cast (CB (Dz (Aa 1) (Gc Ai (Gd (Aa 3) (Aa 0) (.inr ?_)) hk0 (by rwa[hk0,hk1]) (by decide)) ?_ ?_) (Gc Ai (Aa 3) (by rwa[hs1,hs2]) (by rwa[hs1,hs2]) (by decide)) ?_) ?_) hd0 ?_ ?_
    ·(clear_value *;omega)
    ·exact hpow _ (by rwa[hk0,hk1])
    ·have h56:(2:Int)^(size*(AC row size-1+(i:Nat)*-1)).toNat<=2^56:=by exact_mod_cast nO (by decide) (show(size*(AC row size-1+(i:Nat)*-1)).toNat<=56 by rwa[hk0,hk1])
     have h0:(0:Int)<=2^(size*(AC row size-1+(i:Nat)*-1)).toNat:=oX (by decide)
     (clear_value *;omega)
    ·exact hpow _ (by rwa[hs1,hs2])
    ·rw[hx];rfl
    ·rwa[hd1,h8]
    ·rw[oZ (by show _<signs.length;rw[hsg];rwa[hd0,hd1,h8,hsg'])]
     rfl
  ·refine Ct N 7 ?_
   refine Ad (AQ (Hn (GO (Aa 7) (by decide) ?_) (Ve BF (CB (Hk (Aa 6)) Ai (by decide)) ?_ ?_ rfl) ?_) rfl)
   ·simp only[Cv,mw,jK,lI]
    have e:qM (sY∘λi:Nat=>(⟨#[signs.cps.getD (Fv row size (AC row size-1-(i:Nat))).toNat 0]⟩:jZ)) (kf (AC row size).toNat)=(kf (AC row size).toNat).map λ_=>1:=l3 λc _=>rfl
    rw[e,show((kf (AC row size).toNat).map λ_=>1)=lg (kf (AC row size).toNat).length 1 from rN ..,nc,lI]
    rwa[hc]
   ·exact kM _ (by decide)
   ·exact rO (lm _ (by decide))
   ·rw[KT.join_ones _ (by
     intro x hx
     refine Af (kq.mp hx) λj _ zz1=>?_;obtain rfl:=zz1
     rfl)]
    simp only[Cv,jK,lI]
    have h0:=kM (-AC row size) (b:=4) (by decide)
    have h1:=lm (-AC row size) (b:=4) (by decide)
    have h2:(⟨(lg ((-AC row size).fmod 4).toNat (jB "=").cps).foldl (·++·) #[]⟩:jZ).length<=4:=by
     have:((-AC row size).fmod 4)=0\/((-AC row size).fmod 4)=1\/((-AC row size).fmod 4)=2\/((-AC row size).fmod 4)=3:=by rwa[h0,h1]
     rcases this with h|h|h|h<;>rw[h]<;>decide
    rwa[hc,h2]
theorem bd(pm cd doc v u x:jD):l6 (Az 44 pm cd doc .none .none) ⟨[v,u,x],[]⟩=pure [((jB "row"),v),((jB "size"),u),((jB "signs"),x)]:=by rfl
theorem Ur{w:jY}{xI:j6}{a:jN}{mg mb:jZ->Option jD}(T:Br mg mb xI)(FO:Av xI 44 a .none .none)(row:List Int)(hr:row.length<=3)(size:Int)(hs1:1<=size)(hs2:size<=8)(signs:jZ)(hsg:signs.length=2^size.toNat) :
 Fn pw w xI 1 (.ref a) [] [.py (Cr row),.py (.int size),.py (.str signs)] [] (.py (.str (Ff row size signs))):=
 Ea FO (λpm cd doc=>gj pm cd doc _ _) T.gl.nolimit rfl (λpm cd doc vs h=>by refine FN (Yy h) λv u x zz1=>?_;obtain rfl:=zz1;exact bd pm cd doc v u x) (λpm cd doc A s O hk N room=>Vu T hk row hr size hs1 hs2 signs hsg N room)
noncomputable def Z8:List jZ:=["row","told","mode","k","three","above"]
theorem gi(pm cd doc dv kdv:jD):Bf (Az 45 pm cd doc dv kdv) (Am (stm 45)) ["row"] Z8:=.of (by decide +kernel)
noncomputable def F1 (x:jZ) (i:Int):jZ:=⟨#[x.cps.getD i.toNat 0]⟩
noncomputable def BG (m k:Int):Int:=(m.fdiv (8^k.toNat)).fmod 8
noncomputable def DW (m k:Int):Int:=(m.fdiv (2^(9+k).toNat)).fmod 2
noncomputable def Cd (m k:Int):List jZ:=[F1 "-r" ((BG m k).fdiv 4),F1 "-w" (((BG m k).fdiv 2).fmod 2),F1 (if k≠0 then "-xSs" else "-xTt") ((BG m k).fmod 2+2*DW m k)]
noncomputable def Cp (m:Int):List jZ:=F1 "?pc?d?b?-?l?s???" (m.fdiv 4096)::([2,1,0].flatMap (Cd m))
noncomputable def AB (row:List Int):List jZ:=row.flatMap Cp
theorem Dc(row:List Int):(AB row).length=10*row.length:=by
 induction row with
 | nil=>rfl
 | cons m r ih=>simp only[AB,lu,j7,j9] at *;rw[ih];show 10+_=_;rwa[]
theorem Rg{m k:Int}{x:jZ}(h:x∈Cd m k):x.length=1:=by
 simp only[Cd,jI,oa,or_false] at h
 rcases h with rfl|rfl|rfl<;>rfl
theorem J2{m:Int}{x:jZ}(h:x∈Cp m):x.length=1:=by
 rcases jI.mp h with rfl|h
 ·rfl
 ·obtain⟨k,_,h⟩:=lw.mp h
  exact Rg h
theorem X6{x:jZ}{i:Int}(h:i.toNat<x.length):x.cps[i.toNat]?=some (x.cps.getD i.toNat 0):=by
 have h:i.toNat<x.cps.size:=h
 simp[h]
theorem Hj{Γ:Cx}{σ:AX}{pos:mi}{l r:kJ}{x:jZ}{i:Int}(hl:Ev Γ σ l (.py (.str x)))(hr:Ev Γ σ r (.py (.int i)))(h0:0<=i)(h1:i<2^63)(h:i.toNat<x.length)
 (hs:autoParam (∀o x,subscripted r false o x=tw [o,x] (getItem o x)) aI):Ev Γ σ (.Subscript l r pos) (.py (.str (F1 x i))):=
 H3 hl hr h0 h1 (X6 h) hs
theorem iT{x c:Int}(h2:0<=x)(h1:x<=c)(hc:c<((2^200:Nat):Int)):x.natAbs<2^200:=mH.mp (by rw[Int.natAbs_of_nonneg h2];exact Int.lt_of_le_of_lt h1 hc)
theorem k9(m:Int){j:Nat}(hj:j<3):((([2,1,0]:List Int).take j).flatMap (Cd m)).length<=9:=by
 rcases j with _|_|_|j
 ·exact kh _
 ·show 3<=9;decide
 ·show 6<=9;decide
 ·exact absurd hj (ue (rR 3 j))
theorem Og{prog:lF}{w:jY}{A:kC}{s:jG}{O:Ap}{a:jN}{mg mb:jZ->Option jD}{xI:j6}{pm cd doc dv kdv:jD}(T:Br mg mb xI)(hk:HK xI s)(row:List Int)(hr:row.length<=63)(hb:∀m∈row,0<=m/\m<65536)
 (N:Nm (Dx prog w A s (Az 45 pm cd doc dv kdv) a Z8 O))(room:A0 (A.deeper (callEnvC (Az 45 pm cd doc dv kdv) s.heap.objs.size a)) 0) :
 Ex (Dx prog w A s (Az 45 pm cd doc dv kdv) a Z8 O) (Bi [.py (Cr row)] 5) (Am (stm 45)) (λaf _=>af=.ret (.py (.str (mO "" (AB row))))):=by
 delta prog w A s O a mg mb xI pm cd doc dv kdv row at T hk hr hb N room
 have hh:=room.handled
 refine Ad (Gn N 1 (CH Ah (ds:=[]) (by decide)) ?_)
 refine Ad (L3 N (C3 N hh (Aa 0)) (λi σ=>∃x y z u,σ=[some (.val (.py (Cr row))),some (.own ((AB (row.take i)).map .str)),x,y,z,u]) (EH _ _ _ _ rfl) ?_ ?_)
 ·intro i d hd R hR σ1 zz1;refine Eb zz1 λx y z u zz2=>?_;clear zz1;obtain rfl:=zz2
  refine Af (Fr hd) λm hm zz1=>?_;obtain rfl:=zz1
  have hi:i<row.length:=(jM.mp hm).1
  obtain⟨hm0,hm1⟩:=hb m (kx hm)
  have hz:(AB (row.take i)).length<=700:=by rw[Dc,lp];rwa[hr,hi]
  refine Ac _ (BH N 2) ?_
  have hdiv:0<=m.fdiv 4096/\m.fdiv 4096<16:=by
   rw[kF _ (by decide)];rwa[hm0,hm1]
  refine Ad (AO N 1 (Hj BF (Dz (Aa 2) Ai (by decide) (by decide)) hdiv.1 (by rwa[hdiv]) ?_) ?_ ?_)
  ·show _<(jB "?pc?d?b?-?l?s???").length
   rw[show(jB "?pc?d?b?-?l?s???").length=16 by decide];rwa[hdiv]
  ·rw[jK];rwa[hz]
  refine Ad (L3 N (Ft N hh (Au (ds:=[.int 2,.int 1,.int 0]) (Ab Ai (Ab Ai (Ab Ai Ah))) (by decide)))
   (λj σ=>∃y z u,σ=[some (.val (.py (Cr row))),some (.own ((AB (row.take i)++[F1 "?pc?d?b?-?l?s???" (m.fdiv 4096)]++(([2,1,0]:List Int).take j).flatMap (Cd m)).map .str)),some (.val (.py (.int m))),y,z,u]) (Jd y z u ?_) ?_ ?_)
  ·simp only[List.take_zero,og,kH,kB]
   rfl
  ·intro j d hd2 R2 hR2 σ2 zz1;refine FN zz1 λy z u zz2=>?_;clear zz1;obtain rfl:=zz2
   obtain⟨k,hkk,rfl⟩:∃k,([2,1,0]:List Int)[j]?=some k/\d=.int k:=Fr (row:=[2,1,0]) hd2
   have hj:j<3:=(jM.mp hkk).1
   have hk3:0<=k/\k<=2:=by
    have:=kx hkk
    simp only[jI,oa,or_false] at this
    rwa[this]
   have h8:(8:Int)^k.toNat≠0:=by have:(0:Int)<8^k.toNat:=sB (by decide);rwa[this]
   have h8b:((8:Int)^k.toNat).natAbs<2^200:=by
    have h1:(8:Int)^k.toNat<=8^2:=by exact_mod_cast nO (by decide) (show k.toNat<=2 by rwa[hk3])
    exact iT (oX (by decide)) h1 (by decide)
   have h2p:(2:Int)^(9+k).toNat≠0:=by have:(0:Int)<2^(9+k).toNat:=sB (by decide);rwa[this]
   have h2b:((2:Int)^(9+k).toNat).natAbs<2^200:=by
    have h1:(2:Int)^(9+k).toNat<=2^11:=by exact_mod_cast nO (by decide) (show(9+k).toNat<=11 by rwa[hk3])
    exact iT (oX (by decide)) h1 (by decide)
   have ht0:0<=BG m k:=kM _ (by decide)
   have ht1:BG m k<8:=lm _ (by decide)
   have ha0:0<=DW m k:=kM _ (by decide)
   have ha1:DW m k<2:=lm _ (by decide)
   have hq4:0<=(BG m k).fdiv 4/\(BG m k).fdiv 4<2:=by rw[kF _ (by decide)];rwa[ht0,ht1]
   have hq2:0<=((BG m k).fdiv 2).fmod 2/\((BG m k).fdiv 2).fmod 2<2:=⟨kM _ (by decide),lm _ (by decide)⟩
   have hq1:0<=(BG m k).fmod 2/\(BG m k).fmod 2<2:=⟨kM _ (by decide),lm _ (by decide)⟩
   have hz2:(AB (row.take i)++[F1 "?pc?d?b?-?l?s???" (m.fdiv 4096)]++(([2,1,0]:List Int).take j).flatMap (Cd m)).length<=800:=by
    rw[j7,j7]
    have:=k9 m hj
    simp only[j9,lq];rwa[hz,this]
   refine Ac _ (BH N 3) ?_
   refine Ad (At N 4 (a:=.py (.int (BG m k))) (CB (Dz (Aa 2) (Gc Ai (Aa 3) hk3.1 (by rwa[hk3]) (by decide)) h8 h8b) Ai (by decide)) ?_)
   refine Ad (At N 5 (a:=.py (.int (DW m k))) (CB (Dz (Aa 2) (Gc Ai (Bl Ai (Aa 3)) (by rwa[hk3]) (by rwa[hk3]) (by decide)) h2p h2b) Ai (by decide)) ?_)
   refine Ad (AO N 1 (Hj BF (Dz (Aa 4) Ai (by decide) (by decide)) hq4.1 (tL hq4.2 (by decide)) ?_) ?_ ?_)
   ·show _<(jB "-r").length
    rw[show(jB "-r").length=2 by decide];rwa[hq4]
   ·rw[jK];rwa[hz2]
   refine Ad (AO N 1 (Hj BF (CB (Dz (Aa 4) Ai (by decide) (by decide)) Ai (by decide)) hq2.1 (by rwa[hq2]) ?_) ?_ ?_)
   ·show _<(jB "-w").length
    rw[show(jB "-w").length=2 by decide];rwa[hq2]
   ·rw[j7,jK];simp only[j9,lq];rwa[hz2]
   refine Ad (AO N 1 (Hj (x:=if k≠0 then "-xSs" else "-xTt") (I8 (ID (Aa 3)) (λh=>?_) (λh=>?_)) (Bl (CB (Aa 4) Ai (by decide)) (Gd Ai (Aa 5) (.inr (by decide)))) ?_ ?_ ?_) ?_ ?_)
   ·rw[if_pos (by simpa using h)];exact BF
   ·rw[if_neg (by simpa using h)];exact BF
   ·rwa[hq1,ha0,ha1]
   ·rwa[hq1,ha0,ha1]
   ·have:(if k≠0 then jB "-xSs" else jB "-xTt").length=4:=by split<;>decide
    show _<(if k≠0 then jB "-xSs" else jB "-xTt").length
    rw[this];rwa[hq1,ha0,ha1]
   ·rw[j7,j7,jK];simp only[j9,lq];rwa[hz2]
   refine Aj (hR2 _ _ (Jd (some (.val (.py (.int k)))) (some (.val (.py (.int (BG m k))))) (some (.val (.py (.int (DW m k))))) ?_))
   have e:((AB (row.take i)++[F1 "?pc?d?b?-?l?s???" (m.fdiv 4096)]++(([2,1,0]:List Int).take (j+1)).flatMap (Cd m)).map oP) =
    ((((AB (row.take i)++[F1 "?pc?d?b?-?l?s???" (m.fdiv 4096)]++(([2,1,0]:List Int).take j).flatMap (Cd m)).map oP)++[.str (F1 "-r" ((BG m k).fdiv 4))])++[.str (F1 "-w" (((BG m k).fdiv 2).fmod 2))])++[.str (F1 (if k≠0 then "-xSs" else "-xTt") ((BG m k).fmod 2+2*DW m k))]:=by
    rw[kQ,hkk]
    simp only[oo,mG,lu,og,kH,kB,Cd,kO,qw,l8,tS,pj]
   rw[e]
   rfl
  ·intro σ2 zz1;refine FN zz1 λy z u zz2=>?_;clear zz1;obtain rfl:=zz2
   refine Aj (Aj (hR _ _ (EH (some (.val (.py (.int m)))) y z u ?_)))
   have e:AB (row.take (i+1))=AB (row.take i)++[F1 "?pc?d?b?-?l?s???" (m.fdiv 4096)]++(([2,1,0]:List Int).take 3).flatMap (Cd m):=by
    rw[AB,kQ,hm]
    simp[AB,Cp]
   rw[e]
   rfl
 ·intro σ1 zz1;refine Eb zz1 λx y z u zz2=>?_;clear zz1;obtain rfl:=zz2
  rw[jK,lD]
  refine Aj (Ct N 1 ?_)
  refine Ad (AQ (GO (Aa 1) (by decide) ?_) rfl)
  have h1:∀x∈AB row,x.length=1:=λx hx=>by
   obtain⟨m,_,h⟩:=lw.mp hx
   exact J2 h
  rw[show(AB row).map (·.length)=lg (AB row).length 1 from vL.mpr ⟨by simp,λb hb=>by obtain⟨x,hx,rfl⟩:=kq.mp hb;exact h1 x hx⟩,nc,Dc]
  rwa[hr]
theorem bc(pm cd doc v:jD):l6 (Az 45 pm cd doc .none .none) ⟨[v],[]⟩=pure [((jB "row"),v)]:=by rfl
theorem Rd{w:jY}{xI:j6}{a:jN}{mg mb:jZ->Option jD}(T:Br mg mb xI)(FO:Av xI 45 a .none .none)(row:List Int)(hr:row.length<=63)(hb:∀m∈row,0<=m/\m<65536) :
 Fn pw w xI 1 (.ref a) [] [.py (Cr row)] [] (.py (.str (mO "" (AB row)))):=
 Ea FO (λpm cd doc=>gi pm cd doc _ _) T.gl.nolimit rfl (λpm cd doc vs h=>by obtain⟨v,rfl⟩:=GF h;exact bc pm cd doc v) (λpm cd doc A s O hk N room=>Og T hk row hr hb N room)
noncomputable def cp:List Nat->List Nat->Nat
 | a::xs,b::ys=>if a=b then cp xs ys+1 else 0
 | _,_=>0
theorem ja(ys:List Nat):cp [] ys=0:=rfl
theorem jw(a:Nat)(xs:List Nat):cp (a::xs) []=0:=rfl
theorem fW(a b:Nat)(xs ys:List Nat):cp (a::xs) (b::ys)=if a=b then cp xs ys+1 else 0:=rfl
theorem Un:∀{xs ys:List Nat} {n:Nat},n<=cp xs ys->(n<cp xs ys↔∃a,xs[n]?=some a/\ys[n]?=some a)
 | [],ys,n,h=>by rw[ja];simp
 | a::xs,[],n,h=>by rw[jw];simp
 | a::xs,b::ys,n,h=>by
  rw[fW] at h ⊢
  by_cases hab:a=b
  ·subst hab
   rw[if_pos rfl] at h ⊢
   cases n with
   | zero=>simp
   | succ n=>
    have:=Un (n:=n) (xs:=xs) (ys:=ys) (by rwa[h])
    simp only[List.getElem?_cons_succ]
    rw[<-this];lia
  ·rw[if_neg hab] at h ⊢
   have:n=0:=by rwa[h]
   subst this
   simp[hab,eq_comm]
theorem Ge:∀(xs ys:List Nat),cp xs ys<=xs.length
 | [],_=>tF (ja _)
 | _::_,[]=>kh _
 | a::xs,b::ys=>by
  rw[fW]
  split
  ·have:=Ge xs ys;simp;rwa[this]
  ·simp
theorem Uo:∀(xs ys:List Nat),cp xs ys=cp ys xs
 | [],[]=>rfl
 | [],_::_=>rfl
 | _::_,[]=>rfl
 | a::xs,b::ys=>by
  rw[fW,fW]
  by_cases h:a=b
  ·subst h;rw[if_pos rfl,if_pos rfl,Uo]
  ·rw[if_neg h,if_neg (ln h)]
theorem PB(xs ys:List Nat):cp xs ys<=ys.length:=by rw[Uo];exact Ge ys xs
noncomputable def GU (l:List Nat) (i i1:Nat):List Nat:=(l.take i1).drop i
theorem Ed{l:List Nat}{i i1 n:Nat}(h:i1<=l.length):(GU l i i1)[n]?=if i+n<i1 then l[i+n]? else none:=by
 unfold GU
 rw[qN,List.getElem?_take]
noncomputable def Cw (l r:List Nat) (i1 j1 i j:Nat):Nat:=cp (GU l i i1) (GU r j j1)
noncomputable abbrev Qj:=Nat×Nat×Nat
noncomputable def BX (t:Qj):jQ:=.tuple [.int t.1,.int t.2.1,.int t.2.2]
noncomputable def Ey (l r:List Nat) (i1 j1:Nat) (b:Qj) (p:Nat×Nat):Qj:=if Cw l r i1 j1 p.1 p.2>b.2.2 then(p.1,p.2,Cw l r i1 j1 p.1 p.2) else b
noncomputable def CO (j0 st i:Nat):Nat:=j0+(((i:Int)-j0).fmod st).toNat
noncomputable def E4 (j0 j1 st i:Nat):List Nat:=(kf ((j1-CO j0 st i+st-1)/st)).map λk=>CO j0 st i+k*st
noncomputable def Wp (i0 i1 j0 j1 st:Nat):List (Nat×Nat):=((kf (i1-i0)).map (i0+·)).flatMap λi=>(E4 j0 j1 st i).map λj=>(i,j)
noncomputable def Cb (l r:List Nat) (st i0 i1 j0 j1:Nat):Qj:=(Wp i0 i1 j0 j1 st).foldl (Ey l r i1 j1) (i0,j0,0)
theorem JY{a b c:Nat}(hc:0<c):(kI a b c).toNat=(b-a+c-1)/c:=by
 unfold kI
 rw[if_pos (by rwa[hc])]
 by_cases h:a<b
 ·rw[if_pos (by rwa[h])]
  have e:(b:Int)-a-1=((b-a-1:Nat):Int):=by rwa[h]
  rw[e]
  have:(((b-a-1:Nat):Int)/(c:Int))=((((b-a-1)/c:Nat)):Int):=by norm_cast
  rw[this]
  have h2:(b-a+c-1)/c=(b-a-1)/c+1:=by
   rw[show b-a+c-1=(b-a-1)+c by rwa[hc,h,e],Nat.add_div_right _ hc]
  rw[h2];generalize (b-a-1)/c=z;rwa[]
 ·rw[if_neg (by rwa[h])]
  rw[show b-a+c-1=c-1 by rwa[hc,h],uf (by rwa[hc])];rfl
theorem Fk{a b c:Nat}(ha:a<2^40)(hb:b<2^40)(hc:0<c)(hc':c<2^40):mD a b c=true:=by
 have h1:(kI a b c)<=2^41/\0<=kI a b c:=by
  unfold kI
  rw[if_pos (by rwa[hc,hc'])]
  split
  ·have h2:((b:Int)-a-1)/c<=(b:Int)-a-1:=Int.ediv_le_self _ (by(rename_i z0;rwa[z0]))
   have h3:0<=((b:Int)-a-1)/c:=qp (by(rename_i z0;rwa[z0])) (by rwa[hc,hc'])
   (rename_i z0;rwa[ha,hb,z0,h2,h3])
  ·rwa[]
 unfold mD
 simp only[sF,kL,rP,decide_eq_true_eq,beq_iff_eq,show((c:Int)>0) by rwa[hc,hc'],if_true]
 rwa[ha,hb,hc,hc',h1]
noncomputable def Yr:List jZ:=["left","right","step","window","i0","i1","j0","j1","best","i","j","size"]
theorem gh(pm cd doc dv kdv:jD):Bf (Az 46 pm cd doc dv kdv) (Am (stm 46)) ["left","right","step","window"] Yr:=.of (by decide +kernel)
theorem DQ{a b c:Nat}(hc:0<c):AN a b c=((kf ((b-a+c-1)/c)).map λk=>a+k*c).map λn=>lY (n:Nat):=by
 unfold AN
 rw[JY hc,mw]
 refine l3 λk _=>?_
 simp
theorem TQ{x y:jZ}{i j:Nat}(hi:i<x.length)(hj:j<y.length):(F1 x (i:Nat)=F1 y (j:Nat))↔x.cps.toList[i]?=y.cps.toList[j]?:=by
 have hi':i<x.cps.size:=hi
 have hj':j<y.cps.size:=hj
 simp[F1,hi',hj']
theorem Y2{k d st:Nat}(h:k<(d+st-1)/st):k*st<d:=by
 have hst:0<st:=by
  rcases wF st with rfl|h'
  ·simp at h
  ·exact h'
 have h1:(k+1)*st<=d+st-1:=(rZ hst).mp h
 rw[wa,Nat.one_mul] at h1
 rwa[hst,h1]
theorem Pf{j0 j1 st i j:Nat}(h:j∈E4 j0 j1 st i):j<j1/\j0<=j:=by
 refine Af (kq.mp h) λk hk zz1=>?_;obtain rfl:=zz1
 have:=Y2 (mv.mp hk)
 unfold CO at *
 rwa[this]
theorem FD{l r:List Nat}{i1 j1 i j:Nat}(h:i1<=l.length):Cw l r i1 j1 i j<=i1-i:=by
 have:=Ge (GU l i i1) (GU r j j1)
 unfold GU at this
 rw[rh,lp] at this
 unfold Cw GU
 rwa[h,this]
theorem EV{l r:List Nat}{i1 j1 i j:Nat}(h:j1<=r.length):Cw l r i1 j1 i j<=j1-j:=by
 have:=PB (GU l i i1) (GU r j j1)
 unfold GU at this
 rw[rh,lp] at this
 unfold Cw GU
 rwa[h,this]
theorem Z3{l r:jZ}{i1 j1 i j n:Nat}(hl:i1<=l.length)(hr:j1<=r.length)(h:n<=Cw l.cps.toList r.cps.toList i1 j1 i j) :
 (decide ((i:Int)+(n:Nat)<i1)&&(decide ((j:Int)+(n:Nat)<j1)&&(decide (F1 l ((i:Nat)+(n:Nat))=F1 r ((j:Nat)+(n:Nat)))&&true)))=decide (n<Cw l.cps.toList r.cps.toList i1 j1 i j):=by
 delta l r i1 j1 i j n at hl hr h
 have h1:=Un h
 have hl':i1<=l.cps.toList.length:=by rw[kn];exact hl
 have hr':j1<=r.cps.toList.length:=by rw[kn];exact hr
 rw[qh]
 simp only[kL,decide_eq_true_eq,and_true]
 show _↔n<cp (GU l.cps.toList i i1) (GU r.cps.toList j j1)
 rw[h1,Ed hl',Ed hr']
 constructor
 ·rintro⟨a,b,c⟩
  have a':i+n<i1:=by rwa[a]
  have b':j+n<j1:=by rwa[b]
  rw[if_pos a',if_pos b']
  have e:=(TQ (x:=l) (y:=r) (i:=i+n) (j:=j+n) (by rwa[hl,a]) (by rwa[hr,b])).mp (by push_cast;exact c)
  rw[<-e]
  exact Ac _ (jR (by rwa[hl',a])) (jR (by rwa[hl',a]))
 ·rintro⟨a,e1,e2⟩
  by_cases a':i+n<i1
  ·by_cases b':j+n<j1
   ·rw[if_pos a'] at e1
    rw[if_pos b'] at e2
    refine⟨by rwa[a'],by rwa[b'],?_⟩
    have:=(TQ (x:=l) (y:=r) (i:=i+n) (j:=j+n) (by rwa[hl,a']) (by rwa[hr,b'])).mpr (by rw[e1,e2])
    push_cast at this
    exact this
   ·exact B0 (if_neg b') e2
  ·exact B0 (if_neg a') e1
noncomputable def NR (i0 i1 j0 j1:Nat):jQ:=.tuple [.int i0,.int i1,.int j0,.int j1]
theorem Oe{prog:lF}{w:jY}{A:kC}{s:jG}{O:Ap}{a:jN}{mg mb:jZ->Option jD}{xI:j6}{pm cd doc dv kdv:jD}(T:Br mg mb xI)(hk:HK xI s)(l r:jZ)(st i0 i1 j0 j1:Nat)(hst:0<st)(hst':st<1000)
 (hl:i1<=l.length)(hr:j1<=r.length)(hi:i0<=i1)(hj:j0<=j1)(hl':l.length<1000)(hr':r.length<1000)
 (N:Nm (Dx prog w A s (Az 46 pm cd doc dv kdv) a Yr O))(room:A0 (A.deeper (callEnvC (Az 46 pm cd doc dv kdv) s.heap.objs.size a)) 0) :
 Ex (Dx prog w A s (Az 46 pm cd doc dv kdv) a Yr O) (Bi [.py (.str l),.py (.str r),.py (.int st),.py (NR i0 i1 j0 j1)] 8) (Am (stm 46)) (λaf _=>af=.ret (.py (BX (Cb l.cps.toList r.cps.toList st i0 i1 j0 j1)))):=by
 delta prog w A s O a mg mb xI pm cd doc dv kdv l r st i0 i1 j0 j1 at T hk hst hst' hl hr hi hj hl' hr' N room
 have hh:=room.handled
 let Γ:=Dx prog w A s (Az 46 pm cd doc dv kdv) a Yr O
 have N:Nm Γ:=N
 change Ex Γ _ _ _
 refine Ad (Gm (Aa 3) (BV N hh [4,5,6,7] (ds:=[_,_,_,_]) ⟨rfl,rfl,rfl,rfl,rfl,rfl,rfl,rfl,trivial⟩) ?_)
 refine Ad (At N 8 (Au (ds:=[.int i0,.int j0,.int 0]) (Ab (Aa 4) (Ab (Aa 6) (Ab Ai Ah)))) ?_)
 have hR1:AN i0 i1 1=((kf (i1-i0)).map (i0+·)).map λn=>lY (n:Nat):=by
  have:=DQ (a:=i0) (b:=i1) (c:=1) (by decide)
  simpa using this
 have hpl:∀i,((kf (i1-i0)).map (i0+·)).take (i+1)=((kf (i1-i0)).map (i0+·)).take i++(((kf (i1-i0)).map (i0+·))[i]?).toList:=λi=>kQ
 refine Ad (L3 N (ds:=AN i0 i1 1) (I5 N hh (A1 T hk) (Aa 4) (Aa 5) (by have:=Fk (a:=i0) (b:=i1) (c:=1) (by rwa[hl,hi,hl']) (by rwa[hl,hl']) (by decide) (by decide);exact this))
  (λn σ=>∃x y z,σ=[some (.val (.py (.str l))),some (.val (.py (.str r))),some (.val (.py (.int st))),some (.val (.py (NR i0 i1 j0 j1))),some (.val (.py (.int i0))),some (.val (.py (.int i1))),some (.val (.py (.int j0))),some (.val (.py (.int j1))),
   some (.val (.py (BX ((((((kf (i1-i0)).map (i0+·)).take n).flatMap λi=>(E4 j0 j1 st i).map λj=>(i,j))).foldl (Ey l.cps.toList r.cps.toList i1 j1) (i0,j0,0))))),x,y,z]) (Jd none none none rfl) ?_ ?_)
 ·intro n d hd R hR σ1 zz1;refine FN zz1 λx y z zz2=>?_;clear zz1;obtain rfl:=zz2
  rw[hR1] at hd
  obtain⟨i,hi',rfl⟩:∃i,((kf (i1-i0)).map (i0+·))[n]?=some i/\d=.int (i:Nat):=by
   rw[kc] at hd
   refine Af (j8.mp hd) λm h1 h2=>?_
   exact Ac m h1 h2.symm
  have hii:i0<=i/\i<i1:=by
   obtain⟨k,hk1,rfl⟩:=kq.mp (kx hi')
   have:=mv.mp hk1
   rwa[this]
  generalize hB:(((((kf (i1-i0)).map (i0+·)).take n).flatMap λi=>(E4 j0 j1 st i).map λj=>(i,j))).foldl (Ey l.cps.toList r.cps.toList i1 j1) (i0,j0,0)=B
  refine Ac _ (BH N 9) ?_
  have hfm0:0<=((i:Int)-j0).fmod st:=kM _ (by rwa[hst])
  have hfm1:((i:Int)-j0).fmod st<st:=lm _ (by rwa[hst])
  have hsj:(j0:Int)+((i:Int)-j0).fmod st=(CO j0 st i:Nat):=by unfold CO;rwa[hst,hfm0]
  have hsj':CO j0 st i<2000:=by unfold CO;rwa[hst,hst',hr,hj,hr',hfm1]
  have hR2:AN (CO j0 st i:Nat) j1 st=(E4 j0 j1 st i).map λn=>lY (n:Nat):=DQ hst
  refine Ad (L3 N (ds:=AN (CO j0 st i:Nat) j1 st) (F9 N hh (A1 T hk) (Ev.cast (Bl (Aa 6) (CB (Dd (Aa 9) (Aa 6)) (Aa 2) (by rwa[hst]))) (by rw[hsj])) (Aa 7) (Aa 2) (Fk (by rwa[hst',hr,hj,hr',hfm1,hsj]) (by rwa[hr,hr']) hst (by rwa[hst'])) (by rwa[hst]) (by(clear_value *;lia)))
   (λm σ=>∃y z,σ=[some (.val (.py (.str l))),some (.val (.py (.str r))),some (.val (.py (.int st))),some (.val (.py (NR i0 i1 j0 j1))),some (.val (.py (.int i0))),some (.val (.py (.int i1))),some (.val (.py (.int j0))),some (.val (.py (.int j1))),
    some (.val (.py (BX ((((E4 j0 j1 st i).take m).map λj=>(i,j)).foldl (Ey l.cps.toList r.cps.toList i1 j1) B)))),some (.val (.py (.int (i:Nat)))),y,z]) (AS y z rfl) ?_ ?_)
  ·intro m d hd2 R2 h2 σ2 zz1;refine B1 zz1 λy z zz2=>?_;clear zz1;obtain rfl:=zz2
   rw[hR2] at hd2
   obtain⟨j,hj',rfl⟩:∃j,(E4 j0 j1 st i)[m]?=some j/\d=.int (j:Nat):=by
    rw[kc] at hd2
    refine Af (j8.mp hd2) λm h1 h2=>?_
    exact Ac m h1 h2.symm
   generalize hB2:(((E4 j0 j1 st i).take m).map λj=>(i,j)).foldl (Ey l.cps.toList r.cps.toList i1 j1) B=B2
   refine Ac _ (BH N 10) ?_
   have hjj:=Pf (kx hj')
   generalize hrun:Cw l.cps.toList r.cps.toList i1 j1 i j=TT
   have hru1:TT<=i1-i:=by rw[<-hrun];exact FD (by rw[kn];exact hl)
   have hru2:TT<=j1-j:=by rw[<-hrun];exact EV (by rw[kn];exact hr)
   refine Ad (At N 11 Ai ?_)
   refine Ad (VE (n:=TT) (λn σ=>∃sz:Nat,sz<=TT/\n=TT-sz/\σ=[some (.val (.py (.str l))),some (.val (.py (.str r))),some (.val (.py (.int st))),some (.val (.py (NR i0 i1 j0 j1))),some (.val (.py (.int i0))),some (.val (.py (.int i1))),some (.val (.py (.int j0))),some (.val (.py (.int j1))),
    some (.val (.py (BX B2))),some (.val (.py (.int (i:Nat)))),some (.val (.py (.int (j:Nat)))),some (.val (.py (.int (sz:Nat))))]) (Ba 0 (kh _) rfl rfl) ?_)
   ·intro n R3 R4 h3 h4 σ3 zz1;refine Bu zz1 λsz hsz zz2 zz3=>?_;clear zz1;obtain rfl:=zz2;obtain rfl:=zz3
    refine Ba (decide (sz<TT)) ?_ (λh=>?_) λh=>?_
    ·have hb:=Z3 (l:=l) (r:=r) (i:=i) (j:=j) (n:=sz) hl hr (by rw[hrun];exact hsz)
     rw[hrun] at hb
     rw[<-hb]
     refine By (AP (An (Bl (Aa 9) (Aa 11)) (Aa 5)) (λh1=>AP (An (Bl (Aa 10) (Aa 11)) (Aa 7)) (λh2=>AP (IC (Hj (Aa 0) (Bl (Aa 9) (Aa 11)) ?_ ?_ ?_) (Hj (Aa 1) (Bl (Aa 10) (Aa 11)) ?_ ?_ ?_)) (λ_=>BC))))
     all_goals have h1:=of_decide_eq_true h1
     all_goals have h2:=of_decide_eq_true h2
     all_goals (clear_value *;lia)
    ·have h:=of_decide_eq_true h
     refine Ad (VH N 11 rfl Ai ?_)
     exact Aj (h3 _ _ ⟨TT-(sz+1),by(clear_value *;lia),sz+1,h,rfl,rfl⟩)
    ·have h:=of_decide_eq_false h
     have hsr:sz=TT:=by(clear_value *;lia)
     subst hsr
     refine Aj (h4 _ _ ?_)
     have hbest:(B2.2.2:Int)=(((B2.2.2:Nat)):Int):=rfl
     refine Ad (BI (b:=decide ((B2.2.2:Int)<(sz:Nat))) (An (Aa 11) (A7 (ds:=[.int B2.1,.int B2.2.1,.int B2.2.2]) (Aa 8) Ai (by decide) (by decide) rfl)) (λh=>?_) (λh=>?_))
     ·have h:=of_decide_eq_true h
      refine Ad (At N 8 (Au (ds:=[.int (i:Nat),.int (j:Nat),.int (sz:Nat)]) (Ab (Aa 9) (Ab (Aa 10) (Ab (Aa 11) Ah)))) ?_)
      refine Aj (Aj (h2 _ _ (AS (some (.val (.py (.int (j:Nat))))) (some (.val (.py (.int (sz:Nat))))) ?_)))
      rw[kQ,hj',kB,ms,hB2]
      simp only[oo,kO,qw,mY,uM,Ey,hrun]
      rw[if_pos (by(clear_value *;lia))]
      rfl
     ·have h:=of_decide_eq_false h
      refine Aj (Aj (h2 _ _ (AS (some (.val (.py (.int (j:Nat))))) (some (.val (.py (.int (sz:Nat))))) ?_)))
      rw[kQ,hj',kB,ms,hB2]
      simp only[oo,kO,qw,mY,uM,Ey,hrun]
      rw[if_neg (by(clear_value *;lia))]
  ·intro σ2 zz1;refine B1 zz1 λy z zz2=>?_;clear zz1;obtain rfl:=zz2
   refine Aj (Aj (hR _ _ (Jd (some (.val (.py (.int (i:Nat))))) y z ?_)))
   rw[hR2,jK,lD,hpl,hi',mG,ms,hB]
   simp only[oo,lu,og,kH]
 ·intro σ1 zz1;refine FN zz1 λx y z zz2=>?_;clear zz1;obtain rfl:=zz2
  rw[hR1,jK,lD]
  exact Aj (Ad (AQ (Aa 8) rfl))
theorem ba(pm cd doc v u x y:jD):l6 (Az 46 pm cd doc .none .none) ⟨[v,u,x,y],[]⟩=pure [((jB "left"),v),((jB "right"),u),((jB "step"),x),((jB "window"),y)]:=by rfl
theorem Rc{w:jY}{xI:j6}{a:jN}{mg mb:jZ->Option jD}(T:Br mg mb xI)(FO:Av xI 46 a .none .none)(l r:jZ)(st i0 i1 j0 j1:Nat)(hst:0<st)(hst':st<1000)
 (hl:i1<=l.length)(hr:j1<=r.length)(hi:i0<=i1)(hj:j0<=j1)(hl':l.length<1000)(hr':r.length<1000) :
 Fn pw w xI 1 (.ref a) [] [.py (.str l),.py (.str r),.py (.int st),.py (NR i0 i1 j0 j1)] [] (.py (BX (Cb l.cps.toList r.cps.toList st i0 i1 j0 j1))):=
 Ea FO (λpm cd doc=>gh pm cd doc _ _) T.gl.nolimit rfl (λpm cd doc vs h=>by refine Eb (Yx h) λv u x y zz1=>?_;obtain rfl:=zz1;exact ba pm cd doc v u x y) (λpm cd doc A s O hk N room=>Oe T hk l r st i0 i1 j0 j1 hst hst' hl hr hi hj hl' hr' N room)
noncomputable def Dm (l r:List Nat) (st:Nat):Nat->Nat->Nat->Nat->Nat->List Qj
 | 0,_,_,_,_=>[]
 | f+1,i0,i1,j0,j1=>
  let t:=Cb l r st i0 i1 j0 j1
  if t.2.2=0 then [] else Dm l r st f i0 t.1 j0 t.2.1++[t]++Dm l r st f (t.1+t.2.2) i1 (t.2.1+t.2.2) j1
structure XI (i0 i1 j0 j1:Nat) (t:Qj):Prop where
 i0:i0<=t.1
 i1:t.1+t.2.2<=i1
 j0:j0<=t.2.1
 j1:t.2.1+t.2.2<=j1
theorem IV{l r:List Nat}{st i0 i1 j0 j1:Nat}(hl:i1<=l.length)(hr:j1<=r.length)(hi:i0<=i1)(hj:j0<=j1):XI i0 i1 j0 j1 (Cb l r st i0 i1 j0 j1):=by
 delta l r st i0 i1 j0 j1 at hl hr hi hj
 have key:∀(ps:List (Nat×Nat)) (b:Qj),XI i0 i1 j0 j1 b->(∀p∈ps,i0<=p.1/\p.1<i1/\j0<=p.2/\p.2<j1)->XI i0 i1 j0 j1 (ps.foldl (Ey l r i1 j1) b):=by
  intro ps
  induction ps with
  | nil=>exact λb h _=>h
  | cons p ps ih=>
   intro b h hp
   refine ih _ ?_ λq hq=>hp q (.tail _ hq)
   refine CU (hp p (.head _)) λh1 h2 h3 h4=>?_
   unfold Ey
   split
   ·have a:=FD (l:=l) (r:=r) (i1:=i1) (j1:=j1) (i:=p.1) (j:=p.2) hl
    have b:=EV (l:=l) (r:=r) (i1:=i1) (j1:=j1) (i:=p.1) (j:=p.2) hr
    exact⟨h1,by show p.1+Cw l r i1 j1 p.1 p.2<=i1;rwa[h2,a],h3,by show p.2+Cw l r i1 j1 p.1 p.2<=j1;rwa[h4,b]⟩
   ·exact h
 refine key _ _ ⟨jP _,hi,jP _,hj⟩ λp hp=>?_
 refine Af (lw.mp hp) λi hi' hp=>?_
 refine Af (kq.mp hp) λj hj' zz1=>?_;obtain rfl:=zz1
 refine Af (kq.mp hi') λk hk zz1=>?_;obtain rfl:=zz1
 have:=mv.mp hk
 have:=Pf hj'
 show i0<=i0+k/\i0+k<i1/\j0<=j/\j<j1
 (rename_i z0;rwa[z0,this])
theorem DM{l r:List Nat}{st:Nat}:∀{f i0 i1 j0 j1:Nat},i1<=l.length->j1<=r.length->i0<=i1->j0<=j1->(Dm l r st f i0 i1 j0 j1).length<=i1-i0
 | 0,_,_,_,_,_,_,_,_=>kh _
 | f+1,i0,i1,j0,j1,hl,hr,hi,hj=>by
  have hw:=IV (st:=st) hl hr hi hj
  unfold Dm
  dsimp only
  generalize Cb l r st i0 i1 j0 j1=t at hw ⊢
  obtain⟨a,b,c,d⟩:=hw
  split
  ·exact kh _
  ·have h1:=DM (st:=st) (f:=f) (i0:=i0) (i1:=t.1) (j0:=j0) (j1:=t.2.1) (l:=l) (r:=r) (by(rename_i z0;rwa[hl,b,z0])) (by(rename_i z0;rwa[hr,d,z0])) a c
   have h2:=DM (st:=st) (f:=f) (i0:=t.1+t.2.2) (i1:=i1) (j0:=t.2.1+t.2.2) (j1:=j1) (l:=l) (r:=r) hl hr b d
   rw[j7,j7]
   simp only[j9,lq]
   (rename_i z0;rwa[hi,a,b,z0,h1,h2])
noncomputable def Z7:List jZ:=["left","right","step","window","i0","i1","j0","j1","i","j","size","ahead","behind"]
theorem gf(pm cd doc dv kdv:jD):Bf (Az 47 pm cd doc dv kdv) (Am (stm 47)) ["left","right","step","window"] Z7:=.of (by decide +kernel)
theorem Av.at{h:j6}{i:Nat}{a:jN}{dv kdv:jD}(F:Av h i a dv kdv):∃o pm cd doc,h.get? a=some o/\o.data=.func (Az i pm cd doc dv kdv):=E7 F.ex λo pm cd doc h1 h2 _=>(eW o pm cd doc h1 h2)
section
variable {Γ:Cx} {σ:AX} {pos:mi}
theorem Dh{l r:kJ}{a b:Nat}(hl:Ev Γ σ l (.py (.int (a:Nat))))(hr:Ev Γ σ r (.py (.int (b:Nat)))):Ev Γ σ (.BinOp l .Add r pos) (.py (.int (a+b:Nat))):=Ev.cast (Bl hl hr) (by push_cast;rfl)
theorem CI{f e:kJ}{es:List kJ}{xI:j6}{n i:Nat}{a:jN}{dv kdv:jD}{avs:List AV}{r:AV}(F:Fn Γ.prog Γ.w xI n (.ref a) [] avs [] r)(room:A0 Γ.A n)(hk:HK xI Γ.s₀)(FO:Av xI i a dv kdv)
 (hf:Ev Γ σ f (.raw (.ref a)))(ha:XJ Γ σ (e::es) avs)(hp:autoParam ((e::es).all AE=true) aR)
 (he:autoParam (eval (.Call f (e::es) [] pos) Γ.env=(do kY pos (<-eval f Γ.env) [] (backTo pos (starEach (e::es) Γ.env)) (ma pos (ly [] Γ.env)))) aR):Ev Γ σ (.Call f (e::es) [] pos) r:=
 let ⟨_,_,_,_,h1,h2⟩:=FO.at
 YW F room hk h1 h2 hf ha hp he
end
theorem Xk{w:jY}{A:kC}{s:jG}{O:Ap}{a aL:jN}{mg mb:jZ->Option jD}{xI:j6}{pm cd doc dv kdv:jD}(T:Br mg mb xI)(hk:HK xI s)(FL:Av xI 46 aL .none .none)(hgL:mg "_law_longest"=some (.ref aL))(FO:Av xI 47 a .none .none)(hg:mg "_law_cut"=some (.ref a))(l r:jZ)(st i0 i1 j0 j1 f:Nat)(hst:0<st)(hst':st<1000)
 (hl:i1<=l.length)(hr:j1<=r.length)(hi:i0<=i1)(hj:j0<=j1)(hl':l.length<1000)(hr':r.length<1000)
 (ih:∀i0 i1 j0 j1,i1<=l.length->j1<=r.length->i0<=i1->j0<=j1->i1-i0<f->Fn pw w xI (f+1) (.ref a) [] [.py (.str l),.py (.str r),.py (.int st),.py (NR i0 i1 j0 j1)] [] (.py (.list ((Dm l.cps.toList r.cps.toList st f i0 i1 j0 j1).map BX))))(hf:i1-i0<f+1)
 (N:Nm (Dx pw w A s (Az 47 pm cd doc dv kdv) a Z7 O))(room:A0 (A.deeper (callEnvC (Az 47 pm cd doc dv kdv) s.heap.objs.size a)) (f+1)) :
 Ex (Dx pw w A s (Az 47 pm cd doc dv kdv) a Z7 O) (Bi [.py (.str l),.py (.str r),.py (.int st),.py (NR i0 i1 j0 j1)] 9) (Am (stm 47)) (λaf _=>af=.ret (.py (.list ((Dm l.cps.toList r.cps.toList st (f+1) i0 i1 j0 j1).map BX)))):=by
 delta w A s O a aL mg mb xI pm cd doc dv kdv l r st i0 i1 j0 j1 f at T hk FL hgL FO hg hst hst' hl hr hi hj hl' hr' ih hf N room
 have hh:=room.handled
 have hlT:i1<=l.cps.toList.length:=by rw[kn];exact hl
 have hrT:j1<=r.cps.toList.length:=by rw[kn];exact hr
 have hw:=IV (st:=st) hlT hrT hi hj
 have hL:=Rc (w:=w) T FL l r st i0 i1 j0 j1 hst hst' hl hr hi hj hl' hr'
 have hcut:Dm l.cps.toList r.cps.toList st (f+1) i0 i1 j0 j1=(let t:=Cb l.cps.toList r.cps.toList st i0 i1 j0 j1
  if t.2.2=0 then [] else Dm l.cps.toList r.cps.toList st f i0 t.1 j0 t.2.1++[t]++Dm l.cps.toList r.cps.toList st f (t.1+t.2.2) i1 (t.2.1+t.2.2) j1):=rfl
 dsimp only at hcut
 generalize Cb l.cps.toList r.cps.toList st i0 i1 j0 j1=t at *
 obtain⟨h1,h2,h3,h4⟩:=hw
 refine Ad (Gm (Aa 3) (BV N hh [4,5,6,7] (ds:=[_,_,_,_]) ⟨rfl,rfl,rfl,rfl,rfl,rfl,rfl,rfl,trivial⟩) ?_)
 refine Ad (Gm (d:=BX t) (CI hL (room.le (by rwa[])) hk FL (BU T hk hgL) (Ab (Aa 0) (Ab (Aa 1) (Ab (Aa 2) (Ab (Aa 3) Ah))))) (BV N hh [8,9,10] (ds:=[_,_,_]) ⟨rfl,rfl,rfl,rfl,rfl,rfl,trivial⟩) ?_)
 refine Ad (BI (b:=decide ((t.2.2:Int)=0)) (An (Aa 10) Ai) (λh=>?_) (λh=>Aj ?_))
 ·have h:=of_decide_eq_true h
  refine Ad (AQ (Dy (ds:=[]) Ah) ?_)
  rw[hcut,if_pos (by(clear_value *;lia))];rfl
 ·have h:=of_decide_eq_false h
  have hz:t.2.2≠0:=by(clear_value *;lia)
  have hA:=ih i0 t.1 j0 t.2.1 (by rwa[hl,h2]) (by rwa[hr,h4]) h1 h3 (by(clear_value *;lia))
  have hB:=ih (t.1+t.2.2) i1 (t.2.1+t.2.2) j1 hl hr h2 h4 (by(clear_value *;lia))
  have lA:=DM (st:=st) (f:=f) (l:=l.cps.toList) (r:=r.cps.toList) (i0:=i0) (i1:=t.1) (j0:=j0) (j1:=t.2.1) (by rwa[hlT,h2]) (by rwa[hrT,h4]) h1 h3
  have lB:=DM (st:=st) (f:=f) (l:=l.cps.toList) (r:=r.cps.toList) (i0:=t.1+t.2.2) (i1:=i1) (j0:=t.2.1+t.2.2) (j1:=j1) hlT hrT h2 h4
  refine Ad (At N 11 (CI hA (room.le (by rwa[])) hk FO (BU T hk hg) (Ab (Aa 0) (Ab (Aa 1) (Ab (Aa 2) (Ab (Au (ds:=[.int i0,.int t.1,.int j0,.int t.2.1]) (Ab (Aa 4) (Ab (Aa 8) (Ab (Aa 6) (Ab (Aa 9) Ah))))) Ah))))) ?_)
  refine Ad (At N 12 (CI hB (room.le (by rwa[])) hk FO (BU T hk hg) (Ab (Aa 0) (Ab (Aa 1) (Ab (Aa 2) (Ab (Au (ds:=[.int (t.1+t.2.2:Nat),.int i1,.int (t.2.1+t.2.2:Nat),.int j1]) (Ab (Dh (Aa 8) (Aa 10)) (Ab (Aa 5) (Ab (Dh (Aa 9) (Aa 10)) (Ab (Aa 7) Ah))))) Ah))))) ?_)
  refine Ad (AQ (Be (GN (Be (GN (Aa 11) (Dy (ds:=[BX t]) (Ab (Au (ds:=[.int t.1,.int t.2.1,.int t.2.2]) (Ab (Aa 8) (Ab (Aa 9) (Ab (Aa 10) Ah)))) Ah)) ?_)) (Aa 12) ?_)) ?_)
  ·rw[jK];simp only[j9,lq];rwa[hl,hl',h2,lA]
  ·rw[j7,jK,jK];simp only[j9,lq];rwa[hl,hl',h1,h2,lA,lB]
  ·rw[hcut,if_neg hz,kB,kB];rfl
theorem aZ(pm cd doc v u x y:jD):l6 (Az 47 pm cd doc .none .none) ⟨[v,u,x,y],[]⟩=pure [((jB "left"),v),((jB "right"),u),((jB "step"),x),((jB "window"),y)]:=by rfl
theorem aM{w:jY}{xI:j6}{a aL:jN}{mg mb:jZ->Option jD}(T:Br mg mb xI)(FL:Av xI 46 aL .none .none)(hgL:mg "_law_longest"=some (.ref aL))(FO:Av xI 47 a .none .none)(hg:mg "_law_cut"=some (.ref a))(l r:jZ)(st:Nat)(hst:0<st)(hst':st<1000)(hl':l.length<1000)(hr':r.length<1000) :
 ∀f i0 i1 j0 j1,i1<=l.length->j1<=r.length->i0<=i1->j0<=j1->i1-i0<f->Fn pw w xI (f+1) (.ref a) [] [.py (.str l),.py (.str r),.py (.int st),.py (NR i0 i1 j0 j1)] [] (.py (.list ((Dm l.cps.toList r.cps.toList st f i0 i1 j0 j1).map BX))):=by
 intro f
 induction f with
 | zero=>intro i0 i1 j0 j1 _ _ _ _ h;lia
 | succ f ih=>
  intro i0 i1 j0 j1 hl hr hi hj hf
  exact Ea FO (λpm cd doc=>gf pm cd doc _ _) T.gl.nolimit rfl (λpm cd doc vs h=>by refine Eb (Yx h) λv u x y zz1=>?_;obtain rfl:=zz1;exact aZ pm cd doc v u x y) (λpm cd doc A s O hk N room=>Xk T hk FL hgL FO hg l r st i0 i1 j0 j1 f hst hst' hl hr hi hj hl' hr' ih hf N room)
theorem eM{Γ:Cx}{σ:AX}{pos:mi}{mg mb:jZ->Option jD}{xI:j6}{x:jZ}{v:jD}{d:jQ}(T:Br mg mb xI)(hk:HK xI Γ.s₀)(h:mg x=some v)(hr:Ak xI v d [])(hg:autoParam (Γ.env.globals=mP) aR)(hkd:autoParam (Γ.env.scope.kind=.function) aR)(hxk:autoParam (Γ.env.kindOf x=some .globalImplicit) aR)
 (hd:autoParam ((x == ("__debug__":jZ))=false) aD):Ev Γ σ (.Name x pos) (.py d):=
 I9 (T.gl.keeps hk) hg h (λO=>Ac [] (Ak.keeps hk hr) λ_ h=>nomatch h) hkd hxk hd
noncomputable def gI:List jZ:=["mode"]
theorem gr(pm cd doc dv kdv:jD):Bf (Az 18 pm cd doc dv kdv) (Am (stm 18)) ["mode"] gI:=.of (by decide +kernel)
theorem bk(pm cd doc v:jD):l6 (Az 18 pm cd doc .none .none) ⟨[v],[]⟩=pure [((jB "mode"),v)]:=by rfl
theorem YJ{w:jY}{xI:j6}{a:jN}{mg mb:jZ->Option jD}(T:Br mg mb xI)(FO:Av xI 18 a .none .none)(m:Int) :
 Fn pw w xI 1 (.ref a) [] [.py (.int m)] [] (.py (.int (ke m 61440))):=
 Ea FO (λpm cd doc=>gr pm cd doc _ _) T.gl.nolimit rfl (λpm cd doc vs h=>by obtain⟨v,rfl⟩:=GF h;exact bk pm cd doc v) (λpm cd doc A s O hk N room=>
  Ad (Iz (Ad (AQ (Hm (Aa 0) Ai) rfl))))
noncomputable def ad:List jZ:=["mode","perm","index","table","bit","char"]
theorem gq(pm cd doc dv kdv:jD):Bf (Az 39 pm cd doc dv kdv) (Am (stm 39)) ["mode"] ad:=.of (by decide +kernel)
noncomputable def A4:List (List (Int×jZ)):=[[(40960,"l"),(49152,"s"),(32768,"-"),(24576,"b"),(16384,"d"),(8192,"c"),(4096,"p")],[(256,"r")],[(128,"w")],[(2112,"s"),(2048,"S"),(64,"x")],[(32,"r")],[(16,"w")],[(1032,"s"),(1024,"S"),(8,"x")],[(4,"r")],[(2,"w")],[(513,"t"),(512,"T"),(1,"x")]]
noncomputable def ff (p:Int×jZ):jQ:=.tuple [.int p.1,.str p.2]
noncomputable def ES (t:List (Int×jZ)):jQ:=.tuple (t.map ff)
noncomputable def Gu:jQ:=.tuple (A4.map ES)
noncomputable def EL (m:Int) (i:Nat) (p:Int×jZ):Bool:=if i=0 then decide (ke m 61440=p.1) else decide (ke m p.1=p.1)
noncomputable def AU (m:Int) (i:Nat) (t:List (Int×jZ)):jZ:=((t.find? (EL m i)).map (·.2)).getD (if i=0 then "?" else "-")
noncomputable def Ax (m:Int) (n:Nat):List jZ:=(A4.take n).mapIdx (AU m)
theorem Kw{α:Type}{p:α->Bool}:∀{l:List α} {i:Nat} {x:α},l[i]?=some x->(∀y∈l.take i,p y=false)->p x=true->l.find? p=some x
 | [],_,_,h,_,_=>by simp at h
 | y::l,0,x,h,_,hx=>by
  have:y=x:=by simpa using h
  subst this
  rw[mh,hx]
 | y::l,i+1,x,h,hn,hx=>by
  have hy:p y=false:=hn y (by simp)
  rw[mh,hy]
  exact Kw (by simpa using h) (λz hz=>hn z (by simp[hz])) hx
theorem Kb{w:jY}{A:kC}{s:jG}{O:Ap}{a aS:jN}{mg mb:jZ->Option jD}{xI:j6}{pm cd doc dv kdv tb:jD}(T:Br mg mb xI)(hk:HK xI s)(FS:Av xI 18 aS .none .none)(hgS:mg "S_IFMT"=some (.ref aS))(hgT:mg "_filemode_table"=some tb)(hT:Ak xI tb Gu [])(m:Int)
 (N:Nm (Dx pw w A s (Az 39 pm cd doc dv kdv) a ad O))(room:A0 (A.deeper (callEnvC (Az 39 pm cd doc dv kdv) s.heap.objs.size a)) 1) :
 Ex (Dx pw w A s (Az 39 pm cd doc dv kdv) a ad O) (Bi [.py (.int m)] 5) (Am (stm 39)) (λaf _=>af=.ret (.py (.str (mO "" (Ax m 10))))):=by
 delta w A s O a aS mg mb xI pm cd doc dv kdv tb m at T hk FS hgS hgT hT N room
 have hh:=room.handled
 have hS:=YJ (w:=w) T FS m
 refine Ad (Iz ?_)
 refine Ad (Gn N 1 (CH Ah (ds:=[]) (by decide)) ?_)
 refine Ad (EO N (Vc N hh (A1 T hk) (eM (d:=Gu) T hk hgT hT))
  (λi σ=>∃x y z u,σ=[some (.val (.py (.int m))),some (.own ((Ax m i).map .str)),x,y,z,u]) (EH _ _ _ _ rfl) ?_ ?_)
 ·intro i d σ1 hd zz1;refine Eb zz1 λx y z u zz2=>?_;clear zz1;obtain rfl:=zz2
  refine Af (Eu hd) λd' hd' zz1=>?_;obtain rfl:=zz1
  obtain⟨t,ht,rfl⟩:∃t,A4[i]?=some t/\d'=ES t:=by
   rw[kc] at hd'
   refine Af (j8.mp hd') λm h1 h2=>?_
   exact Ac m h1 h2.symm
  have hi:i<10:=(jM.mp ht).1
  have hz:(Ax m i).length<=10:=by simp[Ax];rwa[hi]
  have hstep:∀ch,AU m i t=ch->Ax m (i+1)=Ax m i++[ch]:=by
   rintro ch rfl
   unfold Ax
   rw[kQ,ht,List.mapIdx_append]
   have:(A4.take i).length=i:=by rw[lp];exact uD (by show i<=10;rwa[hi])
   simp[this]
  refine Ac _ (BV N hh [2,3] (ds:=[_,_]) ⟨rfl,rfl,rfl,rfl,trivial⟩) ?_
  refine Ad (EO N (Ft N hh (Aa 3)) (λj σ=>(∀p∈t.take j,EL m i p=false)/\∃z u,σ=[some (.val (.py (.int m))),some (.own ((Ax m i).map .str)),some (.val (.py (.int i))),some (.val (.py (ES t))),z,u]) ⟨(λp hp=>by simp at hp),z,u,rfl⟩ ?_ ?_)
  ·intro j d σ2 hd2 zz1;refine Cg zz1 λhno zr0=>B1 zr0 λz u zz2=>?_;clear zz1;obtain rfl:=zz2
   obtain⟨p,hp,rfl⟩:∃p,t[j]?=some p/\d=ff p:=by
    rw[kc] at hd2
    refine Af (j8.mp hd2) λm h1 h2=>?_
    exact Ac m h1 h2.symm
   have hnext:EL m i p=false->∀q∈t.take (j+1),EL m i q=false:=by
    intro h q hq
    rw[kQ,hp] at hq
    rcases jW.mp hq with hq|hq
    ·exact hno q hq
    ·obtain rfl:q=p:=by simpa using hq
     exact h
   have hhit:EL m i p=true->AU m i t=p.2:=by
    intro h
    unfold AU
    rw[Kw hp hno h];rfl
   refine Ac _ (BV N hh [4,5] (ds:=[_,_]) ⟨rfl,rfl,rfl,rfl,trivial⟩) ?_
   refine Ad (BI (b:=decide ((i:Int)=0)) (An (Aa 2) Ai) (λh=>?_) (λh=>?_))
   ·have h:=of_decide_eq_true h
    have h0:i=0:=by rwa[h]
    refine Ad (BI (b:=decide (ke m 61440=p.1)) (An (CI hS (room.le (by rwa[])) hk FS (BU T hk hgS) (Ab (Aa 0) Ah)) (Aa 4)) (λh=>?_) (λh=>?_))
    ·have hh1:EL m i p=true:=by unfold EL;rw[if_pos h0];exact h
     refine Ad (AO N 1 (Aa 5) ?_ ?_)
     ·rw[jK];rwa[hz]
     ·refine Ad (L4 (Aj (EH (some (.val (.py (.int i)))) (some (.val (.py (ES t)))) (some (.val (.py (.int p.1)))) (some (.val (.py (.str p.2)))) ?_)))
      rw[hstep _ (hhit hh1),kB];rfl
    ·have hh1:EL m i p=false:=by unfold EL;rw[if_pos h0];exact h
     exact Aj (Aj (Aj ⟨hnext hh1,some (.val (.py (.int p.1))),some (.val (.py (.str p.2))),rfl⟩))
   ·have h:=of_decide_eq_false h
    have h0:¬i=0:=by rwa[h]
    refine Ad (BI (b:=decide (ke m p.1=p.1)) (An (Hm (Aa 0) (Aa 4)) (Aa 4)) (λh=>?_) (λh=>?_))
    ·have hh1:EL m i p=true:=by unfold EL;rw[if_neg h0];exact h
     refine Ad (AO N 1 (Aa 5) ?_ ?_)
     ·rw[jK];rwa[hz]
     ·refine Ad (L4 (Aj (EH (some (.val (.py (.int i)))) (some (.val (.py (ES t)))) (some (.val (.py (.int p.1)))) (some (.val (.py (.str p.2)))) ?_)))
      rw[hstep _ (hhit hh1),kB];rfl
    ·have hh1:EL m i p=false:=by unfold EL;rw[if_neg h0];exact h
     exact Aj (Aj (Aj ⟨hnext hh1,some (.val (.py (.int p.1))),some (.val (.py (.str p.2))),rfl⟩))
  ·intro σ2 zz1;refine Cg zz1 λhno zr0=>B1 zr0 λz u zz2=>?_;clear zz1;obtain rfl:=zz2
   rw[jK,lD] at hno
   have hms:AU m i t=if i=0 then jB "?" else jB "-":=by
    unfold AU
    rw[List.find?_eq_none.mpr λp hp=>by rw[hno p hp];exact ll];rfl
   refine Ad (BI (b:=decide ((i:Int)=0)) (An (Aa 2) Ai) (λh=>?_) (λh=>?_))
   ·have h:=of_decide_eq_true h
    refine Ad (AO N 1 BF ?_ ?_)
    ·rw[jK];rwa[hz]
    ·refine Aj (Aj (Aj (EH (some (.val (.py (.int i)))) (some (.val (.py (ES t)))) z u ?_)))
     rw[hstep _ hms,if_pos (by rwa[h]),kB];rfl
   ·have h:=of_decide_eq_false h
    refine Ad (AO N 1 BF ?_ ?_)
    ·rw[jK];rwa[hz]
    ·refine Aj (Aj (Aj (EH (some (.val (.py (.int i)))) (some (.val (.py (ES t)))) z u ?_)))
     rw[hstep _ hms,if_neg (by rwa[h]),kB];rfl
 ·intro σ1 zz1;refine Eb zz1 λx y z u zz2=>?_;clear zz1;obtain rfl:=zz2
  refine Aj (Ct N 1 ?_)
  have e:(Ce (A4.map ES)).length=10:=by simp[Ce,A4]
  rw[e]
  refine Ad (AQ (GO (Aa 1) (by decide) ?_) rfl)
  have h1:∀x∈Ax m 10,x.length=1:=λx hx=>by
   unfold Ax at hx
   obtain⟨i,hi,rfl⟩:=xm.mp hx
   have hm:A4[i]?=some ((A4.take 10)[i]):=by
    rw[<-jR hi];rfl
   generalize (A4.take 10)[i]=t at hm ⊢
   unfold AU
   cases hf:t.find? (EL m i) with
   | none=>show(if i=0 then jB "?" else jB "-").length=1;split<;>decide
   | some p=>
    show p.2.length=1
    have h2:=nG hf
    have h3:=kx hm
    have:(A4.all λt=>t.all λp=>p.2.length == 1)=true:=by decide +kernel
    exact beq_iff_eq.mp (kA.mp (kA.mp this t h3) p h2)
  have hl:(Ax m 10).length=10:=by simp[Ax,A4]
  rw[show(Ax m 10).map (·.length)=lg (Ax m 10).length 1 from vL.mpr ⟨by simp,λb hb=>by obtain⟨x,hx,rfl⟩:=kq.mp hb;exact h1 x hx⟩,nc,hl]
  decide
theorem bh(pm cd doc v:jD):l6 (Az 39 pm cd doc .none .none) ⟨[v],[]⟩=pure [((jB "mode"),v)]:=by rfl
theorem Pm{w:jY}{xI:j6}{a aS:jN}{mg mb:jZ->Option jD}{tb:jD}(T:Br mg mb xI)(FO:Av xI 39 a .none .none)(FS:Av xI 18 aS .none .none)(hgS:mg "S_IFMT"=some (.ref aS))(hgT:mg "_filemode_table"=some tb)(hT:Ak xI tb Gu [])(m:Int) :
 Fn pw w xI 2 (.ref a) [] [.py (.int m)] [] (.py (.str (mO "" (Ax m 10)))):=
 Ea FO (λpm cd doc=>gq pm cd doc _ _) T.gl.nolimit rfl (λpm cd doc vs h=>by obtain⟨v,rfl⟩:=GF h;exact bh pm cd doc v) (λpm cd doc A s O hk N room=>Kb T hk FS hgS hgT hT m N room)
section
variable {Γ:Cx} {σ:AX} {pos:mi}
theorem Hi{f e:kJ}{u:AV}{T:String}(hf:Ev Γ σ f (.raw (.type "type")))(he:Ev Γ σ e u)(hu:∀(O:Ap) (s:jG) (v:jD),VR O s.heap u v->s.TypeIs v T)(hn:autoParam ((jX T == jX "builtin_function_or_method")=false) aD)(hp:autoParam (AE e=true) aR)
 (hc:autoParam (eval (.Call f [e] [] pos) Γ.env=(do kY pos (<-eval f Γ.env) [] (backTo pos (starEach [e] Γ.env)) (ma pos (ly [] Γ.env)))) aR):Ev Γ σ (.Call f [e] [] pos) (.raw (.type T)):=
 Et hf (Ab he Ah hp) (λO s vs Q E hO rv q=>by
  refine Af rv.one λv zz1 r=>?_;obtain rfl:=zz1
  exact call_type_of (hu O s v r) hn (q _ s (Keeps.re s) rfl)) (by rw[lE,hp];rfl) hc
theorem Kd{l r:kJ}{b:Array UInt8}{i:Int}(hl:Ev Γ σ l (.by b))(hr:Ev Γ σ r (.py (.int i)))(h0:0<=i)(h1:i<b.size)(hz:b.size<=100000)
 (hs:autoParam (∀o x,subscripted r false o x=tw [o,x] (getItem o x)) aI):Ev Γ σ (.Subscript l r pos) (.py (.int (b.toList.getD i.toNat 0).toNat)):=by
 intro O s Q E t q
 refine uc (hl O s _ E t λu s1 t1 k1 r1=>hr O s1 _ E t1 λy s2 t2 k2 r2=>?_)
 obtain⟨tb,rfl⟩:=r1
 obtain⟨ty,rfl⟩:=r2.int_inv
 have e:b.toList.toArray=b:=p8
 have g:wpAny (model Γ.prog Γ.w) Γ.A (getItem (.bytes b.toList.toArray tb) (.int i ty)) Q E s2:=getItem_bytes (l:=b.toList) (by simp;rwa[hz]) h0 (by simpa using h1) (q _ _ (t2.keeps λ_ _ e=>e) (Keeps.tr (Keeps.tr k1 k2) Keeps.rfl') (VR.int ..))
 rw[e] at g
 exact vC (qU _ _ _) FB.slot_bytes_getitem.lookup g (hs _ _)
theorem Hl{mg mb:jZ->Option jD}{xI:j6}{x:jZ}{b:Array UInt8}{t:uw}(T:Br mg mb xI)(hk:HK xI Γ.s₀)(h:mg x=some (.bytes b t))(hg:autoParam (Γ.env.globals=mP) aR)(hkd:autoParam (Γ.env.scope.kind=.function) aR)(hxk:autoParam (Γ.env.kindOf x=some .globalImplicit) aR)
 (hd:autoParam ((x == ("__debug__":jZ))=false) aD):Ev Γ σ (.Name x pos) (.by b):=
 I9 (T.gl.keeps hk) hg h (λO=>Ag t rfl) hkd hxk hd
end
noncomputable def jq:List jZ:=["data","t"]
theorem jf(pm cd doc dv kdv:jD):Bf (Az 7 pm cd doc dv kdv) (Am (stm 7)) ["data"] jq:=.of (by decide +kernel)
theorem fi(pm cd doc v:jD):l6 (Az 7 pm cd doc .none .none) ⟨[v],[]⟩=pure [((jB "data"),v)]:=by rfl
theorem KH{w:jY}{xI:j6}{a:jN}{mg mb:jZ->Option jD}(T:Br mg mb xI)(FO:Av xI 7 a .none .none)(b:Array UInt8) :
 Fn pw w xI 1 (.ref a) [] [.by b] [] (.by b):=
 Ea FO (λpm cd doc=>jf pm cd doc _ _) T.gl.nolimit rfl (λpm cd doc vs h=>by obtain⟨v,rfl⟩:=GF h;exact fi pm cd doc v) (λpm cd doc A s O hk N room=>by
  refine Ad (At N 1 (Hi (T:="bytes") (A1 T hk) (Aa 0) (λO s v r=>by obtain⟨t,rfl⟩:=r;exact qU _ _ _)) ?_)
  refine Ad (BI (b:=true) (Tv.cast (ZA (v:=.type "bytes") (Aa 1) (A1 T hk) (by rfl)) (by rfl)) (λ_=>Ad (AQ (Aa 0) rfl)) (λh=>by exact lN h)))
noncomputable def jp:List jZ:=["x","t"]
theorem jd(pm cd doc dv kdv:jD):Bf (Az 8 pm cd doc dv kdv) (Am (stm 8)) ["x"] jp:=.of (by decide +kernel)
theorem fh(pm cd doc v:jD):l6 (Az 8 pm cd doc .none .none) ⟨[v],[]⟩=pure [((jB "x"),v)]:=by rfl
theorem VS{w:jY}{xI:j6}{a:jN}{mg mb:jZ->Option jD}(T:Br mg mb xI)(FO:Av xI 8 a .none .none) :
 Fn pw w xI 1 (.ref a) [] [.py (.bool false)] [] (.py (.bool false)):=
 Ea FO (λpm cd doc=>jd pm cd doc _ _) T.gl.nolimit rfl (λpm cd doc vs h=>by obtain⟨v,rfl⟩:=GF h;exact fh pm cd doc v) (λpm cd doc A s O hk N room=>by
  refine Ad (At N 1 (Hi (T:="bool") (A1 T hk) (Aa 0) (λO s v r=>by obtain rfl:=r.bool_inv;rfl)) ?_)
  refine Ad (BI (b:=true) (Tv.cast (By (IB (G3 (c:=false) (Aa 0) Fu (λO h v r=>by obtain rfl:=r.bool_inv;rfl)) (λ_=>IB (d:=false) (ZA (v:=.type "bool") (Aa 1) (A1 T hk) (by rfl)) (λh=>by cases h)))) (by rfl)) (λ_=>?_) (λh=>by exact lN h))
  refine Ad (AQ (I8 (c:=false) (Fi (Aa 0)) (λh=>by exact lN h) (λ_=>Uf)) rfl))
noncomputable def PM:List UInt8:="ABCDEFGHIJKLMNOPQRSTUVWXYZabcdefghijklmnopqrstuvwxyz0123456789+/".toList.map λc=>c.toNat.toUInt8
noncomputable def OJ (i:Int):Int:=(PM.getD i.toNat 0).toNat
noncomputable def CV (lc:Int):Nat->Int->List Int->Int×List Int
 | 0,lb,out=>(lb,out)
 | n+1,lb,out=>if 6<=lb then CV lc n (lb-6) (out++[OJ (ke (lc.fdiv (2^(lb-6).toNat)) 63)]) else(lb,out)
noncomputable def AZ (st:Int×Int×List Int) (b:Int):Int×Int×List Int:=
 let lc:=ke (oz (st.1*2^(8:Int).toNat) b) 65535
 (lc,CV lc 3 (st.2.1+8) st.2.2)
noncomputable def DG (bs:List Int):Int×Int×List Int:=bs.foldl AZ (0,0,[])
noncomputable def BR (st:Int×Int×List Int):List Int:=if st.2.1=2 then [OJ (ke st.1 3*2^(4:Int).toNat),61,61] else if st.2.1=4 then [OJ (ke st.1 15*2^(2:Int).toNat),61] else []
noncomputable def EG (bs:List Int):List Int:=(DG bs).2.2++BR (DG bs)
theorem Je(i:Int):0<=OJ i/\OJ i<256:=by
 unfold OJ
 have:=(PM.getD i.toNat 0).toNat_lt
 rwa[this]
structure XH (n:Nat) (st:Int×Int×List Int):Prop where
 lc0:0<=st.1
 lc1:st.1<65536
 lb0:0<=st.2.1
 lb1:st.2.1<6
 len:st.2.2.length<=2*n
 byte:∀x∈st.2.2,0<=x/\x<256
theorem Hw(x:Int):0<=ke x 65535/\ke x 65535<65536:=by rw[bitAnd_m16];rwa[]
theorem PN(x:Int):0<=ke x 63/\ke x 63<64:=by rw[bitAnd_m6];rwa[]
theorem Px(lc:Int):∀(n:Nat) (lb:Int) (out:List Int),0<=lb->lb<6*n+6->(∀x∈out,0<=x/\x<256)->0<=(CV lc n lb out).1/\(CV lc n lb out).1<6/\(CV lc n lb out).2.length<=out.length+n/\(∀x∈(CV lc n lb out).2,0<=x/\x<256)
 | 0,lb,out,h0,h1,hb=>⟨h0,by show lb<6;rwa[h0,h1],jP _,hb⟩
 | n+1,lb,out,h0,h1,hb=>by
  unfold CV
  by_cases h:6<=lb
  ·rw[if_pos h]
   have:=Px lc n (lb-6) (out++[OJ (ke (lc.fdiv (2^(lb-6).toNat)) 63)]) (by rwa[h]) (by rwa[h1]) (by
    intro x hx
    rcases jW.mp hx with hx|hx
    ·exact hb x hx
    ·obtain rfl:=jJ.mp hx;exact Je _)
   refine CU this λa b c d=>?_
   refine⟨a,b,?_,d⟩
   rw[j7] at c
   simp only[j9,lq] at c
   rwa[c]
  ·rw[if_neg h];exact⟨h0,by show lb<6;rwa[h0,h],by show out.length<=_;rwa[],hb⟩
theorem Vj(lc:Int)(lb:Int)(out:List Int)(h1:lb<18):(CV lc 3 lb out).2.length<=out.length+2:=by
 unfold CV
 split
 ·unfold CV
  split
  ·unfold CV
   rw[if_neg (by rwa[h1])]
   simp
  ·simp
 ·simp
theorem Yi{n:Nat}{st:Int×Int×List Int}{b:Int}(h:XH n st):XH (n+1) (AZ st b):=by
 obtain⟨a,b',c,d,e,f⟩:=h
 have k:=Px (ke (oz (st.1*2^(8:Int).toNat) b) 65535) 3 (st.2.1+8) st.2.2 (by rwa[c]) (by rwa[d]) f
 have l:=Vj (ke (oz (st.1*2^(8:Int).toNat) b) 65535) (st.2.1+8) st.2.2 (by rwa[d])
 exact⟨(Hw _).1,(Hw _).2,k.1,k.2.1,by show(CV _ 3 _ _).2.length<=_;rwa[e,l],k.2.2.2⟩
theorem G8(bs:List Int):XH bs.length (DG bs):=by
 have key:∀(l:List Int) (n:Nat) (st:Int×Int×List Int),XH n st->XH (n+l.length) (l.foldl AZ st):=by
  intro l
  induction l with
  | nil=>exact λn st h=>h
  | cons b l ih=>
   intro n st h
   have:=ih (n+1) _ (Yi (b:=b) h)
   rw[j9,show n+(l.length+1)=n+1+l.length by rwa[]]
   exact this
 have:=key bs 0 (0,0,[]) ⟨by decide,by decide,by decide,by decide,by decide,λ_ h=>nomatch h⟩
 rw[tD] at this
 exact this
noncomputable def Ys:List jZ:=["data","newline","bin_data","out","leftbits","leftchar","b"]
theorem gA(pm cd doc dv kdv:jD):Bf (Az 10 pm cd doc dv kdv) (Am (stm 10)) ["data","newline"] Ys:=.of (by decide +kernel)
noncomputable def B9 (b:Array UInt8):List Int:=b.toList.map λc=>(c.toNat:Int)
theorem U4(b:Array UInt8):DK b=(B9 b).map .int:=by simp[DK,B9]
theorem PL:PM.toArray.size=64:=by decide +kernel
theorem Ja{Γ:Cx}{σ:AX}{pos:mi}{l r:kJ}{i:Int}(hl:Ev Γ σ l (.by PM.toArray))(hr:Ev Γ σ r (.py (.int i)))(h0:0<=i)(h1:i<64)
 (hs:autoParam (∀o x,subscripted r false o x=tw [o,x] (getItem o x)) aI):Ev Γ σ (.Subscript l r pos) (.py (.int (OJ i))):=
 Ev.cast (Kd hl hr h0 (by rw[PL];exact h1) (by rw[PL];decide) hs) (by rw[sJ];unfold OJ;rfl)
theorem XA{w:jY}{A:kC}{s:jG}{O:Ap}{a aB aT:jN}{mg mb:jZ->Option jD}{xI:j6}{pm cd doc dv kdv:jD}{tk:uw}(T:Br mg mb xI)(hk:HK xI s)(FB:Av xI 7 aB .none .none)(hgB:mg "_buffer"=some (.ref aB))(FT:Av xI 8 aT .none .none)(hgT:mg "_truth"=some (.ref aT))(hg6:mg "_B64"=some (.bytes PM.toArray tk))(b:Array UInt8)(hb:b.size<=1000)
 (N:Nm (Dx pw w A s (Az 10 pm cd doc dv kdv) a Ys O))(room:A0 (A.deeper (callEnvC (Az 10 pm cd doc dv kdv) s.heap.objs.size a)) 1) :
 Ex (Dx pw w A s (Az 10 pm cd doc dv kdv) a Ys O) (Bi [.by b,.py (.bool false)] 5) (Am (stm 10)) (λaf _=>af=.ret (.by (byteArr (EG (B9 b))))):=by
 delta w A s O a aB aT mg mb xI pm cd doc dv kdv tk b at T hk FB hgB FT hgT hg6 hb N room
 have hh:=room.handled
 refine Ad (At N 2 (CI (KH T FB b) (room.le (by rwa[])) hk FB (BU T hk hgB) (Ab (Aa 0) Ah)) ?_)
 refine Ad (At N 1 (CI (VS T FT) (room.le (by rwa[])) hk FT (BU T hk hgT) (Ab (Aa 1) Ah)) ?_)
 refine Ad (Gn N 3 (CH Ah (ds:=[]) (by decide)) ?_)
 refine Ad (At N 4 Ai ?_)
 refine Ad (At N 5 Ai ?_)
 refine Ad (EO N (ds:=DK b) (Ky N hh (Aa 2)) (λi σ=>∃z,σ=[some (.val (.by b)),some (.val (.py (.bool false))),some (.val (.by b)),some (.own ((DG ((B9 b).take i)).2.2.map .int)),some (.val (.py (.int (DG ((B9 b).take i)).2.1))),some (.val (.py (.int (DG ((B9 b).take i)).1))),z]) (Ag none rfl) ?_ ?_)
 ·intro i d σ1 hd zz1;refine AR zz1 λz zz2=>?_;clear zz1;obtain rfl:=zz2
  rw[U4] at hd
  refine Af (Fr hd) λc hc zz1=>?_;obtain rfl:=zz1
  have hc2:0<=c/\c<256:=by
   obtain⟨u,_,rfl⟩:=kq.mp (kx hc)
   have:=u.toNat_lt
   rwa[this]
  have hok:=G8 ((B9 b).take i)
  have hlen:((B9 b).take i).length<=1000:=by rw[lp];simp[B9];rwa[hb]
  have hrun:DG ((B9 b).take (i+1))=AZ (DG ((B9 b).take i)) c:=by
   unfold DG
   rw[kQ,hc,ms];rfl
  rw[hrun]
  generalize DG ((B9 b).take i)=st at hok ⊢
  obtain⟨lc0,lc1,lb0,lb1,olen,obyte⟩:=hok
  refine Ac _ (BH N 6) ?_
  refine Ad (At N 5 (Hm (eK (Rn (Aa 5) Ai (by decide) (by decide) (by(clear_value *;lia))) (Aa 6)) Ai) ?_)
  refine Ad (At N 4 (Bl (Aa 4) Ai) ?_)
  generalize hlc:ke (oz (st.1*2^(8:Int).toNat) c) 65535=lc
  have hl16:0<=lc/\lc<65536:=by rw[<-hlc];exact Hw _
  have hpush:AZ st c=(lc,CV lc 3 (st.2.1+8) st.2.2):=by rw[<-hlc];rfl
  rw[hpush]
  generalize hD:CV lc 3 (st.2.1+8) st.2.2=D
  refine Ad (Ef (n:=3) (λn σ=>∃(lb:Int) (out:List Int),0<=lb/\lb<6*(n:Nat)+6/\out.length+n<=3003/\CV lc n lb out=D/\σ=[some (.val (.by b)),some (.val (.py (.bool false))),some (.val (.by b)),some (.own (out.map .int)),some (.val (.py (.int lb))),some (.val (.py (.int lc))),some (.val (.py (.int c)))])
   (C5 (st.2.1+8) st.2.2 (by rwa[lb0]) (by rwa[lb1]) (by rwa[hlen,olen]) hD rfl) ?_)
  intro n σ2 zz1;refine C9 zz1 λlb out h0 h1 h2 h3 zz2=>?_;clear zz1;obtain rfl:=zz2
  refine Ba (decide (6<=lb)) (An (Aa 4) Ai) (λh=>?_) λh=>?_
  ·have h:=of_decide_eq_true h
   cases n with
   | zero=>(clear_value *;lia)
   | succ n=>
    refine Ad (AO N 3 (Ja (Hl T hk hg6) (Hm (aC (Aa 5) (Dd (Aa 4) Ai) (by rwa[h])) Ai) (PN _).1 (PN _).2) ?_ ?_)
    ·rw[jK];rwa[h2]
    ·refine Ad (At N 4 (Dd (Aa 4) Ai) ?_)
     refine Aj ⟨n,ml _,lb-6,out++[OJ (ke (lc.fdiv (2^(lb-6).toNat)) 63)],by rwa[h],by rwa[h1],by rw[j7];simp only[j9,lq];rwa[h2],?_,?_⟩
     ·rw[<-h3,CV,if_pos h]
     ·rw[kB];rfl
  ·have h:=of_decide_eq_false h
   have:D=(lb,out):=by
    rw[<-h3]
    cases n with
    | zero=>rfl
    | succ n=>rw[CV,if_neg h]
   subst this
   exact Aj (Aj (Ag (some (.val (.py (.int c)))) rfl))
 ·intro σ1 zz1;refine AR zz1 λz zz2=>?_;clear zz1;obtain rfl:=zz2
  have hl:(DK b).length=(B9 b).length:=by simp[DK,B9]
  rw[hl,lD]
  have hok:=G8 (B9 b)
  have hbl:(B9 b).length=b.size:=by simp[B9]
  have henc:EG (B9 b)=(DG (B9 b)).2.2++BR (DG (B9 b)):=rfl
  generalize DG (B9 b)=st at hok henc ⊢
  obtain⟨lc0,lc1,lb0,lb1,olen,obyte⟩:=hok
  have hm2:0<=ke st.1 3/\ke st.1 3<4:=by rw[bitAnd_m2];rwa[]
  have hm4:0<=ke st.1 15/\ke st.1 15<16:=by rw[bitAnd_m4];rwa[]
  have hend:∀out:List Int,out=EG (B9 b)->(∀x∈out,0<=x/\x<256)->out.length<=5000->Ex (Dx pw w A s (Az 10 pm cd doc dv kdv) a Ys O) [some (.val (.by b)),some (.val (.py (.bool false))),some (.val (.by b)),some (.own (out.map .int)),some (.val (.py (.int st.2.1))),some (.val (.py (.int st.1))),z] ((Am (stm 10)).drop 7) (λaf _=>af=.ret (.by (byteArr (EG (B9 b))))):=by
   intro out ho hby hln
   refine Ad (BI (b:=false) (Fi (Aa 1)) (λh=>by exact lN h) (λ_=>Aj ?_))
   refine Ct N 3 (Ad (AQ (Ps (ns:=out) hh (A1 T hk) (Aa 3) hby (by rwa[hln])) ?_))
   rw[ho]
  refine Aj ?_
  refine Ad (BI (b:=decide (st.2.1=2)) (An (Aa 4) Ai) (λh=>?_) (λh=>?_))
  ·have h:=of_decide_eq_true h
   have ht:BR st=[OJ (ke st.1 3*2^(4:Int).toNat),61,61]:=by unfold BR;rw[if_pos h]
   refine Ad (AO N 3 (Ja (Hl T hk hg6) (Rn (Hm (Aa 5) Ai) Ai (by decide) (by decide) (by(clear_value *;lia))) ?_ ?_) ?_ ?_)
   ·show 0<=ke st.1 3*16;rwa[hm2]
   ·show ke st.1 3*16<64;rwa[hm2]
   ·rw[jK];rwa[hb,hbl,olen]
   refine Ad (AO N 3 Ai ?_ ?_)
   ·rw[j7,jK];simp only[j9,lq];rwa[hb,hbl,olen]
   refine Ad (AO N 3 Ai ?_ ?_)
   ·rw[j7,j7,jK];simp only[j9,lq];rwa[hb,hbl,olen]
   refine Aj ?_
   have:=hend (st.2.2++BR st) henc.symm (λx hx=>by
    rcases jW.mp hx with hx|hx
    ·exact obyte x hx
    ·rw[ht] at hx
     simp only[jI,oa,or_false] at hx
     rcases hx with rfl|rfl|rfl
     ·exact Je _
     ·decide
     ·decide) (by rw[ht,j7];simp only[j9,lq];rwa[hb,hbl,olen])
   rw[ht,kB] at this
   simp only[kO,qw] at this
   have e:∀(X:List jQ) (a b c:jQ),((X++[a])++[b])++[c]=X++[a,b,c]:=λX a b c=>by simp
   rw[<-e] at this
   exact this
  ·have h:=of_decide_eq_false h
   refine Ad (BI (b:=decide (st.2.1=4)) (An (Aa 4) Ai) (λh2=>?_) (λh2=>?_))
   ·have h2:=of_decide_eq_true h2
    have ht:BR st=[OJ (ke st.1 15*2^(2:Int).toNat),61]:=by unfold BR;rw[if_neg h,if_pos h2]
    refine Ad (AO N 3 (Ja (Hl T hk hg6) (Rn (Hm (Aa 5) Ai) Ai (by decide) (by decide) (by(clear_value *;lia))) ?_ ?_) ?_ ?_)
    ·show 0<=ke st.1 15*4;rwa[hm4]
    ·show ke st.1 15*4<64;rwa[hm4]
    ·rw[jK];rwa[hb,hbl,olen]
    refine Ad (AO N 3 Ai ?_ ?_)
    ·rw[j7,jK];simp only[j9,lq];rwa[hb,hbl,olen]
    refine Aj (Aj ?_)
    have:=hend (st.2.2++BR st) henc.symm (λx hx=>by
     rcases jW.mp hx with hx|hx
     ·exact obyte x hx
     ·rw[ht] at hx
      simp only[jI,oa,or_false] at hx
      rcases hx with rfl|rfl
      ·exact Je _
      ·decide) (by rw[ht,j7];simp only[j9,lq];rwa[hb,hbl,olen])
    rw[ht,kB] at this
    simp only[kO,qw] at this
    have e:∀(X:List jQ) (a b:jQ),(X++[a])++[b]=X++[a,b]:=λX a b=>by simp
    rw[<-e] at this
    exact this
   ·have h2:=of_decide_eq_false h2
    have ht:BR st=[]:=by unfold BR;rw[if_neg h,if_neg h2]
    rw[ht,kH] at henc
    exact Aj (Aj (hend st.2.2 henc.symm obyte (by rwa[hb,hbl,olen])))
theorem bo(pm cd doc kdv v x:jD):l6 (Az 10 pm cd doc .none kdv) ⟨[v],[(jB "newline",x)]⟩=pure [((jB "data"),v),((jB "newline"),x)]:=by rfl
theorem bu{w:jY}{xI:j6}{a aB aT:jN}{mg mb:jZ->Option jD}{kdv:jD}{tk:uw}(T:Br mg mb xI)(FO:Av xI 10 a .none kdv)(FB:Av xI 7 aB .none .none)(hgB:mg "_buffer"=some (.ref aB))(FT:Av xI 8 aT .none .none)(hgT:mg "_truth"=some (.ref aT))(hg6:mg "_B64"=some (.bytes PM.toArray tk))(b:Array UInt8)(hb:b.size<=1000) :
 Fn pw w xI 2 (.ref a) [jB "newline"] [.by b] [.py (.bool false)] (.by (byteArr (EG (B9 b)))):=by
 refine E7 FO.ex λo pm cd doc ho hd hcd=>?_
 refine Hg (ps:=[jB "data",jB "newline"]) (davs:=[]) (dv:=[]) (gA pm cd doc _ _) ho hd T.gl.nolimit hcd rfl (λ_ _=>trivial) (λs vs kvs _ h1 h2=>?_) (λA s O hk N room=>XA T hk FB hgB FT hgT hg6 b hb N room)
 obtain⟨v,rfl⟩:=GF h1
 obtain⟨x,rfl⟩:=GF h2
 exact .of_eq (bo pm cd doc kdv v x)
section
variable {Γ:Cx} {σ:AX} {pos:mi}
theorem YU{f e kv:kJ}{es:List kJ}{x:jZ}{kp:mi}{xI:j6}{n i:Nat}{a:jN}{dv kdv:jD}{avs:List AV}{ka r:AV}(F:Fn Γ.prog Γ.w xI n (.ref a) [x] avs [ka] r)(room:A0 Γ.A n)(hk:HK xI Γ.s₀)(FO:Av xI i a dv kdv)
 (hf:Ev Γ σ f (.raw (.ref a)))(ha:XJ Γ σ (e::es) avs)(hv:Ev Γ σ kv ka)(hp:autoParam (AE e=true) aR)
 (he:autoParam (eval (.Call f (e::es) [⟨some x,kv,kp⟩] pos) Γ.env=(do kY pos (<-eval f Γ.env) [] (backTo pos (starEach (e::es) Γ.env)) (ma pos (ly [⟨some x,kv,kp⟩] Γ.env)))) aR):Ev Γ σ (.Call f (e::es) [⟨some x,kv,kp⟩] pos) r:=by
 intro O s Q E t q
 obtain⟨o,pm,cd,doc,h1,h2⟩:=FO.at
 rw[he]
 refine jC (hf O s _ E t λv s1 t1 k1 r1=>?_)
 obtain rfl:v=.ref a:=r1
 refine callWith_function_kw (o:=o) (fd:=Az i pm cd doc dv kdv) (evalArgs_kw2 rfl (ha O s1 _ _ E t1 λvs s2 t2 k2 r2=>kwAll_cons (hv O s2 _ E t2 λu s3 t3 k3 r3=>kwAll_nil ?_)) (CC hp))
 refine⟨⟨t3.keep _ _ (hk _ _ h1),h2⟩,?_⟩
 exact F Γ.A O s3 vs [u] Q E room (λb o e=>t3.keep _ _ (hk _ _ e)) t3.ownOk (r2.kept k3) ⟨r3,trivial⟩ λv s4 k4 r4=>q v s4 (t3.of_keeps k4) (Keeps.tr (Keeps.tr (Keeps.tr k1 k2) k3) k4) r4
theorem Gr{l r:kJ}{u:AV}{c:Bool}(hl:Ev Γ σ l u)(hr:Ev Γ σ r (.py .none))(hv:∀O h v,VR O h u v->(v == .none)=c)(hpl:∀O h v,VR O h u v->plainIs v .none=true)(hm:autoParam (behindInMarks .IsNot r=false) aR):Tv Γ σ (.Compare l [.IsNot] [r] pos) (!c):=
 Eh hl hr (λO s x y Q E rx ry q=>by
  obtain⟨_,ry,_⟩:=ry
  cases ry
  refine uq (hpl _ _ _ rx) ?_
  rw[hv _ _ _ rx];exact q s (Keeps.re s)) hm
end
noncomputable def gK:List jZ:=["s","altchars","encoded"]
theorem gw(pm cd doc dv kdv:jD):Bf (Az 15 pm cd doc dv kdv) (Am (stm 15)) ["s","altchars"] gK:=.of (by decide +kernel)
noncomputable def Fh (h:j6) (dv:jD) (items:Array jD):Prop:=∃a o n,dv=.ref a/\h.get? a=some o/\o.data=.seq items n
theorem br{w:jY}{xI:j6}{a a10 aB aT:jN}{mg mb:jZ->Option jD}{dv kdv:jD}{tk:uw}(T:Br mg mb xI)(FO:Av xI 15 a dv .none)(hdv:Fh xI dv #[.none])(F10:Av xI 10 a10 .none kdv)(hg10:mg "b2a_base64"=some (.ref a10))(FB:Av xI 7 aB .none .none)(hgB:mg "_buffer"=some (.ref aB))(FT:Av xI 8 aT .none .none)(hgT:mg "_truth"=some (.ref aT))(hg6:mg "_B64"=some (.bytes PM.toArray tk))(b:Array UInt8)(hb:b.size<=1000) :
 Fn pw w xI 3 (.ref a) [] [.by b] [] (.by (byteArr (EG (B9 b)))):=by
 refine E7 FO.ex λo pm cd doc ho hd hcd=>?_
 refine Ec hdv λaD oD nD zz1 hD1 hD2=>?_;clear hdv;obtain rfl:=zz1
 refine Hg (ps:=[jB "s",jB "altchars"]) (davs:=[.py .none]) (dv:=[.none]) (gw pm cd doc _ _) ho hd T.gl.nolimit hcd rfl (λ_ _=>⟨(Ac [] .none λ_ h=>nomatch h),trivial⟩) (λs vs kvs hk h1 h2=>?_) (λA s O hk N room=>?_)
 ·obtain⟨v,rfl⟩:=GF h1
  obtain rfl:=vm.mp h2
  exact .of_defaults rfl (hk _ _ hD1) hD2 rfl rfl
 ·refine Ad (Iz ?_)
  refine Ad (At N 2 (YU (bu T F10 FB hgB FT hgT hg6 b hb) (room.le (by rwa[])) hk F10 (BU T hk hg10) (Ab (Aa 0) Ah) Uf) ?_)
  refine Ad (BI (b:=false) (Tv.cast (Gr (c:=true) (Aa 1) Fu (λO h v r=>by refine Af r λ_ r _=>?_;cases r;rfl) (λO h v r=>by refine Af r λ_ r _=>?_;cases r;rfl)) rfl) (λh=>by exact lN h) (λ_=>Aj ?_))
  exact Ad (AQ (Aa 2) rfl)
section
open Builtin Builtin.Bytes
noncomputable def aq (b:Array UInt8):jZ:=⟨b.toList.zipIdx.foldl (λ(out:Array Nat) (c,i)=>(out.push (hexDigit (c.toNat/16))).push (hexDigit (c.toNat%16))) #[]⟩
theorem WO(b:Array UInt8)(t:uw):ko.«bytes.hex» ⟨[.bytes b t],[]⟩=retStr (aq b):=by rfl
theorem QQ(b:Array UInt8)(t:uw):ko.«bytes.upper» ⟨[.bytes b t],[]⟩=(do ret (<-mkBytes (b.toList.map toUpper).toArray)):=by rfl
open Builtin._codecs in
theorem Hp(id:String)(self:jD)(x:jZ)(errors:Option jZ):encodeRoad id self x (jB "ascii") errors=(do mkBytes (<-encodeNarrow id asciiCodec errors self x)):=by
 have e:(Builtin._codecs.normalName (jB "ascii")).toString="ascii":=by decide +kernel
 unfold encodeRoad
 rw[e]
 first|rfl|kernel_rfl
open Builtin.Str in
theorem Jk(u:uw):codecArg "str.encode" "encode" "'encoding'" (some (.str (jB "ascii") u))=pure (some (jB "ascii")):=by
 have e1:((jB "ascii").cps.any (·>=128))=false:=by decide +kernel
 have e2:((jB "ascii").cps.contains 0)=false:=by decide +kernel
 unfold codecArg
 dsimp only
 rw[show strArg "str.encode" "encode" "'encoding'" (.str (jB "ascii") u)=pure (jB "ascii") from rfl]
 simp only[pure_bind,e1,e2,nq,if_false]
open Builtin._codecs Builtin.Str in
theorem Oq(x:jZ)(t u:uw):ko.«str.encode» ⟨[.str x t,.str (jB "ascii") u],[]⟩=(do ret (<-encodeRoad "str.encode" (.str x t) x (jB "ascii") none)):=by
 unfold ko.«str.encode»
 rw[show strSelf ⟨[.str x t,.str (jB "ascii") u],[]⟩=pure (.str x t,x,[.str (jB "ascii") u]) from rfl]
 rw[pure_bind]
 dsimp only
 rw[show Builtin.Str.bindOptional "str.encode" "encode" 0 ["encoding","errors"] [.str (jB "ascii") u] []=pure [some (.str (jB "ascii") u),none] from rfl]
 rw[pure_bind]
 dsimp only
 rw[Jk]
 rw[pure_bind]
 rfl
theorem D4:Slot "bytes" "upper" "bytes.upper":=
 .of (owner:="bytes") (n:="upper") (by rw[lU,lf];kernel_rfl) (by decide +kernel) (by decide +kernel) (by decide +kernel)
  (by first|exact .inl (by decide +kernel)|exact .inr (by decide +kernel)) (by rw[mK];kernel_rfl)
theorem G2:typeOf (.builtin "bytes.upper")=pure (.type "method_descriptor"):=by show builtinType _=_;rw[xx];kernel_rfl
theorem GQ:uu table "bytes.upper"=some ko.«bytes.upper»:=rX (by kernel_rfl)
theorem Hv(a:jD):sx "bytes.upper" ⟨[a],[]⟩:=by unfold sx;kernel_rfl
section
open Builtin._codecs
theorem U8(l:Array Nat)(acc:Array UInt8):l.foldl (λacc y=>acc.push y.toUInt8) acc=acc++l.map (·.toUInt8):=by
 rw[<-Array.foldl_toList]
 have:∀(l:List Nat) (acc:Array UInt8),l.foldl (λacc y=>acc.push y.toUInt8) acc=acc++(l.map (·.toUInt8)).toArray:=by
  intro l
  induction l with
  | nil=>simp
  | cons y l ih=>intro acc;rw[mY,ih];simp
 rw[this]
 apply wf
 simp
theorem U7{β:Type}(f:Nat->β->vi (ForInStep β))(b0 b1:β)(n:Nat)(h0:f 0 b0=pure (.yield b1))(h1:∀k,f k b1=pure (.done b1)):forIn (List.range' 0 (n+1)) b0 f=pure b1:=by
 rw[wP,mX,h0]
 simp only[pure_bind]
 cases n with
 | zero=>rfl
 | succ n=>rw[wP,mX,h1];simp only[pure_bind]
theorem Yg{β γ:Type}{f:Nat->β->vi (ForInStep β)}{b0 b1:β}{k:β->vi γ}{n:Nat}{c:γ}(hn:0<n)(h0:f 0 b0=pure (.yield b1))(h1:∀i,f i b1=pure (.done b1))(hk:k b1=pure c):(forIn [0:n] b0 f>>=k)=pure c:=by
 rw[qI,show([0:n]:Std.Legacy.Range).size=n by simp[xr]]
 obtain⟨m,rfl⟩:∃m,n=m+1:=⟨n-1,(oE hn).symm⟩
 show(forIn (List.range' 0 (m+1)) b0 f>>=k)=_
 rw[U7 f b0 b1 m h0 h1,pure_bind,hk]
theorem Wi{β γ:Type}{f:Nat->β->vi (ForInStep β)}{b0:β}{k:β->vi γ}{n:Nat}{c:γ}(hn:n=0)(hk:k b0=pure c):(forIn [0:n] b0 f>>=k)=pure c:=by
 subst hn;rw[qI]
 show(pure b0>>=k)=_
 rw[pure_bind,hk]
theorem N9(id:String)(self:jD)(x:jZ)(h:∀c∈x.cps,¬(128<=c))(hz:x.length<=100000):encodeNarrow id asciiCodec none self x=pure (x.cps.map (·.toUInt8)):=by
 delta id self x at h hz
 rcases wF x.cps.size with hn|hn
 ·refine Wi hn ?_
  have:x.cps=#[]:=by simpa using hn
  exact congrArg pure (show(#[]:Array UInt8)=x.cps.map (·.toUInt8) by rw[this];simp)
 ·have hfi:(x.cps.findIdx? asciiCodec.bad)=none:=by
   rw[Array.findIdx?_eq_none_iff]
   intro c hc
   exact decide_eq_false (h c hc)
  have hg:x.cps[0]?=some x.cps[0]:=oZ hn
  have hb:asciiCodec.bad x.cps[0]=false:=decide_eq_false (h _ (wo hn))
  have hout:x.cps.foldl (λacc y=>acc++(asciiCodec.bytesOf y).toArray) (#[]:Array UInt8)=x.cps.map (·.toUInt8):=by
   have:(λ(acc:Array UInt8) (y:Nat)=>acc++(asciiCodec.bytesOf y).toArray)=λacc y=>acc.push y.toUInt8:=by
    funext acc y;show acc++[y.toUInt8].toArray=_;simp
   rw[this,U8];simp
  have hex:x.cps.extract 0 x.cps.size=x.cps:=by simp
  refine Yg (b1:=(0+x.cps.size,x.cps.map (·.toUInt8),{})) hn ?_ (λi=>?_) rfl
  ·refine(if_neg (c:=(#[]:Array UInt8).size>sizeLine) (by decide)).trans ?_
   dsimp only
   rw[hg]
   refine(if_pos (c:=(!asciiCodec.bad x.cps[0])=true) (by rw[hb];rfl)).trans ?_
   rw[hex,hfi]
   show pure (tm (0+x.cps.size,Array.foldl _ _ (x.cps.extract 0 x.cps.size),_))=_
   rw[hex,hout]
  ·have hg':x.cps[0+x.cps.size]?=none:=vn (rR _ 0)
   refine(if_neg (c:=(x.cps.map (·.toUInt8)).size>sizeLine) (by rw[qH,sizeLine_eq];have hz:x.cps.size<=100000:=hz;rwa[hz])).trans ?_
   dsimp only
   rw[hg']
end
end
noncomputable def Cs (b:List UInt8):List Nat:=b.flatMap λc=>[mz (c.toNat/16),mz (c.toNat%16)]
theorem YL(b:Array UInt8):aq b=⟨(Cs b.toList).toArray⟩:=by
 have key:∀(l:List UInt8) (k:Nat) (acc:Array Nat),(l.zipIdx k).foldl (λ(out:Array Nat) (x:UInt8×Nat)=>(out.push (mz (x.1.toNat/16))).push (mz (x.1.toNat%16))) acc=acc++(Cs l).toArray:=by
  intro l
  induction l with
  | nil=>intro k acc;simp[Cs]
  | cons c l ih=>
   intro k acc
   rw[List.zipIdx_cons,mY,ih]
   simp[Cs]
 unfold aq
 have:=key b.toList 0 #[]
 simp only[wg] at this
 rw[<-this]
theorem Ck(b:List UInt8):(Cs b).length=2*b.length:=by
 induction b with
 | nil=>rfl
 | cons c l ih=>simp only[Cs,lu,j7,j9,lq] at *;rwa[ih]
section
variable {Γ:Cx} {σ:AX} {cpos:mi}
theorem Pr{e:kJ}{name:jZ}{ap:mi}{pl:vi Bool}{u c:AV}{T id:String}(he:Ev Γ σ e u)(hT:∀(O:Ap) (s:jG) (v:jD),VR O s.heap u v->s.TypeIs v T)(pa:PlainAttrs T)(slot:Slot T name id)(hty:typeOf (.builtin id)=pure (.type "method_descriptor"))
 (hr:∀(O:Ap) (s:jG) (v:jD),VR O s.heap u v->∀a,v=.ref a->∃o,s.heap.get? a=some o/\o.dict=none)
 (h:∀(O:Ap) (s:jG) (v:jD) (Q:jD->jG->Prop) (E:jD->jG->Prop),VR O s.heap u v->(∀x s',kZ s s'->VR O s'.heap c x->Q x s')->wpAny (model Γ.prog Γ.w) Γ.A (call (.builtin id) [v]) Q E s)
 (hc:autoParam (eval (.Call (.Attribute e name ap) [] [] cpos) Γ.env=(do
  let ov<-eval e Γ.env
  mS ap.atName
  let (f,first)<-mq [ov] (nz ov name pl)
  kY cpos f first (backTo cpos (starEach [] Γ.env)) [])) aR):Ev Γ σ (.Call (.Attribute e name ap) [] [] cpos) c:=by
 intro O s Q E t q
 refine mj ?_ hc
 refine he O s _ E t λv s1 t1 k1 r1=>?_
 refine mM (hT O s1 v r1) pa slot hty (hr O s1 v r1) ?_
 refine callWith_builtin rfl ?_
 show wpAny _ _ (evalArgs _ true [] []) _ _ _
 refine evalArgs_kw_nil (keywords:=[]) rfl (wpAny_evalAll_nil ?_)
 exact h O s1 v Q E r1 λx s2 k2 r2=>q x s2 (t1.of_keeps k2) (Keeps.tr k1 k2) r2
theorem Xd{e y:kJ}{name:jZ}{ap:mi}{pl:vi Bool}{u d c:AV}{T id:String}(he:Ev Γ σ e u)(hy:Ev Γ σ y d)(hT:∀(O:Ap) (s:jG) (v:jD),VR O s.heap u v->s.TypeIs v T)(pa:PlainAttrs T)(slot:Slot T name id)(hty:typeOf (.builtin id)=pure (.type "method_descriptor"))
 (hr:∀(O:Ap) (s:jG) (v:jD),VR O s.heap u v->∀a,v=.ref a->∃o,s.heap.get? a=some o/\o.dict=none)
 (h:∀(O:Ap) (s:jG) (v z:jD) (Q:jD->jG->Prop) (E:jD->jG->Prop),VR O s.heap u v->VR O s.heap d z->(∀x s',kZ s s'->VR O s'.heap c x->Q x s')->wpAny (model Γ.prog Γ.w) Γ.A (call (.builtin id) [v,z]) Q E s)(hp:autoParam (AE y=true) aR)
 (hc:autoParam (eval (.Call (.Attribute e name ap) [y] [] cpos) Γ.env=(do
  let ov<-eval e Γ.env
  mS ap.atName
  let (f,first)<-mq [ov] (nz ov name pl)
  kY cpos f first (backTo cpos (starEach [y] Γ.env)) [])) aR):Ev Γ σ (.Call (.Attribute e name ap) [y] [] cpos) c:=by
 intro O s Q E t q
 refine mj ?_ hc
 refine he O s _ E t λv s1 t1 k1 r1=>?_
 refine mM (hT O s1 v r1) pa slot hty (hr O s1 v r1) ?_
 refine callWith_builtin (Bh (by rw[lE,hp];rfl)) (AL (by rw[lE,hp];rfl) (Ab hy Ah hp O s1 _ _ E t1 λus s2 t2 k2 r2=>?_))
 refine Af r2.one λz zz1 rz=>?_;obtain rfl:=zz1
 exact h O s2 v z Q E (r1.kept k2) rz λx s3 k3 r3=>q x s3 (t2.of_keeps k3) (Keeps.tr (Keeps.tr k1 k2) k3) r3
theorem aE{e:kJ}{ap:mi}{pl:vi Bool}{b:Array UInt8}(he:Ev Γ σ e (.by b))(hb:b.size<=10000)
 (hc:autoParam (eval (.Call (.Attribute e "hex" ap) [] [] cpos) Γ.env=(do
  let ov<-eval e Γ.env
  mS ap.atName
  let (f,first)<-mq [ov] (nz ov "hex" pl)
  kY cpos f first (backTo cpos (starEach [] Γ.env)) [])) aR):Ev Γ σ (.Call (.Attribute e "hex" ap) [] [] cpos) (.py (.str ⟨(Cs b.toList).toArray⟩)):=
 Pr he (λO s v r=>by obtain⟨t,rfl⟩:=r;exact qU _ _ _) FB.plainAttrs_bytes FB.slot_bytes_hex FB.type_bytes_hex (λO s v r a e=>by obtain⟨t,rfl⟩:=r;exact qC e)
  (λO s v Q E r q=>by
   obtain⟨t,rfl⟩:=r
   refine lJ FB.slot_bytes_hex (qU _ _ _) FB.entry_bytes_hex ?_ (FB.args_bytes_hex_1 _)
   rw[WO,YL]
   exact jC (wpAny_mkStr (jL (Ac _ rfl (q _ _ Keeps.rfl' (VR.str ..)))) (by show(Cs b.toList).toArray.size<=_;rw[kK,Ck,kn,sizeLine_eq];rwa[hb]))) hc
theorem W8{e:kJ}{ap:mi}{pl:vi Bool}{b:Array UInt8}(he:Ev Γ σ e (.by b))(hb:b.size<=10000)
 (hc:autoParam (eval (.Call (.Attribute e "upper" ap) [] [] cpos) Γ.env=(do
  let ov<-eval e Γ.env
  mS ap.atName
  let (f,first)<-mq [ov] (nz ov "upper" pl)
  kY cpos f first (backTo cpos (starEach [] Γ.env)) [])) aR):Ev Γ σ (.Call (.Attribute e "upper" ap) [] [] cpos) (.by (b.toList.map qQ).toArray):=
 Pr he (λO s v r=>by obtain⟨t,rfl⟩:=r;exact qU _ _ _) FB.plainAttrs_bytes D4 G2 (λO s v r a e=>by obtain⟨t,rfl⟩:=r;exact qC e)
  (λO s v Q E r q=>by
   obtain⟨t,rfl⟩:=r
   refine lJ D4 (qU _ _ _) GQ ?_ (Hv _)
   rw[QQ]
   exact jC (wpAny_mkBytes (jL (Ac _ rfl (q _ _ Keeps.rfl' (Ag _ rfl)))) (by rw[kK,jK,kn,sizeLine_eq];rwa[hb]))) hc
theorem Vg{e:kJ}{ap p:mi}{k:Nat}{pl:vi Bool}{x:jZ}(he:Ev Γ σ e (.py (.str x)))(hx:∀c∈x.cps,¬(128<=c))(hz:x.length<=100000)
 (hc:autoParam (eval (.Call (.Attribute e "encode" ap) [.Constant (.str "ascii") k p] [] cpos) Γ.env=(do
  let ov<-eval e Γ.env
  mS ap.atName
  let (f,first)<-mq [ov] (nz ov "encode" pl)
  kY cpos f first (backTo cpos (starEach [.Constant (.str "ascii") k p] Γ.env)) [])) aR):Ev Γ σ (.Call (.Attribute e "encode" ap) [.Constant (.str "ascii") k p] [] cpos) (.by (x.cps.map (·.toUInt8))):=
 Xd he (d:=.py (.str "ascii")) BF (λO s v r=>by obtain⟨t,rfl⟩:=r.str_inv;exact vv _ _ _) F.plainAttrs_str F.slot_str_encode F.type_str_encode (λO s v r a e=>by obtain⟨t,rfl⟩:=r.str_inv;exact qC e)
  (λO s v z Q E r rz q=>by
   obtain⟨t,rfl⟩:=r.str_inv
   obtain⟨u,rfl⟩:=rz.str_inv
   refine lJ F.slot_str_encode (vv _ _ _) F.entry_str_encode ?_ (F.args_str_encode_2 _ _)
   rw[Oq,Hp,N9 _ _ _ hx hz]
   simp only[pure_bind]
   exact jC (wpAny_mkBytes (jL (Ac _ rfl (q _ _ Keeps.rfl' (Ag _ rfl)))) (by rw[qH,sizeLine_eq];have:x.cps.size<=100000:=hz;rwa[this]))) rfl hc
end
section
variable {Γ:Cx} {σ:AX} {pos:mi}
theorem VQ{l r:kJ}{u v:jD}(hl:Ev Γ σ l (.raw u))(hr:Ev Γ σ r (.raw v))(hp:plainIs u v=true)(hm:autoParam (behindInMarks .IsNot r=false) aR):Tv Γ σ (.Compare l [.IsNot] [r] pos) (!(u == v)):=
 Eh hl hr (λO s x y Q E rx ry q=>by
  obtain rfl:x=u:=rx
  obtain rfl:y=v:=ry
  exact uq hp (q s (Keeps.re s))) hm
theorem VP{l r:kJ}{a:jN}(hl:Ev Γ σ l (.raw (.ref a)))(hr:Ev Γ σ r (.raw (.ref a)))(hm:autoParam (behindInMarks .Is r=false) aR):Tv Γ σ (.Compare l [.Is] [r] pos) true:=
 Eh hl hr (λO s x y Q E rx ry q=>by
  obtain rfl:x=.ref a:=rx
  obtain rfl:y=.ref a:=ry
  exact wpAny_is_ref_self (q s (Keeps.re s))) hm
end
theorem HW{d:Nat}(h:d<16):mz d<128:=by
 have:∀d:Fin 16,mz d.val<128:=by decide +kernel
 exact this ⟨d,h⟩
theorem Ka{b:List UInt8}{c:Nat}(h:c∈Cs b):¬(128<=c):=by
 refine Af (lw.mp h) λu _ h=>?_
 have hu:=u.toNat_lt
 rcases jI.mp h with rfl|h
 ·have:=HW (d:=u.toNat/16) (by rwa[hu]);rwa[this]
 ·obtain rfl:=jJ.mp h
  have:=HW (d:=u.toNat%16) (by rwa[]);rwa[this]
noncomputable def gL:List jZ:=["data","sep","bytes_per_sep","t"]
theorem gz(pm cd doc dv kdv:jD):Bf (Az 12 pm cd doc dv kdv) (Am (stm 12)) ["data","sep","bytes_per_sep"] gL:=.of (by decide +kernel)
theorem ao{w:jY}{xI:j6}{a aB aN:jN}{mg mb:jZ->Option jD}{dv:jD}{tk:uw}(T:Br mg mb xI)(FO:Av xI 12 a dv .none)(hdv:Fh xI dv #[.ref aN,.int 1 tk])(FB:Av xI 7 aB .none .none)(hgB:mg "_buffer"=some (.ref aB))(hgN:mg "_NO_SEP"=some (.ref aN))(b:Array UInt8)(hb:b.size<=1000) :
 Fn pw w xI 2 (.ref a) [] [.by b] [] (.by ((Cs b.toList).toArray.map (·.toUInt8))):=by
 refine E7 FO.ex λo pm cd doc ho hd hcd=>?_
 refine Ec hdv λaD oD nD zz1 hD1 hD2=>?_;clear hdv;obtain rfl:=zz1
 refine Hg (ps:=[jB "data",jB "sep",jB "bytes_per_sep"]) (davs:=[.raw (.ref aN),.py (.int 1)]) (dv:=[.ref aN,.int 1 tk]) (gz pm cd doc _ _) ho hd T.gl.nolimit hcd rfl (λO h=>⟨rfl,VR.int ..,trivial⟩) (λs vs kvs hk h1 h2=>?_) (λA s O hk N room=>?_)
 ·obtain⟨v,rfl⟩:=GF h1
  obtain rfl:=vm.mp h2
  exact .of_defaults rfl (hk _ _ hD1) hD2 rfl rfl
 ·refine Ad (At N 0 (CI (KH T FB b) (room.le (by rwa[])) hk FB (BU T hk hgB) (Ab (Aa 0) Ah)) ?_)
  refine Ad (BI (b:=false) (Tv.cast (By (IB (VQ (v:=.type "int") (Hi (T:="int") (A1 T hk) (Aa 2) (λO s v r=>by obtain⟨t,rfl⟩:=r.int_inv;rfl)) (A1 T hk) (by rfl)) (λ_=>IB (An (Aa 2) (Hk Ai)) (λ_=>IB (An (Aa 2) Ai) (λ_=>QR))))) (by decide +kernel)) (λh=>by exact lN h) (λ_=>Aj ?_))
  refine Ad (BI (b:=true) (VP (Aa 1) (BU T hk hgN)) (λ_=>?_) (λh=>by exact lN h))
  refine Ad (AQ (Vg (aE (Aa 0) (by rwa[hb])) ?_ ?_) rfl)
  ·intro c hc;exact Ka (by simpa using hc)
  ·show(Cs b.toList).toArray.size<=_
   rw[kK,Ck,kn];rwa[hb]
noncomputable def gJ:List jZ:=["s"]
theorem gv(pm cd doc dv kdv:jD):Bf (Az 16 pm cd doc dv kdv) (Am (stm 16)) ["s"] gJ:=.of (by decide +kernel)
theorem bn(pm cd doc v:jD):l6 (Az 16 pm cd doc .none .none) ⟨[v],[]⟩=pure [((jB "s"),v)]:=by rfl
noncomputable def H4 (b:Array UInt8):Array UInt8:=(((Cs b.toList).toArray.map (·.toUInt8)).toList.map qQ).toArray
theorem bv{w:jY}{xI:j6}{a a12 aB aN:jN}{mg mb:jZ->Option jD}{dv:jD}{tk:uw}(T:Br mg mb xI)(FO:Av xI 16 a .none .none)(F12:Av xI 12 a12 dv .none)(hg12:mg "hexlify"=some (.ref a12))(hdv:Fh xI dv #[.ref aN,.int 1 tk])(FB:Av xI 7 aB .none .none)(hgB:mg "_buffer"=some (.ref aB))(hgN:mg "_NO_SEP"=some (.ref aN))(b:Array UInt8)(hb:b.size<=1000) :
 Fn pw w xI 3 (.ref a) [] [.by b] [] (.by (H4 b)):=
 Ea FO (λpm cd doc=>gv pm cd doc _ _) T.gl.nolimit rfl (λpm cd doc vs h=>by obtain⟨v,rfl⟩:=GF h;exact bn pm cd doc v) (λpm cd doc A s O hk N room=>by
  refine Ad (Iz ?_)
  refine Ad (AQ (W8 (CI (ao T F12 hdv FB hgB hgN b hb) (room.le (by rwa[])) hk F12 (BU T hk hg12) (Ab (Aa 0) Ah)) ?_) rfl)
  rw[qH,kK,Ck,kn];rwa[hb])
noncomputable def Q7:List jZ:=["script","left","right","sixteen","sixtyfour","due","told","steps"]
theorem gb(pm cd doc dv kdv:jD):Bf (Az 50 pm cd doc dv kdv) (Am (stm 50)) ["script"] Q7:=.of (by decide +kernel)
noncomputable def TR:jZ:="0123456789ABCDEF"
noncomputable def X9:jZ:="ABCDEFGHIJKLMNOPQRSTUVWXYZabcdefghijklmnopqrstuvwxyz0123456789+/"
noncomputable def AA (row:List Int):List jZ:=[Ff row 4 TR,Ff row 6 X9,mO "" (AB row)]
noncomputable def Gs (b:Array UInt8):jZ:=mO "" (b.toList.map λc=>⟨#[c.toNat]⟩)
noncomputable def ER (row:List Int):List jZ:=[Gs (H4 (byteArr (AD row))),Gs (byteArr (EG (B9 (byteArr (AD row))))),mO "" (row.map λm=>mO "" (Ax m 10))]
noncomputable def B7 (l:List jZ):jQ:=.list (l.map .str)
structure Jq (w:jY) (mg mb:jZ->Option jD) (xI:j6) where
 T:Br mg mb xI
 a41:jN
 g41:mg "_law_rows"=some (.ref a41)
 f41:Av xI 41 a41 .none .none
 a42:jN
 g42:mg "_law_octets"=some (.ref a42)
 f42:Av xI 42 a42 .none .none
 a43:jN
 g43:mg "_law_text"=some (.ref a43)
 f43:Av xI 43 a43 .none .none
 a44:jN
 g44:mg "_law_base"=some (.ref a44)
 f44:Av xI 44 a44 .none .none
 a45:jN
 g45:mg "_law_listing"=some (.ref a45)
 f45:Av xI 45 a45 .none .none
 a46:jN
 g46:mg "_law_longest"=some (.ref a46)
 f46:Av xI 46 a46 .none .none
 a47:jN
 g47:mg "_law_cut"=some (.ref a47)
 f47:Av xI 47 a47 .none .none
 a48:jN
 g48:mg "_law_codes"=some (.ref a48)
 f48:Av xI 48 a48 .none .none
 a49:jN
 g49:mg "_law_seen"=some (.ref a49)
 f49:Av xI 49 a49 .none .none
 a18:jN
 g18:mg "S_IFMT"=some (.ref a18)
 f18:Av xI 18 a18 .none .none
 a39:jN
 g39:mg "filemode"=some (.ref a39)
 f39:Av xI 39 a39 .none .none
 tb:jD
 gtb:mg "_filemode_table"=some tb
 rtb:Ak xI tb Gu []
 a7:jN
 g7:mg "_buffer"=some (.ref a7)
 f7:Av xI 7 a7 .none .none
 a8:jN
 g8:mg "_truth"=some (.ref a8)
 f8:Av xI 8 a8 .none .none
 t64:uw
 g64:mg "_B64"=some (.bytes PM.toArray t64)
 a10:jN
 k10:jD
 g10:mg "b2a_base64"=some (.ref a10)
 f10:Av xI 10 a10 .none k10
 a12:jN
 d12:jD
 g12:mg "hexlify"=some (.ref a12)
 f12:Av xI 12 a12 d12 .none
 aN:jN
 tN:uw
 gN:mg "_NO_SEP"=some (.ref aN)
 e12:Fh xI d12 #[.ref aN,.int 1 tN]
 a15:jN
 d15:jD
 g15:mg "b64encode"=some (.ref a15)
 f15:Av xI 15 a15 d15 .none
 e15:Fh xI d15 #[.none]
 a16:jN
 g16:mg "b16encode"=some (.ref a16)
 f16:Av xI 16 a16 .none .none
structure Ca (row:List Int):Prop where
 len:row.length<=3
 el:∀m∈row,0<=m/\m<65536
theorem Kc{m:Int}{x:jZ}(hx:x∈Ax m 10):x.length=1:=by
 unfold Ax at hx
 obtain⟨i,hi,rfl⟩:=xm.mp hx
 have hm:A4[i]?=some ((A4.take 10)[i]):=by
  rw[<-jR hi];rfl
 generalize (A4.take 10)[i]=t at hm ⊢
 unfold AU
 cases hf:t.find? (EL m i) with
 | none=>show(if i=0 then jB "?" else jB "-").length=1;split<;>decide
 | some p=>
  show p.2.length=1
  have h2:=nG hf
  have h3:=kx hm
  have:(A4.all λt=>t.all λp=>p.2.length == 1)=true:=by decide +kernel
  exact beq_iff_eq.mp (kA.mp (kA.mp this t h3) p h2)
theorem On(m:Int):(mO "" (Ax m 10)).length=10:=by
 rw[KT.join_ones _ λx hx=>Kc hx]
 simp[Ax,A4]
theorem DV(ns:List Int):(byteArr ns).size=ns.length:=byteArr_size ns
theorem iB{a b:jZ}{c d:jN}(h:c≠d):List.Pairwise (λx y=>x.2≠y.2) ([(a,c),(b,d)]:List (jZ×jN)):=
 .cons (λy hy=>by obtain rfl:=jJ.mp hy;exact h) (.cons (λ_ h=>nomatch h) .nil)
noncomputable def D1 {α:Type} (lt:Nat->Nat->Bool):KasT α->α
 | .ret a=>a
 | .ask i j k=>D1 lt (k (lt i j))
theorem D7{α β:Type}(lt:Nat->Nat->Bool)(f:α->KasT β):∀t:KasT α,D1 lt (t.bind f)=D1 lt (f (D1 lt t))
 | .ret _=>rfl
 | .ask i j k=>D7 lt f (k (lt i j))
section
variable (r:Nat->Int)
noncomputable def CW (i j:Nat):Bool:=decide (r i<r j)
noncomputable def RR (p:Array Nat) (k:Nat):Int:=r (p.getD k 0)
noncomputable def Kh (p:Array Nat) (n:Nat):Prop:=∀i j,i<j->j<n->RR r p i<RR r p j
noncomputable def PS (p:Array Nat) (n:Nat):Prop:=∀i j,i<j->j<n->RR r p j<RR r p i
noncomputable def GZ (p:Array Nat):Prop:=∀i j,i<p.size->j<p.size->RR r p i=RR r p j->i=j
variable {r}
theorem GX{p:Array Nat}(hd:GZ r p):∀(f n:Nat),1<=n->n+f<=p.size->Kh r p n->n<=D1 (CW r) (kas_asc p f n)/\D1 (CW r) (kas_asc p f n)<=n+f/\Kh r p (D1 (CW r) (kas_asc p f n))/\(D1 (CW r) (kas_asc p f n)<n+f->RR r p (D1 (CW r) (kas_asc p f n))<RR r p (D1 (CW r) (kas_asc p f n)-1))
 | 0,n,h1,h2,h=>⟨jP _,jP _,h,λh=>absurd h (lr _)⟩
 | f+1,n,h1,h2,h=>by
  have e:D1 (CW r) (kas_asc p (f+1) n)=D1 (CW r) (if CW r (p.getD n 0) (p.getD (n-1) 0)=true then .ret n else kas_asc p f (n+1)):=rfl
  rw[e]
  by_cases c:CW r (p.getD n 0) (p.getD (n-1) 0)=true
  ·rw[if_pos c]
   exact⟨jP _,by show n<=_;rwa[],h,λ_=>of_decide_eq_true c⟩
  ·rw[if_neg c]
   have c':¬RR r p n<RR r p (n-1):=λz=>c (decide_eq_true z)
   have hne:RR r p (n-1)≠RR r p n:=λz=>by have:=hd (n-1) n (by rwa[h1,h2]) (by rwa[h2]) z;rwa[h1,this]
   have h':Kh r p (n+1):=by
    intro i j hij hj
    by_cases hjn:j=n
    ·subst hjn
     by_cases hi:i=j-1
     ·subst hi;rwa[c',hne]
     ·have:=h i (j-1) (by rwa[hij,h1,hi]) (by rwa[h1]);rwa[c',hne,this]
    ·exact h i j hij (by rwa[hj,hjn])
   have:=GX hd f (n+1) (by rwa[]) (by rwa[h2]) h'
   refine⟨by lia,by lia,this.2.2.1,λz=>this.2.2.2 (by rwa[z])⟩
theorem Hq{p:Array Nat}(hd:GZ r p):∀(f n:Nat),1<=n->n+f<=p.size->PS r p n->∃m,D1 (CW r) (kas_desc f p n 0)=(p,m,0)/\n<=m/\m<=n+f/\PS r p m
 | 0,n,h1,h2,h=>H5 n rfl (jP _) (jP _) h
 | f+1,n,h1,h2,h=>by
  have e:D1 (CW r) (kas_desc (f+1) p n 0)=D1 (CW r) (if CW r (p.getD n 0) (p.getD (n-1) 0)=true then(if 0>0 then kas_desc f (kas_rev p (n-(0+1)) n) (n+1) 0 else kas_desc f p (n+1) 0)
   else .ask (p.getD (n-1) 0) (p.getD n 0) λd=>if d=true then .ret (p,n,0) else kas_desc f p (n+1) (0+1)):=rfl
  rw[e]
  have hne:RR r p (n-1)≠RR r p n:=λz=>by have:=hd (n-1) n (by rwa[h1,h2]) (by rwa[h2]) z;rwa[h1,this]
  by_cases c:CW r (p.getD n 0) (p.getD (n-1) 0)=true
  ·rw[if_pos c,if_neg (by decide)]
   have c':RR r p n<RR r p (n-1):=of_decide_eq_true c
   have h':PS r p (n+1):=by
    intro i j hij hj
    by_cases hjn:j=n
    ·subst hjn
     by_cases hi:i=j-1
     ·subst hi;exact c'
     ·have:=h i (j-1) (by rwa[hij,h1,hi]) (by rwa[h1]);rwa[c',this]
    ·exact h i j hij (by rwa[hj,hjn])
   refine H0 (Hq hd f (n+1) (by rwa[]) (by rwa[h2]) h') λm e1 e2 e3 e4=>?_
   exact H5 m e1 (by rwa[e2]) (by rwa[e3]) e4
  ·rw[if_neg c]
   have c':¬RR r p n<RR r p (n-1):=λz=>c (decide_eq_true z)
   have c2:CW r (p.getD (n-1) 0) (p.getD n 0)=true:=decide_eq_true (show RR r p (n-1)<RR r p n by rwa[hne,c'])
   refine H5 n ?_ (jP _) (by rwa[]) h
   show D1 (CW r) (if CW r (p.getD (n-1) 0) (p.getD n 0)=true then .ret (p,n,0) else kas_desc f p (n+1) (0+1))=_
   rw[if_pos c2];rfl
theorem WQ{p:Array Nat}{n:Nat}(hn:n<=p.size)(k:Nat):(kas_rev p 0 n).getD k 0=if k<n then p.getD (n-1-k) 0 else p.getD k 0:=by
 have:=getElem?_mirror_all (xs:=p) (i:=0) hn k
 unfold kas_rev
 rw[lS,this]
 by_cases h:k<n
 ·rw[if_pos ⟨kh _,h⟩,if_pos h,lS,tD]
 ·rw[if_neg (λz=>h z.2),if_neg h,lS]
theorem OB{p:Array Nat}{n:Nat}(hn:n<=p.size)(k:Nat):RR r (kas_rev p 0 n) k=if k<n then RR r p (n-1-k) else RR r p k:=by
 unfold RR
 rw[WQ hn]
 split<;>rfl
theorem IH(p:Array Nat)(n:Nat):(kas_rev p 0 n).size=p.size:=mirror_size _ _ _ _
theorem OW(p:Array Nat)(n:Nat):(kas_rev p 0 n).Perm p:=mirror_perm _ _ _ _
theorem Wk{p:Array Nat}{n:Nat}(hn:n<=p.size)(hd:GZ r p):GZ r (kas_rev p 0 n):=by
 intro i j hi hj h
 rw[IH] at hi hj
 rw[OB hn,OB hn] at h
 split at h<;>split at h
 ·have:=hd _ _ (by(rename_i z0 _;rwa[hn,z0])) (by(rename_i z0;rwa[hn,z0])) h;(rename_i z0 z1;rwa[z0,z1,this])
 ·have:=hd _ _ (by(rename_i z0 z1;rwa[hj,z0,z1])) (by rwa[hj]) h;(rename_i z0 z1;rwa[z0,z1,this])
 ·have:=hd _ _ (by rwa[hi]) (by(rename_i z0 z1;rwa[hi,z0,z1])) h;(rename_i z0 z1;rwa[z0,z1,this])
 ·exact hd _ _ hi hj h
theorem Jh{p:Array Nat}(hd:GZ r p)(h2:1<=p.size):∃m p',D1 (CW r) (kas_count p.size p)=(m,p')/\1<=m/\m<=p.size/\p'.Perm p/\GZ r p'/\Kh r p' m:=by
 delta r p at hd h2
 have ha:=GX hd (p.size-1) 1 (jP _) (by rwa[h2]) (λi j h1 h2=>by rwa[h1,h2])
 unfold kas_count
 rw[D7]
 generalize D1 (CW r) (kas_asc p (p.size-1) 1)=n at ha
 obtain⟨a1,a2,a3,a4⟩:=ha
 by_cases hn:n=p.size
 ·rw[if_pos (by rw[hn];exact beq_self_eq_true _)]
  exact Uh n p rfl a1 (by rwa[hn]) (sU _) hd a3
 ·rw[if_neg (by simpa using hn)]
  by_cases h1:n>1
  ·rw[if_pos h1]
   have c:CW r (p.getD 0 0) (p.getD (n-1) 0)=true:=decide_eq_true (a3 0 (n-1) (by rwa[a1,h1]) (by rwa[a1]))
   refine Uh n p ?_ a1 (by rwa[h2,a2,hn]) (sU _) hd a3
   show D1 (CW r) (if CW r (p.getD 0 0) (p.getD (n-1) 0)=true then .ret (n,p) else _)=_
   rw[if_pos c];rfl
  ·rw[if_neg h1]
   obtain rfl:n=1:=by rwa[a1,h1]
   have h0:=a4 (by rwa[h2,hn])
   unfold kas_descPart
   rw[D7]
   have hD:PS r p 2:=by
    intro i j hij hj
    have:i=0:=by rwa[hij,hj]
    have:j=1:=by rwa[hij,hj,this]
    subst i j
    exact h0
   obtain⟨m,e1,e2,e3,e4⟩:=Hq hd (p.size-(1+1)) 2 (by rwa[]) (by rwa[h2,hn]) hD
   rw[e1]
   dsimp only
   rw[if_neg (by decide)]
   unfold kas_tail3
   rw[D7]
   have hm:m<=p.size:=by rwa[h2,hn,e3]
   have hdr:=Wk hm hd
   have hasc:Kh r (kas_rev p 0 m) m:=by
    intro i j hij hj
    rw[OB hm,OB hm,if_pos (by rwa[hij,hj]),if_pos hj]
    exact e4 _ _ (by rwa[hij,hj]) (by rwa[e2])
   have hb:=GX hdr (p.size-m) m (by rwa[e2]) (by rw[IH];rwa[hm]) hasc
   generalize D1 (CW r) (kas_asc (kas_rev p 0 m) (p.size-m) m)=q at hb
   exact Uh q _ rfl (by(clear_value *;lia)) (by(clear_value *;lia)) (OW _ _) hdr hb.2.2.1
end
section
variable {r:Nat->Int}
theorem Hy{p:Array Nat}{k l:Nat}(hk:k<p.size)(hl:l<=k)(i:Nat):RR r (bubble p k (k-l)) i=if i=l then RR r p k else if l<i/\i<=k then RR r p (i-1) else RR r p i:=by
 have:=getElem?_bubble hk (k-l) (by rwa[hl]) i
 have e:k-(k-l)=l:=by rwa[hl]
 rw[e] at this
 simp only[RR,lS]
 rw[this]
 split
 ·rfl
 ·split<;>rfl
noncomputable def bt (k l i:Nat):Nat:=if i=l then k else if l<i/\i<=k then i-1 else i
noncomputable def bs (k l i:Nat):Nat:=if i=k then l else if l<=i/\i<k then i+1 else i
theorem ZK{k l:Nat}(hl:l<=k)(i:Nat):bs k l (bt k l i)=i:=by
 unfold bs bt
 by_cases a:i=l
 ·rw[if_pos a,if_pos rfl,a]
 ·rw[if_neg a]
  by_cases b:l<i/\i<=k
  ·rw[if_pos b,if_neg (by rwa[b]),if_pos (by rwa[b]),oE (nu (kh _) b.1)]
  ·rw[if_neg b,if_neg (by rwa[a,b,hl]),if_neg (by rwa[a,b])]
theorem ZJ{k l n i:Nat}(hk:k<n)(hi:i<n):bt k l i<n:=by
 unfold bt
 split
 ·exact hk
 ·split
  ·exact nu (p0 i 1) hi
  ·exact hi
theorem PG{p:Array Nat}{k l:Nat}(hk:k<p.size)(hl:l<=k)(hd:GZ r p):GZ r (bubble p k (k-l)):=by
 intro i j hi hj h
 delta r p k l i j at hk hl hd hi hj h
 rw[va] at hi hj
 have e:∀i,RR r (bubble p k (k-l)) i=RR r p (bt k l i):=λi=>by
  rw[Hy hk hl];unfold bt
  split
  ·rfl
  ·split<;>rfl
 rw[e,e] at h
 rw[<-ZK hl i,<-ZK hl j,hd _ _ (ZJ hk hi) (ZJ hk hj) h]
theorem F4{p:Array Nat}{k:Nat}(hd:GZ r p)(hk:k<p.size)(ha:Kh r p k):∀(f l q:Nat),l<=q->q<=k->q-l<=f->(∀i,i<l->RR r p i<RR r p k)->(∀i,q<=i->i<k->RR r p k<RR r p i)->
 D1 (CW r) (kas_place p k f l q)<=k/\(∀i,i<D1 (CW r) (kas_place p k f l q)->RR r p i<RR r p k)/\(∀i,D1 (CW r) (kas_place p k f l q)<=i->i<k->RR r p k<RR r p i)
 | 0,l,q,h1,h2,h3,h4,h5=>by
  have:l=q:=by rwa[h1,h3]
  subst this
  exact⟨h2,h4,h5⟩
 | f+1,l,q,h1,h2,h3,h4,h5=>by
  by_cases hl:l>=q
  ·have e:D1 (CW r) (kas_place p k (f+1) l q)=l:=by
    unfold kas_place;rw[if_pos hl];rfl
   rw[e]
   have:l=q:=by rwa[h1,hl]
   subst this
   exact⟨h2,h4,h5⟩
  ·have e:D1 (CW r) (kas_place p k (f+1) l q)=D1 (CW r) (if CW r (p.getD k 0) (p.getD ((l+q)/2) 0)=true then kas_place p k f l ((l+q)/2) else kas_place p k f ((l+q)/2+1) q):=by
    conv=>lhs;unfold kas_place
    rw[if_neg hl];rfl
   rw[e]
   generalize hm:(l+q)/2=m
   have hm1:l<=m/\m<q:=by rwa[h1,hl,hm]
   by_cases c:CW r (p.getD k 0) (p.getD m 0)=true
   ·rw[if_pos c]
    have c':RR r p k<RR r p m:=of_decide_eq_true c
    refine F4 hd hk ha f l m (by rwa[hl,hm]) (by rwa[h2,hm,hm1]) (by rwa[h3,hm,hm1]) h4 λi hi hik=>?_
    by_cases him:i=m
    ·subst him;exact c'
    ·have:=ha m i (by rwa[hm,hi,him]) hik;rwa[c',this]
   ·rw[if_neg c]
    have c':¬RR r p k<RR r p m:=λz=>c (decide_eq_true z)
    have hne:RR r p k≠RR r p m:=λz=>by have:=hd k m hk (by rwa[hk,h2,hm,hm1]) z;rwa[h2,hl,hm,hm1,this]
    refine F4 hd hk ha f (m+1) q (by rwa[hm,hm1]) h2 (by rwa[h3,hm]) (λi hi=>?_) h5
    by_cases him:i=m
    ·subst him;rwa[c',hne]
    ·have:=ha i m (by rwa[hm,hi,him]) (by rwa[h2,hm,hm1]);rwa[c',hne,this]
theorem PK:∀(f:Nat) (p:Array Nat) (k:Nat),GZ r p->k+f=p.size->Kh r p k->(D1 (CW r) (kas_bin f p k)).Perm p/\Kh r (D1 (CW r) (kas_bin f p k)) p.size
 | 0,p,k,hd,hk,ha=>⟨sU _,by rw[<-hk];exact ha⟩
 | f+1,p,k,hd,hk,ha=>by
  unfold kas_bin
  rw[D7]
  have hp:=F4 hd (by rwa[hk]) ha k 0 k (kh _) (jP _) (by rwa[]) (λi hi=>by rwa[hi]) (λi hi hik=>by rwa[hi,hik])
  generalize D1 (CW r) (kas_place p k k 0 k)=l at hp
  obtain⟨h1,h2,h3⟩:=hp
  have hkp:k<p.size:=by rwa[hk]
  have hd':=PG hkp h1 hd
  have ha':Kh r (bubble p k (k-l)) (k+1):=by
   intro i j hij hj
   rw[Hy hkp h1,Hy hkp h1]
   split
   ·rename_i hi
    rw[if_neg (by rwa[hij,hi])]
    split
    ·exact h3 _ (by rwa[hij,hi]) (by rwa[hij,hj,hi])
    ·(rename_i z0;rwa[hij,hj,hi,z0])
   ·split
    ·rw[if_neg (by(rename_i z0;rwa[hij,z0])),if_pos (by(rename_i z0;rwa[hij,hj,z0]))]
     exact ha _ _ (by(rename_i z0 z1;rwa[hij,z0,z1])) (by(rename_i z0;rwa[hj,z0]))
    ·split
     ·exact h2 _ (by(rename_i z0 _ z2;rwa[hij,z0,z2]))
     ·split
      ·rename_i hj2
       by_cases hij2:i=j-1
       ·(rename_i z0 z1 _;rwa[hij,hj,z0,z1,hj2,hij2])
       ·exact ha _ _ (by(rename_i z0;rwa[hij,z0,hj2,hij2])) (by rwa[hij,hj])
      ·exact ha _ _ hij (by(rename_i z0 z1;rwa[h1,hj,z0,z1]))
  have:=PK f (bubble p k (k-l)) (k+1) hd' (by rw[va];rwa[hk]) ha'
  rw[va] at this
  exact⟨this.1.trans (bubble_perm _ _ _),this.2⟩
theorem G5{n:Nat}(hn:1<=n)(hr:∀i j,i<n->j<n->r i=r j->i=j):(D1 (CW r) (kas_sort n)).Perm (kg (kf n))/\Kh r (D1 (CW r) (kas_sort n)) n:=by
 delta r n at hn hr
 have hsz:(kg (kf n)).size=n:=by simp
 have hd:GZ r (kg (kf n)):=by
  intro i j hi hj h
  rw[hsz] at hi hj
  unfold RR at h
  have e:∀i,i<n->(kg (kf n)).getD i 0=i:=λi hi=>by simp[lS,hi]
  rw[e i hi,e j hj] at h
  exact hr i j hi hj h
 obtain⟨m,p',e1,e2,e3,e4,e5,e6⟩:=(Jh hd (by rw[hsz];exact hn))
 rw[hsz] at e1 e3
 have hp':p'.size=n:=by rw[e4.size_eq,hsz]
 unfold kas_sort
 rw[D7,e1]
 dsimp only
 by_cases h:m<n
 ·rw[if_pos h]
  have hmx:max m 1=m:=by(clear_value *;lia)
  rw[hmx]
  have:=PK (r:=r) (n-m) p' m e5 (by rwa[hp',h]) e6
  rw[hp'] at this
  exact⟨this.1.trans e4,this.2⟩
 ·rw[if_neg h]
  have:m=n:=by rwa[e3,h]
  subst this
  exact⟨e4,e6⟩
end
noncomputable def WJ {α:Type} (lt:Nat->Nat->Bool) (ok:Nat->Prop):KasT α->Prop
 | .ret _=>True
 | .ask i j k=>ok i/\ok j/\WJ lt ok (k (lt i j))
theorem D6{α β:Type}(lt:Nat->Nat->Bool)(ok:Nat->Prop)(f:α->KasT β):∀t:KasT α,WJ lt ok t->WJ lt ok (f (D1 lt t))->WJ lt ok (t.bind f)
 | .ret _,_,h=>h
 | .ask i j k,⟨h1,h2,h3⟩,h=>⟨h1,h2,D6 lt ok f (k (lt i j)) h3 h⟩
theorem Rf{α:Type}{cmp:Nat->Nat->(Bool->jG->Prop)->jG->Prop}{lt:Nat->Nat->Bool}{Inv:jG->Prop}{ok:Nat->Prop}
 (h:∀i j C s,ok i->ok j->Inv s->(∀s',Inv s'->C (lt i j) s')->cmp i j C s){Q:α->jG->Prop}:∀(t:KasT α) (s:jG),WJ lt ok t->Inv s->(∀s',Inv s'->Q (D1 lt t) s')->t.kasWp cmp Q s
 | .ret a,s,_,hI,q=>q s hI
 | .ask i j k,s,⟨o1,o2,o3⟩,hI,q=>h i j _ s o1 o2 hI λs' hI'=>Rf h (k (lt i j)) s' o3 hI' q
section
variable {r:Nat->Int} {ok:Nat->Prop}
noncomputable def Zb (ok:Nat->Prop) (p:Array Nat):Prop:=∀k,k<p.size->ok (p.getD k 0)
theorem Zb.perm{p q:Array Nat}(h:Zb ok p)(hp:q.Perm p):Zb ok q:=by
 intro k hk
 have hm:q.getD k 0∈q:=by simp[lS,hk]
 have hm':q.getD k 0∈p:=hp.mem_iff.mp hm
 obtain⟨j,hj,e⟩:=Array.getElem_of_mem hm'
 have:=h j hj
 rw[lS,oZ hj] at this
 simp only[Option.getD_some] at this
 rw[e] at this
 exact this
theorem RI{p:Array Nat}(ho:Zb ok p):∀(f n:Nat),1<=n->n+f<=p.size->WJ (CW r) ok (kas_asc p f n)
 | 0,n,h1,h2=>trivial
 | f+1,n,h1,h2=>by
  refine⟨ho n (by rwa[h2]),ho (n-1) (by rwa[h1,h2]),?_⟩
  dsimp only
  split
  ·trivial
  ·exact RI ho f (n+1) (by rwa[]) (by rwa[h2])
theorem Uj{p:Array Nat}(hd:GZ r p)(ho:Zb ok p):∀(f n:Nat),1<=n->n+f<=p.size->WJ (CW r) ok (kas_desc f p n 0)
 | 0,n,h1,h2=>trivial
 | f+1,n,h1,h2=>by
  refine⟨ho n (by rwa[h2]),ho (n-1) (by rwa[h1,h2]),?_⟩
  dsimp only
  by_cases c:CW r (p.getD n 0) (p.getD (n-1) 0)=true
  ·rw[if_pos c,if_neg (by decide)]
   exact Uj hd ho f (n+1) (by rwa[]) (by rwa[h2])
  ·rw[if_neg c]
   refine⟨ho (n-1) (by rwa[h1,h2]),ho n (by rwa[h2]),?_⟩
   have hne:RR r p (n-1)≠RR r p n:=λz=>by have:=hd (n-1) n (by rwa[h1,h2]) (by rwa[h2]) z;rwa[h1,this]
   have c':¬RR r p n<RR r p (n-1):=λz=>c (decide_eq_true z)
   have c2:CW r (p.getD (n-1) 0) (p.getD n 0)=true:=decide_eq_true (show RR r p (n-1)<RR r p n by rwa[hne,c'])
   dsimp only
   rw[if_pos c2];trivial
theorem Xm{p:Array Nat}(hd:GZ r p)(ho:Zb ok p)(h2:1<=p.size):WJ (CW r) ok (kas_count p.size p):=by
 delta r ok p at hd ho h2
 have ha:=GX hd (p.size-1) 1 (jP _) (by rwa[h2]) (λi j h1 h2=>by rwa[h1,h2])
 unfold kas_count
 refine D6 _ _ _ _ (RI ho _ _ (jP _) (by rwa[h2])) ?_
 generalize D1 (CW r) (kas_asc p (p.size-1) 1)=n at ha
 obtain⟨a1,a2,a3,a4⟩:=ha
 by_cases hn:n=p.size
 ·rw[if_pos (by rw[hn];exact beq_self_eq_true _)];trivial
 ·rw[if_neg (by simpa using hn)]
  by_cases h1:n>1
  ·rw[if_pos h1]
   have c:CW r (p.getD 0 0) (p.getD (n-1) 0)=true:=decide_eq_true (a3 0 (n-1) (by rwa[a1,h1]) (by rwa[a1]))
   refine⟨ho 0 (by rwa[h2]),ho (n-1) (by rwa[h2,a1,a2,hn]),?_⟩
   dsimp only
   rw[if_pos c];trivial
  ·rw[if_neg h1]
   obtain rfl:n=1:=by rwa[a1,h1]
   have h0:=a4 (by rwa[h2,hn])
   unfold kas_descPart
   have hD:PS r p 2:=by
    intro i j hij hj
    have:i=0:=by rwa[hij,hj]
    have:j=1:=by rwa[hij,hj,this]
    subst i j
    exact h0
   obtain⟨m,e1,e2,e3,e4⟩:=Hq hd (p.size-(1+1)) 2 (by rwa[]) (by rwa[h2,hn]) hD
   refine D6 _ _ _ _ (Uj hd ho _ _ (by rwa[]) (by rwa[h2,hn])) ?_
   have e1':D1 (CW r) (kas_desc (p.size-(1+1)) p (1+1) 0)=(p,m,0):=e1
   rw[e1']
   dsimp only
   rw[if_neg (by decide)]
   unfold kas_tail3
   exact D6 _ _ _ _ (RI (ho.perm (OW _ _)) _ _ (by rwa[e2]) (by rw[IH];rwa[h2,hn,e3])) trivial
theorem IP{p:Array Nat}{k:Nat}(ho:Zb ok p)(hk:k<p.size):∀(f l q:Nat),q<=k->WJ (CW r) ok (kas_place p k f l q)
 | 0,l,q,h2=>trivial
 | f+1,l,q,h2=>by
  unfold kas_place
  by_cases hl:l>=q
  ·rw[if_pos hl];trivial
  ·rw[if_neg hl]
   refine⟨ho k hk,ho _ (by rwa[hk,h2,hl]),?_⟩
   dsimp only
   by_cases c:CW r (p.getD k 0) (p.getD ((l+q)/2) 0)=true
   ·rw[if_pos c];exact IP ho hk f _ _ (by rwa[h2,hl])
   ·rw[if_neg c];exact IP ho hk f _ _ h2
theorem Xz:∀(f:Nat) (p:Array Nat) (k:Nat),Zb ok p->k+f<=p.size->WJ (CW r) ok (kas_bin f p k)
 | 0,p,k,ho,hk=>trivial
 | f+1,p,k,ho,hk=>by
  unfold kas_bin
  exact D6 _ _ _ _ (IP ho (by rwa[hk]) _ _ _ (jP _)) (Xz f _ _ (ho.perm (bubble_perm _ _ _)) (by rw[va];rwa[hk]))
theorem TP{n:Nat}(hn:1<=n)(hr:∀i j,i<n->j<n->r i=r j->i=j):WJ (CW r) (· < n) (kas_sort n):=by
 delta r n at hn hr
 have hsz:(kg (kf n)).size=n:=by simp
 have e:∀i,i<n->(kg (kf n)).getD i 0=i:=λi hi=>by simp[lS,hi]
 have hd:GZ r (kg (kf n)):=by
  intro i j hi hj h
  rw[hsz] at hi hj
  unfold RR at h
  rw[e i hi,e j hj] at h
  exact hr i j hi hj h
 have ho:Zb (· < n) (kg (kf n)):=λk hk=>by
  rw[hsz] at hk
  show(kg (kf n)).getD k 0<n
  rw[e k hk];exact hk
 have hc:=Xm hd ho (by rw[hsz];exact hn)
 obtain⟨m,p',e1,e2,e3,e4,e5,e6⟩:=(Jh hd (by rw[hsz];exact hn))
 rw[hsz] at hc e1 e3
 have hp':p'.size=n:=by rw[e4.size_eq,hsz]
 unfold kas_sort
 refine D6 _ _ _ _ hc ?_
 rw[e1]
 dsimp only
 by_cases h:m<n
 ·rw[if_pos h]
  exact Xz _ _ _ (ho.perm e4) (by(clear_value *;lia))
 ·rw[if_neg h];trivial
end
theorem Gh(x y:Nat):ke x y=((x&&&y:Nat):Int):=by
 unfold ke
 simp
theorem KI(x y:Nat):oz x y=((x|||y:Nat):Int):=by
 unfold oz ke Builtin.bitNot
 have hx:decide ((0:Int)<=-(x:Int)-1)=false:=decide_eq_false (by rwa[])
 have hy:decide ((0:Int)<=-(y:Int)-1)=false:=decide_eq_false (by rwa[])
 rw[hx,hy]
 have e1:(-(-(x:Int)-1)-1).toNat=x:=by rwa[]
 have e2:(-(-(y:Int)-1)-1).toNat=y:=by rwa[]
 simp only[e1,e2]
 rwa[]
theorem OA{x y:Int}(hx:0<=x)(hx':x<65536)(hy:0<=y)(hy':y<65536):0<=oN x y/\oN x y<65536:=by
 obtain⟨a,rfl⟩:=pB hx
 obtain⟨b,rfl⟩:=pB hy
 unfold oN
 rw[Gh,KI]
 have h1:a|||b<2^16:=Nat.or_lt_two_pow (by rwa[hx']) (by rwa[hy'])
 have h2:a&&&b<=a:=Nat.and_le_left
 have h3:a<=a|||b:=Nat.left_le_or
 rwa[h1,h2,h3]
theorem FJ(few:List Int)(k:Nat):0<=(Co few k).1/\(Co few k).1<65536:=⟨kM _ (by decide),lm _ (by decide)⟩
theorem NV(t:Int):0<=NW t/\NW t<65536:=⟨kM _ (by decide),lm _ (by decide)⟩
theorem Yz(script:List Int):Ca (Dr (script.take 4) (HO script)):=by
 refine⟨?_,λm hm=>?_⟩
 ·have:(script.take 4).length<=4:=by rw[lp];rwa[]
  unfold Dr HO
  simp only[j9,jK,lI]
  rwa[this]
 ·rcases jI.mp hm with rfl|hm
  ·decide
  ·obtain⟨k,_,rfl⟩:=kq.mp hm
   exact FJ _ _
theorem Wj(script:List Int):Ca (CK (script.take 4) (HO script)):=by
 refine⟨?_,λm hm=>?_⟩
 ·have:(script.take 4).length<=4:=by rw[lp];rwa[]
  unfold CK HO
  simp only[j9,jK,lI]
  rwa[this]
 ·rcases jI.mp hm with rfl|hm
  ·decide
  ·refine Af (kq.mp hm) λk _ zz1=>?_;obtain rfl:=zz1
   have a:=FJ (script.take 4) k
   have b:=NV (Co (script.take 4) k).2
   exact OA a.1 a.2 b.1 b.2
theorem Ca.drop{row:List Int}(h:Ca row)(k:Nat):Ca (row.drop k):=⟨by rw[rh];have:=h.len;rwa[this],λm hm=>h.el m (List.mem_of_mem_drop hm)⟩
theorem Ca.rev{row:List Int}(h:Ca row):Ca row.reverse:=⟨by rw[sK];exact h.len,λm hm=>h.el m (wQ.mp hm)⟩
theorem Ca.nil:Ca []:=⟨kh _,λ_ h=>nomatch h⟩
theorem Yc(script:List Int):Ca (Bs script).1/\Ca (Bs script).2:=by
 have l:=Yz script
 have r:=Wj script
 unfold Bs
 dsimp only
 split
 ·exact⟨l.drop 1,r⟩
 ·split
  ·exact⟨l,r.drop 1⟩
  ·split
   ·exact⟨.nil,r⟩
   ·split
    ·exact⟨l,.nil⟩
    ·split
     ·exact⟨l,r.rev⟩
     ·exact⟨l,r⟩
noncomputable def DA (ys:List jZ):jZ:=⟨(ys.flatMap (·.cps.toList)).toArray⟩
theorem Hs(x:jZ)(ys:List jZ):DA (x::ys)=x++DA ys:=by
 apply uS
 rw[Str.cps_append]
 apply wf
 simp[DA]
theorem PE(xs ys:List jZ):DA (xs++ys)=DA xs++DA ys:=by
 apply uS
 rw[Str.cps_append]
 apply wf
 simp[DA]
theorem D8(ys:List jZ):mO "" ys=DA ys:=by
 show Builtin.Str.glued (jB "") ys=_
 rw[StrLaws.glued_eq_join]
 have he:jB ""=mJ:=by decide
 rw[he]
 have:∀ys:List jZ,Str.join mJ ys=DA ys:=by
  intro ys
  induction ys with
  | nil=>rfl
  | cons x ys ih=>
   cases ys with
   | nil=>rw[Hs];show x=x++DA [];rw[show DA []=mJ from rfl,ua]
   | cons y ys=>
    show x++mJ++Str.join mJ (y::ys)=_
    rw[ih,ua,<-Hs]
 exact this ys
theorem Xr{α:Type}(f:α->List jZ)(l:List α):DA (l.map λa=>DA (f a))=DA (l.flatMap f):=by
 induction l with
 | nil=>rfl
 | cons a l ih=>rw[kO,Hs,ih,lu,PE]
theorem BP(m a:Nat):m&&&2^a=2^a↔m/2^a%2=1:=by
 have e:m.testBit a=decide (m/2^a%2=1):=Nat.testBit_eq_decide_div_mod_eq
 constructor
 ·intro h
  have:=congrArg (λx=>v6 x a) h
  simp only[qm,Nat.testBit_two_pow_self,oI] at this
  rw[e] at this
  exact of_decide_eq_true this
 ·intro h
  have h':m.testBit a=true:=by rw[e];exact decide_eq_true h
  apply sA
  intro i
  rw[qm,Nat.testBit_two_pow]
  by_cases c:a=i
  ·subst c;simp[h']
  ·simp[c]
theorem RK(m x y:Nat):m&&&(x|||y)=x|||y↔(m&&&x=x/\m&&&y=y):=by
 constructor
 ·intro h
  have k:∀i,(x|||y).testBit i=true->m.testBit i=true:=by
   intro i hi
   have:=congrArg (λz=>v6 z i) h
   simp only[qm] at this
   rw[hi,oI] at this
   exact this
  constructor<;>apply sA<;>intro i<;>rw[qm]
  ·cases hx:x.testBit i with
   | false=>simp
   | true=>rw[k i (by rw[Nat.testBit_or,hx];rfl)];rfl
  ·cases hy:y.testBit i with
   | false=>simp
   | true=>rw[k i (by rw[Nat.testBit_or,hy];simp)];rfl
 ·rintro⟨h1,h2⟩
  rw[Nat.and_or_distrib_left,h1,h2]
theorem GJ(n:Nat)(i:Nat)(hi:i≠0)(B:Nat)(s:jZ):EL (n:Int) i ((B:Int),s)=decide (n&&&B=B):=by
 unfold EL
 rw[if_neg hi]
 show decide (ke (n:Int) (B:Int)=(B:Int))=_
 rw[Gh]
 by_cases h:n&&&B=B
 ·rw[h];simp
 ·rw[decide_eq_false h,decide_eq_false (by rwa[h])]
theorem Kl(n i a:Nat)(hi:i≠0)(s:jZ):AU (n:Int) i [(((2^a:Nat):Int),s)]=if n/2^a%2=1 then s else jB "-":=by
 unfold AU
 rw[mh,GJ n i hi,if_neg hi]
 by_cases h:n/2^a%2=1
 ·rw[decide_eq_true ((BP n a).mpr h),if_pos h];rfl
 ·rw[decide_eq_false (λz=>h ((BP n a).mp z)),if_neg h];rfl
theorem V7(n i a b:Nat)(hi:i≠0)(s S x:jZ):AU (n:Int) i [(((2^a|||2^b:Nat):Int),s),(((2^b:Nat):Int),S),(((2^a:Nat):Int),x)]=if n/2^b%2=1 then(if n/2^a%2=1 then s else S) else(if n/2^a%2=1 then x else jB "-"):=by
 unfold AU
 rw[mh,mh,mh,GJ n i hi,GJ n i hi,GJ n i hi,if_neg hi]
 have e2:(n&&&(2^a|||2^b)=2^a|||2^b)↔(n/2^a%2=1/\n/2^b%2=1):=by rw[RK,BP,BP]
 by_cases ha:n/2^a%2=1<;>by_cases hb:n/2^b%2=1
 ·rw[decide_eq_true (e2.mpr ⟨ha,hb⟩),if_pos hb,if_pos ha];rfl
 ·rw[decide_eq_false (λz=>hb (e2.mp z).2),decide_eq_false (λz=>hb ((BP n b).mp z)),decide_eq_true ((BP n a).mpr ha),if_neg hb,if_pos ha];rfl
 ·rw[decide_eq_false (λz=>ha (e2.mp z).1),decide_eq_true ((BP n b).mpr hb),if_pos hb,if_neg ha];rfl
 ·rw[decide_eq_false (λz=>ha (e2.mp z).1),decide_eq_false (λz=>hb ((BP n b).mp z)),decide_eq_false (λz=>ha ((BP n a).mp z)),if_neg hb,if_neg ha];rfl
theorem UD(n k:Nat):BG (n:Int) (k:Int)=((n/8^k%8:Nat):Int):=by
 unfold BG
 have h8:(0:Int)<=8^k:=oX (by decide)
 rw[ku,kF _ h8,kT _ (by decide)]
 push_cast
 rfl
theorem Vw(n k:Nat):DW (n:Int) (k:Int)=((n/2^(9+k)%2:Nat):Int):=by
 unfold DW
 have e:((9:Int)+(k:Nat)).toNat=9+k:=by rwa[]
 have h8:(0:Int)<=2^(9+k):=oX (by decide)
 rw[e,kF _ h8,kT _ (by decide)]
 push_cast
 rfl
theorem F6(n k:Nat)(c:jZ)(hc:c=if(k:Int)≠0 then jB "-xSs" else jB "-xTt") :
 Cd (n:Int) (k:Int)=[if n/8^k/4%2=1 then jB "r" else jB "-",if n/8^k/2%2=1 then jB "w" else jB "-",F1 c ((n/8^k%2+2*(n/2^(9+k)%2):Nat):Int)]:=by
 delta n k c at hc
 unfold Cd
 rw[UD,Vw]
 generalize n/8^k=q
 generalize n/2^(9+k)%2=ab
 have e1:((q%8:Nat):Int).fdiv 4=((q/4%2:Nat):Int):=by rw[kF _ (by decide)];exact congrArg vq (nt q 4 2)
 have e2:(((q%8:Nat):Int).fdiv 2).fmod 2=((q/2%2:Nat):Int):=by rw[kF _ (by decide),kT _ (by decide)];exact congrArg vq ((congrArg (· % 2) (nt q 2 4)).trans (qR _ ⟨2,rfl⟩))
 have e3:((q%8:Nat):Int).fmod 2+2*(ab:Int)=((q%2+2*ab:Nat):Int):=by rw[kT _ (by decide)];exact congrArg (λz=>vq (z+2*ab)) (qR q ⟨4,rfl⟩)
 rw[e1,e2,e3,hc]
 have two:∀(x:Nat) (a:jZ),x<2->F1 a (x:Int)=if x=1 then F1 a 1 else F1 a 0:=by
  intro x a hx
  have:x=0\/x=1:=by rwa[hx]
  rcases this with rfl|rfl<;>rfl
 rw[two _ _ (pv _ (by decide)),two _ _ (pv _ (by decide))]
 rfl
theorem LZ(c s S x:jZ)(a b:Nat)(ha:a<2)(hb:b<2)(h0:F1 c 0=jB "-")(h1:F1 c 1=x)(h2:F1 c 2=S)(h3:F1 c 3=s):F1 c ((a+2*b:Nat):Int)=if b=1 then(if a=1 then s else S) else(if a=1 then x else jB "-"):=by
 have ha:a=0\/a=1:=by rwa[ha]
 have hb:b=0\/b=1:=by rwa[hb]
 rcases ha with rfl|rfl<;>rcases hb with rfl|rfl
 ·exact h0
 ·exact h2
 ·exact h1
 ·exact h3
theorem Q4(n:Nat):(Ax (n:Int) 10).drop 1=Cd (n:Int) 2++Cd (n:Int) 1++Cd (n:Int) 0:=by
 have e:(Ax (n:Int) 10).drop 1=[AU n 1 [(((2^8:Nat):Int),"r")],AU n 2 [(((2^7:Nat):Int),"w")],AU n 3 [(((2^6|||2^11:Nat):Int),"s"),(((2^11:Nat):Int),"S"),(((2^6:Nat):Int),"x")],
  AU n 4 [(((2^5:Nat):Int),"r")],AU n 5 [(((2^4:Nat):Int),"w")],AU n 6 [(((2^3|||2^10:Nat):Int),"s"),(((2^10:Nat):Int),"S"),(((2^3:Nat):Int),"x")],
  AU n 7 [(((2^2:Nat):Int),"r")],AU n 8 [(((2^1:Nat):Int),"w")],AU n 9 [(((2^0|||2^9:Nat):Int),"t"),(((2^9:Nat):Int),"T"),(((2^0:Nat):Int),"x")]]:=by rfl
 rw[e,Kl _ _ _ (by decide),Kl _ _ _ (by decide),V7 _ _ _ _ (by decide),Kl _ _ _ (by decide),Kl _ _ _ (by decide),V7 _ _ _ _ (by decide),Kl _ _ _ (by decide),Kl _ _ _ (by decide),V7 _ _ _ _ (by decide)]
 have k2:=F6 n 2 (jB "-xSs") rfl
 have k1:=F6 n 1 (jB "-xSs") rfl
 have k0:=F6 n 0 (jB "-xTt") rfl
 rw[show(2:Int)=((2:Nat):Int) from rfl,show(1:Int)=((1:Nat):Int) from rfl,show(0:Int)=((0:Nat):Int) from rfl,k2,k1,k0]
 have l:∀a b:Nat,a%2<2:=λa b=>pv _ (by decide)
 rw[LZ (jB "-xSs") "s" "S" "x" _ _ (l _ 0) (l _ 0) (by decide +kernel) (by decide +kernel) (by decide +kernel) (by decide +kernel),LZ (jB "-xSs") "s" "S" "x" _ _ (l _ 0) (l _ 0) (by decide +kernel) (by decide +kernel) (by decide +kernel) (by decide +kernel),LZ (jB "-xTt") "t" "T" "x" _ _ (l _ 0) (l _ 0) (by decide +kernel) (by decide +kernel) (by decide +kernel) (by decide +kernel)]
 have d:∀a b c:Nat,n/a/b=n/(a*b):=λa b c=>Nat.div_div_eq_div_mul ..
 simp only[d _ _ 0]
 rfl
theorem Za(n:Nat)(h:n<65536):n&&&61440=n/4096*4096:=by
 apply sA
 intro i
 have e:n/4096*4096=(n >>> 12) <<< 12:=by rw[Nat.shiftRight_eq_div_pow,xj]
 rw[e,qm,Nat.testBit_shiftLeft,Nat.testBit_shiftRight]
 by_cases hi:i<16
 ·have:∀i:Fin 16,v6 61440 i.val=decide (i.val>=12):=by decide +kernel
  rw[this ⟨i,hi⟩]
  by_cases c:i>=12
  ·have:12+(i-12)=i:=by rwa[c]
   simp[c,this]
  ·simp[c]
 ·have h1:n.testBit i=false:=Nat.testBit_lt_two_pow (mR h (by
   calc 65536=2^16:=by decide
    _<=2^i:=nO (by decide) (by rwa[hi])))
  have:12+(i-12)=i:=by rwa[hi]
  rw[h1,this,h1]
  simp
theorem UA(n:Nat)(h:n<65536):AU (n:Int) 0 [(40960,"l"),(49152,"s"),(32768,"-"),(24576,"b"),(16384,"d"),(8192,"c"),(4096,"p")]=F1 "?pc?d?b?-?l?s???" ((n:Int).fdiv 4096):=by
 have hd:(n:Int).fdiv 4096=((n/4096:Nat):Int):=by rw[kF _ (by decide)];rwa[]
 have hb:ke (n:Int) 61440=((n/4096*4096:Nat):Int):=by
  have:=Gh n 61440
  rw[Za n h] at this
  exact this
 rw[hd]
 unfold AU EL
 simp only[if_true]
 rw[hb]
 have ht:n/4096<16:=by rwa[h]
 generalize n/4096=t at ht
 have:∀t:Fin 16,((([(40960,jB "l"),(49152,jB "s"),(32768,jB "-"),(24576,jB "b"),(16384,jB "d"),(8192,jB "c"),(4096,jB "p")]:List (Int×jZ)).find? λp=>decide (((t.val*4096:Nat):Int)=p.1)).map (·.2)).getD (jB "?")=F1 "?pc?d?b?-?l?s???" (t.val:Int):=by decide +kernel
 exact this ⟨t,ht⟩
theorem Rl(m:Int)(h0:0<=m)(h1:m<65536):Ax m 10=Cp m:=by
 obtain⟨n,rfl⟩:=pB h0
 have hn:n<65536:=by rwa[h1]
 have e:Ax (n:Int) 10=AU (n:Int) 0 [(40960,"l"),(49152,"s"),(32768,"-"),(24576,"b"),(16384,"d"),(8192,"c"),(4096,"p")]::(Ax (n:Int) 10).drop 1:=by rfl
 rw[e,Q4,UA n hn]
 simp[Cp]
theorem V0(row:List Int)(ok:Ca row):mO "" (row.map λm=>mO "" (Ax m 10))=mO "" (AB row):=by
 rw[D8,D8]
 have e:(row.map λm=>mO "" (Ax m 10))=row.map λm=>DA (Cp m):=l3 λm hm=>by
  rw[D8,Rl m (ok.el m hm).1 (ok.el m hm).2]
 rw[e,Xr]
 rfl
noncomputable def fj (α:Type) (as:Array α) (p:α->Bool) (a b:Nat):Bool:=
 @lh (λ_=>Bool) (as.any p a b) (R.anyR as.toList p) (qE a 0&&qE b as.toList.length)
theorem Uu:@Array.any=fj:=by
 funext α as p a b
 unfold fj
 cases h:qE a 0&&qE b as.toList.length with
 | false=>rfl
 | true=>
  obtain⟨h1,h2⟩:=so.mp h
  have h1:=ny h1
  have h2:=ny h2
  subst h1 h2
  show as.any p 0 as.toList.length=R.anyR as.toList p
  rw[<-R.anyR_eq,kn,Array.any_toList]
noncomputable def Wy:ko:=by
 refine(?f:(x:ko)->nk=x->ko) ?x ?h
 case h=>
  have e:nk=nk:=rfl
  conv at e=>rhs;unfold nk
  rewrite [Uu] at e
  exact e
 case f=>exact λx _=>x
theorem UV:ko.«type.__new__»=Wy:=by
 refine Fast.te4202317264376624991.trans ?_
 unfold nk
 rewrite [Uu]
 rfl
noncomputable def T1 (id:String):Option ko:=@ite _ (id="type.__new__") (S.decLit "type.__new__" (nat_lit 29827186395103491166823348853) rfl id) (some Wy) (m7 id)
theorem PR:qj=T1:=by
 refine m9.trans ?_
 funext id
 unfold T1
 split
 ·rename_i h
  subst h
  rw[<-UV,<-m9]
  rfl
 ·rfl
noncomputable def fa:md->List md
 | .ClassDef _ _ _ b ..=>b
 | _=>[]
noncomputable def BB (i j:Nat):md:=((fa (stm i))[j]?).getD (.Pass ⟨0,0,0,0⟩)
noncomputable def DL:md->jZ
 | .FunctionDef _ _ b ..=>(match b with | .Expr (.Constant (.str d) _ _) _::_=>d|_=>mJ)
 | .ClassDef _ _ _ b ..=>(match b with | .Expr (.Constant (.str d) _ _) _::_=>d|_=>mJ)
 | _=>mJ
noncomputable def A.env_1:xA:={scope:=pw.main.scope,locals:=mainNs,globals:=mainNs,cells:=[],code:=kz 13,frame:=some 14}
noncomputable def vS (x:String) (t:Nat):jD:=.str (jB x) t
noncomputable def vI (i:Int):jD:=.int i 0
noncomputable def dE (P:jE) (k:String) (t:Nat) (v:jD):nB:=.mk (qq P (jB k)) (.str (jB k) t) v
noncomputable def oT (l:List jD):nJ:=.mk (.type "tuple") none (.seq l.toArray 0) #[]
noncomputable def oF (l:List jD):nJ:=.mk .none none (.fields l.toArray) #[]
noncomputable def oG (c:String) (l:List jD):nJ:=.mk (.type c) none (.fields l.toArray) #[]
noncomputable def oD (l:List nB) (n:Nat):nJ:=.mk (.type "dict") none (.dict l.toArray n) #[]
noncomputable def fN (n q:String) (s:md):nJ:=.mk .none none (.func (.mk (jB n) (jB q) (GS s) (.stmts (Am s)) (Cm s) 0 [] .none .none .none .none none .none .none 0)) #[]
noncomputable def fU (n q:String) (s:md) (g:Nat) (d k o m c:jD):nJ:=.mk (.type "function") none (.func (.mk (jB n) (jB q) (GS s) (.stmts (Am s)) (Cm s) g [] d k o m none c .none 0)) #[]
noncomputable def bL (o:nJ):BT:=.node o .nil .nil
def RT (P:jE):=oT []
def RS (P:jE):=oG "code" [vS "<module>" 182,vS "<module>" 183,vS "/claim/cut.py" 184,vI 1,vI 0,vI 0,vI 0,vI 0,.ref 11,kr false,vI 181,.ref 12,jF,jF,jF,jF,vI 185,vI 1,vS "/claim/cut.py" 186]
def RQ (P:jE):nJ:=nQ (jX "frame") none pU (kg [some (.ref 13),some (.ref 3),some (.ref 3),none,some (vS "__main__" 164),none,some (.ref 0)])
def bC (P:jE):=oD [dE P "__name__" 165 (vS "cpy313.difflib" 194),dE P "__doc__" 166 jF,dE P "__package__" 167 jF,dE P "__loader__" 168 (lH "__main__.__loader__#opaque"),dE P "__spec__" 169 jF,dE P "__annotations__" 170 (.ref 6),dE P "__builtins__" 171 (.ref 4),dE P "__file__" 173 (vS "/claim/cut.py" 172),dE P "__cached__" 174 jF,dE P "_wall" 193 (.ref 21),dE P "_tuplegetter" 252 (.ref 60),dE P "Match" 380 (.ref 135),dE P "_calculate_ratio" 388 (.ref 145)] 13
def bB (P:jE):=oF [vI 1,vI 0,.ref 20,vI 5,vI 0,.ref 27,vI 23,vI 0,.ref 71,vI 66,vI 0,.ref 144]
def VB (P:jE):=oT []
def VA (P:jE):=oF []
def Vz (P:jE):=oT [vS "k" 190]
def LY (P:jE):=oT []
def LX (P:jE):=fN "_wall" "_wall" (stm 0)
def LW (P:jE):=oG "code" [vS "_wall" 187,vS "_wall" 188,vS "/claim/cut.py" 189,vI 1,vI 1,vI 0,vI 0,vI 3,.ref 15,kr true,vI 181,.ref 16,jF,.ref 17,.ref 18,.ref 19,vI 191,vI 1,vS "/claim/cut.py" 192]
def LV (P:jE):=fU "_wall" "_wall" (stm 0) 3 jF jF jF (vS "__main__" 164) (.ref 20)
def LU (P:jE):=oT []
def LS (P:jE):=oG "builtin_function_or_method" [lH "type.__prepare__",jX "type"]
def LR (P:jE):=oD [dE P "__module__" 203 (vS "cpy313.difflib" 194),dE P "__qualname__" 205 (vS "_tuplegetter" 204),dE P "__firstlineno__" 207 (jT 5 206),dE P "__init__" 216 (.ref 35),dE P "__get__" 225 (.ref 43),dE P "__set__" 234 (.ref 50),dE P "__delete__" 242 (.ref 57),dE P "__static_attributes__" 245 (.ref 58)] 8
def LQ (P:jE):=oT []
def LP (P:jE):=oF [vI 7,vI 4,.ref 34,vI 11,vI 4,.ref 42,vI 18,vI 4,.ref 49,vI 21,vI 4,.ref 56]
def LN (P:jE):=oG "code" [vS "_tuplegetter" 198,vS "_tuplegetter" 199,vS "/claim/cut.py" 200,vI 5,vI 0,vI 0,vI 0,vI 0,.ref 25,kr false,vI 181,.ref 26,jF,jF,jF,jF,vI 201,vI 5,vS "/claim/cut.py" 202]
def LM (P:jE):nJ:=nQ (jX "frame") none pU (kg [some (.ref 27),some (.ref 3),some (.ref 24),none,some (vS "cpy313.difflib" 194),none,some (.ref 0)])
def LL (P:jE):=oT []
def LK (P:jE):=oF []
def LJ (P:jE):=oT [vS "self" 211,vS "index" 212,vS "doc" 213]
def LH (P:jE):=oT []
def LG (P:jE):=fN "__init__" "_tuplegetter.__init__" (BB 2 0)
def LF (P:jE):=oG "code" [vS "__init__" 208,vS "_tuplegetter.__init__" 209,vS "/claim/cut.py" 210,vI 7,vI 3,vI 0,vI 0,vI 3,.ref 29,kr true,vI 181,.ref 30,jF,.ref 31,.ref 32,.ref 33,vI 214,vI 7,vS "/claim/cut.py" 215]
def LD (P:jE):=fU "__init__" "_tuplegetter.__init__" (BB 2 0) 3 jF jF jF (vS "cpy313.difflib" 194) (.ref 34)
def LC (P:jE):=oT [jF]
def LB (P:jE):=oT []
def LA (P:jE):=oF []
def Lz (P:jE):=oT [vS "self" 220,vS "obj" 221,vS "objtype" 222]
def Ly (P:jE):=oT []
def Lx (P:jE):=fN "__get__" "_tuplegetter.__get__" (BB 2 1)
def Lw (P:jE):=oG "code" [vS "__get__" 217,vS "_tuplegetter.__get__" 218,vS "/claim/cut.py" 219,vI 11,vI 3,vI 0,vI 0,vI 3,.ref 37,kr true,vI 181,.ref 38,jF,.ref 39,.ref 40,.ref 41,vI 223,vI 11,vS "/claim/cut.py" 224]
def Lv (P:jE):=fU "__get__" "_tuplegetter.__get__" (BB 2 1) 3 (.ref 36) jF jF (vS "cpy313.difflib" 194) (.ref 42)
def Lu (P:jE):=oT []
def Ls (P:jE):=oF []
def Lr (P:jE):=oT [vS "self" 229,vS "obj" 230,vS "value" 231]
def Lq (P:jE):=oT []
def Lp (P:jE):=fN "__set__" "_tuplegetter.__set__" (BB 2 2)
def Lo (P:jE):=oG "code" [vS "__set__" 226,vS "_tuplegetter.__set__" 227,vS "/claim/cut.py" 228,vI 18,vI 3,vI 0,vI 0,vI 3,.ref 44,kr true,vI 181,.ref 45,jF,.ref 46,.ref 47,.ref 48,vI 232,vI 18,vS "/claim/cut.py" 233]
def Ln (P:jE):=fU "__set__" "_tuplegetter.__set__" (BB 2 2) 3 jF jF jF (vS "cpy313.difflib" 194) (.ref 49)
def Lm (P:jE):=oT []
def Ll (P:jE):=oF []
def Lj (P:jE):=oT [vS "self" 238,vS "obj" 239]
def Li (P:jE):=oT []
def Lh (P:jE):=fN "__delete__" "_tuplegetter.__delete__" (BB 2 3)
def Lg (P:jE):=oG "code" [vS "__delete__" 235,vS "_tuplegetter.__delete__" 236,vS "/claim/cut.py" 237,vI 21,vI 2,vI 0,vI 0,vI 3,.ref 51,kr true,vI 181,.ref 52,jF,.ref 53,.ref 54,.ref 55,vI 240,vI 21,vS "/claim/cut.py" 241]
def Lf (P:jE):=fU "__delete__" "_tuplegetter.__delete__" (BB 2 3) 3 jF jF jF (vS "cpy313.difflib" 194) (.ref 56)
def Ld (P:jE):=oT [vS "__doc__" 243,vS "index" 244]
def Lc (P:jE):=oD [dE P "__module__" 203 (vS "cpy313.difflib" 194),dE P "__firstlineno__" 207 (jT 5 206),dE P "__init__" 216 (.ref 35),dE P "__get__" 225 (.ref 43),dE P "__set__" 234 (.ref 50),dE P "__delete__" 242 (.ref 57),dE P "__static_attributes__" 245 (.ref 58),dE P "__dict__" 247 (.ref 61),dE P "__weakref__" 249 (.ref 62),dE P "__doc__" 250 jF] 4
def Lb (P:jE):nJ:=nQ (jX "type") none (xB (uy "_tuplegetter" [jX "object"] [.ref 60,jX "object"] 59 "_tuplegetter" true [] [] false none false)) (kg [none,none,some (vS "_tuplegetter" 196),some (vS "_tuplegetter" 204),some (lH "object.__new__"),some (kr true)])
def La (P:jE):=oG "getset_descriptor" [vS "__dict__" 246,.ref 60,lH "function.__dict__",lH "function.__dict__#set"]
def K9 (P:jE):=oG "getset_descriptor" [vS "__weakref__" 248,.ref 60,lH "ExceptionGroup.__weakref__",jF]
def K8 (P:jE):=oG "super" [.ref 60,.ref 60,.ref 60]
def K7 (P:jE):=oG "builtin_function_or_method" [lH "object.__init_subclass__",.ref 60]
def K6 (P:jE):=oT [jX "tuple"]
def K5 (P:jE):=oG "builtin_function_or_method" [lH "type.__prepare__",jX "type"]
def K4 (P:jE):=oD [dE P "__module__" 260 (vS "cpy313.difflib" 194),dE P "__qualname__" 262 (vS "Match" 261),dE P "__firstlineno__" 264 (jT 23 263),dE P "__doc__" 266 (vS "Match(a, b, size)" 265),dE P "__slots__" 268 (.ref 73),dE P "_fields" 272 (.ref 74),dE P "_field_defaults" 273 (.ref 75),dE P "__new__" 284 (.ref 82),dE P "_make" 306 (.ref 91),dE P "_replace" 317 (.ref 100),dE P "__replace__" 318 (.ref 100),dE P "__repr__" 326 (.ref 107),dE P "_asdict" 333 (.ref 114),dE P "__getnewargs__" 341 (.ref 121),dE P "__match_args__" 345 (.ref 122),dE P "a" 355 (.ref 124),dE P "b" 365 (.ref 127),dE P "size" 375 (.ref 130),dE P "__static_attributes__" 376 (.ref 132),dE P "__classcell__" 377 (.ref 68)] 20
def K0 (P:jE):nJ:=nQ (jX "cell") none (Data.cell (some (.ref 135))) (kg [])
def KZ (P:jE):=oT []
def KY (P:jE):=oF [vI 29,vI 4,.ref 81,vI 34,vI 4,.ref 88,vI 41,vI 4,.ref 99,vI 52,vI 4,.ref 106,vI 56,vI 4,.ref 113,vI 59,vI 4,.ref 120]
def KX (P:jE):=oG "code" [vS "Match" 255,vS "Match" 256,vS "/claim/cut.py" 257,vI 23,vI 0,vI 0,vI 0,vI 0,.ref 69,kr false,vI 181,.ref 70,jF,jF,jF,jF,vI 258,vI 23,vS "/claim/cut.py" 259]
def KW (P:jE):nJ:=nQ (jX "frame") none pU (kg [some (.ref 71),some (.ref 3),some (.ref 67),none,some (vS "cpy313.difflib" 194),none,some (.ref 0)])
def KV (P:jE):=oT []
def KU (P:jE):=oT [vS "a" 269,vS "b" 270,vS "size" 271]
def KR (P:jE):=oD [] 0
def KQ (P:jE):=oT []
def KP (P:jE):=oF []
def KO (P:jE):=oT [vS "_cls" 277,vS "a" 278,vS "b" 279,vS "size" 280]
def KN (P:jE):=oT []
def Qh (P:jE):=fN "__new__" "Match.__new__" (BB 3 4)
def Qg (P:jE):=oG "code" [vS "__new__" 274,vS "Match.__new__" 275,vS "/claim/cut.py" 276,vI 29,vI 4,vI 0,vI 0,vI 3,.ref 76,kr true,vI 181,.ref 77,jF,.ref 78,.ref 79,.ref 80,vI 281,vI 29,vS "/claim/cut.py" 282]
def G0 (P:jE):=fU "__new__" "Match.__new__" (BB 3 4) 3 jF jF (vS "Create new instance of Match(a, b, size)" 283) (vS "cpy313.difflib" 194) (.ref 81)
def Qf (P:jE):=oT []
def Qe (P:jE):=oF []
def Qd (P:jE):=oT [vS "cls" 288,vS "iterable" 289,vS "result" 290]
def Qc (P:jE):=oT []
def Qb (P:jE):=fN "_make" "Match._make" (BB 3 5)
def Qa (P:jE):=oG "code" [vS "_make" 285,vS "Match._make" 286,vS "/claim/cut.py" 287,vI 33,vI 2,vI 0,vI 0,vI 3,.ref 83,kr true,vI 181,.ref 84,jF,.ref 85,.ref 86,.ref 87,vI 291,vI 33,vS "/claim/cut.py" 292]
def Jt (P:jE):nJ:=nQ (jX "function") none (sy (qD "_make" "Match._make" (GS (BB 3 5)) (pk (Am (BB 3 5))) (Cm (BB 3 5)) 3 [] jF jF (vS "Make a new Match object from a sequence or iterable" 293) (vS "cpy313.difflib" 194) (some 92) (.ref 88) jF 0)) (kg [])
def P9 (P:jE):=oD [dE P "__module__" 295 (vS "cpy313.difflib" 194),dE P "__name__" 298 (vS "_make" 297),dE P "__qualname__" 301 (vS "Match._make" 300),dE P "__doc__" 303 (vS "Make a new Match object from a sequence or iterable" 293),dE P "__annotations__" 305 (.ref 92)] 5
def P8 (P:jE):nJ:=nQ (jX "classmethod") (some 90) (Data.fields (kg [.ref 89,kr false])) (kg [])
def P7 (P:jE):=oD [] 0
def P6 (P:jE):=oT [.ref 68]
def P5 (P:jE):=oT [vS "__class__" 310]
def P4 (P:jE):=oF []
def P3 (P:jE):=oT [vS "self" 311,vS "kwds" 312,vS "result" 313]
def P1 (P:jE):=oT []
def P0 (P:jE):=fN "_replace" "Match._replace" (BB 3 6)
def PZ (P:jE):=oG "code" [vS "_replace" 307,vS "Match._replace" 308,vS "/claim/cut.py" 309,vI 41,vI 1,vI 1,vI 0,vI 11,.ref 94,kr true,vI 181,.ref 95,jF,.ref 96,.ref 97,.ref 98,vI 314,vI 41,vS "/claim/cut.py" 315]
def PY (P:jE):nJ:=nQ (jX "function") none (sy (qD "_replace" "Match._replace" (GS (BB 3 6)) (pk (Am (BB 3 6))) (Cm (BB 3 6)) 3 [("__class__",68)] jF jF (kX (DL (BB 3 6)) 316) (vS "cpy313.difflib" 194) none (.ref 99) (.ref 93) 0)) (kg [])
def PX (P:jE):=oT []
def PW (P:jE):=oF []
def PV (P:jE):=oT [vS "self" 322]
def PU (P:jE):=oT []
def JW (P:jE):=fN "__repr__" "Match.__repr__" (BB 3 8)
def JV (P:jE):=oG "code" [vS "__repr__" 319,vS "Match.__repr__" 320,vS "/claim/cut.py" 321,vI 52,vI 1,vI 0,vI 0,vI 3,.ref 101,kr true,vI 181,.ref 102,jF,.ref 103,.ref 104,.ref 105,vI 323,vI 52,vS "/claim/cut.py" 324]
def JU (P:jE):=fU "__repr__" "Match.__repr__" (BB 3 8) 3 jF jF (vS "Return a nicely formatted representation string" 325) (vS "cpy313.difflib" 194) (.ref 106)
def JT (P:jE):=oT []
def JS (P:jE):=oF []
def JR (P:jE):=oT [vS "self" 330]
def JQ (P:jE):=oT []
def JP (P:jE):nJ:=nQ jF none (sy (qD "_asdict" "Match._asdict" (GS (BB 3 9)) (pk (Am (BB 3 9))) (Cm (BB 5 12)) 0 [] jF jF jF jF none jF jF 0)) (kg [])
def HJ (P:jE):=oG "code" [vS "_asdict" 327,vS "Match._asdict" 328,vS "/claim/cut.py" 329,vI 56,vI 1,vI 0,vI 0,vI 3,.ref 108,kr true,vI 181,.ref 109,jF,.ref 110,.ref 111,.ref 112,vI 331,vI 56,vS "/claim/cut.py" 332]
def JO (P:jE):nJ:=nQ (jX "function") none (sy (qD "_asdict" "Match._asdict" (GS (BB 3 9)) (pk (Am (BB 3 9))) (Cm (BB 5 12)) 3 [] jF jF jF (vS "cpy313.difflib" 194) none (.ref 113) jF 0)) (kg [])
def JN (P:jE):=oT []
def JM (P:jE):=oF []
def JL (P:jE):=oT [vS "self" 337]
def JK (P:jE):=oT []
def HI (P:jE):=fN "__getnewargs__" "Match.__getnewargs__" (BB 3 10)
def HG (P:jE):=oG "code" [vS "__getnewargs__" 334,vS "Match.__getnewargs__" 335,vS "/claim/cut.py" 336,vI 59,vI 1,vI 0,vI 0,vI 3,.ref 115,kr true,vI 181,.ref 116,jF,.ref 117,.ref 118,.ref 119,vI 338,vI 59,vS "/claim/cut.py" 339]
def HF (P:jE):=fU "__getnewargs__" "Match.__getnewargs__" (BB 3 10) 3 jF jF (vS "Return self as a plain tuple.  Used by copy and pickle." 340) (vS "cpy313.difflib" 194) (.ref 120)
def HE (P:jE):=oT [vS "a" 342,vS "b" 343,vS "size" 344]
def HD (P:jE):=oD [dE P "index" 352 (jT 0 346),dE P "__doc__" 354 (vS "Alias for field number 0" 347)] 2
def HC (P:jE):nJ:=nQ (.ref 60) (some 123) pU (kg [])
def HB (P:jE):nJ:=nQ (jX "frame") none (vk (kg [dE P "self" 348 (.ref 124),dE P "index" 349 (jT 0 346),dE P "doc" 350 (vS "Alias for field number 0" 347)]) 3) (kg [])
def HA (P:jE):=oD [dE P "index" 362 (jT 1 356),dE P "__doc__" 364 (vS "Alias for field number 1" 357)] 2
def JJ (P:jE):nJ:=nQ (.ref 60) (some 126) pU (kg [])
def JI (P:jE):nJ:=nQ (jX "frame") none (vk (kg [dE P "self" 358 (.ref 127),dE P "index" 359 (jT 1 356),dE P "doc" 360 (vS "Alias for field number 1" 357)]) 3) (kg [])
def JH (P:jE):=oD [dE P "index" 372 (jT 2 366),dE P "__doc__" 374 (vS "Alias for field number 2" 367)] 2
def JG (P:jE):nJ:=nQ (.ref 60) (some 129) pU (kg [])
def JF (P:jE):nJ:=nQ (jX "frame") none (vk (kg [dE P "self" 368 (.ref 130),dE P "index" 369 (jT 2 366),dE P "doc" 370 (vS "Alias for field number 2" 367)]) 3) (kg [])
def JE (P:jE):=oT []
def JD (P:jE):nJ:=nQ (jX "list") none (Data.seq (kg []) 0) (kg [])
def JC (P:jE):=oD [dE P "__module__" 260 (vS "cpy313.difflib" 194),dE P "__firstlineno__" 264 (jT 23 263),dE P "__doc__" 266 (vS "Match(a, b, size)" 265),dE P "__slots__" 268 (.ref 73),dE P "_fields" 272 (.ref 74),dE P "_field_defaults" 273 (.ref 75),dE P "__new__" 284 (.ref 136),dE P "_make" 306 (.ref 91),dE P "_replace" 317 (.ref 100),dE P "__replace__" 318 (.ref 100),dE P "__repr__" 326 (.ref 107),dE P "_asdict" 333 (.ref 114),dE P "__getnewargs__" 341 (.ref 121),dE P "__match_args__" 345 (.ref 122),dE P "a" 355 (.ref 124),dE P "b" 365 (.ref 127),dE P "size" 375 (.ref 130),dE P "__static_attributes__" 376 (.ref 132)] 2
def Hz (P:jE):nJ:=nQ (jX "type") none (xB (uy "Match" [jX "tuple"] [.ref 135,jX "tuple",jX "object"] 134 "Match" false [] [] false none false)) (kg [some (.ref 65),none,some (vS "Match" 253),some (vS "Match" 261),some jF,some (kr false)])
def JB (P:jE):=oG "staticmethod" [.ref 82]
def JA (P:jE):=oG "super" [.ref 135,.ref 135,.ref 135]
def Jz (P:jE):=oG "builtin_function_or_method" [lH "object.__init_subclass__",.ref 135]
def Jy (P:jE):=oT []
def Jx (P:jE):=oF []
def Jw (P:jE):=oT [vS "matches" 384,vS "length" 385]
def Jv (P:jE):=oT []
def Ju (P:jE):=fN "_calculate_ratio" "_calculate_ratio" (stm 4)
def OE (P:jE):=oG "code" [vS "_calculate_ratio" 381,vS "_calculate_ratio" 382,vS "/claim/cut.py" 383,vI 66,vI 2,vI 0,vI 0,vI 3,.ref 139,kr true,vI 181,.ref 140,jF,.ref 141,.ref 142,.ref 143,vI 386,vI 66,vS "/claim/cut.py" 387]
def OD (P:jE):=fU "_calculate_ratio" "_calculate_ratio" (stm 4) 3 jF jF jF (vS "cpy313.difflib" 194) (.ref 144)
def EA (P:jE):BT:=jA (rL P) (jA (pg P) (jA (boot_o_3 P) (bL (rG P)) (bL (RT P))) (jA (rI P) (bL (rE P)) (bL (RS P)))) (jA (rK P) (jA (rJ P) (bL (rF P)) (bL (oF []))) (jA (rH P) (bL (qV P)) (bL (RQ P))))
def Vy (P:jE):BT:=jA (rL P) (jA (pg P) (jA (bC P) (jA (rG P) (jA (VB P) (jA (LJ P) (jA (K8 P) (bL (JJ P)) .nil) (bL (P4 P))) (jA (Lq P) (jA (KN P) (bL (Ju P)) .nil) (bL (JQ P)))) (jA (LS P) (jA (Lz P) (jA (KX P) (bL (Hz P)) .nil) (bL (PV P))) (jA (Lh P) (bL (Qb P)) (bL (HI P))))) (jA (RT P) (jA (LX P) (jA (LD P) (jA (K4 P) (bL (JF P)) .nil) (bL (PZ P))) (jA (Lm P) (bL (Qf P)) (bL (JN P)))) (jA (LN P) (jA (Lv P) (jA (KR P) (bL (Jy P)) .nil) (bL (JU P))) (jA (Lc P) (bL (P8 P)) (bL (HD P)))))) (jA (rI P) (jA (rE P) (jA (Vz P) (jA (LG P) (jA (K6 P) (bL (JH P)) .nil) (bL (P1 P))) (jA (Lo P) (jA (Qg P) (bL (OD P)) .nil) (bL (HJ P)))) (jA (LQ P) (jA (Lx P) (jA (KV P) (bL (JA P)) .nil) (bL (JW P))) (jA (Lf P) (bL (Jt P)) (bL (HF P))))) (jA (RS P) (jA (LV P) (jA (LB P) (jA (KZ P) (bL (JD P)) .nil) (bL (PX P))) (jA (Lj P) (bL (Qd P)) (bL (JL P)))) (jA (LL P) (jA (Ls P) (jA (KP P) (bL (Jw P)) .nil) (bL (JS P))) (jA (La P) (bL (P6 P)) (bL (HB P))))))) (jA (rK P) (jA (rJ P) (jA (rF P) (jA (VA P) (jA (LH P) (jA (K7 P) (bL (JI P)) .nil) (bL (P3 P))) (jA (Lp P) (jA (Qh P) (bL (OE P)) .nil) (bL (JP P)))) (jA (LR P) (jA (Ly P) (jA (KW P) (bL (JB P)) .nil) (bL (PU P))) (jA (Lg P) (bL (Qa P)) (bL (HG P))))) (jA (bB P) (jA (LW P) (jA (LC P) (jA (K0 P) (bL (JE P)) .nil) (bL (PY P))) (jA (Ll P) (bL (Qe P)) (bL (JM P)))) (jA (LM P) (jA (Lu P) (jA (KQ P) (bL (Jx P)) .nil) (bL (JT P))) (jA (Lb P) (bL (P7 P)) (bL (HC P)))))) (jA (rH P) (jA (qV P) (jA (LY P) (jA (LF P) (jA (K5 P) (bL (JG P)) .nil) (bL (P0 P))) (jA (Ln P) (bL (G0 P)) (bL (JO P)))) (jA (LP P) (jA (Lw P) (jA (KU P) (bL (Jz P)) .nil) (bL (JV P))) (jA (Ld P) (bL (P9 P)) (bL (HE P))))) (jA (RQ P) (jA (LU P) (jA (LA P) (jA (KY P) (bL (JC P)) .nil) (bL (PW P))) (jA (Li P) (bL (Qc P)) (bL (JK P)))) (jA (LK P) (jA (Lr P) (jA (KO P) (bL (Jv P)) .nil) (bL (JR P))) (jA (K9 P) (bL (P5 P)) (bL (HA P)))))))
noncomputable def S4 (w:jY) (os:lM):vo:=⟨EA w.params,15,{},#[],{},187,os⟩
noncomputable def L5:List md:=[stm 0,stm 1,stm 2,stm 3,stm 4]
noncomputable def e9 (d:jZ):md->md
 | .ClassDef n a k (.Expr (.Constant (.str _) u p) q::r) e f g h i j l=>.ClassDef n a k (.Expr (.Constant (.str d) u p) q::r) e f g h i j l
 | s=>s
noncomputable def dq:jZ:=by
 refine(haveI h:stm 5=.ClassDef _ _ _ (.Expr (.Constant (.str ?d) _ _) _::_) _ _ _ _ _ _ _:=(by rfl);?d)
noncomputable def S5 (w:jY) (os:lM):vo:=⟨Vy w.params,146,{},#[],{},389,os⟩
def fZ (P:jE):=oD [dE P "__name__" 165 (vS "cpy313.difflib" 194),dE P "__doc__" 166 jF,dE P "__package__" 167 jF,dE P "__loader__" 168 (lH "__main__.__loader__#opaque"),dE P "__spec__" 169 jF,dE P "__annotations__" 170 (.ref 6),dE P "__builtins__" 171 (.ref 4),dE P "__file__" 173 (vS "/claim/cut.py" 172),dE P "__cached__" 174 jF,dE P "_wall" 193 (.ref 21),dE P "_tuplegetter" 252 (.ref 60),dE P "Match" 380 (.ref 135),dE P "_calculate_ratio" 388 (.ref 145),dE P "SequenceMatcher" 582 (.ref 242)] 14
def dW (P:jE):=oF [vI 1,vI 0,.ref 20,vI 5,vI 0,.ref 27,vI 23,vI 0,.ref 71,vI 66,vI 0,.ref 144,vI 70,vI 0,.ref 151]
def QP (P:jE):=oT []
def QO (P:jE):=oG "builtin_function_or_method" [lH "type.__prepare__",jX "type"]
noncomputable def VD (P:jE) (d:jZ):nJ:=oD [dE P "__module__" 396 (vS "cpy313.difflib" 194),dE P "__qualname__" 398 (vS "SequenceMatcher" 397),dE P "__firstlineno__" 400 (jT 70 399),dE P "__doc__" 402 (kX d 401),dE P "__init__" 417 (.ref 160),dE P "set_seqs" 427 (.ref 167),dE P "set_seq1" 436 (.ref 174),dE P "set_seq2" 445 (.ref 181),dE P "_SequenceMatcher__chain_b" 463 (.ref 188),dE P "find_longest_match" 491 (.ref 196),dE P "get_matching_blocks" 518 (.ref 203),dE P "get_opcodes" 533 (.ref 210),dE P "get_grouped_opcodes" 542 (.ref 218),dE P "ratio" 551 (.ref 225),dE P "quick_ratio" 558 (.ref 232),dE P "real_quick_ratio" 565 (.ref 239),dE P "__static_attributes__" 576 (.ref 240)] 17
def VI (P:jE):nJ:=VD P dq
def QN (P:jE):=oT []
def QM (P:jE):=oF [vI 145,vI 4,.ref 159,vI 173,vI 4,.ref 166,vI 184,vI 4,.ref 173,vI 209,vI 4,.ref 180,vI 236,vI 4,.ref 187,vI 260,vI 4,.ref 195,vI 335,vI 4,.ref 202,vI 383,vI 4,.ref 209,vI 430,vI 4,.ref 217,vI 433,vI 4,.ref 224,vI 457,vI 4,.ref 231,vI 460,vI 4,.ref 238]
def QL (P:jE):=oG "code" [vS "SequenceMatcher" 391,vS "SequenceMatcher" 392,vS "/claim/cut.py" 393,vI 70,vI 0,vI 0,vI 0,vI 0,.ref 149,kr false,vI 181,.ref 150,jF,jF,jF,jF,vI 394,vI 70,vS "/claim/cut.py" 395]
def QK (P:jE):nJ:=nQ (jX "frame") none pU (kg [some (.ref 151),some (.ref 3),some (.ref 148),none,some (vS "cpy313.difflib" 194),none,some (.ref 0)])
def M8 (P:jE):=oT [jF,vS "" 404,vS "" 405,kr true]
def QJ (P:jE):=oT []
def QI (P:jE):=oF []
def QH (P:jE):=oT [vS "self" 409,vS "isjunk" 410,vS "a" 411,vS "b" 412,vS "autojunk" 413]
def QG (P:jE):=oT []
def QF (P:jE):=fN "__init__" "SequenceMatcher.__init__" (BB 5 1)
def QE (P:jE):=oG "code" [vS "__init__" 406,vS "SequenceMatcher.__init__" 407,vS "/claim/cut.py" 408,vI 145,vI 5,vI 0,vI 0,vI 3,.ref 154,kr true,vI 181,.ref 155,jF,.ref 156,.ref 157,.ref 158,vI 414,vI 145,vS "/claim/cut.py" 415]
def G1 (P:jE):=fU "__init__" "SequenceMatcher.__init__" (BB 5 1) 3 (.ref 153) jF (kX (DL (BB 5 1)) 416) (vS "cpy313.difflib" 194) (.ref 159)
def QD (P:jE):=oT []
def QC (P:jE):=oF []
def QB (P:jE):=oT [vS "self" 421,vS "a" 422,vS "b" 423]
def QA (P:jE):=oT []
def Qz (P:jE):=fN "set_seqs" "SequenceMatcher.set_seqs" (BB 5 2)
def Qy (P:jE):=oG "code" [vS "set_seqs" 418,vS "SequenceMatcher.set_seqs" 419,vS "/claim/cut.py" 420,vI 173,vI 3,vI 0,vI 0,vI 3,.ref 161,kr true,vI 181,.ref 162,jF,.ref 163,.ref 164,.ref 165,vI 424,vI 173,vS "/claim/cut.py" 425]
def EP (P:jE):=fU "set_seqs" "SequenceMatcher.set_seqs" (BB 5 2) 3 jF jF (kX (DL (BB 5 2)) 426) (vS "cpy313.difflib" 194) (.ref 166)
def Qx (P:jE):=oT []
def Qw (P:jE):=oF []
def Qv (P:jE):=oT [vS "self" 431,vS "a" 432]
def Qu (P:jE):=oT []
def Qt (P:jE):=fN "set_seq1" "SequenceMatcher.set_seq1" (BB 5 3)
def Qs (P:jE):=oG "code" [vS "set_seq1" 428,vS "SequenceMatcher.set_seq1" 429,vS "/claim/cut.py" 430,vI 184,vI 2,vI 0,vI 0,vI 3,.ref 168,kr true,vI 181,.ref 169,jF,.ref 170,.ref 171,.ref 172,vI 433,vI 184,vS "/claim/cut.py" 434]
def FX (P:jE):=fU "set_seq1" "SequenceMatcher.set_seq1" (BB 5 3) 3 jF jF (kX (DL (BB 5 3)) 435) (vS "cpy313.difflib" 194) (.ref 173)
def Qr (P:jE):=oT []
def Qq (P:jE):=oF []
def M7 (P:jE):=oT [vS "self" 440,vS "b" 441]
def Qp (P:jE):=oT []
def Qo (P:jE):=fN "set_seq2" "SequenceMatcher.set_seq2" (BB 5 4)
def Qn (P:jE):=oG "code" [vS "set_seq2" 437,vS "SequenceMatcher.set_seq2" 438,vS "/claim/cut.py" 439,vI 209,vI 2,vI 0,vI 0,vI 3,.ref 175,kr true,vI 181,.ref 176,jF,.ref 177,.ref 178,.ref 179,vI 442,vI 209,vS "/claim/cut.py" 443]
def FW (P:jE):=fU "set_seq2" "SequenceMatcher.set_seq2" (BB 5 4) 3 jF jF (kX (DL (BB 5 4)) 444) (vS "cpy313.difflib" 194) (.ref 180)
def Qm (P:jE):=oT []
def M6 (P:jE):=oF []
def M5 (P:jE):=oT [vS "self" 449,vS "b" 450,vS "b2j" 451,vS "i" 452,vS "elt" 453,vS "indices" 454,vS "junk" 455,vS "isjunk" 456,vS "popular" 457,vS "n" 458,vS "ntest" 459,vS "idxs" 460]
def M4 (P:jE):=oT []
def M3 (P:jE):=fN "__chain_b" "SequenceMatcher.__chain_b" (BB 5 5)
def M2 (P:jE):=oG "code" [vS "__chain_b" 446,vS "SequenceMatcher.__chain_b" 447,vS "/claim/cut.py" 448,vI 236,vI 1,vI 0,vI 0,vI 3,.ref 182,kr true,vI 181,.ref 183,jF,.ref 184,.ref 185,.ref 186,vI 461,vI 236,vS "/claim/cut.py" 462]
def Ch (P:jE):=fU "__chain_b" "SequenceMatcher.__chain_b" (BB 5 5) 3 jF jF jF (vS "cpy313.difflib" 194) (.ref 187)
def IA (P:jE):=oT [jT 0 464,jF,jT 0 465,jF]
def M1 (P:jE):=oT []
def M0 (P:jE):=oF []
def MZ (P:jE):=oT [vS "self" 469,vS "alo" 470,vS "ahi" 471,vS "blo" 472,vS "bhi" 473,vS "a" 474,vS "b" 475,vS "b2j" 476,vS "isbjunk" 477,vS "besti" 478,vS "bestj" 479,vS "bestsize" 480,vS "j2len" 481,vS "nothing" 482,vS "i" 483,vS "j2lenget" 484,vS "newj2len" 485,vS "j" 486,vS "k" 487]
def MY (P:jE):=oT []
def MX (P:jE):=fN "find_longest_match" "SequenceMatcher.find_longest_match" (BB 5 6)
def MW (P:jE):=oG "code" [vS "find_longest_match" 466,vS "SequenceMatcher.find_longest_match" 467,vS "/claim/cut.py" 468,vI 260,vI 5,vI 0,vI 0,vI 3,.ref 190,kr true,vI 181,.ref 191,jF,.ref 192,.ref 193,.ref 194,vI 488,vI 260,vS "/claim/cut.py" 489]
def BQ (P:jE):=fU "find_longest_match" "SequenceMatcher.find_longest_match" (BB 5 6) 3 (.ref 189) jF (kX (DL (BB 5 6)) 490) (vS "cpy313.difflib" 194) (.ref 195)
def MV (P:jE):=oT []
def MU (P:jE):=oF []
def MT (P:jE):=oT [vS "self" 495,vS "la" 496,vS "lb" 497,vS "queue" 498,vS "matching_blocks" 499,vS "alo" 500,vS "ahi" 501,vS "blo" 502,vS "bhi" 503,vS "i" 504,vS "j" 505,vS "k" 506,vS "x" 507,vS "i1" 508,vS "j1" 509,vS "k1" 510,vS "non_adjacent" 511,vS "i2" 512,vS "j2" 513,vS "k2" 514]
def MS (P:jE):=oT []
def MR (P:jE):=fN "get_matching_blocks" "SequenceMatcher.get_matching_blocks" (BB 5 7)
def MQ (P:jE):=oG "code" [vS "get_matching_blocks" 492,vS "SequenceMatcher.get_matching_blocks" 493,vS "/claim/cut.py" 494,vI 335,vI 1,vI 0,vI 0,vI 3,.ref 197,kr true,vI 181,.ref 198,jF,.ref 199,.ref 200,.ref 201,vI 515,vI 335,vS "/claim/cut.py" 516]
def Dp (P:jE):=fU "get_matching_blocks" "SequenceMatcher.get_matching_blocks" (BB 5 7) 3 jF jF (kX (DL (BB 5 7)) 517) (vS "cpy313.difflib" 194) (.ref 202)
def MP (P:jE):=oT []
def MO (P:jE):=oF []
def MN (P:jE):=oT [vS "self" 522,vS "i" 523,vS "j" 524,vS "answer" 525,vS "ai" 526,vS "bj" 527,vS "size" 528,vS "tag" 529]
def MM (P:jE):=oT []
def ML (P:jE):=fN "get_opcodes" "SequenceMatcher.get_opcodes" (BB 5 8)
def MK (P:jE):=oG "code" [vS "get_opcodes" 519,vS "SequenceMatcher.get_opcodes" 520,vS "/claim/cut.py" 521,vI 383,vI 1,vI 0,vI 0,vI 3,.ref 204,kr true,vI 181,.ref 205,jF,.ref 206,.ref 207,.ref 208,vI 530,vI 383,vS "/claim/cut.py" 531]
def Eg (P:jE):=fU "get_opcodes" "SequenceMatcher.get_opcodes" (BB 5 8) 3 jF jF (kX (DL (BB 5 8)) 532) (vS "cpy313.difflib" 194) (.ref 209)
def MJ (P:jE):=oT [jT 3 534]
def MI (P:jE):=oT []
def MH (P:jE):=oF []
def MG (P:jE):=oT [vS "self" 538,vS "n" 539]
def ME (P:jE):=oT []
def MD (P:jE):=fN "get_grouped_opcodes" "SequenceMatcher.get_grouped_opcodes" (BB 5 9)
def MC (P:jE):=oG "code" [vS "get_grouped_opcodes" 535,vS "SequenceMatcher.get_grouped_opcodes" 536,vS "/claim/cut.py" 537,vI 430,vI 2,vI 0,vI 0,vI 3,.ref 212,kr true,vI 181,.ref 213,jF,.ref 214,.ref 215,.ref 216,vI 540,vI 430,vS "/claim/cut.py" 541]
def MA (P:jE):=fU "get_grouped_opcodes" "SequenceMatcher.get_grouped_opcodes" (BB 5 9) 3 (.ref 211) jF jF (vS "cpy313.difflib" 194) (.ref 217)
def Mz (P:jE):=oT []
def My (P:jE):=oF []
def Mx (P:jE):=oT [vS "self" 546,vS "matches" 547]
def Mw (P:jE):=oT []
def Mv (P:jE):=fN "ratio" "SequenceMatcher.ratio" (BB 5 10)
def Mu (P:jE):=oG "code" [vS "ratio" 543,vS "SequenceMatcher.ratio" 544,vS "/claim/cut.py" 545,vI 433,vI 1,vI 0,vI 0,vI 3,.ref 219,kr true,vI 181,.ref 220,jF,.ref 221,.ref 222,.ref 223,vI 548,vI 433,vS "/claim/cut.py" 549]
def Mt (P:jE):=fU "ratio" "SequenceMatcher.ratio" (BB 5 10) 3 jF jF (kX (DL (BB 5 10)) 550) (vS "cpy313.difflib" 194) (.ref 224)
def Ms (P:jE):=oT []
def Mr (P:jE):=oF []
def Mq (P:jE):=oT [vS "self" 555]
def Mp (P:jE):=oT []
def Mo (P:jE):nJ:=nQ jF none (sy (qD "quick_ratio" "SequenceMatcher.quick_ratio" (GS (BB 5 11)) (pk (Am (BB 5 11))) (Cm (BB 5 12)) 0 [] jF jF jF jF none jF jF 0)) (kg [])
def Mn (P:jE):=oG "code" [vS "quick_ratio" 552,vS "SequenceMatcher.quick_ratio" 553,vS "/claim/cut.py" 554,vI 457,vI 1,vI 0,vI 0,vI 3,.ref 226,kr true,vI 181,.ref 227,jF,.ref 228,.ref 229,.ref 230,vI 556,vI 457,vS "/claim/cut.py" 557]
def Mm (P:jE):nJ:=nQ (jX "function") none (sy (qD "quick_ratio" "SequenceMatcher.quick_ratio" (GS (BB 5 11)) (pk (Am (BB 5 11))) (Cm (BB 5 12)) 3 [] jF jF jF (vS "cpy313.difflib" 194) none (.ref 231) jF 0)) (kg [])
def Ml (P:jE):=oT []
def Mk (P:jE):=oF []
def Mj (P:jE):=oT [vS "self" 562]
def Mi (P:jE):=oT []
def Mh (P:jE):=fN "real_quick_ratio" "SequenceMatcher.real_quick_ratio" (BB 5 12)
def Mg (P:jE):=oG "code" [vS "real_quick_ratio" 559,vS "SequenceMatcher.real_quick_ratio" 560,vS "/claim/cut.py" 561,vI 460,vI 1,vI 0,vI 0,vI 3,.ref 233,kr true,vI 181,.ref 234,jF,.ref 235,.ref 236,.ref 237,vI 563,vI 460,vS "/claim/cut.py" 564]
def Mf (P:jE):=fU "real_quick_ratio" "SequenceMatcher.real_quick_ratio" (BB 5 12) 3 jF jF jF (vS "cpy313.difflib" 194) (.ref 238)
def Me (P:jE):=oT [vS "a" 566,vS "autojunk" 567,vS "b" 568,vS "b2j" 569,vS "bjunk" 570,vS "bpopular" 571,vS "fullbcount" 572,vS "isjunk" 573,vS "matching_blocks" 574,vS "opcodes" 575]
noncomputable def VC (P:jE) (d:jZ):nJ:=oD [dE P "__module__" 396 (vS "cpy313.difflib" 194),dE P "__firstlineno__" 400 (jT 70 399),dE P "__doc__" 402 (kX d 401),dE P "__init__" 417 (.ref 160),dE P "set_seqs" 427 (.ref 167),dE P "set_seq1" 436 (.ref 174),dE P "set_seq2" 445 (.ref 181),dE P "_SequenceMatcher__chain_b" 463 (.ref 188),dE P "find_longest_match" 491 (.ref 196),dE P "get_matching_blocks" 518 (.ref 203),dE P "get_opcodes" 533 (.ref 210),dE P "get_grouped_opcodes" 542 (.ref 218),dE P "ratio" 551 (.ref 225),dE P "quick_ratio" 558 (.ref 232),dE P "real_quick_ratio" 565 (.ref 239),dE P "__static_attributes__" 576 (.ref 240),dE P "__dict__" 578 (.ref 243),dE P "__weakref__" 580 (.ref 244)] 3
def Mc (P:jE):nJ:=VC P dq
def Mb (P:jE):nJ:=nQ (jX "type") none (xB (uy "SequenceMatcher" [jX "object"] [.ref 242,jX "object"] 241 "SequenceMatcher" true [] [] false none false)) (kg [none,none,some (vS "SequenceMatcher" 389),some (vS "SequenceMatcher" 397),some (lH "object.__new__"),some (kr true)])
def Ma (P:jE):=oG "getset_descriptor" [vS "__dict__" 577,.ref 242,lH "function.__dict__",lH "function.__dict__#set"]
def L9 (P:jE):=oG "getset_descriptor" [vS "__weakref__" 579,.ref 242,lH "ExceptionGroup.__weakref__",jF]
def L8 (P:jE):=oG "super" [.ref 242,.ref 242,.ref 242]
def L7 (P:jE):=oG "builtin_function_or_method" [lH "object.__init_subclass__",.ref 242]
def iP (P:jE):BT:=jA (JQ P) (bL (Qr P)) (bL (Mf P))
def iO (P:jE):BT:=jA (JN P) (bL (Qo P)) (bL (Ma P))
def iN (P:jE):BT:=jA (JL P) (bL (FW P)) (bL (L8 P))
def iM (P:jE):BT:=jA (JS P) (bL (Qs P)) (bL (Mh P))
def iL (P:jE):BT:=jA (JP P) (bL (Qq P)) (bL (Me P))
def iK (P:jE):BT:=jA (JM P) (bL (Qn P)) (bL (L9 P))
def iJ (P:jE):BT:=jA (JT P) (bL (Qt P)) (bL (Mi P))
def iI (P:jE):BT:=jA (JO P) (bL (Qp P)) (bL (Mb P))
def iH (P:jE):BT:=jA (JK P) (bL (Qm P)) (bL (L7 P))
def EM (P:jE):BT:=jA (JR P) (bL (FX P)) (bL (Mg P))
noncomputable def t6 (P:jE) (d:jZ):BT:=jA (rL P) (jA (pg P) (jA (fZ P) (jA (rG P) (jA (VB P) (jA (LJ P) (jA (K8 P) (bL (JJ P)) (bL (M0 P))) (jA (P4 P) (bL (QE P)) (bL (Mv P)))) (jA (Lq P) (jA (KN P) (bL (Ju P)) (bL (MM P))) (iP P))) (jA (LS P) (jA (Lz P) (jA (KX P) (bL (Hz P)) (bL (MT P))) (jA (PV P) (bL (EP P)) (bL (Mn P)))) (jA (Lh P) (jA (Qb P) (bL (QL P)) (bL (ME P))) (jA (HI P) (bL (M6 P)) .nil)))) (jA (RT P) (jA (LX P) (jA (LD P) (jA (K4 P) (bL (JF P)) (bL (MW P))) (jA (PZ P) (bL (QB P)) (bL (Mr P)))) (jA (Lm P) (jA (Qf P) (bL (QO P)) (bL (MJ P))) (iO P))) (jA (LN P) (jA (Lv P) (jA (KR P) (bL (Jy P)) (bL (Dp P))) (jA (JU P) (bL (Qu P)) (bL (Mj P)))) (jA (Lc P) (jA (P8 P) (bL (QI P)) (bL (Mz P))) (jA (HD P) (bL (M2 P)) .nil))))) (jA (rI P) (jA (rE P) (jA (Vz P) (jA (LG P) (jA (K6 P) (bL (JH P)) (bL (MY P))) (jA (P1 P) (bL (QD P)) (bL (Mt P)))) (jA (Lo P) (jA (Qg P) (bL (OD P)) (bL (MK P))) (jA (HJ P) (bL (M7 P)) (bL (VC P d))))) (jA (LQ P) (jA (Lx P) (jA (KV P) (bL (JA P)) (bL (MR P))) (jA (JW P) (bL (Qw P)) (bL (Ml P)))) (jA (Lf P) (jA (Jt P) (bL (M8 P)) (bL (MC P))) (jA (HF P) (bL (M4 P)) .nil)))) (jA (RS P) (jA (LV P) (jA (LB P) (jA (KZ P) (bL (JD P)) (bL (MV P))) (jA (PX P) (bL (Qz P)) (bL (Mp P)))) (jA (Lj P) (jA (Qd P) (bL (QN P)) (bL (MH P))) (iN P))) (jA (LL P) (jA (Ls P) (jA (KP P) (bL (Jw P)) (bL (MO P))) (iM P)) (jA (La P) (jA (P6 P) (bL (QG P)) (bL (Mx P))) (jA (HB P) (bL (IA P)) .nil)))))) (jA (rK P) (jA (rJ P) (jA (rF P) (jA (VA P) (jA (LH P) (jA (K7 P) (bL (JI P)) (bL (MZ P))) (jA (P3 P) (bL (G1 P)) (bL (Mu P)))) (jA (Lp P) (jA (Qh P) (bL (OE P)) (bL (ML P))) (iL P))) (jA (LR P) (jA (Ly P) (jA (KW P) (bL (JB P)) (bL (MS P))) (jA (PU P) (bL (Qx P)) (bL (Mm P)))) (jA (Lg P) (jA (Qa P) (bL (QK P)) (bL (MD P))) (jA (HG P) (bL (M5 P)) .nil)))) (jA (dW P) (jA (LW P) (jA (LC P) (jA (K0 P) (bL (JE P)) (bL (BQ P))) (jA (PY P) (bL (QA P)) (bL (Mq P)))) (jA (Ll P) (jA (Qe P) (bL (VD P d)) (bL (MI P))) (iK P))) (jA (LM P) (jA (Lu P) (jA (KQ P) (bL (Jx P)) (bL (MP P))) (iJ P)) (jA (Lb P) (jA (P7 P) (bL (QH P)) (bL (My P))) (jA (HC P) (bL (Ch P)) .nil))))) (jA (rH P) (jA (qV P) (jA (LY P) (jA (LF P) (jA (K5 P) (bL (JG P)) (bL (MX P))) (jA (P0 P) (bL (QC P)) (bL (Ms P)))) (jA (Ln P) (jA (G0 P) (bL (QP P)) (bL (Eg P))) (iI P))) (jA (LP P) (jA (Lw P) (jA (KU P) (bL (Jz P)) (bL (MQ P))) (jA (JV P) (bL (Qv P)) (bL (Mk P)))) (jA (Ld P) (jA (P9 P) (bL (QJ P)) (bL (MA P))) (jA (HE P) (bL (M3 P)) .nil)))) (jA (RQ P) (jA (LU P) (jA (LA P) (jA (KY P) (bL (JC P)) (bL (MU P))) (jA (PW P) (bL (Qy P)) (bL (Mo P)))) (jA (Li P) (jA (Qc P) (bL (QM P)) (bL (MG P))) (iH P))) (jA (LK P) (jA (Lr P) (jA (KO P) (bL (Jv P)) (bL (MN P))) (EM P)) (jA (K9 P) (jA (P5 P) (bL (QF P)) (bL (Mw P))) (jA (HA P) (bL (M1 P)) .nil))))))
def tree6 (P:jE):BT:=t6 P dq
noncomputable def S6 (w:jY) (os:lM):vo:=⟨tree6 w.params,247,{},#[],{},583,os⟩
def dY (P:jE):=oD [dE P "__name__" 165 (vS "cpy313.stat" 650),dE P "__doc__" 166 jF,dE P "__package__" 167 jF,dE P "__loader__" 168 (lH "__main__.__loader__#opaque"),dE P "__spec__" 169 jF,dE P "__annotations__" 170 (.ref 6),dE P "__builtins__" 171 (.ref 4),dE P "__file__" 173 (vS "/claim/cut.py" 172),dE P "__cached__" 174 jF,dE P "_wall" 193 (.ref 21),dE P "_tuplegetter" 252 (.ref 60),dE P "Match" 380 (.ref 135),dE P "_calculate_ratio" 388 (.ref 145),dE P "SequenceMatcher" 582 (.ref 242),dE P "_buffer" 592 (.ref 253),dE P "_truth" 600 (.ref 260),dE P "_B64" 602 (vz (kg [65,66,67,68,69,70,71,72,73,74,75,76,77,78,79,80,81,82,83,84,85,86,87,88,89,90,97,98,99,100,101,102,103,104,105,106,107,108,109,110,111,112,113,114,115,116,117,118,119,120,121,122,48,49,50,51,52,53,54,55,56,57,43,47]) 601),dE P "b2a_base64" 616 (.ref 268),dE P "_NO_SEP" 617 (.ref 269),dE P "b2a_hex" 628 (.ref 277),dE P "hexlify" 629 (.ref 277),dE P "b64encode" 641 (.ref 285),dE P "b16encode" 649 (.ref 292),dE P "S_IFMT" 659 (.ref 299),dE P "S_IFDIR" 661 (jT 16384 660),dE P "S_IFCHR" 663 (jT 8192 662),dE P "S_IFBLK" 665 (jT 24576 664),dE P "S_IFREG" 667 (jT 32768 666),dE P "S_IFIFO" 669 (jT 4096 668),dE P "S_IFLNK" 671 (jT 40960 670),dE P "S_IFSOCK" 673 (jT 49152 672),dE P "S_ISUID" 675 (jT 2048 674),dE P "S_ISGID" 677 (jT 1024 676),dE P "S_ISVTX" 679 (jT 512 678),dE P "S_IRUSR" 681 (jT 256 680)] 35
def ZS (P:jE):=oF [vI 1,vI 0,.ref 20,vI 5,vI 0,.ref 27,vI 23,vI 0,.ref 71,vI 66,vI 0,.ref 144,vI 70,vI 0,.ref 151,vI 463,vI 0,.ref 252,vI 470,vI 0,.ref 259,vI 476,vI 0,.ref 267,vI 499,vI 0,.ref 276,vI 517,vI 0,.ref 284,vI 529,vI 0,.ref 291,vI 534,vI 0,.ref 298]
def Ir (P:jE):=oT []
def Iq (P:jE):=oF []
def Ip (P:jE):=oT [vS "data" 588,vS "t" 589]
def Io (P:jE):=oT []
def Im (P:jE):=fN "_buffer" "_buffer" (stm 7)
def Gp (P:jE):=oG "code" [vS "_buffer" 585,vS "_buffer" 586,vS "/claim/cut.py" 587,vI 463,vI 1,vI 0,vI 0,vI 3,.ref 247,kr true,vI 181,.ref 248,jF,.ref 249,.ref 250,.ref 251,vI 590,vI 463,vS "/claim/cut.py" 591]
def Go (P:jE):=fU "_buffer" "_buffer" (stm 7) 3 jF jF jF (vS "binascii" 583) (.ref 252)
def Il (P:jE):=oT []
def NQ (P:jE):=oF []
def NP (P:jE):=oT [vS "x" 596,vS "t" 597]
def NO (P:jE):=oT []
def NN (P:jE):=fN "_truth" "_truth" (stm 8)
def Ik (P:jE):=oG "code" [vS "_truth" 593,vS "_truth" 594,vS "/claim/cut.py" 595,vI 470,vI 1,vI 0,vI 0,vI 3,.ref 254,kr true,vI 181,.ref 255,jF,.ref 256,.ref 257,.ref 258,vI 598,vI 470,vS "/claim/cut.py" 599]
def Ij (P:jE):=fU "_truth" "_truth" (stm 8) 3 jF jF jF (vS "binascii" 583) (.ref 259)
def NM (P:jE):=oD [dE P "newline" 603 (kr true)] 1
def NL (P:jE):=oT []
def NK (P:jE):=oF []
def NJ (P:jE):=oT [vS "data" 607,vS "newline" 608,vS "bin_data" 609,vS "out" 610,vS "leftbits" 611,vS "leftchar" 612,vS "b" 613]
def NI (P:jE):=oT []
def NH (P:jE):=fN "b2a_base64" "b2a_base64" (stm 10)
def Ii (P:jE):=oG "code" [vS "b2a_base64" 604,vS "b2a_base64" 605,vS "/claim/cut.py" 606,vI 476,vI 1,vI 1,vI 1,vI 3,.ref 262,kr true,vI 181,.ref 263,jF,.ref 264,.ref 265,.ref 266,vI 614,vI 476,vS "/claim/cut.py" 615]
def Ih (P:jE):=fU "b2a_base64" "b2a_base64" (stm 10) 3 jF (.ref 261) jF (vS "binascii" 583) (.ref 267)
def NG (P:jE):nJ:=nQ (jX "object") none pU (kg [])
def Ig (P:jE):=oT [.ref 269,jT 1 618]
def NF (P:jE):=oT []
def TF (P:jE):=oF []
def TE (P:jE):=oT [vS "data" 622,vS "sep" 623,vS "bytes_per_sep" 624,vS "t" 625]
def TD (P:jE):=oT []
def TC (P:jE):=fN "b2a_hex" "b2a_hex" (stm 12)
def NE (P:jE):=oG "code" [vS "b2a_hex" 619,vS "b2a_hex" 620,vS "/claim/cut.py" 621,vI 499,vI 3,vI 0,vI 0,vI 3,.ref 271,kr true,vI 181,.ref 272,jF,.ref 273,.ref 274,.ref 275,vI 626,vI 499,vS "/claim/cut.py" 627]
def ND (P:jE):=fU "b2a_hex" "b2a_hex" (stm 12) 3 (.ref 270) jF jF (vS "binascii" 583) (.ref 276)
def NC (P:jE):=oT [jF]
def TB (P:jE):=oT []
def TA (P:jE):=oF []
def Tz (P:jE):=oT [vS "s" 635,vS "altchars" 636,vS "encoded" 637]
def Ty (P:jE):=oT []
def Tx (P:jE):=fN "b64encode" "b64encode" (stm 15)
def NB (P:jE):=oG "code" [vS "b64encode" 632,vS "b64encode" 633,vS "/claim/cut.py" 634,vI 517,vI 2,vI 0,vI 0,vI 3,.ref 279,kr true,vI 181,.ref 280,jF,.ref 281,.ref 282,.ref 283,vI 638,vI 517,vS "/claim/cut.py" 639]
def NA (P:jE):=fU "b64encode" "b64encode" (stm 15) 3 (.ref 278) jF (kX (DL (stm 15)) 640) (vS "cpy313.base64" 630) (.ref 284)
def Tw (P:jE):=oT []
def Tu (P:jE):=oF []
def Ts (P:jE):=oT [vS "s" 645]
def Tr (P:jE):=oT []
def Tq (P:jE):=fN "b16encode" "b16encode" (stm 16)
def Nz (P:jE):=oG "code" [vS "b16encode" 642,vS "b16encode" 643,vS "/claim/cut.py" 644,vI 529,vI 1,vI 0,vI 0,vI 3,.ref 286,kr true,vI 181,.ref 287,jF,.ref 288,.ref 289,.ref 290,vI 646,vI 529,vS "/claim/cut.py" 647]
def Ny (P:jE):=fU "b16encode" "b16encode" (stm 16) 3 jF jF (kX (DL (stm 16)) 648) (vS "cpy313.base64" 630) (.ref 291)
def Tp (P:jE):=oT []
def To (P:jE):=oF []
def Tn (P:jE):=oT [vS "mode" 655]
def Tm (P:jE):=oT []
def Tl (P:jE):=fN "S_IFMT" "S_IFMT" (stm 18)
def Nx (P:jE):=oG "code" [vS "S_IFMT" 652,vS "S_IFMT" 653,vS "/claim/cut.py" 654,vI 534,vI 1,vI 0,vI 0,vI 3,.ref 293,kr true,vI 181,.ref 294,jF,.ref 295,.ref 296,.ref 297,vI 656,vI 534,vS "/claim/cut.py" 657]
def Nw (P:jE):=fU "S_IFMT" "S_IFMT" (stm 18) 3 jF jF (kX (DL (stm 18)) 658) (vS "cpy313.stat" 650) (.ref 298)
def dU (P:jE):BT:=jA (JJ P) (bL (NQ P)) .nil
def dT (P:jE):BT:=jA (QE P) (bL (Tu P)) .nil
def dS (P:jE):BT:=jA (Ju P) (bL (NF P)) .nil
def dR (P:jE):BT:=jA (Hz P) (bL (NK P)) .nil
def dQ (P:jE):BT:=jA (EP P) (bL (Tn P)) .nil
def dP (P:jE):BT:=jA (QL P) (bL (TB P)) .nil
def dN (P:jE):BT:=jA (JF P) (bL (Ik P)) .nil
def dM (P:jE):BT:=jA (QB P) (bL (Nz P)) .nil
def dL (P:jE):BT:=jA (QO P) (bL (TC P)) .nil
def dK (P:jE):BT:=jA (Jy P) (bL (Ii P)) .nil
def dJ (P:jE):BT:=jA (Qu P) (bL (Nw P)) .nil
def dI (P:jE):BT:=jA (QI P) (bL (Tx P)) .nil
def dH (P:jE):BT:=jA (JH P) (bL (NO P)) .nil
def dG (P:jE):BT:=jA (QD P) (bL (Tr P)) .nil
def dF (P:jE):BT:=jA (OD P) (bL (TE P)) .nil
def dC (P:jE):BT:=jA (JA P) (bL (NI P)) .nil
def dB (P:jE):BT:=jA (Qw P) (bL (Tl P)) .nil
def dA (P:jE):BT:=jA (M8 P) (bL (Tz P)) .nil
def dz (P:jE):BT:=jA (JD P) (bL (NM P)) .nil
def dw (P:jE):BT:=jA (Qz P) (bL (Tp P)) .nil
def du (P:jE):BT:=jA (QN P) (bL (ND P)) .nil
def dm (P:jE):BT:=jA (Jw P) (bL (NG P)) .nil
def dk (P:jE):BT:=jA (QG P) (bL (NA P)) .nil
def di (P:jE):BT:=jA (JI P) (bL (NP P)) .nil
def dh (P:jE):BT:=jA (G1 P) (bL (Ts P)) .nil
def df (P:jE):BT:=jA (OE P) (bL (TF P)) .nil
def de (P:jE):BT:=jA (JB P) (bL (NJ P)) .nil
def db (P:jE):BT:=jA (Qx P) (bL (Tm P)) .nil
def da (P:jE):BT:=jA (QK P) (bL (TA P)) .nil
def cZ (P:jE):BT:=jA (JE P) (bL (Ij P)) .nil
def cY (P:jE):BT:=jA (QA P) (bL (Ny P)) .nil
def cX (P:jE):BT:=jA (VI P) (bL (NE P)) .nil
def cW (P:jE):BT:=jA (Jx P) (bL (Ih P)) .nil
def cV (P:jE):BT:=jA (QH P) (bL (NB P)) .nil
def cU (P:jE):BT:=jA (JG P) (bL (NN P)) .nil
def cT (P:jE):BT:=jA (QC P) (bL (Tq P)) .nil
def cS (P:jE):BT:=jA (QP P) (bL (TD P)) .nil
def cR (P:jE):BT:=jA (Jz P) (bL (NH P)) .nil
def cQ (P:jE):BT:=jA (Qv P) (bL (Nx P)) .nil
def cP (P:jE):BT:=jA (QJ P) (bL (Ty P)) .nil
def cO (P:jE):BT:=jA (JC P) (bL (NL P)) .nil
def cN (P:jE):BT:=jA (Qy P) (bL (To P)) .nil
def cM (P:jE):BT:=jA (QM P) (bL (NC P)) .nil
def cL (P:jE):BT:=jA (Jv P) (bL (Ig P)) .nil
def cK (P:jE):BT:=jA (QF P) (bL (Tw P)) .nil
def ZV (P:jE):BT:=jA (rL P) (jA (pg P) (jA (dY P) (jA (rG P) (jA (VB P) (jA (LJ P) (jA (K8 P) (dU P) (bL (M0 P))) (jA (P4 P) (dT P) (bL (Mv P)))) (jA (Lq P) (jA (KN P) (dS P) (bL (MM P))) (iP P))) (jA (LS P) (jA (Lz P) (jA (KX P) (dR P) (bL (MT P))) (jA (PV P) (dQ P) (bL (Mn P)))) (jA (Lh P) (jA (Qb P) (dP P) (bL (ME P))) (jA (HI P) (bL (M6 P)) (bL (Ir P)))))) (jA (RT P) (jA (LX P) (jA (LD P) (jA (K4 P) (dN P) (bL (MW P))) (jA (PZ P) (dM P) (bL (Mr P)))) (jA (Lm P) (jA (Qf P) (dL P) (bL (MJ P))) (iO P))) (jA (LN P) (jA (Lv P) (jA (KR P) (dK P) (bL (Dp P))) (jA (JU P) (dJ P) (bL (Mj P)))) (jA (Lc P) (jA (P8 P) (dI P) (bL (Mz P))) (jA (HD P) (bL (M2 P)) (bL (Im P))))))) (jA (rI P) (jA (rE P) (jA (Vz P) (jA (LG P) (jA (K6 P) (dH P) (bL (MY P))) (jA (P1 P) (dG P) (bL (Mt P)))) (jA (Lo P) (jA (Qg P) (dF P) (bL (MK P))) (jA (HJ P) (bL (M7 P)) (bL (Mc P))))) (jA (LQ P) (jA (Lx P) (jA (KV P) (dC P) (bL (MR P))) (jA (JW P) (dB P) (bL (Ml P)))) (jA (Lf P) (jA (Jt P) (dA P) (bL (MC P))) (jA (HF P) (bL (M4 P)) (bL (Ip P)))))) (jA (RS P) (jA (LV P) (jA (LB P) (jA (KZ P) (dz P) (bL (MV P))) (jA (PX P) (dw P) (bL (Mp P)))) (jA (Lj P) (jA (Qd P) (du P) (bL (MH P))) (iN P))) (jA (LL P) (jA (Ls P) (jA (KP P) (dm P) (bL (MO P))) (iM P)) (jA (La P) (jA (P6 P) (dk P) (bL (Mx P))) (jA (HB P) (bL (IA P)) (bL (Go P)))))))) (jA (rK P) (jA (rJ P) (jA (rF P) (jA (VA P) (jA (LH P) (jA (K7 P) (di P) (bL (MZ P))) (jA (P3 P) (dh P) (bL (Mu P)))) (jA (Lp P) (jA (Qh P) (df P) (bL (ML P))) (iL P))) (jA (LR P) (jA (Ly P) (jA (KW P) (de P) (bL (MS P))) (jA (PU P) (db P) (bL (Mm P)))) (jA (Lg P) (jA (Qa P) (da P) (bL (MD P))) (jA (HG P) (bL (M5 P)) (bL (Iq P)))))) (jA (ZS P) (jA (LW P) (jA (LC P) (jA (K0 P) (cZ P) (bL (BQ P))) (jA (PY P) (cY P) (bL (Mq P)))) (jA (Ll P) (jA (Qe P) (cX P) (bL (MI P))) (iK P))) (jA (LM P) (jA (Lu P) (jA (KQ P) (cW P) (bL (MP P))) (iJ P)) (jA (Lb P) (jA (P7 P) (cV P) (bL (My P))) (jA (HC P) (bL (Ch P)) (bL (Gp P))))))) (jA (rH P) (jA (qV P) (jA (LY P) (jA (LF P) (jA (K5 P) (cU P) (bL (MX P))) (jA (P0 P) (cT P) (bL (Ms P)))) (jA (Ln P) (jA (G0 P) (cS P) (bL (Eg P))) (iI P))) (jA (LP P) (jA (Lw P) (jA (KU P) (cR P) (bL (MQ P))) (jA (JV P) (cQ P) (bL (Mk P)))) (jA (Ld P) (jA (P9 P) (cP P) (bL (MA P))) (jA (HE P) (bL (M3 P)) (bL (Io P)))))) (jA (RQ P) (jA (LU P) (jA (LA P) (jA (KY P) (cO P) (bL (MU P))) (jA (PW P) (cN P) (bL (Mo P)))) (jA (Li P) (jA (Qc P) (cM P) (bL (MG P))) (iH P))) (jA (LK P) (jA (Lr P) (jA (KO P) (cL P) (bL (MN P))) (EM P)) (jA (K9 P) (jA (P5 P) (cK P) (bL (Mw P))) (jA (HA P) (bL (M1 P)) (bL (Il P))))))))
noncomputable def fu (w:jY) (os:lM):vo:=⟨ZV w.params,300,{},#[],{},682,os⟩
def dX (P:jE):=oD [dE P "__name__" 165 (vS "law_rt0115_01" 737),dE P "__doc__" 166 jF,dE P "__package__" 167 jF,dE P "__loader__" 168 (lH "__main__.__loader__#opaque"),dE P "__spec__" 169 jF,dE P "__annotations__" 170 (.ref 6),dE P "__builtins__" 171 (.ref 4),dE P "__file__" 173 (vS "/claim/cut.py" 172),dE P "__cached__" 174 jF,dE P "_wall" 193 (.ref 21),dE P "_tuplegetter" 252 (.ref 60),dE P "Match" 380 (.ref 135),dE P "_calculate_ratio" 388 (.ref 145),dE P "SequenceMatcher" 582 (.ref 242),dE P "_buffer" 592 (.ref 253),dE P "_truth" 600 (.ref 260),dE P "_B64" 602 (vz (kg [65,66,67,68,69,70,71,72,73,74,75,76,77,78,79,80,81,82,83,84,85,86,87,88,89,90,97,98,99,100,101,102,103,104,105,106,107,108,109,110,111,112,113,114,115,116,117,118,119,120,121,122,48,49,50,51,52,53,54,55,56,57,43,47]) 601),dE P "b2a_base64" 616 (.ref 268),dE P "_NO_SEP" 617 (.ref 269),dE P "b2a_hex" 628 (.ref 277),dE P "hexlify" 629 (.ref 277),dE P "b64encode" 641 (.ref 285),dE P "b16encode" 649 (.ref 292),dE P "S_IFMT" 659 (.ref 299),dE P "S_IFDIR" 661 (jT 16384 660),dE P "S_IFCHR" 663 (jT 8192 662),dE P "S_IFBLK" 665 (jT 24576 664),dE P "S_IFREG" 667 (jT 32768 666),dE P "S_IFIFO" 669 (jT 4096 668),dE P "S_IFLNK" 671 (jT 40960 670),dE P "S_IFSOCK" 673 (jT 49152 672),dE P "S_ISUID" 675 (jT 2048 674),dE P "S_ISGID" 677 (jT 1024 676),dE P "S_ISVTX" 679 (jT 512 678),dE P "S_IRUSR" 681 (jT 256 680),dE P "S_IWUSR" 683 (jT 128 682),dE P "S_IXUSR" 685 (jT 64 684),dE P "S_IRGRP" 687 (jT 32 686),dE P "S_IWGRP" 689 (jT 16 688),dE P "S_IXGRP" 691 (jT 8 690),dE P "S_IROTH" 693 (jT 4 692),dE P "S_IWOTH" 695 (jT 2 694),dE P "S_IXOTH" 697 (jT 1 696),dE P "_filemode_table" 723 (.ref 332),dE P "filemode" 736 (.ref 339),dE P "_law_rows" 752 (.ref 346),dE P "_law_octets" 761 (.ref 353),dE P "_law_text" 767 (.ref 358),dE P "_law_base" 773 (.ref 363)] 49
def ZR (P:jE):=oF [vI 1,vI 0,.ref 20,vI 5,vI 0,.ref 27,vI 23,vI 0,.ref 71,vI 66,vI 0,.ref 144,vI 70,vI 0,.ref 151,vI 463,vI 0,.ref 252,vI 470,vI 0,.ref 259,vI 476,vI 0,.ref 267,vI 499,vI 0,.ref 276,vI 517,vI 0,.ref 284,vI 529,vI 0,.ref 291,vI 534,vI 0,.ref 298,vI 559,vI 0,.ref 338,vI 578,vI 0,.ref 345,vI 599,vI 0,.ref 352,vI 605,vI 0,.ref 357,vI 607,vI 0,.ref 362]
def Tk (P:jE):=oT [jT 40960 670,vS "l" 698]
def Tj (P:jE):=oT [jT 49152 672,vS "s" 699]
def Ti (P:jE):=oT [jT 32768 666,vS "-" 700]
def Th (P:jE):=oT [jT 24576 664,vS "b" 701]
def Tg (P:jE):=oT [jT 16384 660,vS "d" 702]
def Tf (P:jE):=oT [jT 8192 662,vS "c" 703]
def Te (P:jE):=oT [jT 4096 668,vS "p" 704]
def Td (P:jE):=oT [.ref 300,.ref 301,.ref 302,.ref 303,.ref 304,.ref 305,.ref 306]
def Tc (P:jE):=oT [jT 256 680,vS "r" 705]
def Tb (P:jE):=oT [.ref 308]
def Ta (P:jE):=oT [jT 128 682,vS "w" 706]
def S9 (P:jE):=oT [.ref 310]
def S8 (P:jE):=oT [jT 2112 707,vS "s" 708]
def S7 (P:jE):=oT [jT 2048 674,vS "S" 709]
def S1 (P:jE):=oT [jT 64 684,vS "x" 710]
def S0 (P:jE):=oT [.ref 312,.ref 313,.ref 314]
def SZ (P:jE):=oT [jT 32 686,vS "r" 711]
def SY (P:jE):=oT [.ref 316]
def SX (P:jE):=oT [jT 16 688,vS "w" 712]
def SW (P:jE):=oT [.ref 318]
def SV (P:jE):=oT [jT 1032 713,vS "s" 714]
def SU (P:jE):=oT [jT 1024 676,vS "S" 715]
def ST (P:jE):=oT [jT 8 690,vS "x" 716]
def SS (P:jE):=oT [.ref 320,.ref 321,.ref 322]
def SR (P:jE):=oT [jT 4 692,vS "r" 717]
def SQ (P:jE):=oT [.ref 324]
def SP (P:jE):=oT [jT 2 694,vS "w" 718]
def SN (P:jE):=oT [.ref 326]
def SM (P:jE):=oT [jT 513 719,vS "t" 720]
def SL (P:jE):=oT [jT 512 678,vS "T" 721]
def SK (P:jE):=oT [jT 1 696,vS "x" 722]
def SJ (P:jE):=oT [.ref 328,.ref 329,.ref 330]
def SI (P:jE):=oT [.ref 307,.ref 309,.ref 311,.ref 315,.ref 317,.ref 319,.ref 323,.ref 325,.ref 327,.ref 331]
def SH (P:jE):=oT []
def SG (P:jE):=oF []
def SF (P:jE):=oT [vS "mode" 727,vS "perm" 728,vS "index" 729,vS "table" 730,vS "bit" 731,vS "char" 732]
def SE (P:jE):=oT []
def SC (P:jE):=fN "filemode" "filemode" (stm 39)
def Nv (P:jE):=oG "code" [vS "filemode" 724,vS "filemode" 725,vS "/claim/cut.py" 726,vI 559,vI 1,vI 0,vI 0,vI 3,.ref 333,kr true,vI 181,.ref 334,jF,.ref 335,.ref 336,.ref 337,vI 733,vI 559,vS "/claim/cut.py" 734]
def Nu (P:jE):=fU "filemode" "filemode" (stm 39) 3 jF jF (vS "Convert a file's mode to a string of the form '-rwxrwxrwx'." 735) (vS "cpy313.stat" 650) (.ref 338)
def SB (P:jE):=oT []
def SA (P:jE):=oF []
def Sz (P:jE):=oT [vS "script" 742,vS "left" 743,vS "right" 744,vS "few" 745,vS "k" 746,vS "mode" 747,vS "turn" 748,vS "rest" 749]
def Sy (P:jE):=oT []
def Sx (P:jE):=fN "_law_rows" "_law_rows" (stm 41)
def Nt (P:jE):=oG "code" [vS "_law_rows" 739,vS "_law_rows" 740,vS "/claim/cut.py" 741,vI 578,vI 1,vI 0,vI 0,vI 3,.ref 340,kr true,vI 181,.ref 341,jF,.ref 342,.ref 343,.ref 344,vI 750,vI 578,vS "/claim/cut.py" 751]
def Nr (P:jE):=fU "_law_rows" "_law_rows" (stm 41) 3 jF jF jF (vS "law_rt0115_01" 737) (.ref 345)
def Sw (P:jE):=oT []
def Sv (P:jE):=oF []
def Su (P:jE):=oT [vS "row" 756,vS "octets" 757,vS "mode" 758]
def Ss (P:jE):=oT []
def Sr (P:jE):=fN "_law_octets" "_law_octets" (stm 42)
def Nq (P:jE):=oG "code" [vS "_law_octets" 753,vS "_law_octets" 754,vS "/claim/cut.py" 755,vI 599,vI 1,vI 0,vI 0,vI 3,.ref 347,kr true,vI 181,.ref 348,jF,.ref 349,.ref 350,.ref 351,vI 759,vI 599,vS "/claim/cut.py" 760]
def Np (P:jE):=fU "_law_octets" "_law_octets" (stm 42) 3 jF jF jF (vS "law_rt0115_01" 737) (.ref 352)
def Sq (P:jE):=oT []
def Sp (P:jE):=oF []
def So (P:jE):=fN "_law_text" "_law_text" (stm 43)
def No (P:jE):=oG "code" [vS "_law_text" 762,vS "_law_text" 763,vS "/claim/cut.py" 764,vI 605,vI 1,vI 0,vI 0,vI 3,.ref 354,kr true,vI 181,.ref 355,jF,jF,jF,.ref 356,vI 765,vI 605,vS "/claim/cut.py" 766]
def Nn (P:jE):=fU "_law_text" "_law_text" (stm 43) 3 jF jF jF (vS "law_rt0115_01" 737) (.ref 357)
def Sn (P:jE):=oT []
def Sm (P:jE):=oF []
def Sl (P:jE):=fN "_law_base" "_law_base" (stm 44)
def Nl (P:jE):=oG "code" [vS "_law_base" 768,vS "_law_base" 769,vS "/claim/cut.py" 770,vI 607,vI 3,vI 0,vI 0,vI 3,.ref 359,kr true,vI 181,.ref 360,jF,jF,jF,.ref 361,vI 771,vI 607,vS "/claim/cut.py" 772]
def Nk (P:jE):=fU "_law_base" "_law_base" (stm 44) 3 jF jF jF (vS "law_rt0115_01" 737) (.ref 362)
def cJ (P:jE):BT:=jA (M0 P) (bL (SW P)) .nil
def cI (P:jE):BT:=jA (P4 P) (dT P) (jA (Mv P) (bL (Sr P)) .nil)
def cH (P:jE):BT:=jA (MM P) (bL (SF P)) .nil
def cG (P:jE):BT:=jA (Qr P) (bL (Th P)) .nil
def cF (P:jE):BT:=jA (MT P) (bL (SN P)) .nil
def cE (P:jE):BT:=jA (PV P) (dQ P) (jA (Mn P) (bL (Sn P)) .nil)
def cD (P:jE):BT:=jA (Qb P) (dP P) (jA (ME P) (bL (Sy P)) .nil)
def cC (P:jE):BT:=jA (M6 P) (bL (S9 P)) .nil
def cB (P:jE):BT:=jA (MW P) (bL (SS P)) .nil
def cA (P:jE):BT:=jA (PZ P) (dM P) (jA (Mr P) (bL (Sp P)) .nil)
def cz (P:jE):BT:=jA (Qf P) (dL P) (jA (MJ P) (bL (Nu P)) .nil)
def cw (P:jE):BT:=jA (Qo P) (bL (Td P)) .nil
def cv (P:jE):BT:=jA (Dp P) (bL (SJ P)) .nil
def ct (P:jE):BT:=jA (JU P) (dJ P) (jA (Mj P) (bL (Nk P)) .nil)
def cr (P:jE):BT:=jA (P8 P) (dI P) (jA (Mz P) (bL (Sw P)) .nil)
def cq (P:jE):BT:=jA (M2 P) (bL (S0 P)) .nil
def cn (P:jE):BT:=jA (MY P) (bL (SU P)) .nil
def cm (P:jE):BT:=jA (P1 P) (dG P) (jA (Mt P) (bL (Np P)) .nil)
def cj (P:jE):BT:=jA (Qg P) (dF P) (jA (MK P) (bL (SC P)) .nil)
def cf (P:jE):BT:=jA (M7 P) (bL (Tf P)) .nil
def cc (P:jE):BT:=jA (MR P) (bL (SL P)) .nil
def cb (P:jE):BT:=jA (JW P) (dB P) (jA (Ml P) (bL (Sl P)) .nil)
def ca (P:jE):BT:=jA (Jt P) (dA P) (jA (MC P) (bL (Nt P)) .nil)
def b9 (P:jE):BT:=jA (M4 P) (bL (S7 P)) .nil
def b8 (P:jE):BT:=jA (MV P) (bL (SQ P)) .nil
def b7 (P:jE):BT:=jA (PX P) (dw P) (jA (Mp P) (bL (No P)) .nil)
def bZ (P:jE):BT:=jA (Qd P) (du P) (jA (MH P) (bL (SA P)) .nil)
def bY (P:jE):BT:=jA (FW P) (bL (Tb P)) .nil
def bX (P:jE):BT:=jA (MO P) (bL (SH P)) .nil
def bW (P:jE):BT:=jA (Qs P) (bL (Tj P)) .nil
def bV (P:jE):BT:=jA (P6 P) (dk P) (jA (Mx P) (bL (Su P)) .nil)
def bU (P:jE):BT:=jA (IA P) (bL (SY P)) .nil
def bT (P:jE):BT:=jA (MZ P) (bL (SV P)) .nil
def bS (P:jE):BT:=jA (P3 P) (dh P) (jA (Mu P) (bL (Nq P)) .nil)
def bR (P:jE):BT:=jA (Qh P) (df P) (jA (ML P) (bL (SE P)) .nil)
def bQ (P:jE):BT:=jA (Qq P) (bL (Tg P)) .nil
def bP (P:jE):BT:=jA (MS P) (bL (SM P)) .nil
def bO (P:jE):BT:=jA (PU P) (db P) (jA (Mm P) (bL (Sm P)) .nil)
def bM (P:jE):BT:=jA (Qa P) (da P) (jA (MD P) (bL (Sx P)) .nil)
def bK (P:jE):BT:=jA (M5 P) (bL (S8 P)) .nil
def bJ (P:jE):BT:=jA (BQ P) (bL (SR P)) .nil
def bI (P:jE):BT:=jA (PY P) (cY P) (jA (Mq P) (bL (So P)) .nil)
def bH (P:jE):BT:=jA (Qe P) (cX P) (jA (MI P) (bL (SB P)) .nil)
def bG (P:jE):BT:=jA (Qn P) (bL (Tc P)) .nil
def bF (P:jE):BT:=jA (MP P) (bL (SI P)) .nil
def Zy (P:jE):BT:=jA (Qt P) (bL (Tk P)) .nil
def Zx (P:jE):BT:=jA (P7 P) (cV P) (jA (My P) (bL (Sv P)) .nil)
def Zw (P:jE):BT:=jA (Ch P) (bL (SZ P)) .nil
def Zv (P:jE):BT:=jA (MX P) (bL (ST P)) .nil
def Zu (P:jE):BT:=jA (P0 P) (cT P) (jA (Ms P) (bL (Sq P)) .nil)
def Zt (P:jE):BT:=jA (G0 P) (cS P) (jA (Eg P) (bL (Nv P)) .nil)
def Zs (P:jE):BT:=jA (Qp P) (bL (Te P)) .nil
def Zr (P:jE):BT:=jA (MQ P) (bL (SK P)) .nil
def Zq (P:jE):BT:=jA (JV P) (cQ P) (jA (Mk P) (bL (Nl P)) .nil)
def Zp (P:jE):BT:=jA (P9 P) (cP P) (jA (MA P) (bL (Nr P)) .nil)
def Zo (P:jE):BT:=jA (M3 P) (bL (S1 P)) .nil
def Zn (P:jE):BT:=jA (MU P) (bL (SP P)) .nil
def Zm (P:jE):BT:=jA (PW P) (cN P) (jA (Mo P) (bL (Nn P)) .nil)
def Zl (P:jE):BT:=jA (Qc P) (cM P) (jA (MG P) (bL (Sz P)) .nil)
def Zk (P:jE):BT:=jA (Qm P) (bL (Ta P)) .nil
def Zj (P:jE):BT:=jA (MN P) (bL (SG P)) .nil
def Zi (P:jE):BT:=jA (FX P) (bL (Ti P)) .nil
def Zh (P:jE):BT:=jA (P5 P) (cK P) (jA (Mw P) (bL (Ss P)) .nil)
def Zg (P:jE):BT:=jA (M1 P) (bL (SX P)) .nil
def ZU (P:jE):BT:=jA (rL P) (jA (pg P) (jA (dX P) (jA (rG P) (jA (VB P) (jA (LJ P) (jA (K8 P) (dU P) (cJ P)) (cI P)) (jA (Lq P) (jA (KN P) (dS P) (cH P)) (jA (JQ P) (cG P) (bL (Mf P))))) (jA (LS P) (jA (Lz P) (jA (KX P) (dR P) (cF P)) (cE P)) (jA (Lh P) (cD P) (jA (HI P) (cC P) (bL (Ir P)))))) (jA (RT P) (jA (LX P) (jA (LD P) (jA (K4 P) (dN P) (cB P)) (cA P)) (jA (Lm P) (cz P) (jA (JN P) (cw P) (bL (Ma P))))) (jA (LN P) (jA (Lv P) (jA (KR P) (dK P) (cv P)) (ct P)) (jA (Lc P) (cr P) (jA (HD P) (cq P) (bL (Im P))))))) (jA (rI P) (jA (rE P) (jA (Vz P) (jA (LG P) (jA (K6 P) (dH P) (cn P)) (cm P)) (jA (Lo P) (cj P) (jA (HJ P) (cf P) (bL (Mc P))))) (jA (LQ P) (jA (Lx P) (jA (KV P) (dC P) (cc P)) (cb P)) (jA (Lf P) (ca P) (jA (HF P) (b9 P) (bL (Ip P)))))) (jA (RS P) (jA (LV P) (jA (LB P) (jA (KZ P) (dz P) (b8 P)) (b7 P)) (jA (Lj P) (bZ P) (jA (JL P) (bY P) (bL (L8 P))))) (jA (LL P) (jA (Ls P) (jA (KP P) (dm P) (bX P)) (jA (JS P) (bW P) (bL (Mh P)))) (jA (La P) (bV P) (jA (HB P) (bU P) (bL (Go P)))))))) (jA (rK P) (jA (rJ P) (jA (rF P) (jA (VA P) (jA (LH P) (jA (K7 P) (di P) (bT P)) (bS P)) (jA (Lp P) (bR P) (jA (JP P) (bQ P) (bL (Me P))))) (jA (LR P) (jA (Ly P) (jA (KW P) (de P) (bP P)) (bO P)) (jA (Lg P) (bM P) (jA (HG P) (bK P) (bL (Iq P)))))) (jA (ZR P) (jA (LW P) (jA (LC P) (jA (K0 P) (cZ P) (bJ P)) (bI P)) (jA (Ll P) (bH P) (jA (JM P) (bG P) (bL (L9 P))))) (jA (LM P) (jA (Lu P) (jA (KQ P) (cW P) (bF P)) (jA (JT P) (Zy P) (bL (Mi P)))) (jA (Lb P) (Zx P) (jA (HC P) (Zw P) (bL (Gp P))))))) (jA (rH P) (jA (qV P) (jA (LY P) (jA (LF P) (jA (K5 P) (cU P) (Zv P)) (Zu P)) (jA (Ln P) (Zt P) (jA (JO P) (Zs P) (bL (Mb P))))) (jA (LP P) (jA (Lw P) (jA (KU P) (cR P) (Zr P)) (Zq P)) (jA (Ld P) (Zp P) (jA (HE P) (Zo P) (bL (Io P)))))) (jA (RQ P) (jA (LU P) (jA (LA P) (jA (KY P) (cO P) (Zn P)) (Zm P)) (jA (Li P) (Zl P) (jA (JK P) (Zk P) (bL (L7 P))))) (jA (LK P) (jA (Lr P) (jA (KO P) (cL P) (Zj P)) (jA (JR P) (Zi P) (bL (Mg P)))) (jA (K9 P) (Zh P) (jA (HA P) (Zg P) (bL (Il P))))))))
noncomputable def ft (w:jY) (os:lM):vo:=⟨ZU w.params,364,{},#[],{},774,os⟩
def OL (P:jE):=oD [dE P "__name__" 165 (vS "law_rt0115_01" 737),dE P "__doc__" 166 jF,dE P "__package__" 167 jF,dE P "__loader__" 168 (lH "__main__.__loader__#opaque"),dE P "__spec__" 169 jF,dE P "__annotations__" 170 (.ref 6),dE P "__builtins__" 171 (.ref 4),dE P "__file__" 173 (vS "/claim/cut.py" 172),dE P "__cached__" 174 jF,dE P "_wall" 193 (.ref 21),dE P "_tuplegetter" 252 (.ref 60),dE P "Match" 380 (.ref 135),dE P "_calculate_ratio" 388 (.ref 145),dE P "SequenceMatcher" 582 (.ref 242),dE P "_buffer" 592 (.ref 253),dE P "_truth" 600 (.ref 260),dE P "_B64" 602 (vz (kg [65,66,67,68,69,70,71,72,73,74,75,76,77,78,79,80,81,82,83,84,85,86,87,88,89,90,97,98,99,100,101,102,103,104,105,106,107,108,109,110,111,112,113,114,115,116,117,118,119,120,121,122,48,49,50,51,52,53,54,55,56,57,43,47]) 601),dE P "b2a_base64" 616 (.ref 268),dE P "_NO_SEP" 617 (.ref 269),dE P "b2a_hex" 628 (.ref 277),dE P "hexlify" 629 (.ref 277),dE P "b64encode" 641 (.ref 285),dE P "b16encode" 649 (.ref 292),dE P "S_IFMT" 659 (.ref 299),dE P "S_IFDIR" 661 (jT 16384 660),dE P "S_IFCHR" 663 (jT 8192 662),dE P "S_IFBLK" 665 (jT 24576 664),dE P "S_IFREG" 667 (jT 32768 666),dE P "S_IFIFO" 669 (jT 4096 668),dE P "S_IFLNK" 671 (jT 40960 670),dE P "S_IFSOCK" 673 (jT 49152 672),dE P "S_ISUID" 675 (jT 2048 674),dE P "S_ISGID" 677 (jT 1024 676),dE P "S_ISVTX" 679 (jT 512 678),dE P "S_IRUSR" 681 (jT 256 680),dE P "S_IWUSR" 683 (jT 128 682),dE P "S_IXUSR" 685 (jT 64 684),dE P "S_IRGRP" 687 (jT 32 686),dE P "S_IWGRP" 689 (jT 16 688),dE P "S_IXGRP" 691 (jT 8 690),dE P "S_IROTH" 693 (jT 4 692),dE P "S_IWOTH" 695 (jT 2 694),dE P "S_IXOTH" 697 (jT 1 696),dE P "_filemode_table" 723 (.ref 332),dE P "filemode" 736 (.ref 339),dE P "_law_rows" 752 (.ref 346),dE P "_law_octets" 761 (.ref 353),dE P "_law_text" 767 (.ref 358),dE P "_law_base" 773 (.ref 363),dE P "_law_listing" 785 (.ref 370),dE P "_law_longest" 803 (.ref 377),dE P "_law_cut" 822 (.ref 384),dE P "_law_codes" 828 (.ref 389),dE P "_law_seen" 834 (.ref 394),dE P "law" 840 (.ref 399)] 55
def VJ (P:jE):=oF [vI 1,vI 0,.ref 20,vI 5,vI 0,.ref 27,vI 23,vI 0,.ref 71,vI 66,vI 0,.ref 144,vI 70,vI 0,.ref 151,vI 463,vI 0,.ref 252,vI 470,vI 0,.ref 259,vI 476,vI 0,.ref 267,vI 499,vI 0,.ref 276,vI 517,vI 0,.ref 284,vI 529,vI 0,.ref 291,vI 534,vI 0,.ref 298,vI 559,vI 0,.ref 338,vI 578,vI 0,.ref 345,vI 599,vI 0,.ref 352,vI 605,vI 0,.ref 357,vI 607,vI 0,.ref 362,vI 616,vI 0,.ref 369,vI 627,vI 0,.ref 376,vI 638,vI 0,.ref 383,vI 646,vI 0,.ref 388,vI 659,vI 0,.ref 393,vI 662,vI 0,.ref 398]
def Sk (P:jE):=oT []
def Sj (P:jE):=oF []
def Si (P:jE):=oT [vS "row" 777,vS "told" 778,vS "mode" 779,vS "k" 780,vS "three" 781,vS "above" 782]
def Sh (P:jE):=oT []
def Sg (P:jE):=fN "_law_listing" "_law_listing" (stm 45)
def Nj (P:jE):=oG "code" [vS "_law_listing" 774,vS "_law_listing" 775,vS "/claim/cut.py" 776,vI 616,vI 1,vI 0,vI 0,vI 3,.ref 364,kr true,vI 181,.ref 365,jF,.ref 366,.ref 367,.ref 368,vI 783,vI 616,vS "/claim/cut.py" 784]
def Ni (P:jE):=fU "_law_listing" "_law_listing" (stm 45) 3 jF jF jF (vS "law_rt0115_01" 737) (.ref 369)
def Sf (P:jE):=oT []
def Se (P:jE):=oF []
def Sd (P:jE):=oT [vS "left" 789,vS "right" 790,vS "step" 791,vS "window" 792,vS "i0" 793,vS "i1" 794,vS "j0" 795,vS "j1" 796,vS "best" 797,vS "i" 798,vS "j" 799,vS "size" 800]
def Sc (P:jE):=oT []
def Sb (P:jE):=fN "_law_longest" "_law_longest" (stm 46)
def Nh (P:jE):=oG "code" [vS "_law_longest" 786,vS "_law_longest" 787,vS "/claim/cut.py" 788,vI 627,vI 4,vI 0,vI 0,vI 3,.ref 371,kr true,vI 181,.ref 372,jF,.ref 373,.ref 374,.ref 375,vI 801,vI 627,vS "/claim/cut.py" 802]
def Ng (P:jE):=fU "_law_longest" "_law_longest" (stm 46) 3 jF jF jF (vS "law_rt0115_01" 737) (.ref 376)
def Sa (P:jE):=oT []
def R9 (P:jE):=oF []
def R8 (P:jE):=oT [vS "left" 807,vS "right" 808,vS "step" 809,vS "window" 810,vS "i0" 811,vS "i1" 812,vS "j0" 813,vS "j1" 814,vS "i" 815,vS "j" 816,vS "size" 817,vS "ahead" 818,vS "behind" 819]
def R7 (P:jE):=oT []
def R6 (P:jE):=fN "_law_cut" "_law_cut" (stm 47)
def Nf (P:jE):=oG "code" [vS "_law_cut" 804,vS "_law_cut" 805,vS "/claim/cut.py" 806,vI 638,vI 4,vI 0,vI 0,vI 3,.ref 378,kr true,vI 181,.ref 379,jF,.ref 380,.ref 381,.ref 382,vI 820,vI 638,vS "/claim/cut.py" 821]
def Nd (P:jE):=fU "_law_cut" "_law_cut" (stm 47) 3 jF jF jF (vS "law_rt0115_01" 737) (.ref 383)
def R5 (P:jE):=oT []
def R1 (P:jE):=oF []
def R0 (P:jE):=fN "_law_codes" "_law_codes" (stm 48)
def Du (P:jE):=oG "code" [vS "_law_codes" 823,vS "_law_codes" 824,vS "/claim/cut.py" 825,vI 646,vI 3,vI 0,vI 0,vI 3,.ref 385,kr true,vI 181,.ref 386,jF,jF,jF,.ref 387,vI 826,vI 646,vS "/claim/cut.py" 827]
def Ie (P:jE):=fU "_law_codes" "_law_codes" (stm 48) 3 jF jF jF (vS "law_rt0115_01" 737) (.ref 388)
def RZ (P:jE):=oT []
def RY (P:jE):=oF []
def RX (P:jE):=fN "_law_seen" "_law_seen" (stm 49)
def Nc (P:jE):=oG "code" [vS "_law_seen" 829,vS "_law_seen" 830,vS "/claim/cut.py" 831,vI 659,vI 3,vI 0,vI 0,vI 3,.ref 390,kr true,vI 181,.ref 391,jF,jF,jF,.ref 392,vI 832,vI 659,vS "/claim/cut.py" 833]
def Nb (P:jE):=fU "_law_seen" "_law_seen" (stm 49) 3 jF jF jF (vS "law_rt0115_01" 737) (.ref 393)
def RW (P:jE):=oT []
def RV (P:jE):=oF []
def RU (P:jE):=fN "law" "law" (stm 50)
def Na (P:jE):=oG "code" [vS "law" 835,vS "law" 836,vS "/claim/cut.py" 837,vI 662,vI 1,vI 0,vI 0,vI 3,.ref 395,kr true,vI 181,.ref 396,jF,jF,jF,.ref 397,vI 838,vI 662,vS "/claim/cut.py" 839]
def M9 (P:jE):=fU "law" "law" (stm 50) 3 jF jF jF (vS "law_rt0115_01" 737) (.ref 398)
def VT (P:jE):BT:=jA (rL P) (jA (pg P) (jA (OL P) (jA (rG P) (jA (VB P) (jA (LJ P) (jA (K8 P) (jA (JJ P) (bL (NQ P)) (bL (Nf P))) (cJ P)) (cI P)) (jA (Lq P) (jA (KN P) (jA (Ju P) (bL (NF P)) (bL (M9 P))) (cH P)) (jA (JQ P) (cG P) (jA (Mf P) (bL (Sh P)) .nil)))) (jA (LS P) (jA (Lz P) (jA (KX P) (jA (Hz P) (bL (NK P)) (bL (RY P))) (cF P)) (cE P)) (jA (Lh P) (cD P) (jA (HI P) (cC P) (jA (Ir P) (bL (Sb P)) .nil))))) (jA (RT P) (jA (LX P) (jA (LD P) (jA (K4 P) (jA (JF P) (bL (Ik P)) (bL (R0 P))) (cB P)) (cA P)) (jA (Lm P) (cz P) (jA (JN P) (cw P) (jA (Ma P) (bL (Sf P)) .nil)))) (jA (LN P) (jA (Lv P) (jA (KR P) (jA (Jy P) (bL (Ii P)) (bL (RW P))) (cv P)) (ct P)) (jA (Lc P) (cr P) (jA (HD P) (cq P) (jA (Im P) (bL (R9 P)) .nil)))))) (jA (rI P) (jA (rE P) (jA (Vz P) (jA (LG P) (jA (K6 P) (jA (JH P) (bL (NO P)) (bL (R5 P))) (cn P)) (cm P)) (jA (Lo P) (cj P) (jA (HJ P) (cf P) (jA (Mc P) (bL (Nj P)) .nil)))) (jA (LQ P) (jA (Lx P) (jA (KV P) (jA (JA P) (bL (NI P)) (bL (Nc P))) (cc P)) (cb P)) (jA (Lf P) (ca P) (jA (HF P) (b9 P) (jA (Ip P) (bL (Ng P)) .nil))))) (jA (RS P) (jA (LV P) (jA (LB P) (jA (KZ P) (jA (JD P) (bL (NM P)) (bL (Ie P))) (b8 P)) (b7 P)) (jA (Lj P) (bZ P) (jA (JL P) (bY P) (jA (L8 P) (bL (Sd P)) .nil)))) (jA (LL P) (jA (Ls P) (jA (KP P) (jA (Jw P) (bL (NG P)) (bL (RU P))) (bX P)) (jA (JS P) (bW P) (jA (Mh P) (bL (Sj P)) .nil))) (jA (La P) (bV P) (jA (HB P) (bU P) (jA (Go P) (bL (R7 P)) .nil))))))) (jA (rK P) (jA (rJ P) (jA (rF P) (jA (VA P) (jA (LH P) (jA (K7 P) (jA (JI P) (bL (NP P)) (bL (Nd P))) (bT P)) (bS P)) (jA (Lp P) (bR P) (jA (JP P) (bQ P) (jA (Me P) (bL (Sg P)) .nil)))) (jA (LR P) (jA (Ly P) (jA (KW P) (jA (JB P) (bL (NJ P)) (bL (RX P))) (bP P)) (bO P)) (jA (Lg P) (bM P) (jA (HG P) (bK P) (jA (Iq P) (bL (Nh P)) .nil))))) (jA (VJ P) (jA (LW P) (jA (LC P) (jA (K0 P) (jA (JE P) (bL (Ij P)) (bL (Du P))) (bJ P)) (bI P)) (jA (Ll P) (bH P) (jA (JM P) (bG P) (jA (L9 P) (bL (Se P)) .nil)))) (jA (LM P) (jA (Lu P) (jA (KQ P) (jA (Jx P) (bL (Ih P)) (bL (RV P))) (bF P)) (jA (JT P) (Zy P) (jA (Mi P) (bL (Sk P)) .nil))) (jA (Lb P) (Zx P) (jA (HC P) (Zw P) (jA (Gp P) (bL (R8 P)) .nil)))))) (jA (rH P) (jA (qV P) (jA (LY P) (jA (LF P) (jA (K5 P) (jA (JG P) (bL (NN P)) (bL (R1 P))) (Zv P)) (Zu P)) (jA (Ln P) (Zt P) (jA (JO P) (Zs P) (jA (Mb P) (bL (Ni P)) .nil)))) (jA (LP P) (jA (Lw P) (jA (KU P) (jA (Jz P) (bL (NH P)) (bL (Nb P))) (Zr P)) (Zq P)) (jA (Ld P) (Zp P) (jA (HE P) (Zo P) (jA (Io P) (bL (Sa P)) .nil))))) (jA (RQ P) (jA (LU P) (jA (LA P) (jA (KY P) (jA (JC P) (bL (NL P)) (bL (RZ P))) (Zn P)) (Zm P)) (jA (Li P) (Zl P) (jA (JK P) (Zk P) (jA (L7 P) (bL (Sc P)) .nil)))) (jA (LK P) (jA (Lr P) (jA (KO P) (jA (Jv P) (bL (Ig P)) (bL (Na P))) (Zj P)) (jA (JR P) (Zi P) (jA (Mg P) (bL (Si P)) .nil))) (jA (K9 P) (Zh P) (jA (HA P) (Zg P) (jA (Il P) (bL (R6 P)) .nil)))))))
noncomputable def ZM (w:jY) (os:lM):vo:=⟨VT w.params,400,{},#[],{},841,os⟩
noncomputable def L6:List md:=[e9 dq (stm 5)]
noncomputable def iF:List md:=[stm 6,stm 7,stm 8,stm 9,stm 10,stm 11,stm 12,stm 13,stm 14,stm 15,stm 16,stm 17,stm 18,stm 19,stm 20,stm 21,stm 22,stm 23,stm 24,stm 25,stm 26,stm 27,stm 28,stm 29]
noncomputable def iE:List md:=[stm 30,stm 31,stm 32,stm 33,stm 34,stm 35,stm 36,stm 37,stm 38,stm 39,stm 40,stm 41,stm 42,stm 43,stm 44]
noncomputable def iD:List md:=[stm 45,stm 46,stm 47,stm 48,stm 49,stm 50]
lay_quick Mine.dq
theorem q5:(λ(w:jY) (os:lM) (p:lF) (bb:List md)=>m8 T1 p w 11 (some (kz 6)) 1 1438 (S4 w os) (qA L5 A.env_1 (lG bb A.env_1) ⟨0,0,0,0⟩ [nX ⟨0,0,0,0⟩]))=λ(w:jY) (os:lM) (p:lF) (bb:List md)=>some (nK,S5 w os,lG bb A.env_1,(⟨66,0,69,14⟩:mi)):=by kernel_rfl
theorem p5(w:jY)(os:lM)(p:lF)(bb:List md):rt T1 p w 11 (some (kz 6)) 1 1438 (S4 w os) (qA L5 A.env_1 (lG bb A.env_1) ⟨0,0,0,0⟩ [nX ⟨0,0,0,0⟩])=some (nK,S5 w os,lG bb A.env_1,(⟨66,0,69,14⟩:mi)):=by
 rewrite [show @rt=_ from nb]
 exact congrFun (congrFun (congrFun (congrFun q5 w) os) p) bb
theorem q6:(λ(w:jY) (os:lM) (p:lF) (bb:List md)=>m8 T1 p w 11 (some (kz 6)) 1 657 (S5 w os) (qA [e9 Fast.tw5557023920314118539 (stm 5)] A.env_1 (lG bb A.env_1) ⟨66,0,69,14⟩ [nX ⟨0,0,0,0⟩]))=λ(w:jY) (os:lM) (p:lF) (bb:List md)=>some (nK,⟨t6 w.params Fast.tw5557023920314118539,247,{},#[],{},583,os⟩,lG bb A.env_1,(⟨70,0,461,16⟩:mi)):=by kernel_rfl
theorem p6(w:jY)(os:lM)(p:lF)(bb:List md):rt T1 p w 11 (some (kz 6)) 1 657 (S5 w os) (qA L6 A.env_1 (lG bb A.env_1) ⟨66,0,69,14⟩ [nX ⟨0,0,0,0⟩])=some (nK,S6 w os,lG bb A.env_1,(⟨70,0,461,16⟩:mi)):=by
 unfold L6 S6 tree6
 rewrite [show @rt=_ from nb,show dq=_ from Fast.te5557023920314118539]
 exact congrFun (congrFun (congrFun (congrFun q6 w) os) p) bb
theorem jk:(λ(w:jY) (os:lM) (p:lF) (bb:List md)=>m8 T1 p w 11 (some (kz 6)) 1 401 (S6 w os) (qA iF A.env_1 (lG bb A.env_1) ⟨70,0,461,16⟩ [nX ⟨0,0,0,0⟩]))=λ(w:jY) (os:lM) (p:lF) (bb:List md)=>some (nK,fu w os,lG bb A.env_1,(⟨549,0,549,7⟩:mi)):=by kernel_rfl
theorem jn(w:jY)(os:lM)(p:lF)(bb:List md):rt T1 p w 11 (some (kz 6)) 1 401 (S6 w os) (qA iF A.env_1 (lG bb A.env_1) ⟨70,0,461,16⟩ [nX ⟨0,0,0,0⟩])=some (nK,fu w os,lG bb A.env_1,(⟨549,0,549,7⟩:mi)):=by
 rewrite [show @rt=_ from nb]
 exact congrFun (congrFun (congrFun (congrFun jk w) os) p) bb
theorem jj:(λ(w:jY) (os:lM) (p:lF) (bb:List md)=>m8 T1 p w 11 (some (kz 6)) 1 397 (fu w os) (qA iE A.env_1 (lG bb A.env_1) ⟨549,0,549,7⟩ [nX ⟨0,0,0,0⟩]))=λ(w:jY) (os:lM) (p:lF) (bb:List md)=>some (nK,ft w os,lG bb A.env_1,(⟨607,0,615,45⟩:mi)):=by kernel_rfl
theorem jm(w:jY)(os:lM)(p:lF)(bb:List md):rt T1 p w 11 (some (kz 6)) 1 397 (fu w os) (qA iE A.env_1 (lG bb A.env_1) ⟨549,0,549,7⟩ [nX ⟨0,0,0,0⟩])=some (nK,ft w os,lG bb A.env_1,(⟨607,0,615,45⟩:mi)):=by
 rewrite [show @rt=_ from nb]
 exact congrFun (congrFun (congrFun (congrFun jj w) os) p) bb
theorem ji:(λ(w:jY) (os:lM) (p:lF) (bb:List md)=>m8 T1 p w 11 (some (kz 6)) 1 194 (ft w os) (qA iD A.env_1 (lG bb A.env_1) ⟨607,0,615,45⟩ [nX ⟨0,0,0,0⟩]))=λ(w:jY) (os:lM) (p:lF) (bb:List md)=>some (nK,ZM w os,lG bb A.env_1,(⟨662,0,671,140⟩:mi)):=by kernel_rfl
theorem jl(w:jY)(os:lM)(p:lF)(bb:List md):rt T1 p w 11 (some (kz 6)) 1 194 (ft w os) (qA iD A.env_1 (lG bb A.env_1) ⟨607,0,615,45⟩ [nX ⟨0,0,0,0⟩])=some (nK,ZM w os,lG bb A.env_1,(⟨662,0,671,140⟩:mi)):=by
 rewrite [show @rt=_ from nb]
 exact congrFun (congrFun (congrFun (congrFun ji w) os) p) bb
theorem gE:(λ(w:jY) (os:lM)=>Fast.tw15667345088766844465 m7 jO w 11 (some (kz 6)) 12 (⟨ql w.params,se [],vy,wi,os⟩:jG) (topStub jO))=λ(w:jY) (os:lM)=>some ((qJ ⟨EA w.params,15,{},#[],{},187,os⟩),(⟨Fast.tw11892475500146522536 m7 (lG (lV jO) A.env_1),(lG (lV jO) A.env_1),(⟨0,0,0,0⟩:mi),[nX (⟨0,0,0,0⟩:mi)]⟩:Thread)):=by kernel_rfl
theorem pre(w:jY)(os:lM):topGo qj jO w 11 (some (kz 6)) 12 (⟨ql w.params,se [],vy,wi,os⟩:jG) (topStub jO)=some ((qJ ⟨EA w.params,15,{},#[],{},187,os⟩),(⟨denote qj (lG (lV jO) A.env_1),(lG (lV jO) A.env_1),(⟨0,0,0,0⟩:mi),[nX (⟨0,0,0,0⟩:mi)]⟩:Thread)):=by
 rewrite [show @topGo=_ from Fast.te15667345088766844465,show @qj=_ from m9,show @denote=_ from Fast.te11892475500146522536]
 exact congrFun (congrFun (gE) w) os
theorem gG:(λ(w:jY) (os:lM)=>Fast.tw14374325043358763698 m7 jO w 11 (some (kz 6)) 1 1 (qJ ⟨EA w.params,15,{},#[],{},187,os⟩) (blockOf (lV jO) A.env_1 (lG (lV jO) A.env_1) (⟨0,0,0,0⟩:mi) [nX (⟨0,0,0,0⟩:mi)]))=λ(w:jY) (os:lM)=>some (nK,(qJ ⟨EA w.params,15,{},#[],{},187,os⟩),(lG (lV jO) A.env_1),(⟨0,0,0,0⟩:mi)):=by kernel_rfl
theorem jy(w:jY)(os:lM):segRun qj jO w 11 (some (kz 6)) 1 1 (qJ ⟨EA w.params,15,{},#[],{},187,os⟩) (blockOf (lV jO) A.env_1 (lG (lV jO) A.env_1) (⟨0,0,0,0⟩:mi) [nX (⟨0,0,0,0⟩:mi)])=some (nK,(qJ ⟨EA w.params,15,{},#[],{},187,os⟩),(lG (lV jO) A.env_1),(⟨0,0,0,0⟩:mi)):=by
 rewrite [show @segRun=_ from Fast.te14374325043358763698,show @qj=_ from m9]
 exact congrFun (congrFun (gG) w) os
theorem gF:(λ(w:jY) (os:lM)=>Fast.tw14082659384304107361 m7 jO w 11 (some (kz 6)) 2 (ZM w os).abs (⟨doneF nK,(lG (lV jO) A.env_1),(⟨662,0,671,140⟩:mi),[nX (⟨0,0,0,0⟩:mi)]⟩:Thread))=λ(w:jY) (os:lM)=>some (ZM w os).abs:=by kernel_rfl
theorem OI(w:jY)(os:lM):topRun qj jO w 11 (some (kz 6)) 2 (ZM w os).abs (⟨doneF nK,(lG (lV jO) A.env_1),(⟨662,0,671,140⟩:mi),[nX (⟨0,0,0,0⟩:mi)]⟩:Thread)=some (ZM w os).abs:=by
 rewrite [show @topRun=_ from Fast.te14082659384304107361,show @qj=_ from m9]
 exact congrFun (congrFun (gF) w) os
theorem Xw:lV jO=L5++(L6++(iF++(iE++(iD++[])))):=by kernel_rfl
theorem VU(w:jY)(os:lM):topRun qj jO w 11 (some (kz 6)) 3112 (⟨ql w.params,se [],vy,wi,os⟩:jG) (topStub jO)=some (ZM w os).abs:=by
 refine go_top (n:=12) (N:=3100) (pre w os) ?_
 refine piece_block (n:=1) (N:=3099) (jy w os) ?_
 rw[Xw]
 refine uQ (n:=1438) (N:=1661) (s':=(S5 w os).abs) (PR▸uP (p5 w os _ _)) ?_
 refine uQ (n:=657) (N:=1004) (s':=(S6 w os).abs) (PR▸uP (p6 w os _ _)) ?_
 refine uQ (n:=401) (N:=603) (s':=(fu w os).abs) (PR▸uP (jn w os _ _)) ?_
 refine uQ (n:=397) (N:=206) (s':=(ft w os).abs) (PR▸uP (jm w os _ _)) ?_
 refine uQ (n:=194) (N:=12) (s':=(ZM w os).abs) (PR▸uP (jl w os _ _)) ?_
 refine piece_nil ?_
 rw[<-Xw]
 exact topRun_mono 10 _ _ _ _ (OI w os)
noncomputable def qv:lF:={jO with main:={jO.main with body:=[stm 50]}}
noncomputable def IT:List jZ:=[jB "_wall",jB "_tuplegetter",jB "Match",jB "_calculate_ratio",jB "SequenceMatcher",jB "_buffer",jB "_truth",jB "_B64",jB "b2a_base64",jB "_NO_SEP",jB "b2a_hex",jB "hexlify",jB "b64encode",jB "b16encode",jB "S_IFMT",jB "S_IFDIR",jB "S_IFCHR",jB "S_IFBLK",jB "S_IFREG",jB "S_IFIFO",jB "S_IFLNK",jB "S_IFSOCK",jB "S_ISUID",jB "S_ISGID",jB "S_ISVTX",jB "S_IRUSR",jB "S_IWUSR",jB "S_IXUSR",jB "S_IRGRP",jB "S_IWGRP",jB "S_IXGRP",jB "S_IROTH",jB "S_IWOTH",jB "S_IXOTH",jB "_filemode_table",jB "filemode",jB "_law_rows",jB "_law_octets",jB "_law_text",jB "_law_base",jB "_law_listing",jB "_law_longest",jB "_law_cut",jB "_law_codes",jB "_law_seen"]
noncomputable def KK (P:jE):Frag:=[(0,rL P),(1,pg P),(2,rK P),(3,OL P),(4,rJ P),(5,rI P),(6,rH P),(7,rG P),(8,rF P),(9,rE P),(10,qV P),(11,RT P),(12,VJ P),(13,RS P),(14,RQ P),(15,VB P),(16,VA P),(17,Vz P),(18,LY P),(19,LX P),(20,LW P),(21,LV P),(22,LU P),(23,LS P),(24,LR P),(25,LQ P),(26,LP P),(27,LN P),(28,LM P),(29,LL P),(30,LK P),(31,LJ P),(32,LH P),(33,LG P),(34,LF P),(35,LD P),(36,LC P),(37,LB P),(38,LA P),(39,Lz P),(40,Ly P),(41,Lx P),(42,Lw P),(43,Lv P),(44,Lu P),(45,Ls P),(46,Lr P),(47,Lq P),(48,Lp P),(49,Lo P),(50,Ln P),(51,Lm P),(52,Ll P),(53,Lj P),(54,Li P),(55,Lh P),(56,Lg P),(57,Lf P),(58,Ld P),(59,Lc P),(60,Lb P),(61,La P),(62,K9 P),(63,K8 P),(64,K7 P),(65,K6 P),(66,K5 P),(67,K4 P),(68,K0 P),(69,KZ P),(70,KY P),(71,KX P),(72,KW P),(73,KV P),(74,KU P),(75,KR P),(76,KQ P),(77,KP P),(78,KO P),(79,KN P),(80,Qh P),(81,Qg P),(82,G0 P),(83,Qf P),(84,Qe P),(85,Qd P),(86,Qc P),(87,Qb P),(88,Qa P),(89,Jt P),(90,P9 P),(91,P8 P),(92,P7 P),(93,P6 P),(94,P5 P),(95,P4 P),(96,P3 P),(97,P1 P),(98,P0 P),(99,PZ P),(100,PY P),(101,PX P),(102,PW P),(103,PV P),(104,PU P),(105,JW P),(106,JV P),(107,JU P),(108,JT P),(109,JS P),(110,JR P),(111,JQ P),(112,JP P),(113,HJ P),(114,JO P),(115,JN P),(116,JM P),(117,JL P),(118,JK P),(119,HI P),(120,HG P),(121,HF P),(122,HE P),(123,HD P),(124,HC P),(125,HB P),(126,HA P),(127,JJ P),(128,JI P),(129,JH P),(130,JG P),(131,JF P),(132,JE P),(133,JD P),(134,JC P),(135,Hz P),(136,JB P),(137,JA P),(138,Jz P),(139,Jy P),(140,Jx P),(141,Jw P),(142,Jv P),(143,Ju P),(144,OE P),(145,OD P),(146,QP P),(147,QO P),(148,VI P),(149,QN P),(150,QM P),(151,QL P),(152,QK P),(153,M8 P),(154,QJ P),(155,QI P),(156,QH P),(157,QG P),(158,QF P),(159,QE P),(160,G1 P),(161,QD P),(162,QC P),(163,QB P),(164,QA P),(165,Qz P),(166,Qy P),(167,EP P),(168,Qx P),(169,Qw P),(170,Qv P),(171,Qu P),(172,Qt P),(173,Qs P),(174,FX P),(175,Qr P),(176,Qq P),(177,M7 P),(178,Qp P),(179,Qo P),(180,Qn P),(181,FW P),(182,Qm P),(183,M6 P),(184,M5 P),(185,M4 P),(186,M3 P),(187,M2 P),(188,Ch P),(189,IA P),(190,M1 P),(191,M0 P),(192,MZ P),(193,MY P),(194,MX P),(195,MW P),(196,BQ P),(197,MV P),(198,MU P),(199,MT P),(200,MS P),(201,MR P),(202,MQ P),(203,Dp P),(204,MP P),(205,MO P),(206,MN P),(207,MM P),(208,ML P),(209,MK P),(210,Eg P),(211,MJ P),(212,MI P),(213,MH P),(214,MG P),(215,ME P),(216,MD P),(217,MC P),(218,MA P),(219,Mz P),(220,My P),(221,Mx P),(222,Mw P),(223,Mv P),(224,Mu P),(225,Mt P),(226,Ms P),(227,Mr P),(228,Mq P),(229,Mp P),(230,Mo P),(231,Mn P),(232,Mm P),(233,Ml P),(234,Mk P),(235,Mj P),(236,Mi P),(237,Mh P),(238,Mg P),(239,Mf P),(240,Me P),(241,Mc P),(242,Mb P),(243,Ma P),(244,L9 P),(245,L8 P),(246,L7 P),(247,Ir P),(248,Iq P),(249,Ip P),(250,Io P),(251,Im P),(252,Gp P),(253,Go P),(254,Il P),(255,NQ P),(256,NP P),(257,NO P),(258,NN P),(259,Ik P),(260,Ij P),(261,NM P),(262,NL P),(263,NK P),(264,NJ P),(265,NI P),(266,NH P),(267,Ii P),(268,Ih P),(269,NG P),(270,Ig P),(271,NF P),(272,TF P),(273,TE P),(274,TD P),(275,TC P),(276,NE P),(277,ND P),(278,NC P),(279,TB P),(280,TA P),(281,Tz P),(282,Ty P),(283,Tx P),(284,NB P),(285,NA P),(286,Tw P),(287,Tu P),(288,Ts P),(289,Tr P),(290,Tq P),(291,Nz P),(292,Ny P),(293,Tp P),(294,To P),(295,Tn P),(296,Tm P),(297,Tl P),(298,Nx P),(299,Nw P),(300,Tk P),(301,Tj P),(302,Ti P),(303,Th P),(304,Tg P),(305,Tf P),(306,Te P),(307,Td P),(308,Tc P),(309,Tb P),(310,Ta P),(311,S9 P),(312,S8 P),(313,S7 P),(314,S1 P),(315,S0 P),(316,SZ P),(317,SY P),(318,SX P),(319,SW P),(320,SV P),(321,SU P),(322,ST P),(323,SS P),(324,SR P),(325,SQ P),(326,SP P),(327,SN P),(328,SM P),(329,SL P),(330,SK P),(331,SJ P),(332,SI P),(333,SH P),(334,SG P),(335,SF P),(336,SE P),(337,SC P),(338,Nv P),(339,Nu P),(340,SB P),(341,SA P),(342,Sz P),(343,Sy P),(344,Sx P),(345,Nt P),(346,Nr P),(347,Sw P),(348,Sv P),(349,Su P),(350,Ss P),(351,Sr P),(352,Nq P),(353,Np P),(354,Sq P),(355,Sp P),(356,So P),(357,No P),(358,Nn P),(359,Sn P),(360,Sm P),(361,Sl P),(362,Nl P),(363,Nk P),(364,Sk P),(365,Sj P),(366,Si P),(367,Sh P),(368,Sg P),(369,Nj P),(370,Ni P),(371,Sf P),(372,Se P),(373,Sd P),(374,Sc P),(375,Sb P),(376,Nh P),(377,Ng P),(378,Sa P),(379,R9 P),(380,R8 P),(381,R7 P),(382,R6 P),(383,Nf P),(384,Nd P),(385,R5 P),(386,R1 P),(387,R0 P),(388,Du P),(389,Ie P),(390,RZ P),(391,RY P),(392,RX P),(393,Nc P),(394,Nb P),(395,RW P),(396,RV P),(397,RU P),(398,Na P),(399,M9 P)]
noncomputable def KA:List jN:=[0,1,2,3,4,5,6,7,8,9,10,11,12,13,14,15,16,17,18,19,20,21,22,23,24,25,26,27,28,29,30,31,32,33,34,35,36,37,38,39,40,41,42,43,44,45,46,47,48,49,50,51,52,53,54,55,56,57,58,59,60,61,62,63,64,65,66,67,68,69,70,71,72,73,74,75,76,77,78,79,80,81,82,83,84,85,86,87,88,89,90,91,92,93,94,95,96,97,98,99,100,101,102,103,104,105,106,107,108,109,110,111,112,113,114,115,116,117,118,119,120,121,122,123,124,125,126,127,128,129,130,131,132,133,134,135,136,137,138,139,140,141,142,143,144,145,146,147,148,149,150,151,152,153,154,155,156,157,158,159,160,161,162,163,164,165,166,167,168,169,170,171,172,173,174,175,176,177,178,179,180,181,182,183,184,185,186,187,188,189,190,191,192,193,194,195,196,197,198,199,200,201,202,203,204,205,206,207,208,209,210,211,212,213,214,215,216,217,218,219,220,221,222,223,224,225,226,227,228,229,230,231,232,233,234,235,236,237,238,239,240,241,242,243,244,245,246,247,248,249,250,251,252,253,254,255,256,257,258,259,260,261,262,263,264,265,266,267,268,269,270,271,272,273,274,275,276,277,278,279,280,281,282,283,284,285,286,287,288,289,290,291,292,293,294,295,296,297,298,299,300,301,302,303,304,305,306,307,308,309,310,311,312,313,314,315,316,317,318,319,320,321,322,323,324,325,326,327,328,329,330,331,332,333,334,335,336,337,338,339,340,341,342,343,344,345,346,347,348,349,350,351,352,353,354,355,356,357,358,359,360,361,362,363,364,365,366,367,368,369,370,371,372,373,374,375,376,377,378,379,380,381,382,383,384,385,386,387,388,389,390,391,392,393,394,395,396,397,398,399]
theorem fz(P:jE):KA=(KK P).map (·.1):=by kernel_rfl
noncomputable def HH:Hook:=kHook KK KA fz
noncomputable abbrev rr:OpenRow:=pq.row
noncomputable def XT (s:jG):Bool:=xlAt qv [] s&&recOk (RowW.records rr.toRowW) s
theorem Z2(w:jY):((ql w.params).isNs mP&&(se []:Array vB).size == 0,(ql w.params).objs.size,(ql w.params).nsMap mP "__annotations__")=(true,11,some (kz 6)):=by kernel_rfl
noncomputable abbrev H1 (P:jE):j6:=absHeap (VT P) 400 {}
noncomputable abbrev WX (w:jY) (os:lM):jG:=⟨H1 w.params,se [],{},841,os⟩
theorem eE(w:jY)(os:lM):(staticsOk (importedModules jO.main.body) (ql w.params) (H1 w.params)&&namesBound jO (H1 w.params)&&gensDone (WX w os)&&laidKept (ql w.params) (H1 w.params))=true:=by kernel_rfl
theorem eA(w:jY)(os:lM):HH.obs (WX w os)=HH.val w:=by kernel_rfl
theorem eB(w:jY)(os:lM):openSeen qv IT (importedModules jO.main.body) XT true (WX w os)=openGood qv IT:=by kernel_rfl
theorem ak:LeftO jO qv IT XT HH.obs HH.val 6290 true:=
 LeftO.of_pieces (H₀:=ql) (H₁:=H1) (gs₀:=se []) (gs₁:=se []) (d₀:=vy) (d₁:={}) (k₀:=wi) (k₁:=841) (m₀:=11) (ann:=some (kz 6)) (M:=3112)
  (boot_open (by kernel_rfl) (by decide) (λs=>by kernel_rfl)) Z2 VU (by decide)
  (λw=>funext λos=>looks_pair (eE w os) (looks_pair (eB w os) (eA w os)))
theorem gR(hc:∀(d:DefRec) (kwd:List (jZ×kJ)),defOf qv rr.name=some (d,kwd)->WalkO qv IT (XL qv []) HH.says rr.toRowW d kwd λf vs=>PySem.call f vs):pq.Holds:=by
 w_on
 refine holds_law (by kernel_rfl) λsaid=>?_
 refine holds_open (q:=qv) (loose:=IT) (Xt:=XT) (XP:=XL qv []) (Yf:=HH.obs) (Ya:=HH.val) (YP:=HH.says) (N:=6290) ak (Hook.of HH) (Hook.keeps HH) (λs e=>xl_of s (so.mp e).1) XL.keeps (by rfl) (by rfl) (by rfl) (λs e=>recFacts_of (so.mp e).2) (by rfl) (by first|assumption|decide +kernel) (by decide +kernel) ⟨rfl,rfl,rfl,rfl,rfl,by decide +kernel⟩ ?hw ?hc
 case hw=>w_witness2
 case hc=>exact hc _ _ rfl
structure Bn (w:jY) (h:j6):Prop where
 k:(KK w.params).In h
theorem Bn.get{w:jY}{h:j6}(K:Bn w h)(a:jN){o:nJ}(e:(KK w.params).lookup a=some o):h.get? a=some o:=K.k a o e
theorem Bn.keeps{w:jY}{h h':j6}(K:Bn w h)(k:∀b o,h.get? b=some o->h'.get? b=some o):Bn w h':=⟨λa o e=>k _ _ (K.k a o e)⟩
noncomputable def Ot (o:nJ):Array nB:=match o.data with | .dict es _=>es|_=>#[]
theorem ey{h:j6}{a:jN}{m:jZ->Option jD}{o:nJ}(n:h.Ns a m)(ho:h.get? a=some o)(x:jZ):m x=nsFind (Ot o) x:=by
 obtain⟨o',es,ep,ho',hd,_,q⟩:=n
 rw[ho] at ho'
 obtain rfl:=kW ho'
 rw[<-q x]
 unfold Ot
 rw[hd]
theorem Bn.mg{w:jY}{h:j6}(K:Bn w h){mg:jZ->Option jD}(n:h.Ns mP mg)(x:jZ){r:Option jD}(e:nsFind (Ot (OL w.params)) x=r):mg x=r:=
 (ey n (K.get 3 (o:=OL w.params) (by kernel_rfl)) x).trans e
noncomputable def er:Data->Option (Array jD)
 | .seq vs _=>some vs
 | _=>none
theorem X7{d:Data}{vs:Array jD}(e:er d=some vs):∃n,d=.seq vs n:=by
 cases d<;>first|exact B6 e|exact⟨_,by rw[si e]⟩
noncomputable def gD (f:jD->Option jQ):List jD->Option (List jQ)
 | []=>some []
 | v::vs=>(f v).bind λd=>(gD f vs).map (d::·)
noncomputable def rd (K:Frag):Nat->jD->Option jQ
 | 0,_=>none
 | n+1,v=>match v with
  | .int i _=>some (.int i)
  | .str x _=>some (.str x)
  | .ref a=>(K.lookup a).bind λo=>(er o.data).bind λvs=>if o.cls=.type "tuple" then(gD (rd K n) vs.toList).map .tuple else none
  | _=>none
theorem Z5{h:j6}{f:jD->Option jQ}(hf:∀v d,f v=some d->Ak h v d [])(vs:List jD):∀ds,gD f vs=some ds->Ae h vs ds []:=by
 induction vs with
 | nil=>intro ds e;rw[<-si e];exact .nil
 | cons v vs ih=>
  intro ds e
  obtain⟨d,a,e⟩:=mV.mp e
  obtain⟨r,b,e⟩:=j8.mp e
  rw[<-e];exact Ae.cons (as:=[]) (bs:=[]) (hf v d a) (ih r b)
theorem et{K:Frag}{h:j6}(k:K.In h)(n:Nat):∀v d,rd K n v=some d->Ak h v d []:=by
 induction n with
 | zero=>exact λ_ _ e=>B6 e
 | succ n ih=>
  intro v d e
  cases v with
  | int i t=>rw[<-si e];exact .int _ _
  | str x t=>rw[<-si e];exact .str _ _
  | ref a=>
   obtain⟨o,hl,e⟩:=mV.mp e
   obtain⟨vs,hs,e⟩:=mV.mp e
   obtain⟨m,hm⟩:=X7 hs
   by_cases c:o.cls=.type "tuple"
   ·rw[if_pos c] at e
    obtain⟨r,b,e⟩:=j8.mp e
    rw[<-e];exact .tuple (k _ _ hl) c hm (Z5 ih _ _ b)
   ·rw[if_neg c] at e;exact B6 e
  | _=>exact B6 e
noncomputable def ez:Data->Option jD
 | .fields vs=>vs[1]?
 | _=>none
theorem Yt{d:Data}{v:jD}(e:ez d=some v):∃vs,d=.fields vs/\vs[1]?=some v:=by
 cases d<;>first|exact B6 e|exact⟨_,rfl,e⟩
theorem OH{w:jY}{h:j6}(K:Bn w h){i a c:Nat}{o oc:nJ}{t:uw}{pm doc dv kdv:jD}(e:(KK w.params).lookup a=some o)(d:o.data=.func (Az i pm (.ref c) doc dv kdv))(e':(KK w.params).lookup c=some oc)(q:ez oc.data=some (.str (PA (stm i)) t)):Av h i a dv kdv:=by
 obtain⟨vs,d',q⟩:=Yt q
 exact⟨⟨o,pm,.ref c,doc,K.get a e,d,⟨c,oc,vs,t,rfl,K.get c e',d',q⟩⟩⟩
theorem hG{w:jY}{h:j6}(K:Bn w h):Av h 41 346 jF jF:=OH K (c:=345) (o:=Nr w.params) (oc:=Nt w.params) (t:=740) (pm:=(kX (jB "law_rt0115_01") 737)) (doc:=jF) (by kernel_rfl) (by kernel_rfl) (by kernel_rfl) (by kernel_rfl)
theorem gZ{w:jY}{h:j6}(K:Bn w h):Av h 42 353 jF jF:=OH K (c:=352) (o:=Np w.params) (oc:=Nq w.params) (t:=754) (pm:=(kX (jB "law_rt0115_01") 737)) (doc:=jF) (by kernel_rfl) (by kernel_rfl) (by kernel_rfl) (by kernel_rfl)
theorem gY{w:jY}{h:j6}(K:Bn w h):Av h 43 358 jF jF:=OH K (c:=357) (o:=Nn w.params) (oc:=No w.params) (t:=763) (pm:=(kX (jB "law_rt0115_01") 737)) (doc:=jF) (by kernel_rfl) (by kernel_rfl) (by kernel_rfl) (by kernel_rfl)
theorem gX{w:jY}{h:j6}(K:Bn w h):Av h 44 363 jF jF:=OH K (c:=362) (o:=Nk w.params) (oc:=Nl w.params) (t:=769) (pm:=(kX (jB "law_rt0115_01") 737)) (doc:=jF) (by kernel_rfl) (by kernel_rfl) (by kernel_rfl) (by kernel_rfl)
theorem gW{w:jY}{h:j6}(K:Bn w h):Av h 45 370 jF jF:=OH K (c:=369) (o:=Ni w.params) (oc:=Nj w.params) (t:=775) (pm:=(kX (jB "law_rt0115_01") 737)) (doc:=jF) (by kernel_rfl) (by kernel_rfl) (by kernel_rfl) (by kernel_rfl)
theorem gV{w:jY}{h:j6}(K:Bn w h):Av h 46 377 jF jF:=OH K (c:=376) (o:=Ng w.params) (oc:=Nh w.params) (t:=787) (pm:=(kX (jB "law_rt0115_01") 737)) (doc:=jF) (by kernel_rfl) (by kernel_rfl) (by kernel_rfl) (by kernel_rfl)
theorem gU{w:jY}{h:j6}(K:Bn w h):Av h 47 384 jF jF:=OH K (c:=383) (o:=Nd w.params) (oc:=Nf w.params) (t:=805) (pm:=(kX (jB "law_rt0115_01") 737)) (doc:=jF) (by kernel_rfl) (by kernel_rfl) (by kernel_rfl) (by kernel_rfl)
theorem gT{w:jY}{h:j6}(K:Bn w h):Av h 48 389 jF jF:=OH K (c:=388) (o:=Ie w.params) (oc:=Du w.params) (t:=824) (pm:=(kX (jB "law_rt0115_01") 737)) (doc:=jF) (by kernel_rfl) (by kernel_rfl) (by kernel_rfl) (by kernel_rfl)
theorem eJ{w:jY}{h:j6}(K:Bn w h):Av h 49 394 jF jF:=OH K (c:=393) (o:=Nb w.params) (oc:=Nc w.params) (t:=830) (pm:=(kX (jB "law_rt0115_01") 737)) (doc:=jF) (by kernel_rfl) (by kernel_rfl) (by kernel_rfl) (by kernel_rfl)
theorem hW{w:jY}{h:j6}(K:Bn w h):Av h 18 299 jF jF:=OH K (c:=298) (o:=Nw w.params) (oc:=Nx w.params) (t:=653) (pm:=(kX (jB "cpy313.stat") 650)) (doc:=(kX (DL (stm 18)) 658)) (by kernel_rfl) (by kernel_rfl) (by kernel_rfl) (by kernel_rfl)
theorem hU{w:jY}{h:j6}(K:Bn w h):Av h 39 339 jF jF:=OH K (c:=338) (o:=Nu w.params) (oc:=Nv w.params) (t:=725) (pm:=(kX (jB "cpy313.stat") 650)) (doc:=(kX (jB "Convert a file's mode to a string of the form '-rwxrwxrwx'.") 735)) (by kernel_rfl) (by kernel_rfl) (by kernel_rfl) (by kernel_rfl)
theorem jt{w:jY}{h:j6}(K:Bn w h):Av h 7 253 jF jF:=OH K (c:=252) (o:=Go w.params) (oc:=Gp w.params) (t:=586) (pm:=(kX (jB "binascii") 583)) (doc:=jF) (by kernel_rfl) (by kernel_rfl) (by kernel_rfl) (by kernel_rfl)
theorem js{w:jY}{h:j6}(K:Bn w h):Av h 8 260 jF jF:=OH K (c:=259) (o:=Ij w.params) (oc:=Ik w.params) (t:=594) (pm:=(kX (jB "binascii") 583)) (doc:=jF) (by kernel_rfl) (by kernel_rfl) (by kernel_rfl) (by kernel_rfl)
theorem iq{w:jY}{h:j6}(K:Bn w h):Av h 10 268 jF (kz 261):=OH K (c:=267) (o:=Ih w.params) (oc:=Ii w.params) (t:=605) (pm:=(kX (jB "binascii") 583)) (doc:=jF) (by kernel_rfl) (by kernel_rfl) (by kernel_rfl) (by kernel_rfl)
theorem ip{w:jY}{h:j6}(K:Bn w h):Av h 12 277 (kz 270) jF:=OH K (c:=276) (o:=ND w.params) (oc:=NE w.params) (t:=620) (pm:=(kX (jB "binascii") 583)) (doc:=jF) (by kernel_rfl) (by kernel_rfl) (by kernel_rfl) (by kernel_rfl)
theorem io{w:jY}{h:j6}(K:Bn w h):Av h 15 285 (kz 278) jF:=OH K (c:=284) (o:=NA w.params) (oc:=NB w.params) (t:=633) (pm:=(kX (jB "cpy313.base64") 630)) (doc:=(kX (DL (stm 15)) 640)) (by kernel_rfl) (by kernel_rfl) (by kernel_rfl) (by kernel_rfl)
theorem ie{w:jY}{h:j6}(K:Bn w h):Av h 16 292 jF jF:=OH K (c:=291) (o:=Ny w.params) (oc:=Nz w.params) (t:=643) (pm:=(kX (jB "cpy313.base64") 630)) (doc:=(kX (DL (stm 16)) 648)) (by kernel_rfl) (by kernel_rfl) (by kernel_rfl) (by kernel_rfl)
theorem gS{w:jY}{h:j6}(K:Bn w h):Av h 50 399 jF jF:=OH K (c:=398) (o:=M9 w.params) (oc:=Na w.params) (t:=836) (pm:=(kX (jB "law_rt0115_01") 737)) (doc:=jF) (by kernel_rfl) (by kernel_rfl) (by kernel_rfl) (by kernel_rfl)
theorem X0(w:jY):rd (KK w.params) 5 (kz 332)=some Gu:=by kernel_rfl
theorem ej{w:jY}{h:j6}{mg mb:jZ->Option jD}(K:Bn w h)(G:Gl mg mb h):Br mg mb h:=
 ⟨G,by
  have e:(RE.all λx=>(nsFind (Ot (OL w.params)) x).isNone)=true:=by kernel_rfl
  intro x hx
  exact K.mg G.g x (Option.isNone_iff_eq_none.mp (kA.mp e x hx))⟩
noncomputable def YD {w:jY} {h:j6} {mg mb:jZ->Option jD} (K:Bn w h) (G:Gl mg mb h):Jq w mg mb h where
 T:=ej K G
 a41:=346
 g41:=K.mg G.g _ (by kernel_rfl)
 f41:=hG K
 a42:=353
 g42:=K.mg G.g _ (by kernel_rfl)
 f42:=gZ K
 a43:=358
 g43:=K.mg G.g _ (by kernel_rfl)
 f43:=gY K
 a44:=363
 g44:=K.mg G.g _ (by kernel_rfl)
 f44:=gX K
 a45:=370
 g45:=K.mg G.g _ (by kernel_rfl)
 f45:=gW K
 a46:=377
 g46:=K.mg G.g _ (by kernel_rfl)
 f46:=gV K
 a47:=384
 g47:=K.mg G.g _ (by kernel_rfl)
 f47:=gU K
 a48:=389
 g48:=K.mg G.g _ (by kernel_rfl)
 f48:=gT K
 a49:=394
 g49:=K.mg G.g _ (by kernel_rfl)
 f49:=eJ K
 a18:=299
 g18:=K.mg G.g _ (by kernel_rfl)
 f18:=hW K
 a39:=339
 g39:=K.mg G.g _ (by kernel_rfl)
 f39:=hU K
 tb:=(kz 332)
 gtb:=K.mg G.g _ (by kernel_rfl)
 rtb:=et K.k 5 _ _ (X0 w)
 a7:=253
 g7:=K.mg G.g _ (by kernel_rfl)
 f7:=jt K
 a8:=260
 g8:=K.mg G.g _ (by kernel_rfl)
 f8:=js K
 t64:=601
 g64:=K.mg G.g _ (by kernel_rfl)
 a10:=268
 g10:=K.mg G.g _ (by kernel_rfl)
 k10:=(kz 261)
 f10:=iq K
 a12:=277
 g12:=K.mg G.g _ (by kernel_rfl)
 d12:=(kz 270)
 aN:=269
 tN:=618
 gN:=K.mg G.g _ (by kernel_rfl)
 e12:=⟨270,Ig w.params,0,rfl,K.get 270 (by kernel_rfl),by kernel_rfl⟩
 f12:=ip K
 a15:=285
 g15:=K.mg G.g _ (by kernel_rfl)
 d15:=(kz 278)
 e15:=⟨278,NC w.params,0,rfl,K.get 278 (by kernel_rfl),by kernel_rfl⟩
 f15:=io K
 a16:=292
 g16:=K.mg G.g _ (by kernel_rfl)
 f16:=ie K
section
set_option tactic.hygienic true
theorem QY{h:j6}:∀{vs:List jD} {ns:List Int},tA vs ns->Ae h vs (ns.map .int) []:=by
 intro vs ns r
 induction r with
 | nil=>exact .nil
 | cons i t x ih=>exact Ae.cons (as:=[]) (bs:=[]) (.int _ _) ih
end
section
set_option tactic.hygienic true
noncomputable abbrev CS:jN:=242
structure IN (h:j6) (I D:jN) (m:jZ->Option jD) (k:Nat):Prop where
 inst:h.get? I=some (instObj CS D)
 dict:∃es n,h.get? D=some (dictOf es n)/\(∀x,getL x es=some (m x))/\es.length<=k
noncomputable def Bm (m:jZ->Option jD) (x:jZ) (v:jD):jZ->Option jD:=λy=>if y=x then some v else m y
theorem IN.at'{h h':j6}{I D:jN}{m:jZ->Option jD}{k:Nat}(i:IN h I D m k)(hI:h'.get? I=h.get? I)(hD:h'.get? D=h.get? D):IN h' I D m k:=
 ⟨hI.trans i.inst,Ao i.dict λes n e r=>(AT es n (hD.trans e) r)⟩
theorem IN.keeps{h h':j6}{I D:jN}{m:jZ->Option jD}{k:Nat}(i:IN h I D m k)(hk:∀b o,h.get? b=some o->h'.get? b=some o):IN h' I D m k:=
 ⟨hk _ _ i.inst,Ao i.dict λes n e r=>(AT es n (hk _ _ e) r)⟩
theorem IN.ne{h:j6}{I D:jN}{m:jZ->Option jD}{k:Nat}(i:IN h I D m k):I≠D:=by
 refine Ao i.dict λes n e _=>?_
 rintro rfl
 have:=i.inst
 rw[e] at this
 cases this
theorem IN.instAt{h:j6}{I D:jN}{m:jZ->Option jD}{k:Nat}(i:IN h I D m k):∃es n,W.InstAt h I (instObj CS D) CS (some (dictOf es n))/\(∀x,getL x es=some (m x))/\es.length<=k/\h.get? D=some (dictOf es n):=by
 refine BD i.dict λes n e r1 r2=>?_
 exact C6 es n ⟨i.inst,rfl,rfl,e⟩ r1 r2 e
theorem U6{es:List nB}{m:jZ->Option jD}{x:jZ}{hsh:Int}{t:uw}{v:jD}(g:∀y,getL y es=some (m y)):∀y,getL y (putL x hsh (.str x t) v es)=some (Bm m x v y):=by
 delta m x hsh t v at es g
 have noref:(es.any (·.refKey))=true->∀y,(es.find? (·.key.isStr y)).isSome=true:=by
  intro h y
  have:=g y
  unfold getL at this
  split at this
  ·rename_i e he;rw[he];rfl
  ·exact B0 (if_pos h) this
 have hf:∀y,((putL x hsh (.str x t) v es).find? (·.key.isStr y)).map (·.val)=if y=x then some v else(es.find? (·.key.isStr y)).map (·.val):=by
  intro y
  clear g noref
  induction es with
  | nil=>
   unfold putL
   rw[mh]
   show Option.map wl (match(x == y) with|true=>some (⟨hsh,.str x t,v⟩:nB)|false=>([]:List nB).find? (·.key.isStr y))=_
   by_cases h:y=x
   ·subst h;simp
   ·have:(x == y)=false:=by rw[beq_eq_false_iff_ne];exact ln h
    rw[this,if_neg h]
  | cons e es ih=>
   unfold putL
   split
   ·rename_i hk
    rw[mh,mh]
    show Option.map wl (match e.key.isStr y with|true=>some (⟨e.hash,e.key,v⟩:nB)|false=>es.find? (·.key.isStr y))=_
    by_cases h:y=x
    ·subst h;rw[hk];simp
    ·have:e.key.isStr y=false:=by
      cases he:e.key<;>simp only[Value.isStr,he] at hk ⊢
      ·rw[beq_iff_eq] at hk;subst hk;rw[beq_eq_false_iff_ne];exact ln h
      all_goals simp_all
     rw[this,if_neg h]
   ·rename_i hk
    rw[mh,mh]
    cases hy:e.key.isStr y with
    | true=>
     have:y≠x:=by rintro rfl;exact hk hy
     simp[this]
    | false=>exact ih
 intro y
 have gy:=g y
 have:=hf y
 unfold getL at gy ⊢
 unfold Bm
 by_cases h:y=x
 ·rw[if_pos h] at this ⊢
  refine Af (j8.mp this) λe he hv=>?_
  rw[he];dsimp only;rw[hv]
 ·rw[if_neg h] at this ⊢
  cases hfy:es.find? (·.key.isStr y) with
  | some e=>
   rw[hfy] at this gy
   refine Af (j8.mp this) λe' he hv=>?_
   rw[he];dsimp only at gy ⊢;rw[hv];exact gy
  | none=>
   rw[hfy] at this gy
   have hn:(putL x hsh (.str x t) v es).find? (·.key.isStr y)=none:=by
    cases q:(putL x hsh (.str x t) v es).find? (·.key.isStr y) with
    | none=>rfl
    | some e=>rw[q] at this;exact XM this
   rw[hn]
   dsimp only at gy ⊢
   have nr:(es.any (·.refKey))=false:=by
    cases q:es.any (·.refKey) with
    | false=>rfl
    | true=>have:=noref q y;rw[hfy] at this;cases this
   have nr2:((putL x hsh (.str x t) v es).any (·.refKey))=false:=by
    clear g noref hf this gy hfy hn
    induction es with
    | nil=>rfl
    | cons e es ih=>
     rw[vd,sk] at nr
     unfold putL
     split
     ·rw[vd,nr.2,Bool.or_false]
      exact nr.1
     ·rw[vd,nr.1,ih nr.2];rfl
   rw[nr] at gy
   rw[nr2]
   exact gy
theorem OY{x:jZ}{hsh:Int}{key v:jD}:∀{es:List nB},(putL x hsh key v es).length<=es.length+1
 | []=>jP _
 | e::r=>by
  unfold putL
  split
  ·show r.length+1<=r.length+1+1;rwa[]
  ·have:=OY (x:=x) (hsh:=hsh) (key:=key) (v:=v) (es:=r)
   show _+1<=r.length+1+1;rwa[this]
section
variable {w:jY} {A:kC} {E:jD->jG->Prop} {s:jG} {I D:jN} {m:jZ->Option jD} {k:Nat}
theorem Jf(P:jE)(x:jZ):plainGet (KK P) CS x=true:=by
 show plainGet (KK P) CS "a"=true
 kernel_rfl
theorem Xl(P:jE):hasDictIn (KK P) CS=true:=by kernel_rfl
theorem aO(P:jE):vx (KK P) (.ref CS) "__setattr__"=some (some (.builtin "object.__setattr__")):=by kernel_rfl
theorem YY(P:jE):plainOver (KK P) CS=true:=by kernel_rfl
theorem Rh{x:jZ}{v:jD}{expr:Bool}{Q:jD->jG->Prop}(K:Bn w s.heap)(i:IN s.heap I D m k)(hv:m x=some v)(q:Q v {s with toks:=s.toks+1})(hh:autoParam (handedIn v=true) aR)
 (ha:autoParam (vx (KK w.params) (.ref CS) x=some none) aK):wpAny (model pw w) A (pW (.ref I) x expr) Q E s:=by
 refine BD i.instAt λes n ia g _=>?_
 exact get_value K.k ia (xb (Jf w.params x)).1 (findObj_own (Xl w.params) ha (by rfl) (by rw[lookIn_dict,g,hv])) hh q
theorem Ep{x:jZ}{f:jN}{pl:vi Bool}{Q:jD×List jD->jG->Prop}(K:Bn w s.heap)(i:IN s.heap I D m k)(hv:m x=none)(q:Q (.ref f,[.ref I]) s)(hf:autoParam (vx (KK w.params) (.ref CS) x=some (some (.ref f))) aK)(ht:autoParam (isFn (KK w.params) (.ref f)=true) aK) :
 wpAny (model pw w) A (nz (.ref I) x pl) Q E s:=by
 refine BD i.instAt λes n ia g _=>?_
 exact method_fn K.k ia (xb (Jf w.params x)).1 (xb (Jf w.params x)).2 hf (beq_iff_eq.mp ht) (by show(lookIn x (dictOf es n)).map _=_;rw[lookIn_dict,g,hv];rfl) q
theorem F7{x:jZ}{v:jD}{Q:Unit->jG->Prop}(K:Bn w s.heap)(i:IN s.heap I D m k)(hk:k<=900)
 (q:∀h',IN h' I D (Bm m x v) (k+1)->ou D s.heap h'->Q () {s with heap:=h',toks:=s.toks+2})(ht:autoParam (wx (KK w.params) CS x=some none) aK):wpAny (model pw w) A (setAttr (.ref I) x v) Q E s:=by
 delta w A E I D m k x v Q at s K i hk q ht
 obtain⟨hh,gg,dd,tt,os⟩:=s
 have X:(KK w.params).In hh:=K.k
 replace i:IN hh I D m k:=i
 refine E8 i.instAt λes n ia g hl hD=>?_
 refine set_plain (s:=⟨hh,gg,dd,tt,os⟩) X ia (aO w.params) ?_
 refine osa_open (s:=⟨hh,gg,dd,tt+1,os⟩) X ia (YY w.params) ht λb=>?_
 refine Af (any_some (Xl w.params)) λcd hc hd'=>?_
 have hx:=i.inst
 refine jC (jL (jC (jC (oB hx (jC ((xc X hc).here ?_))))))
 rw[hd']
 refine jL (a:=some D) (jC (jL (jC ?_)))
 unfold nsSet
 refine jC (jC (wpAny_askSetting (jL (jC (wq (jC (oB hD ?_)))))))
 dsimp only
 have gl:=g x
 unfold getL at gl
 have c:(!es.toArray.any (·.key.isStr x)&&es.toArray.any (·.refKey))=false:=by
  rw[wV,wV]
  split at gl
  ·rename_i en he
   rw[wW.mpr (Ac en (nG he) (List.find?_some he))];rfl
  ·split at gl
   ·exact B6 gl
   ·rename_i z;rw[Bool.not_eq_true] at z;rw[z,Bool.and_false]
 rw[aRefKeyMayBeTheName_at,c]
 have hpn:=putName_dict x (qq w.params x) (.str x (tt+1)) v es n
 have hD':(hh.update D (Obj.putName x (qq w.params x) (.str x (tt+1)) v)).get? D=some (dictOf (putL x (qq w.params x) (.str x (tt+1)) v es) (putN x es n)):=by
  rw[<-hpn];exact mN _ hD (by rw[hpn];rfl)
 refine wpAny_updatePart hD ?_
 have hlen:=OY (x:=x) (hsh:=qq w.params x) (key:=.str x (tt+1)) (v:=v) (es:=es)
 refine jC (wpAny_lookBehind hD' (pastItsLine_dict (by rw[kK,sizeLine_eq];rwa[hk,hl,hlen])) ?_)
 refine jL (q _ ⟨?_,_,_,hD',U6 g,by rwa[hl,hlen]⟩ ?_)
 ·exact(mn _ _ _ _ i.ne).trans i.inst
 ·exact⟨by simp[Heap.update],λb hb=>mn _ _ _ _ hb⟩
end
end
section
set_option backward.match.sparseCases true
noncomputable def A6 (s:jG) (D:jN):jG:={s with heap:=s.heap.update D λo=>{o with data:=.freed}}
theorem Bj{s:jG}{D b:jN}(h:b≠D):(A6 s D).heap.get? b=s.heap.get? b:=mn _ _ _ _ h
theorem A3{s:jG}{D:jN}:(A6 s D).heap.get? D=none:=by
 obtain⟨⟨objs,l⟩,g,d,t,os⟩:=s
 delta A6 Heap.get? Heap.update
 dsimp only
 rw[Array.getElem?_modify,if_pos rfl]
 cases objs[D]?<;>rfl
theorem Er{s:jG}{D b:jN}{o:nJ}(e:(A6 s D).heap.get? b=some o):s.heap.get? b=some o/\b≠D:=by
 by_cases h:b=D
 ·rw[h,A3] at e;exact B6 e
 ·rw[Bj h] at e;exact⟨e,h⟩
noncomputable def CF (prog:lF) (w:jY) (A:kC) (s₀ s:jG) (fd:nY) (a:jN) (ns:List jZ) (O:Ap):Cx:=
 ⟨prog,w,A.deeper (callEnvC fd s.heap.objs.size a),s₀,callEnvC fd s.heap.objs.size a,ns,("",s.heap.objs.size)::O⟩
theorem Ho{prog:lF}{w:jY}{A:kC}{xI:j6}{n:Nat}{a:jN}{o:nJ}{fd:nY}{body:List md}{ps ns:List jZ}{avs:List AV}{args:Args}{vs:List jD}{O:Ap}{s s₀:jG}{R:td->jG->Prop}
 (X:Bf fd body ps ns)(ho:xI.get? a=some o)(hd:o.data=.func fd)(hlim:xI.NoLimit)(hcd:xI.CodeRec fd.code fd.qualname)
 (room:A0 A (n+1))(hk:HK xI s)(own:CJ O s)(xX:∀b o,s₀.heap.get? b=some o->s.heap.get? b=some o)(hO:∀p∈O,∃o,s₀.heap.get? p.2=some o)
 (hbind:uz s fd args (ps.zip vs))(hlen:vs.length=ps.length)(rv:DD O s.heap avs vs)
 (hB:Nm (CF prog w A s₀ s fd a ns O)->A0 (A.deeper (callEnvC fd s.heap.objs.size a)) n->∀s' (E':jD->jG->Prop),St (CF prog w A s₀ s fd a ns O) (("",s.heap.objs.size)::O) (Bi avs (ns.length-ps.length)) s'->kZ s s'->
  wpAny (model prog w) (A.deeper (callEnvC fd s.heap.objs.size a)) (execs body (callEnvC fd s.heap.objs.size a)) (λf s''=>R (.ok (.ret (match f with | .ret v=>v|_=>.none))) s'') E' s') :
 codeAny (model prog w) A (.call (.ref a) args) R s:=by
 delta prog w A xI n a o fd body ps ns avs args vs O s s₀ R at X ho hd hlim hcd room hk own xX hO hbind hlen rv hB
 have hkind:∀x∈ps.zip vs,fd.scope.names.lookup x.1=some .local\/(fd.scope.names.lookup x.1=some .cell/\((cellsFrom (s.heap.objs.size+1) fd.scope.names []).lookup x.1).isSome=true):=by
  intro x hx
  rcases X.kinds x.1 (xl hx).1 with h|⟨h,h'⟩
  ·exact .inl h
  ·exact .inr ⟨h,h' _⟩
 obtain⟨rest,hns⟩:=X.pre
 have hps:(ps.zip vs).map (·.1)=ps:=wS (tF hlen.symm)
 have hpsn:((ps.zip vs).map (·.1)).Nodup:=by
  rw[hps]
  have:=X.nodup
  rw[hns] at this
  exact(tB.mp this).1
 refine(wJ (by have:=room.depth;rwa[this]) (hk _ _ ho) hd X.co X.gen X.body (E7 hcd λc oc vs tq h1 h2 h3=>(Ug c oc vs tq h1 (hk _ _ h2) h3)) (hbind _ _ _ _ ?_))
 rw[X.clo]
 refine q8 X.kind hkind λenv he s' x=>?_
 subst he
 refine⟨(hlim.keeps hk).keeps x.toInCall.keep,codeAny_func ?_⟩
 have hfresh:s.heap.get? s.heap.objs.size=none:=gn λo' e=>absurd (kt e) (lr _)
 have hfresh0:s₀.heap.get? s.heap.objs.size=none:=gn λo' e=>B0 hfresh (xX _ _ e)
 have hnO:¬O.has s.heap.objs.size:=by
  rintro⟨p,hp,e⟩
  obtain⟨o',ho'⟩:=own.live p hp
  rw[e] at ho'
  exact absurd (kt ho') (lr _)
 have N:Nm (CF prog w A s₀ s fd a ns O):=by
  refine⟨X.nodup,X.kind,x.apart,X.cells _,?_⟩
  intro b zz1;refine Af zz1 λp hp e=>?_
  rcases jI.mp hp with rfl|hp
  ·exact .inl e.symm
  ·exact .inr (e▸hO p hp)
 have t:St (CF prog w A s₀ s fd a ns O) (("",s.heap.objs.size)::O) (Bi avs (ns.length-ps.length)) s':=by
  refine⟨λb o e=>x.toInCall.keep b o (xX b o e),(Ac _ x.toInCall.ns λi y b e e'=>?_),λy c e=>?_,?_,λp hp=>?_,λ_ h=>h,(Ac _ (.head _) rfl),hfresh0⟩
  ·have e:ns[i]?=some y:=e
   unfold Bi at e'
   have hi:i<avs.length:=by
    by_cases hi:i<avs.length
    ·exact hi
    ·rw[uK (by simpa using om hi)] at e'
     obtain⟨_,e'⟩:=jM.mp e'
     simp at e'
   rw[pb (by simpa using hi),kc] at e'
   refine Af (j8.mp e') λav hav e'=>?_
   (replace e':=si e';subst e')
   refine Af (TH rv hav) λv hv rv1=>?_
   have hip:i<ps.length:=by rw[<-hlen,<-rv.length] at *;exact(jM.mp hv).1
   have hy:ps[i]?=some y:=by rw[hns,pb hip] at e;exact e
   have hz:(ps.zip vs)[i]?=some (y,v):=by rw[uX];exact⟨hy,hv⟩
   refine Ac v ?_ ?_
   ·rcases X.kinds y (kx hy) with hl|⟨hl,hc⟩
    ·exact .inl ⟨hl,PI hpsn hz hl⟩
    ·obtain⟨c,hc⟩:=uH.mp (hc (s.heap.objs.size+1))
     refine .inr ⟨hl,c,hc,?_⟩
     have:=x.cell y c hc
     rwa[PJ hpsn hz hl] at this
   ·show VR _ _ av v
    cases av with
    | py d=>
     refine Af rv1 λas r q=>?_
     refine Ac as (Ak.keeps x.toInCall.keep r) ?_
     rintro b hb ⟨p,hp,e⟩
     rcases jI.mp hp with rfl|hp
     ·obtain⟨o',ho'⟩:=BA r b hb
      have e:s.heap.objs.size=b:=e
      rw[<-e,hfresh] at ho';exact B6 ho'
     ·exact q b hb (Ac p hp e)
    | «by» b=>exact rv1
    | raw u=>exact rv1
    | st R ok=>
     refine Af rv1 λas r q=>?_
     refine Ac as (ok.keeps r x.toInCall.keep) ?_
     rintro b hb ⟨p,hp,e⟩
     rcases jI.mp hp with rfl|hp
     ·obtain⟨o',ho'⟩:=ok.live r b hb
      have e:s.heap.objs.size=b:=e
      rw[<-e,hfresh] at ho';exact B6 ho'
     ·exact q b hb (Ac p hp e)
    | obj P=>
     refine C9 rv1 λa1 o e1 g p q z=>?_
     refine C5 a1 o e1 (x.toInCall.keep _ _ g) p ?_ z
     rintro⟨p,hp,e⟩
     rcases jI.mp hp with rfl|hp
     ·have e:s.heap.objs.size=a1:=e
      rw[<-e,hfresh] at g;exact B6 g
     ·exact q (Ac p hp e)
  ·exact Ag _ (x.cell y c e)
  ·rw[kO,mf]
   refine⟨λhm=>?_,own.nodup⟩
   obtain⟨p,hp,e⟩:=kq.mp hm
   exact hnO (Ac p hp e)
  ·rcases jI.mp hp with rfl|hp
   ·refine CG x.toInCall.ns λo' _ _ e _=>?_;exact Ag o' e
   ·obtain⟨o',e⟩:=own.live p hp;exact Ag o' (x.toInCall.keep _ _ e)
 have kk:kZ s s':=by
  refine B1 x.toInCall.same λh1 tk1 zz1=>?_;obtain rfl:=zz1
  exact AT h1 tk1 rfl x.toInCall.keep
 exact hB N room.deeper s' _ t kk
theorem Jc{prog:lF}{w:jY}{A:kC}{xI:j6}{n:Nat}{a:jN}{o:nJ}{fd:nY}{body:List md}{ps ns:List jZ}{avs:List AV}{args:Args}{vs:List jD}{O:Ap}{s s₀:jG}{Q:jD->jG->Prop}{E:jD->jG->Prop}
 (X:Bf fd body ps ns)(ho:xI.get? a=some o)(hd:o.data=.func fd)(hlim:xI.NoLimit)(hcd:xI.CodeRec fd.code fd.qualname)
 (room:A0 A (n+1))(hk:HK xI s)(own:CJ O s)(xX:∀b o,s₀.heap.get? b=some o->s.heap.get? b=some o)(hO:∀p∈O,∃o,s₀.heap.get? p.2=some o)
 (hbind:uz s fd args (ps.zip vs))(hlen:vs.length=ps.length)(rv:DD O s.heap avs vs)
 (hB:Nm (CF prog w A s₀ s fd a ns O)->A0 (A.deeper (callEnvC fd s.heap.objs.size a)) n->∀s' (E':jD->jG->Prop),St (CF prog w A s₀ s fd a ns O) (("",s.heap.objs.size)::O) (Bi avs (ns.length-ps.length)) s'->kZ s s'->
  wpAny (model prog w) (A.deeper (callEnvC fd s.heap.objs.size a)) (execs body (callEnvC fd s.heap.objs.size a)) (λf s''=>Q (match f with | .ret v=>v|_=>.none) s'') E' s') :
 wpAny (model prog w) A (call (.ref a) args.pos args.kw) Q E s:=
 mU (Ho X ho hd hlim hcd room hk own xX hO hbind hlen rv hB)
theorem Dw{h:j6}{D:jN}{o:nJ}{es:Array nB}{n:Nat}(e:h.get? D=some o)(hd:o.data=.dict es n):∀{v:jD} {d:jQ} {as:List jN},Ak h v d as->D∉as:=by
 intro v d as r
 refine Ak.rec (motive_1:=λv d as _=>D∉as) (motive_2:=λvs ds as _=>D∉as) ?_ ?_ ?_ ?_ ?_ ?_ ?_ ?_ ?_ r
 ·exact λh=>nomatch h
 ·exact λ_ h=>nomatch h
 ·exact λ_ _ h=>nomatch h
 ·exact λ_ _ h=>nomatch h
 ·intro a o' vs n xs as e1 e2 e3 _ ih hm
  rcases jI.mp hm with rfl|hm
  ·(replace e1:=CQ e e1;subst e1);rw[hd] at e3;exact jU e3
  ·exact ih hm
 ·intro a o' vs n xs as e1 e2 e3 _ ih hm;exact ih hm
 ·intro a o' vs n xs as e1 e2 e3 _ ih hm
  rcases jI.mp hm with rfl|hm
  ·(replace e1:=CQ e e1;subst e1);rw[hd] at e3;exact jU e3
  ·exact ih hm
 ·exact λh=>nomatch h
 ·intro v vs d ds as bs _ _ ih1 ih2 hm
  exact(jW.mp hm).elim ih1 ih2
theorem EC{h:j6}{D:jN}{o:nJ}{es:Array nB}{n:Nat}(e:h.get? D=some o)(hd:o.data=.dict es n){v:List jD}{d:List jQ}{as:List jN}(r:Ae h v d as):D∉as:=
 Ae.ind (P:=λ_ _ as=>D∉as) (λh=>nomatch h) (λr _ ih h=>(jW.mp h).elim (Dw e hd r) ih) r
noncomputable def C8:Option Bd->Bool
 | some (.val (.obj _))=>false
 | some (.val (.st _ _))=>false
 | _=>true
theorem Ek{Γ:Cx}{σ:AX}{O:Ap}{s:jG}{D:jN}{h':j6}{tk:Nat}{o o':nJ}{es:Array nB}{n:Nat}(N:Nm Γ)(t:St Γ O σ s)(hD0:Γ.s₀.heap.get? D=none)(hDL:D≠Γ.env.locals)(hDO:¬O.has D)(e:s.heap.get? D=some o)(hd:o.data=.dict es n)
 (fl:σ.all C8=true)(k:∀b o,b≠D->s.heap.get? b=some o->h'.get? b=some o)(hl:h'.get? D=some o'):St Γ O σ {s with heap:=h',toks:=tk}:=by
 delta Γ σ O s D at h' tk o o' es n N t hD0 hDL hDO e hd fl k hl
 obtain⟨kp,⟨m,nn,vs⟩,cl,nd,lv,sb,fr,fs⟩:=t
 have hget:∀b,b≠D->∀o,s.heap.get? b=some o->h'.get? b=some o:=λb hb o e=>k b o hb e
 have hT:∀o,s.heap.get? D=some o->¬(o.cls=.type "tuple"/\∃vs n,o.data=.seq vs n):=by
  intro o' e' zz1;refine Cg zz1 λ_ zr0=>B1 zr0 λvs q hd'=>?_
  (replace e':=CQ e e';subst e');rw[hd] at hd';exact jU hd'
 have hcell:∀{c:jN} {u:Option jD},s.heap.IsCell c u->h'.IsCell c u:=λ{c u} ⟨o',ho,d⟩=>Ac o' (hget c (λz=>by rw[z,e] at ho;(replace ho:=si ho;subst ho);rw[hd] at d;exact jU d) _ ho) d
 have hnL:∀{a:jN} {vs:Array jD},s.heap.PlainList a vs->a≠D:=by
  rintro a vs ⟨q,e'⟩ rfl
  (replace e':=CQ e e';subst e');cases hd
 refine⟨λb o e'=>hget b (λz=>by rw[z,hD0] at e';exact B6 e') o (kp b o e'),(Ac m (nn.at' λo e'=>hget _ (ln hDL) o e') λi x b e1 e2=>?_),λx c e'=>?_,nd,λp hp=>?_,sb,fr,fs⟩
 ·refine Af (vs i x b e1 e2) λv hh r=>?_
  refine Ac v (hh.imp id λ⟨k1,c,hc,ic⟩=>⟨k1,c,hc,hcell ic⟩) ?_
  have hb:C8 (some b)=true:=kA.mp fl _ (kx e2)
  cases b with
  | val w=>
   cases w with
   | py d=>refine Af r λas r q=>?_;exact Ac as (Bo hget hT r (Dw e hd r)) q
   | «by» b=>exact r
   | raw u=>exact r
   | obj P=>cases hb
   | st R ok=>cases hb
  | own ds=>
   refine CR r λa' ws as e1 m1 l1 r1 q1 f1=>?_
   exact CA a' ws as e1 m1 (AR l1 λq e'=>(Ag q (hget _ (hnL l1) _ e'))) (Aq hget hT r1 (EC e hd r1)) q1 f1
  | «at» a' P=>
   refine CU r λe1 m1 zz1 f1=>?_;obtain⟨o1,g,p⟩:=zz1
   exact⟨e1,m1,(Ac o1 (hget _ (λz=>hDO (z▸(Ac _ m1 rfl))) _ g) p),f1⟩
 ·obtain⟨u,ic⟩:=cl x c e'
  exact Ag u (hcell ic)
 ·obtain⟨o1,e1⟩:=lv p hp
  by_cases hp':p.2=D
  ·exact Ag o' (hp'▸hl)
  ·exact Ag o1 (hget _ hp' _ e1)
theorem Ej{Γ:Cx}{σ:AX}{O:Ap}{s:jG}{D:jN}{h':j6}{tk:Nat}{o o':nJ}{es:Array nB}{n:Nat}(N:Nm Γ)(t:St Γ O σ s)(hD0:Γ.s₀.heap.get? D=none)(hDL:D≠Γ.env.locals)(hDO:¬O.has D)(e:s.heap.get? D=some o)(hd:o.data=.dict es n)
 (fl:σ.all C8=true)(k:ou D s.heap h')(hl:h'.get? D=some o'):St Γ O σ {s with heap:=h',toks:=tk}:=
 Ek N t hD0 hDL hDO e hd fl (λb o hb e=>(k.2 b hb).trans e) hl
theorem Wm{Γ:Cx}{σ:AX}{st:md}{ss:List md}{P:AX->Prop}{O:Ap}{s:jG}{Q:uT->jG->Prop}{E:jD->jG->Prop}(t:St Γ O σ s)(h:X1 Γ σ st λaf σ'=>af=.next/\P σ')
 (q:∀O' σ' s',Fx Γ O s O' s'->St Γ O' σ' s'->P σ'->wpAny (model Γ.prog Γ.w) Γ.A (execs ss Γ.env) Q E s'):wpAny (model Γ.prog Γ.w) Γ.A (execs (st::ss) Γ.env) Q E s:=by
 refine km (h O s _ E t λO' fl af σ' s' a t' f p=>?_)
 obtain⟨rfl,p⟩:=p
 obtain rfl:fl=.next:=f
 exact q O' σ' s' a t' p
theorem Fb{Γ:Cx}{σ:AX}{k:Nat}{pos:mi}:Ev Γ σ (.Constant .none k pos) (.raw .none):=by
 intro O s Q E t q
 exact xv (q _ _ t (Keeps.re s) rfl)
end
section
set_option backward.match.sparseCases true
noncomputable def Bq (o:nJ):nY:=match o.data with | .func f=>f|_=>default
theorem Bf.of'{fd:nY}{st:md}{ps ns:List jZ}(hb:fd.body=.stmts (Am st))(hc:fd.closure=[])(hs:fd.scope=Cm st)(h:Uk st ps ns=true):Bf fd (Am st) ps ns:=by
 delta st ps ns at fd hb hc hs h
 obtain⟨fn,fq,fp,fb,fs,fg,fc,fdf,fkd,fdoc,fpm,fan,fcd,fct,fbl⟩:=fd
 dsimp only at hb hc hs
 subst hb hc hs
 simp only[Uk,kL,oO,decide_eq_true_eq] at h
 obtain⟨⟨⟨⟨⟨⟨⟨h1,h2⟩,h3⟩,h4⟩,h5⟩,h6⟩,h7⟩,h8⟩:=h
 refine⟨rfl,rfl,λx hx=>?_,h2,h3,beq_iff_eq.mp h4,?_,h6,λhm=>?_,λL=>?_⟩
 ·have:=kA.mp h1 x hx
  simp only[rP,kL,beq_iff_eq] at this
  rcases this with h|⟨h,h'⟩
  ·exact .inl h
  ·refine .inr ⟨h,λL=>?_⟩
   rw[D0,BM (L':=0) (acc':=[]) rfl];exact h'
 ·obtain⟨r,hr⟩:=uJ.mp h5
  exact Ag r hr.symm
 ·have:ns.contains ("":jZ)=true:=rT.mpr hm
  rw[this] at h7;exact lN h7
 ·rw[BM (L':=0) (acc':=[]) rfl];exact h8
theorem NS{O:Ap}{h:j6}:∀(vs:List jD),DD O h (vs.map .raw) vs
 | []=>trivial
 | v::vs=>⟨rfl,NS vs⟩
theorem Aw{s s':jG}(k:kZ s s'):∀b o,s.heap.get? b=some o->s'.heap.get? b=some o:=by obtain⟨h',tk,rfl,k⟩:=k;exact k
theorem Bn.up{w:jY}{xI:j6}{s:jG}(K:Bn w xI)(hk:HK xI s):Bn w s.heap:=K.keeps hk
section
variable {w:jY} {A:kC} {s:jG} {O:Ap} {I D:jN} {m:jZ->Option jD} {k:Nat} {xI:j6}
theorem Db{n:Nat}{f:jN}{o:nJ}{fd:nY}{st:md}{ps ns:List jZ}{vs:List jD}{Q:jD->jG->Prop}{E:jD->jG->Prop}(K:Bn w xI)(lim:xI.NoLimit)(room:A0 A (n+1))(hk:HK xI s)(own:CJ O s)(hDO:¬O.has D)
 (ho:(KK w.params).lookup f=some o)(hd:o.data=.func fd)(X:Bf fd (Am st) ps ns)(hcd:codeIn (KK w.params) fd.code fd.qualname=true){args:Args}(hbind:uz s fd args (ps.zip vs))(hlen:vs.length=ps.length)
 (hB:Nm (CF pw w A (A6 s D) s fd f ns O)->A0 (A.deeper (callEnvC fd s.heap.objs.size f)) n->∀s' (E':jD->jG->Prop),St (CF pw w A (A6 s D) s fd f ns O) (("",s.heap.objs.size)::O) (Bi (vs.map .raw) (ns.length-ps.length)) s'->kZ s s'->
  wpAny (model pw w) (A.deeper (callEnvC fd s.heap.objs.size f)) (execs (Am st) (callEnvC fd s.heap.objs.size f)) (λf s''=>Q (match f with | .ret v=>v|_=>.none) s'') E' s') :
 wpAny (model pw w) A (call (.ref f) args.pos args.kw) Q E s:=
 Jc (s₀:=A6 s D) X (K.get f ho) hd lim (tX K.k hcd) room hk own (λb o e=>(Er e).1)
  (λp hp=>AR (own.live p hp) λo e=>(Ag o ((Bj λz=>hDO (Ac p hp z)).trans e))) hbind hlen (NS vs) hB
theorem O9{n:Nat}{f:jN}{o:nJ}{fd:nY}{st:md}{ps ns:List jZ}{vs:List jD}{R:td->jG->Prop}(K:Bn w xI)(lim:xI.NoLimit)(room:A0 A (n+1))(hk:HK xI s)(own:CJ O s)(hDO:¬O.has D)
 (ho:(KK w.params).lookup f=some o)(hd:o.data=.func fd)(X:Bf fd (Am st) ps ns)(hcd:codeIn (KK w.params) fd.code fd.qualname=true){args:Args}(hbind:uz s fd args (ps.zip vs))(hlen:vs.length=ps.length)
 (hB:Nm (CF pw w A (A6 s D) s fd f ns O)->A0 (A.deeper (callEnvC fd s.heap.objs.size f)) n->∀s' (E':jD->jG->Prop),St (CF pw w A (A6 s D) s fd f ns O) (("",s.heap.objs.size)::O) (Bi (vs.map .raw) (ns.length-ps.length)) s'->kZ s s'->
  wpAny (model pw w) (A.deeper (callEnvC fd s.heap.objs.size f)) (execs (Am st) (callEnvC fd s.heap.objs.size f)) (λf s''=>R (.ok (.ret (match f with | .ret v=>v|_=>.none))) s'') E' s') :
 codeAny (model pw w) A (.call (.ref f) args) R s:=
 Ho (s₀:=A6 s D) X (K.get f ho) hd lim (tX K.k hcd) room hk own (λb o e=>(Er e).1)
  (λp hp=>AR (own.live p hp) λo e=>(Ag o ((Bj λz=>hDO (Ac p hp z)).trans e))) hbind hlen (NS vs) hB
variable {Γ:Cx} {σ:AX}
theorem DJ{x y:jZ}{sp pos:mi}{v:jD}{Q:jD->jG->Prop}{E:jD->jG->Prop}(hw:Γ.prog=pw)(t:St Γ O σ s)(K:Bn Γ.w s.heap)(i:IN s.heap I D m k)(hs:Ev Γ σ (.Name y sp) (.raw (.ref I)))(hv:m x=some v)
 (q:∀s',kZ s s'->St Γ O σ s'->Q v s')(hh:autoParam (handedIn v=true) aR)(ha:autoParam (vx (KK Γ.w.params) (.ref CS) x=some none) aK)
 (he:autoParam (eval ((ky y sp).Attribute x pos) Γ.env=(do
  let o<-eval (ky y sp) Γ.env
  mS pos.atName
  let r<-mq [o] (pW o x true)
  letTemporaryGo (ky y sp) o r
  pure r)) aR):wpAny (model Γ.prog Γ.w) Γ.A (eval (.Attribute (.Name y sp) x pos) Γ.env) Q E s:=by
 refine sH (hs O s _ E t λu s1 t1 k1 r1=>?_) he
 obtain rfl:u=.ref I:=r1
 rw[hw]
 refine Rh (K.keeps (Aw k1)) (i.keeps (Aw k1)) hv (q _ (Keeps.tr k1 Keeps.rfl') (t1.keeps λ_ _ e=>e)) hh ha
theorem Gw{x y:jZ}{sp ap pos:mi}{e:kJ}{v:jD}{ss:List md}{Q:uT->jG->Prop}{E:jD->jG->Prop}(hw:Γ.prog=pw)(N:Nm Γ)(t:St Γ O σ s)(K:Bn Γ.w s.heap)(i:IN s.heap I D m k)(hk:k<=900)(hD0:Γ.s₀.heap.get? D=none)(hDL:D≠Γ.env.locals)(hDO:¬O.has D)(fl:σ.all C8=true)
 (hs:Ev Γ σ (.Name y sp) (.raw (.ref I)))(hv:Ev Γ σ e (.raw v))(q:∀s',AI s s'->(∀b o,b≠D->s.heap.get? b=some o->s'.heap.get? b=some o)->St Γ O σ s'->IN s'.heap I D (Bm m x v) (k+1)->wpAny (model Γ.prog Γ.w) Γ.A (execs ss Γ.env) Q E s')
 (ht:autoParam (wx (KK Γ.w.params) CS x=some none) aK)(hsw:autoParam (qX e (some ((ky y sp).Attribute x ap)) pos.line Γ.env=pure false) aR) :
 wpAny (model Γ.prog Γ.w) Γ.A (execs (.Assign [.Attribute (.Name y sp) x ap] e pos::ss) Γ.env) Q E s:=by
 refine km (uF (hv O s _ E t λu s1 t1 k1 r1=>hs O s1 _ E t1 λu2 s2 t2 k2 r2=>?_) hsw)
 obtain rfl:u=v:=r1
 obtain rfl:u2=.ref I:=r2
 have kk:=Keeps.tr k1 k2
 have i2:=i.keeps (Aw kk)
 refine Ao i2.dict λes n eD _=>?_
 rw[hw]
 refine F7 (K.keeps (Aw kk)) i2 hk (λh' i' hsb=>?_) ht
 rw[<-hw]
 refine Ao i'.dict λes' n' eD' _=>?_
 have t3:=Ej (tk:=s2.toks+2) N t2 hD0 hDL hDO eD rfl fl hsb eD'
 refine q _ ?_ (λb o hb e=>(hsb.2 b hb).trans ((Aw kk) b o e)) t3 i'
 refine Ao kk λh2 tk2 zz1 _=>?_;clear kk;obtain rfl:=zz1
 exact AS _ _ rfl
theorem Dn{M:tP}{A:kC}{env:xA}{o:kJ}{attr:jZ}{pos:mi}{v:jD}{s:jG}{Q:Unit->jG->Prop}{E:jD->jG->Prop}(h:wpAny M A (eval o env) (λov xJ=>wpAny M A (setAttr ov attr v) Q E xJ) E s) :
 wpAny M A (assign (.Attribute o attr pos) env v) Q E s:=λΓ p hΓ=>by
 simp only[assign_Attribute,Sem.wp_bind',Sem.wp_holding,wz,Sem.wp_release,Sem.wp_pure']
 exact v5 M Γ _ (λov ya xJ xM=>xM Γ _ hΓ) (λ_ _ _ h'=>h') _ _ (h Γ _ hΓ)
theorem IK{x x' y:jZ}{sp ap sp' ap' pos:mi}{e:kJ}{v:jD}{ss:List md}{Q:uT->jG->Prop}{E:jD->jG->Prop}(hw:Γ.prog=pw)(N:Nm Γ)(t:St Γ O σ s)(K:Bn Γ.w s.heap)(hK:∀s':jG,(∀b o,Γ.s₀.heap.get? b=some o->s'.heap.get? b=some o)->Bn Γ.w s'.heap)(i:IN s.heap I D m k)(hk:k<=899)(hD0:Γ.s₀.heap.get? D=none)(hDL:D≠Γ.env.locals)(hDO:¬O.has D)(fl:σ.all C8=true)
 (hs:Ev Γ σ (.Name y sp) (.raw (.ref I)))(hs':Ev Γ σ (.Name y sp') (.raw (.ref I)))(hv:Ev Γ σ e (.raw v))(q:∀s',AI s s'->St Γ O σ s'->IN s'.heap I D (Bm (Bm m x v) x' v) (k+2)->wpAny (model Γ.prog Γ.w) Γ.A (execs ss Γ.env) Q E s')
 (ht:autoParam (wx (KK Γ.w.params) CS x=some none) aK)(ht':autoParam (wx (KK Γ.w.params) CS x'=some none) aK)
 (h2:autoParam (qM (λx=>x.snd) (assignEach [(ky y sp).Attribute x ap,(ky y sp').Attribute x' ap'] Γ.env)=[assign ((ky y sp).Attribute x ap) Γ.env,assign ((ky y sp').Attribute x' ap') Γ.env]) aR)
 (hsw:autoParam (nv [(ky y sp).Attribute x ap,(ky y sp').Attribute x' ap'] e Γ.env=pure none) aR) :
 wpAny (model Γ.prog Γ.w) Γ.A (execs (.Assign [.Attribute (.Name y sp) x ap,.Attribute (.Name y sp') x' ap'] e pos::ss) Γ.env) Q E s:=by
 refine km (oC (hv O s _ E t λu s1 t1 k1 r1=>?_) h2 hsw)
 obtain rfl:u=v:=r1
 refine Dn (hs O s1 _ E t1 λu2 s2 t2 k2 r2=>?_)
 obtain rfl:u2=.ref I:=r2
 have kk:=Keeps.tr k1 k2
 have i2:=i.keeps (Aw kk)
 refine Ao i2.dict λes n eD _=>?_
 rw[hw]
 refine F7 (K.keeps (Aw kk)) i2 (by rwa[hk]) (λh' i' hsb=>?_) ht
 rw[<-hw]
 refine Ao i'.dict λes' n' eD' _=>?_
 have t3:=Ej (tk:=s2.toks+2) N t2 hD0 hDL hDO eD rfl fl hsb eD'
 refine Dn (hs' O _ _ E t3 λu4 s4 t4 k4 r4=>?_)
 obtain rfl:u4=.ref I:=r4
 have i4:=i'.keeps (Aw k4)
 refine Ao i4.dict λes4 n4 eD4 _=>?_
 rw[hw]
 refine F7 (hK s4 t4.keep) i4 (by rwa[hk]) (λh5 i5 hsb5=>?_) ht'
 rw[<-hw]
 refine Ao i5.dict λes5 n5 eD5 _=>?_
 have t5:=Ej (tk:=s4.toks+2) N t4 hD0 hDL hDO eD4 rfl fl hsb5 eD5
 refine q _ ?_ t5 i5
 refine Ao kk λh2 tk2 zz1 _=>?_;clear kk;obtain rfl:=zz1
 refine Ao k4 λh6 tk6 zz1 _=>?_;clear k4;obtain rfl:=zz1
 exact AS _ _ rfl
end
end
theorem Es{xI:j6}{s:jG}{D:jN}(hk:HK xI s)(hD:xI.get? D=none):HK xI (A6 s D):=λb o e=>(Bj λz=>by rw[z,hD] at e;exact B6 e).trans (hk b o e)
theorem Fp{Γ:Cx}{σ:AX}{O:Ap}{s:jG}{x:jZ}{k:Nat}{p pos:mi}{ss:List md}{Q:uT->jG->Prop}{E:jD->jG->Prop}(t:St Γ O σ s)(q:∀s',kZ s s'->St Γ O σ s'->wpAny (model Γ.prog Γ.w) Γ.A (execs ss Γ.env) Q E s')(hi:autoParam (interactive Γ.env=false) aR) :
 wpAny (model Γ.prog Γ.w) Γ.A (execs (.Expr (.Constant (.str x) k p) pos::ss) Γ.env) Q E s:=
 km (nI (tW (q _ Keeps.rfl' (t.keeps λ_ _ e=>e))) hi)
theorem Bw{Γ:Cx}{σ:AX}{O:Ap}{s:jG}{x:jZ}{pos:mi}{v:jD}{Q:jD->jG->Prop}{E:jD->jG->Prop}(i:Nat)(t:St Γ O σ s)(q:Q v s)(hi:autoParam (Γ.ns[i]?=some x) aR)(h:autoParam (σ[i]?=some (some (.val (.raw v)))) aR)(hk:autoParam (Γ.env.scope.kind=.function) aR)(hd:autoParam ((x == ("__debug__":jZ))=false) aK) :
 wpAny (model Γ.prog Γ.w) Γ.A (eval (.Name x pos) Γ.env) Q E s:=by
 refine Af t.ex λm n vs=>?_
 refine Af (vs i x _ hi h) λu hd' r=>?_
 obtain rfl:u=v:=r
 rcases hd' with⟨k1,e⟩|⟨k1,c,hc,e⟩
 ·exact nH (mE hk k1 n e q) hd
 ·exact nH (oq hk k1 hc e q) hd
theorem Bc{s s':jG}(k:kZ s s'):AI s s':=by refine Ao k λh' tk zz1 _=>?_;clear k;obtain rfl:=zz1;exact AS _ _ rfl
structure Zc (w:jY) (I D:jN) (O:Ap) (s:jG):Prop where
 dl:D≠s.heap.objs.size
 dO:¬Ap.has (("",s.heap.objs.size)::O) D
theorem Zc.of{w:jY}{I D:jN}{O:Ap}{s:jG}{m:jZ->Option jD}{k:Nat}(i:IN s.heap I D m k)(hDO:¬O.has D):Zc w I D O s:=by
 have hDL:D≠s.heap.objs.size:=by
  rintro rfl
  refine Ao i.dict λes n e _=>?_
  exact absurd (kt e) (lr _)
 refine⟨hDL,?_⟩
 rintro⟨p,hp,e⟩
 rcases jI.mp hp with rfl|hp
 ·exact hDL e.symm
 ·exact hDO (Ac p hp e)
theorem d9(P:jE):Bf (Bq (FX P)) (Am (BB 5 3)) ["self","a"] ["self","a"]:=.of' rfl rfl rfl (by decide +kernel)
theorem Y8(P:jE)(u v:jD):l6 (Bq (FX P)) ⟨[u,v],[]⟩=pure [((jB "self"),u),((jB "a"),v)]:=by rfl
theorem Wb{w:jY}{A:kC}{s:jG}{O:Ap}{I D:jN}{m:jZ->Option jD}{k:Nat}{xI:j6}{la:jN}{Q:jD->jG->Prop}{E:jD->jG->Prop}(K:Bn w xI)(lim:xI.NoLimit)(room:A0 A 1)(hk:HK xI s)(own:CJ O s)(hDO:¬O.has D)(hD0:xI.get? D=none)
 (i:IN s.heap I D m k)(hkk:k<=800)(ha:m "a"=some .none)
 (q:∀s',AI s s'->(∀b o,b≠D->s.heap.get? b=some o->s'.heap.get? b=some o)->IN s'.heap I D (Bm (Bm (Bm m "a" (.ref la)) "matching_blocks" .none) "opcodes" .none) (k+3)->Q .none s') :
 wpAny (model pw w) A (call (.ref 174) [.ref I,.ref la]) Q E s:=by
 delta w A s O I D m k xI la Q E at K lim room hk own hDO hD0 i hkk ha q
 refine Db (args:=⟨[.ref I,.ref la],[]⟩) (vs:=[.ref I,.ref la]) (fd:=Bq (FX w.params)) (st:=BB 5 3) K lim room hk own hDO (f:=174) (o:=FX w.params) (by kernel_rfl) (by kernel_rfl) (d9 _) (by kernel_rfl) (.of_eq (Y8 _ _ _)) rfl (λN rm s1 E' t k1=>?_)
 have MF:=Zc.of (w:=w) i hDO
 have hK:∀s':jG,(∀b o,(A6 s D).heap.get? b=some o->s'.heap.get? b=some o)->Bn w s'.heap:=λs' h=>K.keeps λb o e=>h b o (Es hk hD0 b o e)
 refine Fp t λs2 k2 t2=>?_
 have k12:=Keeps.tr k1 k2
 have i2:=i.keeps (Aw k12)
 refine km (ur (qg (Bw 1 t2 (DJ rfl t2 (hK s2 t2.keep) i2 (Aa 0) ha λs4 k4 t4=>?_)) (by rfl)))
 refine vu (by rfl) (nR ?_)
 refine l5 ?_
 have i4:=i2.keeps (Aw k4)
 refine Gw rfl N t4 (hK s4 t4.keep) i4 (by rwa[hkk]) A3 MF.dl MF.dO rfl (Aa 0) (Aa 1) λs5 a5 kk5 t5 i5=>?_
 refine IK rfl N t5 (hK s5 t5.keep) hK i5 (by rwa[hkk]) A3 MF.dl MF.dO rfl (Aa 0) (Aa 0) Fb λs6 a6 t6 i6=>?_
 refine l5 (q s6 ?_ (λb o hb e=>t6.keep b o ((Bj hb).trans e)) i6)
 exact(Bc k12).tr ((Bc k4).tr (a5.tr a6))
theorem ZQ{Γ:Cx}{σ:AX}{pos:mi}(N:Nm Γ){tgt iter:kJ}{body:List md}{ds:List jQ}(hI:RO Γ σ tgt iter ds)(Inv:Nat->AX->Prop)(J:Nat->Ap->j6->Prop)
 (hJ:∀i O h h',(∀b o,h.get? b=some o->(∀f,o.data≠.fields f)->b≠Γ.env.locals->h'.get? b=some o)->J i O h->J i O h')
 {O:Ap}{s:jG}{Q:uT->jG->Prop}{E:jD->jG->Prop}(t:St Γ O σ s)(h0:Inv 0 σ)(j0:J 0 O s.heap)
 (step:∀i d σ1,ds[i]?=some d->Inv i σ1->∃σ2,As Γ σ1 tgt d σ2/\∀(O1:Ap) (s1:jG) (Q:uT->jG->Prop) (E:jD->jG->Prop),St Γ O1 σ2 s1->J i O1 s1.heap->
  (∀O2 σ3 s2,Fx Γ O1 s1 O2 s2->St Γ O2 σ3 s2->Inv (i+1) σ3->J (i+1) O2 s2.heap->Q .next s2)->wpAny (model Γ.prog Γ.w) Γ.A (execs body Γ.env) Q E s1)
 (q:∀O' σ' s',Fx Γ O s O' s'->St Γ O' σ' s'->Inv ds.length σ'->J ds.length O' s'.heap->Q .next s')
 (hs:autoParam (∀x,foldedSetIterable iter Γ.env x=pure x) aI):wpAny (model Γ.prog Γ.w) Γ.A (exec (.For tgt iter body [] pos) Γ.env) Q E s:=by
 delta Γ σ pos tgt iter body ds Inv J O s Q E at N hI hJ t h0 j0 step q hs
 refine wpAny_For (hI O s _ E t λI fp wr R Md T s1 vs es as k1 W hT _ _ hfp hwr hfd rs qs rd=>?_) hs
 have t1:=t.of_keeps k1
 have h0':∀b∈wr,Γ.s₀.heap.get? b=none:=λb hb=>gn λo e=>by have:=t.keep _ _ e;exact B0 (hwr b hb) this
 refine xw
  (λk s'=>∃i O1 σ1,k=ds.length+1-i/\i<=ds.length/\St Γ O1 σ1 s'/\Inv i σ1/\J i O1 s'.heap/\Fx Γ O s O1 s'/\T i s'.heap/\Ae s'.heap vs es as/\(∀b∈as,¬O1.has b)/\(∀b∈fp,Do Γ O1 s'.heap b)) ?_ (ds.length+1)
  (aJ 0 O σ rfl (kh _) t1 h0 (hJ _ _ _ _ (λb o e _ _=>Aw k1 b o e) j0) (Fx.of_keeps k1) hT rs qs hfp)
 rintro k s' ⟨i,O1,σ1,rfl,hi,t',hInv,hj,f',hT',rs',qs',hO1⟩
 have hwrs:∀b o,s.heap.get? b=some o->b∉wr:=λb o e hb=>by exact B0 (hwr b hb) e
 by_cases hlt:i<ds.length
 ·refine W.item i _ _ _ hlt hT' λv xK xO hMd xN=>?_
  refine W.go i v _ _ _ hMd λxM hR xS xR=>?_
  dsimp only
  have hk:∀b o,b∉wr->s'.heap.get? b=some o->xM.get? b=some o:=λb o hb e=>xR b o hb (xN b o hb e)
  have hfd':=hfd i _ hT'
  have t2:St Γ O1 σ1 {s' with heap:=xM,toks:=xO}:=t'.butFields hk hfd' (λb hb=>(hO1 b (W.sub b hb)).rec (hfd' b hb)) h0'
  have rs2:Ae xM vs es as:=Bt hk hfd' rs'
  have j2:J i O1 xM:=hJ _ _ _ _ (λb o e nf _=>hk b o (λhb=>by refine Ao (hfd' b hb) λo' f e' d'=>?_;(replace e':=CQ e e';subst e');exact nf _ d') e) hj
  obtain⟨d,hd⟩:∃d,ds[i]?=some d:=Ag _ (jR hlt)
  refine Af (rd i v xM d hd hR rs2) λbs rv qv=>?_
  refine Af (step i d σ1 hd hInv) λσ2 ha hb=>?_
  have hlive:∀b o,s'.heap.get? b=some o->∃o',xM.get? b=some o':=λb o e=>by
   by_cases hb:b∈wr
   ·refine Ao (hfd _ _ xS b hb) λo' fs e' _=>?_
    exact Ag o' e'
   ·exact Ag o (hk b o hb e)
  have f2:Fx Γ O s O1 {s' with heap:=xM,toks:=xO}:=
   ⟨f'.alike.tr (AS _ _ rfl),f'.own,λb o e=>AR (f'.dom b o e) λo' e'=>hlive b o' e',λb o e h1 h2=>hk b o (hwrs b o e) (f'.kept b o e h1 h2),λb o e h1=>hk b o (hwrs b o e) (f'.tups b o e h1)⟩
  have hO2:∀b∈fp,Do Γ O1 xM b:=λb hb=>(hO1 b hb).but hk hfd' λb hb=>Ao (hfd _ _ xS b hb) λo _ e _=>(Ag o e)
  refine ha O1 _ v _ _ t2 (Ac bs rv λb hb=>qs' b (qv b hb)) λs3 a3 u3 t3=>?_
  have f3:=Fx.ofBut t2 a3 u3 t3
  have j3:J i O1 s3.heap:=hJ _ _ _ _ (λb o e _ hl=>u3 b o hl e) j2
  refine hb O1 s3 _ _ t3 j3 λO2 σ3 s4 f4 t4 hI' j4=>?_
  have f24:=f3.tr f4
  have own4:∀b,(∃o,xM.get? b=some o)->¬O1.has b->¬O2.has b:=λb ⟨o,e⟩ h1 h2=>by
   rcases f24.own b h2 with z|z
   ·exact h1 z
   ·have z:xM.get? b=none:=z
    exact B0 z e
  show ∃m,_/\_
  refine⟨ds.length+1-(i+1),by rwa[hlt],i+1,O2,σ3,rfl,hlt,t4,hI',j4,f2.tr f24,?_,DP t2 N.names f24 rs2 qs',λb hb=>?_,λb hb=>(Do.fx (s:={s' with heap:=xM,toks:=xO}) (hO2 b hb) f24).1⟩
  ·exact W.frame _ _ _ xS λb hb o e=>(Do.fx (s:={s' with heap:=xM,toks:=xO}) (hO2 b hb) f24).2 o e
  ·exact own4 b (Bv rs2 b hb) (qs' b hb)
 ·have hin:i=ds.length:=by rwa[hi,hlt]
  subst hin
  refine W.done _ _ _ hT' λxK xO xN=>?_
  have hfd':=hfd _ _ hT'
  have t2:St Γ O1 σ1 {s' with heap:=xK,toks:=xO}:=t'.butFields xN hfd' (λb hb=>(hO1 b (W.sub b hb)).rec (hfd' b hb)) h0'
  have f2:Fx Γ O s O1 {s' with heap:=xK,toks:=xO}:=
   ⟨f'.alike.tr (AS _ _ rfl),f'.own,λb o e=>AR (f'.dom b o e) λo' e'=>(Ag o' (xN b o' (hwrs b o e) e')),λb o e h1 h2=>xN b o (hwrs b o e) (f'.kept b o e h1 h2),λb o e h1=>xN b o (hwrs b o e) (f'.tups b o e h1)⟩
  refine l5 (q O1 σ1 _ f2 t2 hInv (hJ _ _ _ _ (λb o e nf _=>xN b o (λhb=>by refine Ao (hfd' b hb) λo' f e' d'=>?_;(replace e':=CQ e e';subst e');exact nf _ d') e) hj))
noncomputable def Oj (bs:List jZ) (i:Nat) (x:jZ):List Int:=((kf i).filter λk=>decide (bs[k]?=some x)).map vq
theorem GI(bs:List jZ)(i:Nat)(x:jZ):Oj bs (i+1) x=Oj bs i x++(if bs[i]?=some x then [(i:Int)] else []):=by
 unfold Oj
 rw[rM,sT,kB]
 congr 1
 by_cases h:bs[i]?=some x
 ·simp[h]
 ·simp[h]
theorem U3{vs:List jD}{ns:List Int}(h:tA vs ns)(i:Int)(t:uw):tA (vs++[.int i t]) (ns++[i]):=by
 induction h with
 | nil=>exact .cons _ _ .nil
 | cons n t' _ ih=>exact .cons _ _ ih
theorem Ci{K:Type}[DecidableEq K]{kvs:List (K×jD)}{k:K}{v:jD}(h:valueAt kvs k=none)(y:K):valueAt (stored kvs k v) y=if y=k then some v else valueAt kvs y:=by
 rw[stored_absent h]
 unfold valueAt at h ⊢
 rw[List.find?_append]
 by_cases hy:y=k
 ·subst hy
  rw[if_pos rfl]
  have:kvs.find? (λkv=>decide (kv.1=y))=none:=by simpa using h
  rw[this]
  simp
 ·rw[if_neg hy]
  cases q:kvs.find? (λkv=>decide (kv.1=y)) with
  | some a=>simp
  | none=>
   have:(k=y)=False:=by simp[ln hy]
   simp[this]
structure BJ (w:jY) (h:j6) (dj:jN) (bs:List jZ) (i:Nat) (Lk:jN->Prop):Prop where
 map:∃kvs,h.DictOf (mQ pw w) dj kvs/\kvs.length<=i/\(∀x,Oj bs i x=[]->valueAt kvs x=none)/\(∀x,Oj bs i x≠[]->∃l vs,valueAt kvs x=some (.ref l)/\Lk l/\h.PlainList l vs/\tA vs.toList (Oj bs i x))/\∀x y l,valueAt kvs x=some (.ref l)->valueAt kvs y=some (.ref l)->x=y
theorem BJ.keeps{w:jY}{h h':j6}{dj:jN}{bs:List jZ}{i:Nat}{Lk Lk':jN->Prop}(b:BJ w h dj bs i Lk)(hl:∀a,Lk a->Lk' a)(hd:∀o es n,h.get? dj=some o->o.data=.dict es n->h'.get? dj=some o)(k:∀l vs,Lk l->h.PlainList l vs->h'.PlainList l vs):BJ w h' dj bs i Lk':=by
 delta w h h' dj bs i Lk Lk' at b hl hd k
 obtain⟨⟨kvs,⟨o,es,ep,e,r1,r2,r3⟩,le,f0,f1,f2⟩⟩:=b
 refine⟨(Xi kvs (FP o es ep (hd _ _ _ e r2) r1 r2 r3) le f0 (λx hx=>?_) f2)⟩
 ·refine E8 (f1 x hx) λl vs e1 lk pl ia=>?_
  exact C6 l vs e1 (hl _ lk) (k _ _ lk pl) ia
section
variable {w:jY} {A:kC} {E:jD->jG->Prop} {s:jG} {dj l0:jN} {bs:List jZ} {i:Nat} {Lk:jN->Prop}
theorem Jp{x:jZ}{t:uw}{kvs:List (jZ×jD)}{Q:jD->jG->Prop}(hm:s.heap.DictOf (mQ pw w) dj kvs)(hn:kvs.length<=100000)(lo:(dj == sysModules)=false)
 (h1:∀v,valueAt kvs x=some v->Q v {s with toks:=s.toks+1})(h2:valueAt kvs x=none->∀h',h'.DictOf (mQ pw w) dj (stored kvs x (.ref l0))->ou dj s.heap h'->Q (.ref l0) {s with heap:=h',toks:=s.toks+1}) :
 wpAny (model pw w) A (call (.builtin "dict.setdefault") [.ref dj,.str x t,.ref l0]) Q E s:=
 call_meetsIn tC hm.typeIs PySem.F.entry_dict_setdefault (PySem.F.args_dict_setdefault_3 _ _ _) (kt_meets_setdefault (mQ pw w) dj (q9 pw w x t) lo _)
  (H5 kvs hm (by rw[sizeLine_eq];rwa[hn]) h1 h2)
end
noncomputable def FI:List jZ:=["self","b","b2j","i","elt","indices","junk","isjunk","popular","n","ntest","idxs"]
theorem d6(P:jE):Bf (Bq (Ch P)) (Am (BB 5 5)) ["self"] FI:=.of' rfl rfl rfl (by decide +kernel)
theorem Y6(P:jE)(u:jD):l6 (Bq (Ch P)) ⟨[u],[]⟩=pure [((jB "self"),u)]:=by rfl
theorem Rp(ds:List jQ):(Ce ds).length=ds.length:=by simp[Ce]
theorem EX{Γ:Cx}{σ:AX}{O:Ap}{s:jG}{x:jZ}{pos:mi}{a:AV}{Q:jD->jG->Prop}{E:jD->jG->Prop}(i:Nat)(t:St Γ O σ s)(q:∀v,VR O s.heap a v->Q v s)(hi:autoParam (Γ.ns[i]?=some x) aR)(h:autoParam (σ[i]?=some (some (.val a))) aR)(hk:autoParam (Γ.env.scope.kind=.function) aR)(hd:autoParam ((x == ("__debug__":jZ))=false) aK) :
 wpAny (model Γ.prog Γ.w) Γ.A (eval (.Name x pos) Γ.env) Q E s:=by
 refine Af t.ex λm n vs=>?_
 refine Af (vs i x _ hi h) λu hd' r=>?_
 rcases hd' with⟨k1,e⟩|⟨k1,c,hc,e⟩
 ·exact nH (mE hk k1 n e (q u r)) hd
 ·exact nH (oq hk k1 hc e (q u r)) hd
noncomputable abbrev Cc (led:Bool):nJ:={cls:=.type "set",data:=.set #[] 0 (wj 0 0 led)}
theorem IL{Γ:Cx}{σ:AX}{O:Ap}{s:jG}{I D:jN}{m:jZ->Option jD}{k:Nat}{x y yy:jZ}{fp cp sp ap np pos:mi}{ss:List md}{Q:uT->jG->Prop}{E:jD->jG->Prop}(j:Nat)(hw:Γ.prog=pw)(N:Nm Γ)(t:St Γ O σ s)(hK:∀s':jG,(∀b o,Γ.s₀.heap.get? b=some o->s'.heap.get? b=some o)->Bn Γ.w s'.heap)(i:IN s.heap I D m k)(hk:k<=900)(hD0:Γ.s₀.heap.get? D=none)(hDL:D≠Γ.env.locals)(hIL:I≠Γ.env.locals)(hDO:¬O.has D)(fl:σ.all C8=true)
 (hf:Ev Γ σ (.Name (jB "set") fp) (.raw (.type "set")))(hs:∀(O:Ap) (s:jG) (Q:jD->jG->Prop) (E:jD->jG->Prop),St Γ O σ s->Q (.ref I) s->wpAny (model Γ.prog Γ.w) Γ.A (eval (.Name y sp) Γ.env) Q E s)
 (q:∀s' sj led,AI s s'->(∀b o,b≠D->b≠Γ.env.locals->s.heap.get? b=some o->s'.heap.get? b=some o)->St Γ O (σ.set j (some (.val (.raw (.ref sj))))) s'->IN s'.heap I D (Bm m x (.ref sj)) (k+1)->s.heap.get? sj=none->s'.heap.get? sj=some (Cc led)->sj≠D->sj≠Γ.env.locals->wpAny (model Γ.prog Γ.w) Γ.A (execs ss Γ.env) Q E s')
 (hi:autoParam (Γ.ns[j]?=some yy) aR)(hlt:autoParam (j<σ.length) aN)(hkd:autoParam (Γ.env.kindOf yy=some .local) aR)
 (ht:autoParam (wx (KK Γ.w.params) CS x=some none) aK)
 (he:autoParam (eval (.Call (.Name (jB "set") fp) [] [] cp) Γ.env=(do kY cp (<-eval (.Name (jB "set") fp) Γ.env) [] (backTo cp (starEach [] Γ.env)) (ma cp (ly [] Γ.env)))) aR)
 (h2:autoParam (qM (λx=>x.snd) (assignEach [(ky y sp).Attribute x ap,ky yy np] Γ.env)=[assign ((ky y sp).Attribute x ap) Γ.env,assign (ky yy np) Γ.env]) aR)
 (hsw:autoParam (nv [(ky y sp).Attribute x ap,ky yy np] (.Call (.Name (jB "set") fp) [] [] cp) Γ.env=pure none) aR) :
 wpAny (model Γ.prog Γ.w) Γ.A (execs (.Assign [.Attribute (.Name y sp) x ap,.Name yy np] (.Call (.Name (jB "set") fp) [] [] cp) pos::ss) Γ.env) Q E s:=by
 refine km (oC (qS (hf O s _ E t λv s1 t1 k1 rv=>?_) he) h2 hsw)
 obtain rfl:v=.type "set":=rv
 refine o8 (by rfl) (evalArgs_nil3 (call_set_0 λled=>?_))
 have kp:kZ s1 {s1 with heap:=s1.heap.push (Cc led)}:=Keeps.push _ _
 have t2:=t1.of_keeps kp
 have kk:=Keeps.tr k1 kp
 have i2:=i.keeps (Aw kk)
 have e1:s1.heap.get? s1.heap.objs.size=none:=Bk (jP _)
 have es:(s1.heap.push (Cc led)).get? s1.heap.objs.size=some (Cc led):=jS _ rfl
 have sN:∀b o,s1.heap.get? b=some o->b≠s1.heap.objs.size:=λb o e z=>by rw[z,e1] at e;exact B6 e
 refine Ao i2.dict λes2 n2 eD2 _=>?_
 have i1:=i.keeps (Aw k1)
 have hsD:s1.heap.objs.size≠D:=λz=>by refine Ao i1.dict λ_ _ e _=>?_;exact sN _ _ e z.symm
 have hsL:s1.heap.objs.size≠Γ.env.locals:=λz=>by refine Af t1.ex λmm zz1 _=>?_;obtain⟨o,_,_,e,_⟩:=zz1;exact sN _ _ e z.symm
 refine Dn (hs O _ _ E t2 ?_)
 rw[hw]
 refine F7 (hK _ t2.keep) i2 hk (λh5 i5 sb5=>?_) ht
 rw[<-hw]
 refine Ao i5.dict λes5 n5 eD5 _=>?_
 have t5:=Ej (tk:=s1.toks+2) N t2 hD0 hDL hDO eD2 rfl fl sb5 eD5
 refine lK (AG N (i:=j) (b:=.val (.raw (.ref s1.heap.objs.size))) hi hlt hkd t5 rfl λs6 a6 u6 t6=>?_)
 have e6:∀b o,b≠D->b≠Γ.env.locals->(s1.heap.push (Cc led)).get? b=some o->s6.heap.get? b=some o:=λb o h1 h2 e=>u6 b o h2 ((sb5.2 b h1).trans e)
 refine q s6 _ led ?_ (λb o h1 h2 e=>e6 b o h1 h2 (Aw kk b o e)) t6 (i5.at' ((u6 I _ hIL i5.inst).trans i5.inst.symm) ((u6 D _ hDL eD5).trans eD5.symm)) ?_ (e6 _ _ hsD hsL es) hsD hsL
 ·refine Ao k1 λh tk zz1 _=>?_;clear k1;obtain rfl:=zz1
  exact AI.tr (AS _ _ rfl) a6
 ·exact gn λo e=>by have:=Aw k1 _ _ e;exact B0 e1 this
theorem Vr{w:jY}{A:kC}{s:jG}{O:Ap}{I D:jN}{m:jZ->Option jD}{k:Nat}{xI:j6}{lb:jN}{bs:List jZ}{as:List jN}{mg mb:jZ->Option jD}{Q:jD->jG->Prop}{E:jD->jG->Prop}(K:Bn w xI)(T:Br mg mb xI)(room:A0 A 2)(hk:HK xI s)(own:CJ O s)(hDO:¬O.has D)(hD0:xI.get? D=none)
 (i:IN s.heap I D m k)(hkk:k<=700)(hb:m "b"=some (.ref lb))(hj:m "isjunk"=some .none)(ha:m "autojunk"=some (.bool true))(rb:Ak s.heap (.ref lb) (.list (bs.map .str)) as)(hbO:∀a∈as,¬O.has a)(hlen:bs.length<=100)
 (q:∀(s':jG) (dj sj sp:jN) (led:Bool),AI s s'->(∀b o,b≠D->s.heap.get? b=some o->s'.heap.get? b=some o)->IN s'.heap I D (Bm (Bm (Bm m "b2j" (.ref dj)) "bjunk" (.ref sj)) "bpopular" (.ref sp)) (k+3)->
  BJ w s'.heap dj bs bs.length (λl=>s.heap.get? l=none)->s.heap.get? dj=none->s.heap.get? sj=none->s'.heap.get? sj=some {cls:=.type "set",data:=.set #[] 0 (wj 0 0 led)}->Q .none s') :
 wpAny (model pw w) A (call (.ref 188) [.ref I]) Q E s:=by
 delta w A s O I D m k xI lb bs as mg mb Q E at K T room hk own hDO hD0 i hkk hb hj ha rb hbO hlen q
 refine Db (args:=⟨[.ref I],[]⟩) (vs:=[.ref I]) (fd:=Bq (Ch w.params)) (st:=BB 5 5) K T.gl.nolimit room hk own hDO (f:=188) (o:=Ch w.params) (by kernel_rfl) (by kernel_rfl) (d6 _) (by kernel_rfl) (.of_eq (Y6 _ _)) rfl (λN rm s1 E' t k1=>?_)
 have MF:=Zc.of (w:=w) i hDO
 have hk':HK xI (A6 s D):=Es hk hD0
 have hK:∀s':jG,(∀b o,(A6 s D).heap.get? b=some o->s'.heap.get? b=some o)->Bn w s'.heap:=λs' h=>K.keeps λb o e=>h b o (hk' b o e)
 have i1:=i.keeps (Aw k1)
 refine km (l9 (DJ rfl t (hK s1 t.keep) i1 (Aa 0) hb λs2 k2 t2=>?_) (by rfl))
 have k12:=Keeps.tr k1 k2
 have i2:=i.keeps (Aw k12)
 have rb2:VR (("",s.heap.objs.size)::O) s2.heap (.py (.list (bs.map .str))) (.ref lb):=by
  refine Ac as (Ak.keeps (Aw k12) rb) ?_
  rintro a haa ⟨p,hp,e⟩
  rcases jI.mp hp with rfl|hp
  ·obtain⟨o,ho⟩:=BA rb a haa
   have e:s.heap.objs.size=a:=e
   rw[<-e] at ho
   exact absurd (kt ho) (lr _)
  ·exact hbO a haa (Ac p hp e)
 refine AG N (i:=1) (b:=.val (.py (.list (bs.map .str)))) rfl (jV rfl) rfl t2 rb2 λs3 a3 u3 t3=>?_
 have i3:IN s3.heap I D m k:=by
  refine Ao i2.dict λes n e _=>?_
  refine i2.at' ?_ ?_
  ·exact(u3 I _ (λz=>by have:=kt i.inst;rw[z] at this;exact absurd this (lr _)) i2.inst).trans i2.inst.symm
  ·exact(u3 D _ MF.dl e).trans e.symm
 refine km (oC (wpAny_Dict_empty ?_) (by rfl) (by rfl))
 have hz3:s.heap.objs.size<s3.heap.objs.size:=by
  refine Af t3.ex λm3 zz1 _=>?_;obtain⟨o,_,_,e,_⟩:=zz1
  exact kt e
 generalize hdj:s3.heap.objs.size=dj at *
 have e3:s3.heap.get? dj=none:=by rw[<-hdj];exact Bk (jP _)
 have k3:kZ s3 {s3 with heap:=s3.heap.push {cls:=.type "dict",data:=.dict #[]}}:=Keeps.push _ _
 have emap:(s3.heap.push {cls:=.type "dict",data:=.dict #[]}).DictOf (mQ pw w) dj []:=by rw[<-hdj];exact sL _
 have eobj:(s3.heap.push {cls:=.type "dict",data:=.dict #[]}).get? dj=some {cls:=.type "dict",data:=.dict #[]}:=by rw[<-hdj];exact jS _ rfl
 have t4:=ET (x:="") t3 k3 e3 (Ag _ eobj)
 have i4:=i3.keeps (Aw k3)
 have sAl:AI s {s3 with heap:=s3.heap.push {cls:=.type "dict",data:=.dict #[]}}:=(Bc k12).tr (a3.tr (Bc k3))
 have eD3:s3.heap.get? D≠none:=by refine Ao i3.dict λes n e _=>?_;rw[e];exact λh=>nomatch h
 have hDdj:D≠dj:=λz=>eD3 (z▸e3)
 have hIdj:I≠dj:=λz=>by have:=i3.inst;rw[z,e3] at this;exact B6 this
 have hIL:I≠s.heap.objs.size:=λz=>by have:=kt i.inst;rw[z] at this;exact absurd this (lr _)
 have hdO4:¬Ap.has (("",dj)::("",s.heap.objs.size)::O) D:=by
  intro zz1;refine Af zz1 λp hp e=>?_
  rcases jI.mp hp with rfl|hp
  ·exact hDdj e.symm
  ·exact MF.dO (Ac p hp e)
 refine Dn (Bw 0 t4 ?_)
 refine F7 (hK _ t4.keep) i4 (by rwa[hkk]) (λh5 i5 sb5=>?_)
 refine Ao i4.dict λes4 n4 eD4 _=>?_
 refine Ao i5.dict λes5 n5 eD5 _=>?_
 have t5:=Ej (tk:=s3.toks+2) N t4 A3 MF.dl hdO4 eD4 rfl rfl sb5 eD5
 refine lK (AG N (i:=2) (b:=.val (.raw (.ref dj))) rfl (jV rfl) rfl t5 rfl λs6 a6a u6 t6=>?_)
 have hdjL:dj≠s.heap.objs.size:=λz=>by rw[z] at hz3;exact absurd hz3 (lr _)
 have i6:IN s6.heap I D (Bm m "b2j" (.ref dj)) (k+1):=i5.at' ((u6 I _ hIL i5.inst).trans i5.inst.symm) ((u6 D _ MF.dl eD5).trans eD5.symm)
 have edj6:∀o,(s3.heap.push {cls:=.type "dict",data:=.dict #[]}).get? dj=some o->s6.heap.get? dj=some o:=λo e=>u6 dj _ hdjL ((sb5.2 dj (ln hDdj)).trans e)
 have hsj:s.heap.get? dj=none:=by
  cases e:s.heap.get? dj with
  | none=>rfl
  | some o=>
   by_cases h:dj=s.heap.objs.size
   ·exact absurd h hdjL
   ·have:=u3 dj _ h (Aw k12 _ _ e);exact B0 e3 this
 have hh:(A.deeper (callEnvC (Bq (Ch w.params)) s.heap.objs.size 188)).handled=none:=rm.handled
 refine km (ZQ N (Vd N hh (A1 T hk') (Aa 1)) (λi σ=>∃x y z,(C8 x&&C8 y&&C8 z)=true/\σ=[some (.val (.raw (.ref I))),some (.val (.py (.list (bs.map .str)))),some (.val (.raw (.ref dj))),x,y,z,none,none,none,none,none,none])
  (λi O' h=>IN h I D (Bm m "b2j" (.ref dj)) (k+1)/\¬Ap.has O' D/\((jB "",dj):jZ×jN)∈O'/\BJ w h dj bs i (λl=>((jB "",l):jZ×jN)∈O'/\l≠dj/\l≠s.heap.objs.size/\(A6 s D).heap.get? l=none)) ?_ t6 (KC none none none rfl rfl) ⟨i6,hdO4,.head _,?_⟩ ?_ ?_)
 ·intro j O' h h' hkeep zz1;refine CU zz1 λij c1 c2 bj=>?_
  refine⟨?_,c1,c2,bj.keeps (λ_ h=>h) (λo es n e hd=>hkeep _ _ e (λf z=>by rw[hd] at z;exact jU z) hdjL) λl vs lk ⟨n,e⟩=>Ag n (hkeep _ _ e (λf z=>by cases z) lk.2.2.1)⟩
  refine Ao ij.dict λes n e _=>?_
  exact ij.at' ((hkeep _ _ ij.inst (λf z=>by cases z) hIL).trans ij.inst.symm) ((hkeep _ _ e (λf z=>by cases z) MF.dl).trans e.symm)
 ·refine⟨(Xi [] ?_ (kh _) (λ_ _=>rfl) (λx hx=>absurd rfl hx) λx y l h=>nomatch h)⟩
  refine CG emap λo es ep e r=>?_
  exact KC o es ep (edj6 _ e) r
 ·intro j d σ1 hd zz1;refine CG zz1 λx y z _ zz2=>?_;clear zz1;obtain rfl:=zz2
  refine Af (Eu hd) λd' hd' zz1=>?_;obtain rfl:=zz1
  rw[kc] at hd'
  refine Af (j8.mp hd') λel hel zz1=>?_;obtain rfl:=zz1
  refine Ac _ (BV N hh [3,4] (ds:=[.int j,.str el]) ⟨rfl,rfl,rfl,rfl,trivial⟩) ?_
  intro O1 r1 Q1 E1 tr zz1 qn;refine CU zz1 λir dOr djr bj=>?_
  obtain⟨⟨kvs,hm,hle,f0,f1,f2⟩⟩:=bj
  have hjl:j<bs.length:=(jM.mp hel).1
  have hlo:(dj == sysModules)=false:=by
   have h1:=modules_low T.gl.nolimit
   have h2:xI.objs.size<=s.heap.objs.size\/True:=.inr trivial
   rw[beq_eq_false_iff_ne]
   rintro rfl
   obtain⟨o,ho⟩:∃o,xI.get? sysModules=some o:=Ag _ (K.get 1 (o:=pg w.params) (by kernel_rfl))
   have:=hk _ _ ho
   exact B0 hsj this
  refine km (l9 (mj (Bw 2 tr (mM hm.typeIs F.plainAttrs_dict tC PySem.F.type_dict_setdefault hm.mapOf.noDict (callWith_builtin (by rfl) (AL (by rfl) (args_cons (EX 4 tr λv rv=>args_cons (tV (pZ ⟨by decide,pZ ?_⟩)) (by rfl)) (by rfl)))))) (by rfl)) (by rfl))
  obtain⟨tv,rfl⟩:=VR.str_inv rv
  generalize hl0:r1.heap.objs.size=l0 at *
  have e0:r1.heap.get? l0=none:=by rw[<-hl0];exact Bk (jP _)
  have kp:kZ r1 {r1 with heap:=r1.heap.push {cls:=.type "list",data:=.seq #[]}}:=Keeps.push _ _
  have el0:(r1.heap.push {cls:=.type "list",data:=.seq #[]}).get? l0=some {cls:=.type "list",data:=.seq #[]}:=by rw[<-hl0];exact jS _ rfl
  have t7:=ET (x:="") tr kp e0 (Ag _ el0)
  have f7:Fx (CF pw w A (A6 s D) s (Bq (Ch w.params)) 188 FI O) O1 r1 (("",l0)::O1) {r1 with heap:=r1.heap.push {cls:=.type "list",data:=.seq #[]}}:=Fx.new kp e0
  have i7:=ir.keeps (Aw kp)
  have hl0dj:l0≠dj:=λz=>by refine CG hm λo _ _ e _=>?_;rw[<-z,e0] at e;exact B6 e
  have hl0D:l0≠D:=λz=>by refine Ao ir.dict λes n e _=>?_;rw[<-z,e0] at e;exact B6 e
  have hl0L:l0≠s.heap.objs.size:=λz=>by refine Af tr.ex λmm zz1 _=>?_;obtain⟨o,_,_,e,_⟩:=zz1;have e:r1.heap.get? s.heap.objs.size=some o:=e;rw[<-z,e0] at e;exact B6 e
  have s0n:∀a,r1.heap.get? a=none->(A6 s D).heap.get? a=none:=λa ha=>gn λo e=>by have:=tr.keep _ _ e;exact B0 ha this
  have hdO7:¬Ap.has (("",l0)::O1) D:=by
   rintro⟨p,hp,e⟩
   rcases jI.mp hp with rfl|hp
   ·exact hl0D e
   ·exact dOr (Ac p hp e)
  have hIdj':∀{h:j6} {v:Array jD},h.PlainList I v->¬IN h I D (Bm m "b2j" (.ref dj)) (k+1):=by
   rintro h v ⟨n,e⟩ q;have:=q.inst;rw[e] at this;cases this
  have hdj0:(A6 s D).heap.get? dj=none:=gn λo e=>by have:=(Er e).1;exact B0 hsj this
  have hne:(("":jZ))∉FI:=by decide +kernel
  have hcl:∀(b:jN) (x:jZ),(x,b)∉(CF pw w A (A6 s D) s (Bq (Ch w.params)) 188 FI O).env.cells:=λb x h=>nomatch h
  refine lT (Q:=λv xL=>∃l vs kvs' O2,v=.ref l/\Fx (CF pw w A (A6 s D) s (Bq (Ch w.params)) 188 FI O) O1 r1 O2 xL/\St (CF pw w A (A6 s D) s (Bq (Ch w.params)) 188 FI O) O2 (F2 [some (.val (.raw (.ref I))),some (.val (.py (.list (bs.map .str)))),some (.val (.raw (.ref dj))),x,y,z,none,none,none,none,none,none] [3,4] [.int j,.str el]) xL/\
   IN xL.heap I D (Bm m "b2j" (.ref dj)) (k+1)/\¬Ap.has O2 D/\(∀p∈O1,p∈O2)/\((jB "",l):jZ×jN)∈O2/\l≠dj/\l≠s.heap.objs.size/\(A6 s D).heap.get? l=none/\xL.heap.PlainList l vs/\tA vs.toList (Oj bs j el)/\xL.heap.DictOf (mQ pw w) dj kvs'/\kvs'.length<=j+1/\valueAt kvs' el=some (.ref l)/\(∀x,x≠el->valueAt kvs' x=valueAt kvs x)/\
   (∀l' vs',((jB "",l'):jZ×jN)∈O1->l'≠dj->r1.heap.PlainList l' vs'->xL.heap.PlainList l' vs')/\∀x y l,valueAt kvs' x=some (.ref l)->valueAt kvs' y=some (.ref l)->x=y) ?_ (λv xL hq=>?_) (λ_ _ e=>e)
  ·have hm7:(r1.heap.push {cls:=.type "list",data:=.seq #[]}).DictOf (mQ pw w) dj kvs:=hm.push _
   refine Jp (s:={r1 with heap:=r1.heap.push {cls:=.type "list",data:=.seq #[]}}) hm7 (by rwa[hlen,hle,hjl]) hlo (λv hv=>?_) (λhv h9 hm9 sb9=>?_)
   ·have hx:Oj bs j el≠[]:=λz=>by exact B0 (f0 _ z) hv
    refine E8 (f1 el hx) λl vs e1 zz1 zz2 ia=>?_;obtain⟨lk1,lk2,lk3,lk4⟩:=zz1;obtain⟨n,pl⟩:=zz2
    (replace e1:=CQ hv e1;subst e1)
    refine Xh l vs kvs _ rfl (f7.tr (Fx.of_keeps Keeps.rfl')) (t7.keeps λ_ _ e=>e) i7 hdO7 (λp hp=>.tail _ hp) (.tail _ lk1) lk2 lk3 lk4 (Ag n (Aw kp _ _ pl)) ia hm7 (by rwa[hle]) hv (λ_ _=>rfl) (λl' vs' _ _ ⟨n',e'⟩=>(Ag n' (Aw kp _ _ e'))) f2
   ·have hx:Oj bs j el=[]:=by
     cases q:Oj bs j el with
     | nil=>rfl
     | cons a b=>
      refine Ao (f1 el (by rw[q];exact λh=>nomatch h)) λl vs e1 _=>?_
      exact B0 hv e1
    have g9:=AJ sb9
    have hT9:∀o,(r1.heap.push {cls:=.type "list",data:=.seq #[]}).get? dj=some o->¬(o.cls=.type "tuple"/\∃vs n,o.data=.seq vs n):=by
     refine Cf hm7 λo es ep e r1' r2' _=>?_
     intro o' e' zz1;refine Cg zz1 λ_ zr0=>B1 zr0 λvs n d=>?_
     (replace e':=CQ e e';subst e');rw[r2'] at d;exact jU d
    have hl9:∃o,h9.get? dj=some o:=by refine CG hm9 λo _ _ e _=>?_;exact Ag o e
    have t9:=Iu (tk:=r1.toks+1) N t7 (.tail _ djr) hne hdjL (hcl dj) hdj0 hT9 (λb o hb e=>g9 b hb o e) hl9
    have hDdj':D≠dj:=hDdj
    have hdjT:∀o,r1.heap.get? dj=some o->¬(o.cls=.type "tuple"/\∃vs n,o.data=.seq vs n):=λo e=>hT9 o (Aw kp _ _ e)
    have f9:Fx (CF pw w A (A6 s D) s (Bq (Ch w.params)) 188 FI O) (("",l0)::O1) {r1 with heap:=r1.heap.push {cls:=.type "list",data:=.seq #[]}} (("",l0)::O1) {r1 with heap:=h9,toks:=r1.toks+1}:=by
     refine⟨(AS _ _ rfl),λ_ h=>.inl h,λb o e=>?_,λb o e h1 h2=>g9 b (λz=>h1 (z▸(Ac _ (.tail _ djr) rfl))) o e,λb o e q=>g9 b (λz=>hT9 o (z▸e) q) o e⟩
     by_cases hbd:b=dj
     ·rw[hbd];exact hl9
     ·exact Ag o (g9 b hbd o e)
    refine Xh l0 (#[]) _ _ rfl (f7.tr f9) t9 (i7.at' (sb9.2 I hIdj) (sb9.2 D hDdj)) hdO7 (λp hp=>.tail _ hp) (.head _) hl0dj hl0L (s0n l0 e0) (Ag 0 (g9 l0 hl0dj _ el0)) (by rw[hx];exact .nil) hm9 (kN (stored_length_le _ _ _) (by rwa[hle])) (by rw[Ci hv,if_pos rfl]) (λx hne=>by rw[Ci hv,if_neg hne]) (λl' vs' hl' hd' ⟨n',e'⟩=>(Ag n' (g9 l' hd' _ (Aw kp _ _ e')))) ?_
    intro x y l hx' hy'
    rw[Ci hv] at hx' hy'
    have old:∀x l,valueAt kvs x=some (.ref l)->l≠l0:=by
     rintro x l hfx rfl
     have hxn:Oj bs j x≠[]:=λz=>by exact B0 (f0 _ z) hfx
     refine E8 (f1 x hxn) λl' vs' e1 zz1 zz2 _=>?_;obtain⟨lk1,_⟩:=zz1;obtain⟨n,pl⟩:=zz2
     rw[hfx] at e1;cases e1
     exact B0 e0 pl
    split at hx'<;>split at hy'
    ·rename_i h1 h2;rw[h1,h2]
    ·rename_i h1 h2;cases hx';exact absurd rfl (old _ _ hy')
    ·rename_i h1 h2;cases hy';exact absurd rfl (old _ _ hx')
    ·exact f2 x y l hx' hy'
  ·refine az hq λl vs kvs' O2 zz1 fx t8 i8 d8 sub8 lo8 ldj lL l0s pl8 ia8 hm8 hle8 he8 hoth8 hkeep8 hinj8=>?_;clear hq;obtain rfl:=zz1
   refine AG N (i:=5) (b:=.val (.raw (.ref l))) rfl (jV rfl) rfl t8 rfl λr9 a9 u9 t9=>?_
   have fx9:=fx.tr (Fx.ofBut t8 a9 u9 t9)
   have pl9:r9.heap.PlainList l vs:=AR pl8 λn e=>⟨n,u9 l _ lL e⟩
   obtain⟨n8,epl⟩:=pl9
   refine km (nI (mj (Bw 5 t9 (mM (Heap.IsList.typeIs ⟨_,epl,rfl,_,rfl⟩) F.plainAttrs_list F.slot_list_append F.type_list_append (λb hb=>by injection hb with hb;subst hb;exact Ac _ epl rfl) (callWith_builtin (by rfl) (AL (by rfl) (args_cons (EX 3 t9 λv rv=>pZ ?_) (by rfl)))))) (by rfl)) (by rfl))
   obtain⟨ti,rfl⟩:=VR.int_inv rv
   have hlenI:(Oj bs j el).length<=j:=by
    unfold Oj
    rw[jK]
    exact kN (vK _ _) (by rw[lI];exact jP _)
   have hvs:vs.size<=j:=by
    have:=ia8.length
    rw[kn] at this
    rwa[hlenI,this]
   refine rV (s:=r9) (l:=l) (items:=vs) (Ag n8 epl) (λh10 pl10 sb10=>?_) (by rw[sizeLine_eq];rwa[hlen,hjl,hvs])
   have g10:=AJ sb10
   have hT10:∀o,r9.heap.get? l=some o->¬(o.cls=.type "tuple"/\∃vs n,o.data=.seq vs n):=by
    rintro o' e' ⟨hc,_⟩
    (replace e':=CQ epl e';subst e');exact absurd (show jX "list"=jX "tuple" from hc) (by decide)
   have hl10:∃o,h10.get? l=some o:=by obtain⟨n,e⟩:=pl10;exact Ag _ e
   have t10:=Iu (tk:=r9.toks) N t9 lo8 hne lL (hcl l) l0s hT10 (λb o hb e=>g10 b hb o e) hl10
   have f10:Fx (CF pw w A (A6 s D) s (Bq (Ch w.params)) 188 FI O) O2 r9 O2 {r9 with heap:=h10}:=by
    refine⟨(AS _ _ rfl),λ_ h=>.inl h,λb o e=>?_,λb o e h1 h2=>g10 b (λz=>h1 (z▸(Ac _ lo8 rfl))) o e,λb o e q=>g10 b (λz=>hT10 o (z▸e) q) o e⟩
    by_cases hbd:b=l
    ·rw[hbd];exact hl10
    ·exact Ag o (g10 b hbd o e)
   have hlD:D≠l:=λz=>d8 (z▸(Ac _ lo8 rfl))
   have i9:IN r9.heap I D (Bm m "b2j" (.ref dj)) (k+1):=by
    refine Ao i8.dict λes n e _=>?_
    exact i8.at' ((u9 I _ hIL i8.inst).trans i8.inst.symm) ((u9 D _ MF.dl e).trans e.symm)
   have hlI:I≠l:=λz=>hIdj' (show r9.heap.PlainList I vs from⟨n8,by rw[z];exact epl⟩) i9
   refine l5 (qn O2 _ _ (fx9.tr f10) t10 (KC _ _ _ rfl rfl) ⟨i9.at' (sb10.2 I hlI) (sb10.2 D hlD),d8,sub8 _ djr,⟨(Xi kvs' ?_ hle8 ?_ ?_ hinj8)⟩⟩)
   ·refine CG hm8 λo es ep e r=>?_
    exact KC o es ep (g10 dj (ln ldj) o (u9 dj o hdjL e)) r
   ·intro x hx
    rw[GI] at hx
    have h1:=List.append_eq_nil_iff.mp hx
    have hxe:x≠el:=by
     rintro rfl
     rw[if_pos hel] at h1
     exact absurd h1.2 (λh=>nomatch h)
    rw[hoth8 x hxe]
    exact f0 x h1.1
   ·intro x hx
    rw[GI] at hx
    by_cases hxe:x=el
    ·subst hxe
     refine C6 l _ he8 ⟨lo8,ldj,lL,l0s⟩ pl10 ?_
     rw[qT,GI,if_pos hel]
     exact U3 ia8 _ _
    ·have hxx:(if bs[j]?=some x then [(j:Int)] else [])=[]:=by
      rw[if_neg]
      rw[hel]
      exact λh=>hxe (kW h).symm
     rw[hxx,kH] at hx
     refine E8 (f1 x hx) λl' vs' e1 zz1 pl' ia'=>?_;obtain⟨lk1,lk2,lk3,lk4⟩:=zz1
     have hll:l'≠l:=by
      rintro rfl
      exact hxe (hinj8 x el l' (by rw[hoth8 x hxe];exact e1) he8)
     obtain⟨n',e'⟩:=hkeep8 l' vs' lk1 lk2 pl'
     refine C6 l' vs' (by rw[hoth8 x hxe];exact e1) ⟨sub8 _ lk1,lk2,lk3,lk4⟩ (Ag n' (g10 l' hll _ (u9 l' _ lk3 e'))) ?_
     rw[GI,hxx,kH]
     exact ia'
 ·intro O' σ' r' fr tr zz1 zz3;refine CG zz1 λx y z fl zz2=>?_;clear zz1;obtain rfl:=zz2;refine CU zz3 λir dOr djr bj=>?_
  rw[Rp,jK] at bj
  have flat:∀a b c:Option Bd,(C8 a&&C8 b&&C8 c)=true->List.all [some (.val (.raw (.ref I))),some (.val (.py (.list (bs.map .str)))),some (.val (.raw (.ref dj))),x,y,z,a,b,c,none,none,none] C8=true:=by
   intro a b c h
   simp only[kL] at fl h
   have e1:∀v,C8 (some (.val (.raw v)))=true:=λ_=>rfl
   have e2:∀v,C8 (some (.val (.py v)))=true:=λ_=>rfl
   have e3:C8 none=true:=rfl
   simp only[lE,vp,oI,sO,e1,e2,e3,fl.1.1,fl.1.2,fl.2,h.1.1,h.1.2,h.2]
  refine IL (j:=6) rfl N tr hK ir (by rwa[hkk]) A3 MF.dl hIL dOr (flat none none none rfl) (A1 T hk') (λO s Q E t q=>Bw 0 t q) λr1 sj led EN kp1 t1 i1 sj0 sje sjD sjL=>?_
  have hj1:(Bm (Bm m "b2j" (.ref dj)) "bjunk" (.ref sj)) "isjunk"=some .none:=hj
  have ha1:(Bm (Bm (Bm m "b2j" (.ref dj)) "bjunk" (.ref sj)) "bpopular" (.ref sj)) "autojunk"=some (.bool true):=ha
  refine km (l9 (DJ rfl t1 (hK r1 t1.keep) i1 (Aa 0) hj1 λr2 k2 t2=>?_) (by rfl))
  refine AG N (i:=7) (b:=.val (.raw .none)) rfl (jV rfl) rfl t2 rfl λr3 a3' u3 t3=>?_
  have keep3:∀b o,b≠s.heap.objs.size->r1.heap.get? b=some o->r3.heap.get? b=some o:=λb o h e=>u3 b o h (Aw k2 _ _ e)
  have i3:IN r3.heap I D (Bm (Bm m "b2j" (.ref dj)) "bjunk" (.ref sj)) (k+1+1):=by
   refine Ao i1.dict λes n e _=>?_
   exact i1.at' ((keep3 I _ hIL i1.inst).trans i1.inst.symm) ((keep3 D _ MF.dl e).trans e.symm)
  refine km (ur (oM (Bw 7 t3 (truthy_none (l5 ?_))) (by rfl)))
  refine IL (j:=8) rfl N t3 hK i3 (by rwa[hkk]) A3 MF.dl hIL dOr (flat _ _ none rfl) (A1 T hk') (λO s Q E t q=>Bw 0 t q) λr4 sp led4 al4 kp4 t4 i4 sp0 spe spD spL=>?_
  refine km (l9 ((show Ev (CF pw w A (A6 s D) s (Bq (Ch w.params)) 188 FI O) _ (.Call (.Name (jB "len") _) [.Name (jB "b") _] [] _) (.py (.int ((bs.map oP).length:Nat))) from Ds (A1 T hk') (Aa 1) (by rfl) (by rw[jK];rwa[hlen])) O' r4 _ _ t4 λv r5 t5 k5 rv5=>?_) (by rfl))
  obtain⟨tn,rfl⟩:=rv5.int_inv
  refine AG N (i:=9) (b:=.val (.py (.int ((bs.map oP).length:Nat)))) rfl (jV rfl) rfl t5 (VR.int _ _ _ _) λr6 a6 u6 t6=>?_
  have keep6:∀b o,b≠s.heap.objs.size->r4.heap.get? b=some o->r6.heap.get? b=some o:=λb o h e=>u6 b o h (Aw k5 _ _ e)
  have i6:IN r6.heap I D (Bm (Bm (Bm m "b2j" (.ref dj)) "bjunk" (.ref sj)) "bpopular" (.ref sp)) (k+1+1+1):=by
   refine Ao i4.dict λes n e _=>?_
   exact i4.at' ((keep6 I _ hIL i4.inst).trans i4.inst.symm) ((keep6 D _ MF.dl e).trans e.symm)
  refine km (ur (xt (sv (oM (DJ rfl t6 (hK r6 t6.keep) i6 (Aa 0) (v:=.bool true) ha λr7 k7 t7=>nR ?_) (by rfl)))))
  refine sv ((show Tv (CF pw w A (A6 s D) s (Bq (Ch w.params)) 188 FI O) _ (.Compare (.Name (jB "n") _) [.GtE] [.Constant (.int 200) 0 _] _) (decide ((200:Int)<=((bs.map oP).length:Nat))) from An (Aa 9) Ai) O' r7 _ _ t7 λr8 t8 k8=>?_)
  have hlt:decide ((200:Int)<=((bs.map oP).length:Nat))=false:=by
   rw[jK];exact decide_eq_false (by rwa[hlen])
  rw[hlt]
  refine l5 (l5 ?_)
  have i8:=(i6.keeps (Aw k7)).keeps (Aw k8)
  have keepAll:∀b o,b≠D->b≠s.heap.objs.size->r'.heap.get? b=some o->r8.heap.get? b=some o:=λb o h1 h2 e=>
   Aw k8 _ _ (Aw k7 _ _ (keep6 b o h2 (kp4 b o h1 h2 (keep3 b o h2 (kp1 b o h1 h2 e)))))
  refine q r8 dj sj sp led ?_ (λb o hb e=>t8.keep b o ((Bj hb).trans e)) i8 ?_ hsj ?_ ?_
  ·exact AI.tr ((Bc k12).tr (a3.tr ((Bc k3).tr (AI.tr (AS _ _ rfl) a6a)))) ((fr.alike).tr (EN.tr ((Bc k2).tr (a3'.tr (al4.tr ((Bc k5).tr (a6.tr ((Bc k7).tr (Bc k8)))))))))
  ·refine bj.keeps (λa ha=>?_) (λo es n e hd=>keepAll dj o (ln hDdj) hdjL e) (λl vs lk ⟨n,e⟩=>Ag n (keepAll l _ (λz=>dOr (z▸(Ac _ lk.1 rfl))) lk.2.2.1 e))
   have:=ha.2.2.2
   have hne:a≠D:=λz=>dOr (z▸(Ac _ ha.1 rfl))
   rwa[Bj hne] at this
  ·exact gn λo e=>by have:=tr.keep sj o ((Bj sjD).trans e);exact B0 sj0 this
  ·exact Aw k8 _ _ (Aw k7 _ _ (keep6 sj _ sjL (kp4 sj _ sjD sjL (keep3 sj _ sjL sje))))
theorem d7(P:jE):Bf (Bq (FW P)) (Am (BB 5 4)) ["self","b"] ["self","b"]:=.of' rfl rfl rfl (by decide +kernel)
theorem Y7(P:jE)(u v:jD):l6 (Bq (FW P)) ⟨[u,v],[]⟩=pure [((jB "self"),u),((jB "b"),v)]:=by rfl
theorem CY{s s2:jG}{I D:jN}{m:jZ->Option jD}{k:Nat}(h:∀b o,b≠D->s.heap.get? b=some o->s2.heap.get? b=some o)(i:IN s2.heap I D m k){l:jN}(e:s2.heap.get? l=none):s.heap.get? l=none:=by
 cases q:s.heap.get? l with
 | none=>rfl
 | some o=>
  by_cases hl:l=D
  ·refine Ao i.dict λ_ _ e' _=>?_
   rw[hl,e'] at e;exact XM e
  ·exact B0 e (h _ _ hl q)
structure MB (w:jY) (s s':jG) (I D:jN) (m:jZ->Option jD) (k:Nat) (bs:List jZ) (dj sj sp:jN) (led:Bool):Prop where
 al:AI s s'
 keep:∀b o,b≠D->s.heap.get? b=some o->s'.heap.get? b=some o
 inn:IN s'.heap I D (Bm (Bm (Bm m "b2j" (.ref dj)) "bjunk" (.ref sj)) "bpopular" (.ref sp)) k
 bj:BJ w s'.heap dj bs bs.length (λl=>s.heap.get? l=none)
 dj0:s.heap.get? dj=none
 sj0:s.heap.get? sj=none
 sje:s'.heap.get? sj=some (Cc led)
theorem Ha{s s':jG}{O:Ap}{v:jD}{d:jQ}{as:List jN}(rb:Ak s.heap v d as)(hbO:∀a∈as,¬O.has a):∀a∈as,¬Ap.has (("",s.heap.objs.size)::O) a:=by
 rintro a haa ⟨p,hp,e⟩
 rcases jI.mp hp with rfl|hp
 ·obtain⟨o,ho⟩:=BA rb a haa
  have e:s.heap.objs.size=a:=e
  rw[<-e] at ho
  exact absurd (kt ho) (lr _)
 ·exact hbO a haa (Ac p hp e)
theorem Wa{w:jY}{A:kC}{s:jG}{O:Ap}{I D:jN}{m:jZ->Option jD}{k:Nat}{xI:j6}{lb:jN}{bs:List jZ}{as:List jN}{mg mb:jZ->Option jD}{Q:jD->jG->Prop}{E:jD->jG->Prop}(K:Bn w xI)(T:Br mg mb xI)(room:A0 A 4)(hk:HK xI s)(own:CJ O s)(hDO:¬O.has D)(hD0:xI.get? D=none)
 (i:IN s.heap I D m k)(hkk:k<=600)(hb:m "b"=some .none)(hj:m "isjunk"=some .none)(ha:m "autojunk"=some (.bool true))(hc:m "_SequenceMatcher__chain_b"=none)(rb:Ak s.heap (.ref lb) (.list (bs.map .str)) as)(hbO:∀a∈as,¬O.has a)(hlen:bs.length<=100)
 (q:∀(s':jG) (dj sj sp:jN) (led:Bool),MB w s s' I D (Bm (Bm (Bm (Bm m "b" (.ref lb)) "matching_blocks" .none) "opcodes" .none) "fullbcount" .none) (k+7) bs dj sj sp led->Q .none s') :
 wpAny (model pw w) A (call (.ref 181) [.ref I,.ref lb]) Q E s:=by
 delta w A s O I D m k xI lb bs as mg mb Q E at K T room hk own hDO hD0 i hkk hb hj ha hc rb hbO hlen q
 refine Db (args:=⟨[.ref I,.ref lb],[]⟩) (vs:=[.ref I,.ref lb]) (fd:=Bq (FW w.params)) (st:=BB 5 4) K T.gl.nolimit room hk own hDO (f:=181) (o:=FW w.params) (by kernel_rfl) (by kernel_rfl) (d7 _) (by kernel_rfl) (.of_eq (Y7 _ _ _)) rfl (λN rm s1 E' t k1=>?_)
 have MF:=Zc.of (w:=w) i hDO
 have hk':HK xI (A6 s D):=Es hk hD0
 have hK:∀s':jG,(∀b o,(A6 s D).heap.get? b=some o->s'.heap.get? b=some o)->Bn w s'.heap:=λs' h=>K.keeps λb o e=>h b o (hk' b o e)
 refine Fp t λs2 k2 t2=>?_
 have k12:=Keeps.tr k1 k2
 have i2:=i.keeps (Aw k12)
 refine km (ur (qg (Bw 1 t2 (DJ rfl t2 (hK s2 t2.keep) i2 (Aa 0) hb λs4 k4 t4=>?_)) (by rfl)))
 refine vu (by rfl) (nR ?_)
 refine l5 ?_
 have i4:=i2.keeps (Aw k4)
 refine Gw rfl N t4 (hK s4 t4.keep) i4 (by rwa[hkk]) A3 MF.dl MF.dO rfl (Aa 0) (Aa 1) λs5 a5 kk5 t5 i5=>?_
 refine IK rfl N t5 (hK s5 t5.keep) hK i5 (by rwa[hkk]) A3 MF.dl MF.dO rfl (Aa 0) (Aa 0) Fb λs6 a6 t6 i6=>?_
 refine Gw rfl N t6 (hK s6 t6.keep) i6 (by rwa[hkk]) A3 MF.dl MF.dO rfl (Aa 0) Fb λs7 a7 kk7 t7 i7=>?_
 have keep7:∀b o,b≠D->s.heap.get? b=some o->s7.heap.get? b=some o:=λb o hb e=>t7.keep b o ((Bj hb).trans e)
 have rb7:Ak s7.heap (.ref lb) (.list (bs.map .str)) as:=by
  refine Ao i.dict λes n eD _=>?_
  exact Bo (λb hb o e=>keep7 b o hb e) (by rintro o' e' ⟨_,vs,z,hd'⟩;(replace e':=CQ eD e';subst e');cases hd') rb (Dw eD rfl rb)
 refine km (nI (mj (Bw 0 t7 (Ep (f:=188) (hK s7 t7.keep) i7 hc (xe (K:=KK w.params) (hK s7 t7.keep).k (by kernel_rfl) ?_))) (by rfl)) (by rfl))
 refine Vr K T (rm.le (by rwa[])) (λb o e=>t7.keep b o (hk' b o e)) t7.ownOk MF.dO hD0 i7 (by rwa[hkk]) (lb:=lb) (bs:=bs) rfl hj ha rb7 (Ha (s':=s) rb hbO) hlen λs8 dj sj sp led al8 kp8 i8 bj8 dj8 sj8 sje8=>?_
 refine l5 (q s8 dj sj sp led ⟨(Bc k12).tr ((Bc k4).tr (a5.tr (a6.tr (a7.tr al8)))),λb o hb e=>kp8 b o hb (keep7 b o hb e),i8,bj8.keeps (λa ha=>CY keep7 i7 ha) (λ_ _ _ e _=>e) (λ_ _ _ e=>e),CY keep7 i7 dj8,CY keep7 i7 sj8,sje8⟩)
theorem eb(P:jE):Bf (Bq (EP P)) (Am (BB 5 2)) ["self","a","b"] ["self","a","b"]:=.of' rfl rfl rfl (by decide +kernel)
theorem Y9(P:jE)(u v x:jD):l6 (Bq (EP P)) ⟨[u,v,x],[]⟩=pure [((jB "self"),u),((jB "a"),v),((jB "b"),x)]:=by rfl
noncomputable def mA (m:jZ->Option jD) (la:jN):jZ->Option jD:=Bm (Bm (Bm m "a" (.ref la)) "matching_blocks" .none) "opcodes" .none
noncomputable def mB (m:jZ->Option jD) (lb:jN):jZ->Option jD:=Bm (Bm (Bm (Bm m "b" (.ref lb)) "matching_blocks" .none) "opcodes" .none) "fullbcount" .none
theorem HP{s s7:jG}{I D:jN}{m:jZ->Option jD}{k:Nat}(i:IN s.heap I D m k)(keep7:∀b o,b≠D->s.heap.get? b=some o->s7.heap.get? b=some o){v:jD}{d:jQ}{as:List jN}(rb:Ak s.heap v d as):Ak s7.heap v d as:=by
 refine Ao i.dict λes n eD _=>?_
 exact Bo (λb hb o e=>keep7 b o hb e) (by rintro o' e' ⟨_,vs,z,hd'⟩;(replace e':=CQ eD e';subst e');cases hd') rb (Dw eD rfl rb)
theorem V8{w:jY}{A:kC}{s:jG}{O:Ap}{I D:jN}{m:jZ->Option jD}{k:Nat}{xI:j6}{la lb:jN}{bs:List jZ}{as:List jN}{mg mb:jZ->Option jD}{Q:jD->jG->Prop}{E:jD->jG->Prop}(K:Bn w xI)(T:Br mg mb xI)(room:A0 A 6)(hk:HK xI s)(own:CJ O s)(hDO:¬O.has D)(hD0:xI.get? D=none)
 (i:IN s.heap I D m k)(hkk:k<=500)(ha0:m "a"=some .none)(hb:m "b"=some .none)(hj:m "isjunk"=some .none)(ha:m "autojunk"=some (.bool true))(hc:m "_SequenceMatcher__chain_b"=none)(hc1:m "set_seq1"=none)(hc2:m "set_seq2"=none)(rb:Ak s.heap (.ref lb) (.list (bs.map .str)) as)(hbO:∀a∈as,¬O.has a)(hlen:bs.length<=100)
 (q:∀(s':jG) (dj sj sp:jN) (led:Bool),MB w s s' I D (mB (mA m la) lb) (k+10) bs dj sj sp led->Q .none s') :
 wpAny (model pw w) A (call (.ref 167) [.ref I,.ref la,.ref lb]) Q E s:=by
 delta w A s O I D m k xI la lb bs as mg mb Q E at K T room hk own hDO hD0 i hkk ha0 hb hj ha hc hc1 hc2 rb hbO hlen q
 refine Db (args:=⟨[.ref I,.ref la,.ref lb],[]⟩) (vs:=[.ref I,.ref la,.ref lb]) (fd:=Bq (EP w.params)) (st:=BB 5 2) K T.gl.nolimit room hk own hDO (f:=167) (o:=EP w.params) (by kernel_rfl) (by kernel_rfl) (eb _) (by kernel_rfl) (.of_eq (Y9 _ _ _ _)) rfl (λN rm s1 E' t k1=>?_)
 have MF:=Zc.of (w:=w) i hDO
 have hk':HK xI (A6 s D):=Es hk hD0
 have hK:∀s':jG,(∀b o,(A6 s D).heap.get? b=some o->s'.heap.get? b=some o)->Bn w s'.heap:=λs' h=>K.keeps λb o e=>h b o (hk' b o e)
 refine Fp t λs2 k2 t2=>?_
 have k12:=Keeps.tr k1 k2
 have i2:=i.keeps (Aw k12)
 refine km (nI (mj (Bw 0 t2 (Ep (f:=174) (hK s2 t2.keep) i2 hc1 (tZ (K:=KK w.params) (hK s2 t2.keep).k (by kernel_rfl) (args_cons (Bw 1 t2 (pZ ⟨(hK s2 t2.keep).k,?_⟩)) (by rfl))))) (by rfl)) (by rfl))
 refine Wb K T.gl.nolimit (rm.le (by rwa[])) (λb o e=>t2.keep b o (hk' b o e)) t2.ownOk MF.dO hD0 i2 (by rwa[hkk]) ha0 λs3 a3 kp3 i3=>?_
 have t3:St (CF pw w A (A6 s D) s (Bq (EP w.params)) 167 ["self","a","b"] O) (("",s.heap.objs.size)::O) (Bi (([.ref I,.ref la,.ref lb]:List jD).map .raw) 0) s3:=by
  refine Ao i2.dict λes2 n2 eD2 _=>?_
  refine Ao i3.dict λes3 n3 eD3 _=>?_
  refine B1 a3 λh3 tk3 zz1=>?_;clear a3;obtain rfl:=zz1
  exact Ek N t2 A3 MF.dl MF.dO eD2 rfl rfl kp3 eD3
 have keep3:∀b o,b≠D->s.heap.get? b=some o->s3.heap.get? b=some o:=λb o hb e=>kp3 b o hb (Aw k12 _ _ e)
 refine km (nI (mj (Bw 0 t3 (Ep (f:=181) (hK s3 t3.keep) i3 hc2 (tZ (K:=KK w.params) (hK s3 t3.keep).k (by kernel_rfl) (args_cons (Bw 2 t3 (pZ ⟨(hK s3 t3.keep).k,?_⟩)) (by rfl))))) (by rfl)) (by rfl))
 refine Wa K T (rm.le (by rwa[])) (λb o e=>t3.keep b o (hk' b o e)) t3.ownOk MF.dO hD0 i3 (by rwa[hkk]) (bs:=bs) hb hj ha hc (HP i keep3 rb) (Ha (s':=s) rb hbO) hlen λs8 dj sj sp led mb8=>?_
 refine l5 (q s8 dj sj sp led ⟨(Bc k12).tr (a3.tr mb8.al),λb o hb e=>mb8.keep b o hb (keep3 b o hb e),mb8.inn,mb8.bj.keeps (λa ha=>CY keep3 i3 ha) (λ_ _ _ e _=>e) (λ_ _ _ e=>e),CY keep3 i3 mb8.dj0,CY keep3 i3 mb8.sj0,mb8.sje⟩)
theorem ef(P:jE):Bf (Bq (G1 P)) (Am (BB 5 1)) ["self","isjunk","a","b","autojunk"] ["self","isjunk","a","b","autojunk"]:=.of' rfl rfl rfl (by decide +kernel)
noncomputable def mI (m:jZ->Option jD) (la lb:jN):jZ->Option jD:=mB (mA (Bm (Bm (Bm (Bm m "isjunk" .none) "a" .none) "b" .none) "autojunk" (.bool true)) la) lb
theorem WN{w:jY}{A:kC}{s:jG}{O:Ap}{I D:jN}{xI:j6}{la lb:jN}{bs:List jZ}{as:List jN}{mg mb:jZ->Option jD}{R:td->jG->Prop}(K:Bn w xI)(T:Br mg mb xI)(room:A0 A 8)(hk:HK xI s)(own:CJ O s)(hDO:¬O.has D)(hD0:xI.get? D=none)
 (i:IN s.heap I D (λ_=>none) 0)(rb:Ak s.heap (.ref lb) (.list (bs.map .str)) as)(hbO:∀a∈as,¬O.has a)(hlen:bs.length<=100)
 (q:∀(s':jG) (dj sj sp:jN) (led:Bool),MB w s s' I D (mI (λ_=>none) la lb) 14 bs dj sj sp led->R (.ok (.ret .none)) s') :
 codeAny (model pw w) A (.call (.ref 160) ⟨[.ref I,.none,.ref la,.ref lb],[]⟩) R s:=by
 delta w A s O I D xI la lb bs as mg mb R at K T room hk own hDO hD0 i rb hbO hlen q
 refine O9 (args:=⟨[.ref I,.none,.ref la,.ref lb],[]⟩) (vs:=[.ref I,.none,.ref la,.ref lb,.bool true]) (fd:=Bq (G1 w.params)) (st:=BB 5 1) K T.gl.nolimit room hk own hDO (f:=160) (o:=G1 w.params) (by kernel_rfl) (by kernel_rfl) (ef _) (by kernel_rfl)
  (.of_defaults (T:=153) (o:=M8 w.params) (n:=0) rfl (hk _ _ (K.get 153 (by kernel_rfl))) rfl rfl rfl) rfl (λN rm s1 E' t k1=>?_)
 have MF:=Zc.of (w:=w) i hDO
 have hk':HK xI (A6 s D):=Es hk hD0
 have hK:∀s':jG,(∀b o,(A6 s D).heap.get? b=some o->s'.heap.get? b=some o)->Bn w s'.heap:=λs' h=>K.keeps λb o e=>h b o (hk' b o e)
 have i1:=i.keeps (Aw k1)
 refine Fp t λs2 k2 t2=>?_
 have i2:=i1.keeps (Aw k2)
 refine Gw rfl N t2 (hK s2 t2.keep) i2 (by rwa[]) A3 MF.dl MF.dO rfl (Aa 0) (Aa 1) λs3 a3 kk3 t3 i3=>?_
 refine IK rfl N t3 (hK s3 t3.keep) hK i3 (by rwa[]) A3 MF.dl MF.dO rfl (Aa 0) (Aa 0) Fb λs4 a4 t4 i4=>?_
 refine Gw rfl N t4 (hK s4 t4.keep) i4 (by rwa[]) A3 MF.dl MF.dO rfl (Aa 0) (Aa 4) λs5 a5 kk5 t5 i5=>?_
 have keep5:∀b o,b≠D->s.heap.get? b=some o->s5.heap.get? b=some o:=λb o hb e=>t5.keep b o ((Bj hb).trans e)
 refine km (nI (mj (Bw 0 t5 (Ep (f:=167) (hK s5 t5.keep) i5 rfl (tZ (K:=KK w.params) (hK s5 t5.keep).k (by kernel_rfl) (args_cons (Bw 2 t5 (args_cons (Bw 3 t5 (pZ ⟨(hK s5 t5.keep).k,?_⟩)) (by rfl))) (by rfl))))) (by rfl)) (by rfl))
 refine V8 K T (rm.le (by rwa[])) (λb o e=>t5.keep b o (hk' b o e)) t5.ownOk MF.dO hD0 i5 (by rwa[]) (bs:=bs) rfl rfl rfl rfl rfl rfl rfl (HP i keep5 rb) (Ha (s':=s) rb hbO) hlen λs8 dj sj sp led mb8=>?_
 refine l5 (q s8 dj sj sp led ⟨(Bc k1).tr ((Bc k2).tr (a3.tr (a4.tr (a5.tr mb8.al)))),λb o hb e=>mb8.keep b o hb (keep5 b o hb e),mb8.inn,mb8.bj.keeps (λa ha=>CY keep5 i5 ha) (λ_ _ _ e _=>e) (λ_ _ _ e=>e),CY keep5 i5 mb8.dj0,CY keep5 i5 mb8.sj0,mb8.sje⟩)
theorem A0.under{A:kC}{n:Nat}{C:jN}{vals:List jD}(r:A0 A (n+1)):A0 (A.under (.builtin "type.__call__" ⟨.ref C::vals,[]⟩)) n:=by
 have e1:(A.under (.builtin "type.__call__" ⟨.ref C::vals,[]⟩)).depth=A.depth+1:=rfl
 have e2:(A.under (.builtin "type.__call__" ⟨.ref C::vals,[]⟩)).units=A.units+1:=rfl
 exact⟨r.handled,by rw[e1];have:=r.depth;rwa[this],by rw[e2];have:=r.units;rwa[this]⟩
theorem WC{w:jY}{A:kC}{s:jG}{O:Ap}{xI:j6}{la lb:jN}{bs:List jZ}{as:List jN}{mg mb:jZ->Option jD}{Q:jD->jG->Prop}{E:jD->jG->Prop}(K:Bn w xI)(T:Br mg mb xI)(room:A0 A 10)(hk:HK xI s)(own:CJ O s)
 (rb:Ak s.heap (.ref lb) (.list (bs.map .str)) as)(hbO:∀a∈as,¬O.has a)(hlen:bs.length<=100)
 (q:∀(s':jG) (I D dj sj sp:jN) (led:Bool),AI s s'->(∀b o,s.heap.get? b=some o->s'.heap.get? b=some o)->s.heap.get? I=none->s.heap.get? D=none->
  IN s'.heap I D (Bm (Bm (Bm (mI (λ_=>none) la lb) "b2j" (.ref dj)) "bjunk" (.ref sj)) "bpopular" (.ref sp)) 14->BJ w s'.heap dj bs bs.length (λl=>s.heap.get? l=none)->(s.heap.get? dj=none/\dj≠D)->s.heap.get? sj=none->s'.heap.get? sj=some (Cc led)->Q (.ref I) s') :
 wpAny (model pw w) A (call (.ref CS) [.none,.ref la,.ref lb]) Q E s:=by
 obtain⟨hh,g,d,tk,os⟩:=s
 have X:(KK w.params).In hh:=(K.up hk).k
 refine mU (make_core (makes_of X (by kernel_rfl)) (pY X (by kernel_rfl:vx (KK w.params) (.ref CS) "__init__"=some (some (.ref 160)))) (λself=>bind_fn X self (by kernel_rfl)) (.inl rfl) ?_)
 generalize hD:hh.objs.size=D
 have k1:∀b o,hh.get? b=some o->((hh.push emptyDict).push (instObj CS D)).get? b=some o:=λb o e=>jH _ (jH _ e)
 have eD0:hh.get? D=none:=gn λo e=>absurd (kt e) (by rw[hD];exact lr _)
 have eI0:hh.get? (D+1)=none:=gn λo e=>absurd (kt e) (by show ¬D+1<hh.objs.size;rw[hD];rwa[])
 have eD:((hh.push emptyDict).push (instObj CS D)).get? D=some (dictOf [] 0):=jH _ (by rw[<-hD];exact jS _ rfl)
 have eI:((hh.push emptyDict).push (instObj CS D)).get? (D+1)=some (instObj CS D):=by
  have:D+1=(hh.push emptyDict).objs.size:=by rw[mT,hD]
  rw[this];exact jS _ rfl
 have ii:IN ((hh.push emptyDict).push (instObj CS D)) (D+1) D (λ_=>none) 0:=⟨eI,[],0,eD,λ_=>rfl,jP _⟩
 have hDO:¬O.has D:=by
  rintro⟨p,hp,e⟩
  obtain⟨o,ho⟩:=own.live p hp
  rw[e] at ho
  have ho:hh.get? D=some o:=ho
  exact B0 eD0 ho
 refine WN (s:=⟨(hh.push emptyDict).push (instObj CS D),g,d,tk,os⟩) (O:=O) K T (A0.under (room.le (by rwa[]))) (λb o e=>k1 b o (hk b o e)) ⟨own.nodup,λp hp=>AR (own.live p hp) λo e=>(Ag o (k1 _ _ e))⟩ hDO ?_ ii (Ak.keeps k1 rb) hbO hlen λs8 dj sj sp led mb8=>?_
 ·exact gn λo e=>by have:=hk _ _ e;have this:hh.get? D=some o:=this;exact B0 eD0 this
 ·refine⟨rfl,?_⟩
  have kp:∀b o,hh.get? b=some o->s8.heap.get? b=some o:=λb o e=>mb8.keep b o (λz=>by rw[z,eD0] at e;exact B6 e) (k1 _ _ e)
  have dn:∀a,((hh.push emptyDict).push (instObj CS D)).get? a=none->hh.get? a=none:=λa e=>by
   cases q:hh.get? a with
   | none=>rfl
   | some o=>exact B0 e (k1 _ _ q)
  exact q s8 (D+1) D dj sj sp led (AI.tr (AS _ _ rfl) mb8.al) kp eI0 eD0 mb8.inn (mb8.bj.keeps (λa ha=>dn a ha) (λ_ _ _ e _=>e) (λ_ _ _ e=>e)) ⟨dn _ mb8.dj0,λz=>by have:=mb8.dj0;rw[z] at this;have this:((hh.push emptyDict).push (instObj CS D)).get? D=none:=this;exact B0 this eD⟩ (dn _ mb8.sj0) mb8.sje
section
open PySem.Builtin PySem.Builtin.ObjectAttr
theorem EU:Slot "method_descriptor" "__get__" "method_descriptor.__get__":=
 .of (owner:="method_descriptor") (n:="__get__") (by rw[lU,lf];kernel_rfl) (by decide +kernel) (by decide +kernel) (by decide +kernel)
  (by first|exact .inl (by decide +kernel)|exact .inr (by decide +kernel)) (by rw[mK];kernel_rfl)
theorem GP:uu table "method_descriptor.__get__"=some ko.«method_descriptor.__get__»:=rX (by kernel_rfl)
theorem Ib(a b c:jD):sx "method_descriptor.__get__" ⟨[a,b,c],[]⟩:=by unfold sx;kernel_rfl
theorem WE:typeLookup (.type "dict") "get"=pure (some (.builtin "dict.get")):=by rw[lU,lf];kernel_rfl
theorem J4:typeLookup (.type "set") "__contains__"=pure (some (.builtin "set.__contains__")):=by rw[lU,lf];kernel_rfl
theorem FA:typeOf (.builtin "set.__contains__")=pure (.type "method_descriptor"):=by show builtinType _=_;rw[xx];kernel_rfl
noncomputable abbrev A8 (id:String) (d:jN):nJ:={cls:=.type "builtin_function_or_method",data:=.fields #[.builtin id,.ref d]}
theorem au{w:jY}{A:kC}{E:jD->jG->Prop}{hh:j6}{g:Array vB}{dr:Drawn}{tk:Nat}{os:lM}{d:jN}{o:nJ}{Q:jD->jG->Prop}(ho:hh.get? d=some o)(hc:o.cls=.type "dict")
 (h:Q (.ref hh.objs.size) ⟨hh.push (A8 "dict.get" d),g,dr,tk,os⟩):wpAny (model pw w) A (call (.builtin "method_descriptor.__get__") [.builtin "dict.get",.ref d,.type "dict"]) Q E ⟨hh,g,dr,tk,os⟩:=by
 refine lJ EU (by show typeOf (.builtin "dict.get")=_;exact F.type_dict_get) GP ?_ (Ib _ _ _)
 have hT:∀tk',(⟨hh,g,dr,tk',os⟩:jG).TypeIs (.ref d) "dict":=λ_=>Ac _ ho hc
 unfold ko.«method_descriptor.__get__»
 repeat (any_goals (first|assumption|exact hT _|wp_step))
 rw[hc,show ".".intercalate ("dict.get".cutAt '.').dropLast="dict" by decide +kernel]
 refine lC (show isSubtype (.type "dict") (.type "dict")=pure true by rw[mK];kernel_rfl) ?_
 rw[if_neg (by decide)]
 refine jL (jC ?_)
 repeat (any_goals (first|exact(Ac _ rfl h)|wp_step))
theorem Rj{w:jY}{A:kC}{E:jD->jG->Prop}{hh:j6}{g:Array vB}{dr:Drawn}{tk:Nat}{os:lM}{d:jN}{o:nJ}{Q:jD->jG->Prop}(ho:hh.get? d=some o)(hc:o.cls=.type "set")
 (h:Q (.ref hh.objs.size) ⟨hh.push (A8 "set.__contains__" d),g,dr,tk,os⟩):wpAny (model pw w) A (call (.builtin "method_descriptor.__get__") [.builtin "set.__contains__",.ref d,.type "set"]) Q E ⟨hh,g,dr,tk,os⟩:=by
 refine lJ EU (by show typeOf (.builtin "set.__contains__")=_;exact FA) GP ?_ (Ib _ _ _)
 have hT:∀tk',(⟨hh,g,dr,tk',os⟩:jG).TypeIs (.ref d) "set":=λ_=>Ac _ ho hc
 unfold ko.«method_descriptor.__get__»
 repeat (any_goals (first|assumption|exact hT _|wp_step))
 rw[hc,show ".".intercalate ("set.__contains__".cutAt '.').dropLast="set" by decide +kernel]
 refine lC (show isSubtype (.type "set") (.type "set")=pure true by rw[mK];kernel_rfl) ?_
 rw[if_neg (by decide)]
 refine jL (jC ?_)
 repeat (any_goals (first|exact(Ac _ rfl h)|wp_step))
theorem X5(id:String)(h:typeOf (.builtin id)=pure (.type "method_descriptor")):specialOf (.builtin id) "__get__"=pure (some (.builtin "method_descriptor.__get__")):=by
 unfold specialOf
 rw[h]
 show typeLookup (.type "method_descriptor") "__get__"=_
 exact EU.lookup
theorem V2(id:String)(h:typeOf (.builtin id)=pure (.type "method_descriptor")):takesStores (.builtin id)=pure false:=by
 have e1:specialOf (.builtin id) "__set__"=pure none:=by
  unfold specialOf
  rw[h]
  show typeLookup (.type "method_descriptor") "__set__"=_
  rw[lU,lf];kernel_rfl
 have e2:specialOf (.builtin id) "__delete__"=pure none:=by
  unfold specialOf
  rw[h]
  show typeLookup (.type "method_descriptor") "__delete__"=_
  rw[lU,lf];kernel_rfl
 unfold takesStores
 rw[e1,e2]
 rfl
theorem Uc{w:jY}{A:kC}{E:jD->jG->Prop}{hh:j6}{g:Array vB}{dr:Drawn}{tk:Nat}{os:lM}{d:jN}{o:nJ}{T id:String}{name:jZ}{Q:Found->jG->Prop}(ho:hh.get? d=some o)(hc:o.cls=.type T)(hd:o.dict=none)(hnc:∀c,o.data≠.cls c)
 (h1:typeLookup (.type T) name=pure (some (.builtin id)))(h2:typeOf (.builtin id)=pure (.type "method_descriptor"))(h3:(["__module__","__name__","__qualname__","__doc__","__annotations__"]:List jZ).contains name=false)
 (h:Q (.bind (.builtin "method_descriptor.__get__") (.builtin id)) ⟨hh,g,dr,tk,os⟩):wpAny (model pw w) A (find (.ref d) (.type T) name) Q E ⟨hh,g,dr,tk,os⟩:=by
 obtain⟨oc,od,oda,osl⟩:=o
 dsimp only at hc hd
 subst hc hd
 have body:∀{A:kC} {Q:Option jN->jG->Prop} {E:jD->jG->Prop} {tk:Nat},Q none ⟨hh,g,dr,tk,os⟩->wpAny (model pw w) A (ObjectAttr.ownDict d) Q E ⟨hh,g,dr,tk,os⟩:=by
  intro A Q E tk q
  unfold ObjectAttr.ownDict w8
  refine jC (oB ho ?_)
  have:wpAny (model pw w) A (instanceDict d false) Q E ⟨hh,g,dr,tk,os⟩:=by
   unfold instanceDict
   exact jC (oB ho (jL q))
  cases oda<;>first|exact this|exact absurd rfl (hnc _)
 unfold find getOf dataDescriptor? ownThenClass inOwnDict copiedAttributeGuard byTheClass
 refine jC (lC h1 (jC (lC (X5 id h2) (jC (jC (lC (V2 id h2) (jL ?_)))))))
 refine jC (jC (body (jL ?_)))
 refine jC ?_
 dsimp only
 rw[if_neg (by rw[h3];exact ll)]
 exact jL (jC (sr (jL h)))
end
section
open PySem.Builtin PySem.Builtin.ObjectAttr
theorem HM(a b:jD):nh "__getattribute__" 1 ⟨[a,b],[]⟩=pure (a,[b]):=by kernel_rfl
theorem GW(x:jZ)(t:uw):wL (.str x t)=pure x:=by kernel_rfl
theorem Jo(a:jD)(d:jN)(tp:jD):bindTo (.builtin "method_descriptor.__get__") a (.ref d) tp=(do ret (<-mq [a] (call (.builtin "method_descriptor.__get__") [a,.ref d,tp]))):=by kernel_rfl
theorem Pz{w:jY}{A:kC}{E:jD->jG->Prop}{s:jG}{d:jN}{o:nJ}{es:Array nB}{n:Nat}{Q:jD->jG->Prop}(ho:s.heap.get? d=some o)(hex:o.ExactDict)(hdat:o.data=.dict es n)
 (h:Q (.ref s.heap.objs.size) {s with heap:=s.heap.push (A8 "dict.get" d),toks:=s.toks+1}):wpAny (model pw w) A (pW (.ref d) "get" true) Q E s:=by
 delta w A E d es n Q at s o ho hex hdat h
 obtain⟨c,dct,dat,sl⟩:=o
 obtain⟨hc,hd,hsl⟩:=hex
 simp only at hc hdat hd
 subst hc hdat hd
 obtain⟨hh,g,dr,tk,os⟩:=s
 have hT:∀tk',(⟨hh,g,dr,tk',os⟩:jG).TypeIs (.ref d) "dict":=λ_=>Ac _ ho rfl
 have f3:=F.slot_dict_getattribute.lookup
 have f4:=F.slot_dict_getattribute.bind (.ref d)
 have f5:=am_dict_getattr_none
 unfold pW getAttrBy
 refine jC (wq (kG (jC (sq (hT _) (jC (lC f3 ?_))))))
 show wpAny _ _ (sD (.ref d) (.str "get" tk) (.type "dict") (.builtin "dict.__getattribute__") true true) _ _ _
 unfold sD hookBefore callGetattribute boundAndCalled
 refine jC (lC (show(if onTheHeap (.type "dict") then typeLookup (.type "dict") "__getattr__" else pure none)=pure none from rfl) ?_)
 refine jC (pC (kG ?_))
 show wpAny _ _ (bindSpecial (.builtin "dict.__getattribute__") (.ref d)>>=_) _ _ _
 refine jC (lC f4 ?_)
 refine lT (Q:=λv s'=>v=.ref hh.objs.size/\s'=⟨hh.push (A8 "dict.get" d),g,dr,tk+1,os⟩) (E:=λ_ _=>False)
  (lJ F.slot_dict_getattribute (hT _) am_entry_dict_getattribute ?_ (F.args_dict_getattribute_2 _ _)) (λv s' hv=>?_) λ_ _ z=>z.elim
 ·unfold ko.«object.__getattribute__»
  refine jC (lC (HM _ _) ?_)
  refine jC (lC (GW _ _) ?_)
  refine jC (sq (hT _) ?_)
  refine jC ?_
  have hnc:∀c,(vk es n)≠.cls c:=λc h=>by exact jU h
  have hn3:(["__module__","__name__","__qualname__","__doc__","__annotations__"]:List jZ).contains "get"=false:=by decide +kernel
  have fm:=λQ E (h:Q (Found.bind (.builtin "method_descriptor.__get__") (.builtin "dict.get")) ⟨hh,g,dr,tk+1,os⟩)=>@Uc w A.in1 E hh g dr (tk+1) os d {cls:=.type "dict",data:=.dict es n,slots:=sl} "dict" "dict.get" "get" Q ho rfl rfl hnc WE F.type_dict_get hn3 h
  refine fm _ _ ?_
  show wpAny _ _ (bindTo (.builtin "method_descriptor.__get__") (.builtin "dict.get") (.ref d) (.type "dict")) _ _ _
  rw[Jo]
  refine jC (kG ?_)
  refine au ho rfl ?_
  exact jL (Ba _ rfl rfl rfl)
 ·obtain⟨rfl,rfl⟩:=hv
  exact jL h
end
section
set_option backward.match.sparseCases true
open PySem.Builtin PySem.Builtin.ObjectAttr
theorem Y1(a b c:jD):(match oU "dict.get" with|some sig=>qK "dict.get" {sig with full:=s!"{Bind.lastOf "dict"}.{Bind.lastOf "dict.get"}"} ⟨[a,b,c],[]⟩|none=>pure ())=pure ():=by
 rw[vY (id:="dict.get") (n:=['t','e','g']) (o:=['t','c','i','d']) (by kernel_rfl) PySem.F.owner_dict];kernel_rfl
theorem WK:qz "dict.get"=some .method:=by decide +kernel
theorem XQ:ux.contains "dict.get"=false:=by decide +kernel
theorem Vq{w:jY}{A:kC}{E:jD->jG->Prop}{s:jG}{d:jN}{o:nJ}{es:Array nB}{n:Nat}{b c:jD}{Q:Unit->jG->Prop}(ho:s.heap.get? d=some o)(hc:o.cls=.type "dict")(hdat:o.data=.dict es n)(q:Q () s):wpAny (model pw w) A (pX "dict.get" ⟨[.ref d,b,c],[]⟩) Q E s:=by
 have L0:mF (model pw w) s.heap (typeOf (.ref d)) (.type "dict"):=hc▸(oQ ho).andThen .now
 have L1:mF (model pw w) s.heap (isInstance (.ref d) (.type "module")) false:=L0.andThen (pT (by rw[mK];kernel_rfl))
 have L2:mF (model pw w) s.heap (isType (.ref d)) false:=by
  intro A Q E s' k q
  unfold isType w8
  refine jC (oB (k _ _ ho) ?_)
  rw[hdat]
  exact jL q
 have ck:=Y1 (.ref d) b c
 unfold pX
 cases hs:oU "dict.get" with
 | none=>exact jL q
 | some sig=>
  rw[hs] at ck
  dsimp only at ck ⊢
  rw[WK]
  dsimp only
  rw[if_neg (by decide)]
  refine jC (L1.here ?_)
  rw[XQ]
  rw[if_neg (by decide)]
  have l2:∀(Q:Bool->jG->Prop) (E:jD->jG->Prop),Q false s->wpAny (model pw w) A (isType (.ref d)) Q E s:=λQ E z=>L2.here z
  refine jC (l2 _ _ ?_)
  rw[if_neg (by decide)]
  refine jC (L0.here ?_)
  show wpAny _ _ (qK "dict.get" {sig with full:=s!"{Bind.lastOf "dict"}.{Bind.lastOf "dict.get"}"} ⟨[.ref d,b,c],[]⟩) _ _ _
  rw[ck]
  exact jL q
theorem Vs{w:jY}{A:kC}{E:jD->jG->Prop}{s:jG}{d g:jN}{i:Int}{t:uw}{dflt:jD}{f:Int->Option jD}{Q:jD->jG->Prop}(hg:s.heap.get? g=some (A8 "dict.get" d))(hm:s.heap.MapOf (pS pw w) d f)(lo:(d == sysModules)=false)
 (h:Q ((f i).getD dflt) {s with toks:=s.toks+1}):wpAny (model pw w) A (call (.ref g) [.int i t,dflt]) Q E s:=by
 have hT:s.TypeIs (.ref d) "dict":=hm.typeIs
 have hm':=hm
 refine Cf hm' λo es ep ho hex hdat _=>?_
 refine mU (vh ?_)
 show wpAny _ _ (wv (.ref g) _) _ _ _
 unfold wv
 refine jC (su hg ?_)
 show wpAny _ _ (pX "dict.get" ⟨[.ref d,.int i t,dflt],[]⟩>>=λ_=>again (.builtin "dict.get" ⟨[.ref d,.int i t,dflt],[]⟩)) _ _ _
 refine jC (Vq ho hex.1 hdat ?_)
 refine jL ⟨sP _ (by decide +kernel),?_⟩
 have hmt:=wu (pS pw w) d (uO pw w i t) lo dflt
 refine pF uV ?_
 rw[nE (by decide +kernel)]
 exact hmt A (λr s'=>match r with | .ok (.ret v)=>Q v s' | .ok _=>False | .error e=>E e s') s (Ac f hm h)
end
section
open PySem.Builtin PySem.Builtin.ObjectAttr
theorem Op:uu table "set.__getattribute__"=some ko.«object.__getattribute__»:=
 entryFor_alias (id':="object.__getattribute__") (by kernel_rfl) (by decide +kernel) (by decide +kernel) (by kernel_rfl)
theorem G7:typeLookup (.type "set") "__getattr__"=pure none:=by rw[lU,lf];kernel_rfl
theorem Ic{w:jY}{A:kC}{E:jD->jG->Prop}{s:jG}{d:jN}{led:Bool}{Q:jD->jG->Prop}(ho:s.heap.get? d=some (Cc led))
 (h:Q (.ref s.heap.objs.size) {s with heap:=s.heap.push (A8 "set.__contains__" d),toks:=s.toks+1}):wpAny (model pw w) A (pW (.ref d) "__contains__" true) Q E s:=by
 delta w A E d led Q at s ho h
 obtain⟨hh,g,dr,tk,os⟩:=s
 have hT:∀tk',(⟨hh,g,dr,tk',os⟩:jG).TypeIs (.ref d) "set":=λ_=>Ac _ ho rfl
 have f3:=pO.lookup
 have f4:=pO.bind (.ref d)
 have f5:=G7
 unfold pW getAttrBy
 refine jC (wq (kG (jC (sq (hT _) (jC (lC f3 ?_))))))
 show wpAny _ _ (sD (.ref d) (.str "__contains__" tk) (.type "set") (.builtin "set.__getattribute__") true true) _ _ _
 unfold sD hookBefore callGetattribute boundAndCalled
 refine jC (lC (show(if onTheHeap (.type "set") then typeLookup (.type "set") "__getattr__" else pure none)=pure none from rfl) ?_)
 refine jC (pC (kG ?_))
 show wpAny _ _ (bindSpecial (.builtin "set.__getattribute__") (.ref d)>>=_) _ _ _
 refine jC (lC f4 ?_)
 refine lT (Q:=λv s'=>v=.ref hh.objs.size/\s'=⟨hh.push (A8 "set.__contains__" d),g,dr,tk+1,os⟩) (E:=λ_ _=>False)
  (lJ pO (hT _) Op ?_ (PySem.F.args_set_getattribute_2 _ _)) (λv s' hv=>?_) λ_ _ z=>z.elim
 ·unfold ko.«object.__getattribute__»
  refine jC (lC (HM _ _) ?_)
  refine jC (lC (GW _ _) ?_)
  refine jC (sq (hT _) ?_)
  refine jC ?_
  have hnc:∀c,(Cc led).data≠.cls c:=λc h=>by cases h
  have hn3:(["__module__","__name__","__qualname__","__doc__","__annotations__"]:List jZ).contains "__contains__"=false:=by decide +kernel
  have fm:=λQ E (h:Q (Found.bind (.builtin "method_descriptor.__get__") (.builtin "set.__contains__")) ⟨hh,g,dr,tk+1,os⟩)=>@Uc w A.in1 E hh g dr (tk+1) os d (Cc led) "set" "set.__contains__" "__contains__" Q ho rfl rfl hnc J4 FA hn3 h
  refine fm _ _ ?_
  show wpAny _ _ (bindTo (.builtin "method_descriptor.__get__") (.builtin "set.__contains__") (.ref d) (.type "set")) _ _ _
  rw[Jo]
  refine jC (kG ?_)
  refine Rj ho rfl ?_
  exact jL (Ba _ rfl rfl rfl)
 ·obtain⟨rfl,rfl⟩:=hv
  exact jL h
theorem Ow(a b:jD):(match oU "set.__contains__" with|some sig=>qK "set.__contains__" {sig with full:=s!"{Bind.lastOf "set"}.{Bind.lastOf "set.__contains__"}"} ⟨[a,b],[]⟩|none=>pure ())=pure ():=by
 rw[vY (id:="set.__contains__") (n:=['_','_','s','n','i','a','t','n','o','c','_','_']) (o:=['t','e','s']) (by kernel_rfl) PySem.F.owner_set];kernel_rfl
theorem J7:qz "set.__contains__"=some .method:=by decide +kernel
theorem NT:ux.contains "set.__contains__"=false:=by decide +kernel
theorem Jm{w:jY}{A:kC}{E:jD->jG->Prop}{s:jG}{d:jN}{led:Bool}{b:jD}{Q:Unit->jG->Prop}(ho:s.heap.get? d=some (Cc led))(q:Q () s):wpAny (model pw w) A (pX "set.__contains__" ⟨[.ref d,b],[]⟩) Q E s:=by
 delta w A E s d led b Q at ho q
 have L0:mF (model pw w) s.heap (typeOf (.ref d)) (.type "set"):=(oQ ho).andThen .now
 have L1:mF (model pw w) s.heap (isInstance (.ref d) (.type "module")) false:=L0.andThen (pT (by rw[mK];kernel_rfl))
 have L2:mF (model pw w) s.heap (isType (.ref d)) false:=by
  intro A Q E s' k q
  unfold isType w8
  refine jC (oB (k _ _ ho) ?_)
  exact jL q
 have ck:=Ow (.ref d) b
 unfold pX
 cases hs:oU "set.__contains__" with
 | none=>exact jL q
 | some sig=>
  rw[hs] at ck
  dsimp only at ck ⊢
  rw[J7]
  dsimp only
  rw[if_neg (by decide)]
  refine jC (L1.here ?_)
  rw[NT]
  rw[if_neg (by decide)]
  have l2:∀(Q:Bool->jG->Prop) (E:jD->jG->Prop),Q false s->wpAny (model pw w) A (isType (.ref d)) Q E s:=λQ E z=>L2.here z
  refine jC (l2 _ _ ?_)
  rw[if_neg (by decide)]
  refine jC (L0.here ?_)
  show wpAny _ _ (qK "set.__contains__" {sig with full:=s!"{Bind.lastOf "set"}.{Bind.lastOf "set.__contains__"}"} ⟨[.ref d,b],[]⟩) _ _ _
  rw[ck]
  exact jL q
theorem Jn{w:jY}{A:kC}{E:jD->jG->Prop}{s:jG}{d g:jN}{x:jZ}{t:uw}{led:Bool}{Q:jD->jG->Prop}(hg:s.heap.get? g=some (A8 "set.__contains__" d))(hm:s.heap.get? d=some (Cc led))
 (h:Q (.bool false) {s with toks:=s.toks+1}):wpAny (model pw w) A (call (.ref g) [.str x t]) Q E s:=by
 delta w A E s d g x t Q at led hg hm h
 have hS:s.heap.SetOf (mQ pw w) d (λ_=>false) 0:=eU _ (#[]) 0 _ hm ⟨rfl,rfl,rfl⟩ rfl (λe he=>by simp at he) (λk=>by simp) (by decide) (by cases led<;>rfl) rfl
 refine mU (vh ?_)
 show wpAny _ _ (wv (.ref g) _) _ _ _
 unfold wv
 refine jC (su hg ?_)
 show wpAny _ _ (pX "set.__contains__" ⟨[.ref d,.str x t],[]⟩>>=λ_=>again (.builtin "set.__contains__" ⟨[.ref d,.str x t],[]⟩)) _ _ _
 refine jC (Jm hm ?_)
 refine jL ⟨sP _ (by decide +kernel),?_⟩
 refine pF PySem.entry_set_contains ?_
 rw[nE (by decide +kernel)]
 unfold ko.«frozenset.__contains__» xg
 dsimp only
 simp -iota only[List.isEmpty_nil,bind_assoc]
 unfold xh xf setContains
 refine jC (jL ?_)
 try dsimp only
 refine jC (vt ?_)
 refine kG ?_
 refine jC ((mQ pw w).pyHash (q9 pw w x t) ?_)
 refine jC (wpAny_setFind_of (s:={s with toks:=s.toks+1}) (q9 pw w x t) (by rfl) hS λr hr=>?_)
 refine jL ?_
 show wpAny _ _ (ret (kr r.isSome)) _ _ _
 rw[hr]
 exact jL h
end

section
variable {Γ:Cx} {σ:AX} {O:Ap} {s:jG}
theorem em(N:Nm Γ){i:Nat}{x:jZ}{a:jN}{P P':nJ->Prop}{h':j6}{tk:Nat}{o':nJ}(t:St Γ O σ s)(hi:Γ.ns[i]?=some x)(hσ:σ[i]?=some (some (.at a P)))(sb:ou a s.heap h')(ho':h'.get? a=some o')(hP:P' o')(hz:FV o')(hc:o'.cls≠.type "tuple") :
 St Γ O (σ.set i (some (.at a P'))) {s with heap:=h',toks:=tk}/\Fx Γ O s O {s with heap:=h',toks:=tk}:=by
 delta Γ σ O s i x a P P' h' tk o' at N t hi hσ sb ho' hP hz hc
 obtain⟨kp,⟨m,n,vs⟩,cl,nd,lv,sb',fr,fs⟩:=t
 have hlt:i<σ.length:=(jM.mp hσ).1
 refine W3 (vs i x _ hi hσ) λv0 hd zz1 m1 zz2 f1 haL=>?_;obtain rfl:=zz1;obtain⟨o,g,p,z,hcl⟩:=zz2
 have hT:∀o,s.heap.get? a=some o->¬(o.cls=.type "tuple"/\∃vs n,o.data=.seq vs n):=by
  rintro o' e' ⟨h1,_⟩
  (replace e':=CQ g e';subst e');exact hcl h1
 have hget:=AJ sb
 have haO:O.has a:=Ac _ m1 rfl
 have hncell:∀{c:jN} {u:Option jD},s.heap.IsCell c u->c≠a:=by
  rintro c u ⟨oc,ec,dc⟩ rfl
  (replace ec:=CQ g ec;subst ec);exact z.1 _ dc
 refine⟨⟨λb o e=>hget b (λw=>by rw[w,f1] at e;exact B6 e) o (kp b o e),(Ac m (n.sameBut sb (ln haL)) λj y b e e'=>?_),λy c e=>?_,nd,λp hp=>?_,sb',fr,fs⟩,⟨(AS _ _ rfl),λ_ h=>.inl h,λb o e=>?_,λb o e h1 _=>hget b (λw=>h1 (w▸haO)) o e,λb o e q=>hget b (λw=>hT o (w▸e) q) o e⟩⟩
 ·have held:∀{y:jZ} {u:jD},Gk s.heap Γ.env m y u->Gk h' Γ.env m y u:=λw=>w.imp id λ⟨k,c,hc,ic⟩=>⟨k,c,hc,ic.sameBut sb (hncell ic)⟩
  by_cases hj:j=i
  ·subst hj
   (replace e:=CQ hi e;subst e)
   rw[lQ hlt] at e'
   cases e'
   exact eY (.ref a) (held hd) rfl m1 (H5 o' ho' hP hz hc) f1 haL
  ·rw[lR (ln hj)] at e'
   refine Af (vs j y b e e') λu hd' r'=>?_
   refine Ac u (held hd') ?_
   have other:∀a2,(y,a2)∈O->a2≠a:=by
    rintro a2 hm rfl
    have:=Ap.mem_inj nd m1 hm
    subst this
    exact hj ((mr (jM.mp e).1 N.nodup).mp (e.trans hi.symm))
   cases b with
   | val w=>exact VR.avoid (O:=O) r' haO hget hT
   | own es=>
    refine CR r' λa2 ws' as' e1 m1' l1' r1' q1' f1'=>?_
    exact CA a2 ws' as' e1 m1' (AR l1' λn e=>(Ag n (hget _ (other _ m1') _ e))) (Aq hget hT r1' λhm=>q1' _ hm haO) q1' f1'
   | «at» a2 P2=>
    refine CU r' λe1 m1' zz1 f1'=>?_;obtain⟨o2,g2,p2⟩:=zz1
    exact⟨e1,m1',(Ac o2 (hget _ (other _ m1') _ g2) p2),f1'⟩
 ·obtain⟨u,ic⟩:=cl y c e
  exact Ag u (ic.sameBut sb (hncell ic))
 ·obtain⟨o1,e1⟩:=lv p hp
  by_cases hp':p.2=a
  ·exact Ag o' (hp'▸ho')
  ·exact Ag o1 (hget _ hp' _ e1)
 ·by_cases hb:b=a
  ·exact Ag o' (hb▸ho')
  ·exact Ag o (hget b hb o e)
theorem QV(N:Nm Γ){i:Nat}{x:jZ}{a:jN}{P:nJ->Prop}(y:jZ)(t:St Γ O σ s)(hi:Γ.ns[i]?=some x)(hσ:σ[i]?=some (some (.at a P))) :
 St Γ ((y,a)::O.filter λp=>!decide (p.2=a)) (σ.set i none) s/\Fx Γ O s ((y,a)::O.filter λp=>!decide (p.2=a)) s:=by
 delta Γ σ O s i x a P y at N t hi hσ
 obtain⟨kp,⟨m,n,vs⟩,cl,nd,lv,sb,fr,fs⟩:=t
 have hlt:i<σ.length:=(jM.mp hσ).1
 refine W3 (vs i x _ hi hσ) λv0 hd zz1 m1 zz2 f1 haL=>?_;obtain rfl:=zz1;obtain⟨o,g,p,z⟩:=zz2
 have hsub:∀b,Ap.has ((y,a)::O.filter λp=>!decide (p.2=a)) b->O.has b:=by
  intro b zz1;refine Af zz1 λp hp e=>?_
  rcases jI.mp hp with rfl|hp
  ·exact Ac _ m1 e
  ·exact Ac p ((kd.mp hp).1) e
 refine⟨⟨kp,(Ac m n λj x' b e e'=>?_),cl,?_,λp hp=>?_,λb hb=>?_,fr,fs⟩,⟨AI.re s,λb hb=>.inl (hsub b hb),λ_ o e=>(Ag o e),λ_ _ e _ _=>e,λ_ _ e _=>e⟩⟩
 ·by_cases hj:j=i
  ·subst hj
   rw[lQ hlt] at e'
   cases e'
  ·rw[lR (ln hj)] at e'
   refine Af (vs j x' b e e') λu hd' r'=>?_
   refine Ac u hd' ?_
   have other:∀a2,(x',a2)∈O->a2≠a:=by
    rintro a2 hm rfl
    have:=Ap.mem_inj nd m1 hm
    subst this
    exact hj ((mr (jM.mp e).1 N.nodup).mp (e.trans hi.symm))
   have keepm:∀a2,(x',a2)∈O->(x',a2)∈((y,a)::O.filter λp=>!decide (p.2=a)):=λa2 hm=>.tail _ (kd.mpr ⟨hm,by simp[other a2 hm]⟩)
   cases b with
   | val w=>
    cases w with
    | py d=>refine Af r' λbs r q=>?_;exact Ac bs r λb hb z=>q b hb (hsub b z)
    | «by» b=>exact r'
    | raw w=>exact r'
    | obj P=>refine C9 r' λa1 o e1 g p q z=>?_;exact C5 a1 o e1 g p (λh=>q (hsub a1 h)) z
    | st R ok=>refine Af r' λbs r q=>?_;exact Ac bs r λb hb z=>q b hb (hsub b z)
   | own es=>
    refine CR r' λa2 ws' as' e1 m1' l1' r1' q1' f1'=>?_
    exact CA a2 ws' as' e1 (keepm _ m1') l1' r1' (λb hb z=>q1' b hb (hsub b z)) f1'
   | «at» a2 P2=>
    refine CU r' λe1 m1' g2 f1'=>?_
    exact⟨e1,keepm _ m1',g2,f1'⟩
 ·rw[kO,mf]
  refine⟨λhm=>?_,qd (pp _ pf) nd⟩
  refine Af (kq.mp hm) λp hp e=>?_
  have:=(kd.mp hp).2
  simp[e] at this
 ·rcases jI.mp hp with rfl|hp
  ·exact Ag o g
  ·exact lv p (kd.mp hp).1
 ·refine Af (sb b hb) λp hp e=>?_
  by_cases hpa:p.2=a
  ·exact Ac (y,a) (.head _) (hpa.symm.trans e)
  ·exact Ac p (.tail _ (kd.mpr ⟨hp,by simp[hpa]⟩)) e
theorem Hc{x:jZ}{pos:mi}{a:jN}{P:nJ->Prop}{Q:jD->jG->Prop}{E:jD->jG->Prop}(i:Nat)(t:St Γ O σ s)(q:Q (.ref a) s)(hi:autoParam (Γ.ns[i]?=some x) aR)(h:autoParam (σ[i]?=some (some (.at a P))) aR)(hk:autoParam (Γ.env.scope.kind=.function) aR)(hd:autoParam ((x == ("__debug__":jZ))=false) aK) :
 wpAny (model Γ.prog Γ.w) Γ.A (eval (.Name x pos) Γ.env) Q E s:=by
 refine Af t.ex λm n vs=>?_
 refine Bu (vs i x _ hi h) λu hd' zz1 _=>?_;obtain rfl:=zz1
 rcases hd' with⟨k1,e⟩|⟨k1,c,hc,e⟩
 ·exact nH (mE hk k1 n e q) hd
 ·exact nH (oq hk k1 hc e q) hd
theorem RG(t:St Γ O σ s){i:Nat}{x:jZ}{a:jN}{P:nJ->Prop}(hi:Γ.ns[i]?=some x)(h:σ[i]?=some (some (.at a P))):∃o,s.heap.get? a=some o/\P o/\FV o/\o.cls≠.type "tuple":=by
 refine Af t.ex λm n vs=>?_
 refine W4 (vs i x _ hi h) λu _ zz1 _ g _=>?_;obtain rfl:=zz1
 exact g
theorem XB(t:St Γ O σ s){i:Nat}{x:jZ}{a:jN}{P:nJ->Prop}(hi:Γ.ns[i]?=some x)(h:σ[i]?=some (some (.at a P))):(x,a)∈O/\Γ.s₀.heap.get? a=none/\a≠Γ.env.locals:=by
 refine Af t.ex λm n vs=>?_
 refine W4 (vs i x _ hi h) λu _ zz1 h1 _ h2=>?_;obtain rfl:=zz1
 exact⟨h1,h2⟩
theorem V6(N:Nm Γ){i:Nat}{x:jZ}{a:jN}{P:nJ->Prop}{s1:jG}{o:nJ}{Q:Unit->jG->Prop}{E:jD->jG->Prop}(t:St Γ O σ s)(k:kZ s s1)(hn:s.heap.get? a=none)(ho:s1.heap.get? a=some o)(hP:P o)(hz:FV o)(hc:o.cls≠.type "tuple")(hi:Γ.ns[i]?=some x)(hlt:i<σ.length)(hk:Γ.env.kindOf x=some .local)
 (q:∀s',AI s s'->(∀b o,b≠Γ.env.locals->s1.heap.get? b=some o->s'.heap.get? b=some o)->St Γ ((x,a)::O) (σ.set i (some (.at a P))) s'->Fx Γ O s ((x,a)::O) s'->Q () s'):wpAny (model Γ.prog Γ.w) Γ.A (storeName Γ.env x (.ref a)) Q E s1:=by
 have t1:=ET (x:=x) t k hn (Ag o ho)
 have haL:a≠Γ.env.locals:=by
  rintro rfl
  refine Af t.ex λm zz1 _=>?_;obtain⟨o',_,_,e,_⟩:=zz1
  exact B0 hn e
 have h0:Γ.s₀.heap.get? a=none:=gn λo e=>by have:=t.keep _ _ e;exact B0 hn this
 refine AG N (b:=.at a P) hi hlt hk t1 ⟨rfl,.head _,(H5 o ho hP hz hc),h0,haL⟩ λs2 a2 u2 t2=>q s2 ?_ u2 t2 ((Fx.new k hn).tr (Fx.ofBut t1 a2 u2 t2))
 refine Ao k λh tk zz1 _=>?_;clear k;obtain rfl:=zz1
 exact AI.tr (AS _ _ rfl) a2
end
section
set_option tactic.hygienic true
noncomputable def RJ (w:jY) (bs:List jZ) (h:j6) (v:jD) (pl:List jN):Prop:=
 ∃dj ls,v=.ref dj/\pl=dj::ls/\BJ w h dj bs bs.length (·∈ls)/\(dj == sysModules)=false/\∀l∈ls,∃vs,h.PlainList l vs
theorem BJ.obj{w:jY}{h:j6}{dj:jN}{bs:List jZ}{i:Nat}{Lk:jN->Prop}(b:BJ w h dj bs i Lk):∃o es n,h.get? dj=some o/\o.cls=.type "dict"/\o.data=.dict es n:=by
 delta w h dj bs i Lk at b
 obtain⟨⟨kvs,⟨o,es,ep,e,r1,r2,r3⟩,_⟩⟩:=b
 exact Pw o es ep e r1.1 r2
theorem F0{o:nJ}{es:Array nB}{n:Nat}(h:o.data=.dict es n):FV o:=⟨λc e=>(by rw[h] at e;exact jU e),λf e=>(by rw[h] at e;exact jU e)⟩
theorem G6{o:nJ}{vs:Array jD}{n:Nat}(h:o.data=.seq vs n):FV o:=⟨λc e=>(by rw[h] at e;exact jU e),λf e=>(by rw[h] at e;exact jU e)⟩
theorem Cn(w:jY)(bs:List jZ):Fg (RJ w bs):=by
 refine⟨?_,?_⟩
 ·intro h h' v pl zz1 k _;refine C9 zz1 λdj ls zz2 zz3 b lo pls=>?_;clear zz1;obtain rfl:=zz2;obtain rfl:=zz3
  have kl:∀l vs,l∈ls->h.PlainList l vs->h'.PlainList l vs:=λl vs hl ⟨n,e⟩=>Ag n (k l (.tail _ hl) _ e)
  exact C5 dj ls rfl rfl (b.keeps (λ_ x=>x) (λo es n e _=>k dj (.head _) o e) kl) lo λl hl=>AR (pls l hl) λvs p=>(Ag vs (kl l vs hl p))
 ·intro h v pl zz1 x hx;refine C9 zz1 λdj ls zz2 zz3 b lo pls=>?_;clear zz1;obtain rfl:=zz2;obtain rfl:=zz3
  rcases jI.mp hx with rfl|hx
  ·refine Ec b.obj λo es n e _ d=>?_
   exact Ac o e (F0 d)
  ·refine B1 (pls x hx) λvs n e=>?_
   exact Ac _ e (G6 rfl)
structure fw (m:jZ->Option jD) (la lb dj sj:jN):Prop where
 a:m "a"=some (.ref la)
 b:m "b"=some (.ref lb)
 b2j:m "b2j"=some (.ref dj)
 bjunk:m "bjunk"=some (.ref sj)
 mb:m "matching_blocks"=some .none
 flm:m "find_longest_match"=none
 gmb:m "get_matching_blocks"=none
noncomputable def RM (w:jY) (as bs:List jZ) (h:j6) (v:jD) (pl:List jN):Prop:=
 ∃I D m k la lb dj sj led ls,v=.ref I/\pl=I::D::la::lb::sj::dj::ls/\IN h I D m k/\fw m la lb dj sj/\Ak h (.ref la) (.list (as.map .str)) [la]/\Ak h (.ref lb) (.list (bs.map .str)) [lb]/\RJ w bs h (.ref dj) (dj::ls)/\h.get? sj=some (Cc led)
theorem Ko{h:j6}{l:jN}{xs:List jQ}(r:Ak h (.ref l) (.list xs) [l]):∃o vs n,h.get? l=some o/\o.cls=.type "list"/\o.data=.seq vs n:=by
 delta h l xs at r
 generalize e1:kz l=v at r
 generalize e2:PyData.list xs=d at r
 cases r<;>first|(cases e2;done)|skip
 rename_i o vs n ys c d g r
 exact Pw o vs n g c d
theorem D5(w:jY)(as bs:List jZ):Fg (RM w as bs):=by
 refine⟨?_,?_⟩
 ·rintro h h' v pl ⟨I,D,m,k,la,lb,dj,sj,led,ls,rfl,rfl,i,mo,ra,rb,rj,es⟩ kk tt
  refine⟨I,D,m,k,la,lb,dj,sj,led,ls,rfl,rfl,⟨kk I (.head _) _ i.inst,?_⟩,mo,CX ra (λb hb o e=>?_) tt,CX rb (λb hb o e=>?_) tt,(Cn w bs).keepBy rj (λb hb o e=>kk b (.tail _ (.tail _ (.tail _ (.tail _ (.tail _ hb))))) o e) tt,kk sj (.tail _ (.tail _ (.tail _ (.tail _ (.head _))))) _ es⟩
  ·refine Ao i.dict λes n e r=>?_
   exact AT es n (kk D (.tail _ (.head _)) _ e) r
  ·rw[jJ.mp hb] at e ⊢
   exact kk la (.tail _ (.tail _ (.head _))) o e
  ·rw[jJ.mp hb] at e ⊢
   exact kk lb (.tail _ (.tail _ (.tail _ (.head _)))) o e
 ·rintro h v pl ⟨I,D,m,k,la,lb,dj,sj,led,ls,rfl,rfl,i,mo,ra,rb,rj,es⟩ x hx
  rcases jI.mp hx with rfl|hx
  ·exact Ac _ i.inst ⟨λc e=>(by cases e),λf e=>(by cases e)⟩
  rcases jI.mp hx with rfl|hx
  ·refine Ao i.dict λes n e _=>?_
   exact Ac _ e (F0 rfl)
  rcases jI.mp hx with rfl|hx
  ·refine Ec (Ko ra) λo vs n g _ d=>?_
   exact Ac o g (G6 d)
  rcases jI.mp hx with rfl|hx
  ·refine Ec (Ko rb) λo vs n g _ d=>?_
   exact Ac o g (G6 d)
  rcases jI.mp hx with rfl|hx
  ·exact Ac _ es ⟨λc e=>(by cases e),λf e=>(by cases e)⟩
  ·exact(Cn w bs).solid rj x hx
section
variable {Γ:Cx}
noncomputable def N0 (σ:AX):List Nat->List AV->AX
 | i::is,d::ds=>N0 (σ.set i (some (.val d))) is ds
 | _,_=>σ
theorem DD.avoid{O:Ap}{h h':j6}{L:jN}(hL:O.has L)(hs:∀b,b≠L->∀o,h.get? b=some o->h'.get? b=some o)(hT:∀o,h.get? L=some o->¬(o.cls=.type "tuple"/\∃vs n,o.data=.seq vs n)):∀{as:List AV} {vs:List jD},DD O h as vs->DD O h' as vs
 | [],[],_=>trivial
 | _::_,_::_,⟨x,y⟩=>⟨VR.avoid x hL hs hT,DD.avoid hL hs hT y⟩
theorem Oa(N:Nm Γ)(Q:Unit->jG->Prop)(E:jD->jG->Prop):∀(is:List Nat) (es:List kJ) (ds:List AV),DY Γ is es->∀(σ:AX) (O:Ap) (s:jG) (vs:List jD),(∀i∈is,i<σ.length)->is.length=ds.length->
 St Γ O σ s->DD O s.heap ds vs->(∀s',AI s s'->(∀b o,b≠Γ.env.locals->s.heap.get? b=some o->s'.heap.get? b=some o)->St Γ O (N0 σ is ds) s'->Q () s')->wpAny (model Γ.prog Γ.w) Γ.A (v4 ((assignEach es Γ.env).map (·.2)) vs) Q E s:=by
 intro is
 delta Γ Q E at N is
 induction is with
 | nil=>
  intro es ds hn σ O s vs hlt hl t r q
  cases es with
  | cons=>exact hn.elim
  | nil=>
   cases ds with
   | cons=>cases hl
   | nil=>
    cases vs with
    | cons=>exact r.elim
    | nil=>exact jL (q s (AI.re s) (λ_ _ _ e=>e) t)
 | cons i is ih=>
  intro es ds hn σ O s vs hlt hl t r q
  cases es with
  | nil=>exact hn.elim
  | cons e es=>
   cases e with
   | Name x p=>
    refine C1 hn λhi hk h=>?_
    cases ds with
    | nil=>cases hl
    | cons d ds=>
     cases vs with
     | nil=>exact r.elim
     | cons v ws=>
      obtain⟨r1,rs⟩:=r
      have e:assignEach (.Name x p::es) Γ.env=(false,assign (.Name x p) Γ.env)::assignEach es Γ.env:=rfl
      rw[e]
      refine Af t.ex λm n _=>?_
      refine rD (lK (AG N (b:=.val d) hi (hlt i (.head _)) hk t r1 λs1 a1 u1 t1=>?_))
      exact ih es ds h _ O s1 ws (λj hj=>by rw[nM];exact hlt j (.tail _ hj)) (qY hl) t1 (DD.avoid (t.sub _ t.frame) (λb hb o e=>u1 b o hb e) (A5 n) rs) λs2 a2 u2 t2=>q s2 (a1.tr a2) (λb o hb e=>u2 b o hb (u1 b o hb e)) t2
   | _=>exact hn.elim
theorem QZ{σ:AX}{O:Ap}{s:jG}{es:List kJ}{ee:List kJ}{k k':Nat}{p p' pos:mi}{ss:List md}{Q:uT->jG->Prop}{E:jD->jG->Prop}(N:Nm Γ)(hh:Γ.A.handled=none)(is:List Nat)(ds:List AV)(hn:DY Γ is es)(hl:is.length=ds.length)(hlt:∀i∈is,i<σ.length)
 (h:wpAny (model Γ.prog Γ.w) Γ.A (spliced (backTo p' (starEach ee Γ.env))) (λvs s1=>St Γ O σ s1/\kZ s s1/\DD O s1.heap ds vs/\vs.length<=1000/\∀s2,AI s s2->(∀b o,b≠Γ.env.locals->s1.heap.get? b=some o->s2.heap.get? b=some o)->St Γ O (N0 σ is ds) s2->wpAny (model Γ.prog Γ.w) Γ.A (execs ss Γ.env) Q E s2) E s)
 (hs:autoParam (tM [ow es k p] (.Tuple ee k' p') pos.line Γ.env=pure false) aR)(hw:autoParam (nv [ow es k p] (.Tuple ee k' p') Γ.env=pure none) aR) :
 wpAny (model Γ.prog Γ.w) Γ.A (execs (.Assign [.Tuple es k p] (.Tuple ee k' p') pos::ss) Γ.env) Q E s:=by
 refine km (wD (xu (lT h (λvs s1 hq=>?_) λ_ _ e=>e)) hs hw)
 refine Ue hq λt1 k1 rv hsz q=>?_
 refine⟨by rw[sizeLine_eq];lia,?_⟩
 have kp:kZ s1 {s1 with heap:=s1.heap.push {cls:=.type "tuple",data:=.seq vs.toArray}}:=Keeps.push _ _
 have t2:=t1.of_keeps kp
 obtain⟨h1,h2⟩:=E2 hn
 have ht:vE (s1.heap.push {cls:=.type "tuple",data:=.seq vs.toArray}) s1.heap.objs.size vs.toArray:=⟨_,jS _ rfl,rfl,0,rfl⟩
 refine wpAny_assign_Tuple hh ht (by rw[h1,hl,<-rv.length,kK]) h2 λh' he=>?_
 have k3:kZ {s1 with heap:=s1.heap.push {cls:=.type "tuple",data:=.seq vs.toArray}} {s1 with heap:=h'}:=AT h' s1.toks rfl λb o e=>he b o (lz (kt e)) e
 refine Oa N _ _ is es ds hn σ O _ _ hlt hl (t2.of_keeps k3) ((rv.keeps (Aw kp)).keeps (Aw k3)) λs4 a4 u4 t4=>q s4 ?_ (λb o hb e=>u4 b o hb (Aw k3 _ _ (Aw kp _ _ e))) t4
 refine Ao k1 λh5 tk5 zz1 _=>?_;clear k1;obtain rfl:=zz1
 exact AI.tr (AS _ _ rfl) a4
end
end
noncomputable abbrev AM:=jZ×Nat×Nat×Nat×Nat
noncomputable def Da (c:AM):jQ:=.tuple [.str c.1,.int c.2.1,.int c.2.2.1,.int c.2.2.2.1,.int c.2.2.2.2]
noncomputable def BK (p:Nat×Nat):jQ:=.tuple [.int p.1,.int p.2]
noncomputable def Df (bl:List Qj):List (Nat×Nat):=(0,0)::bl.map λt=>(t.1+t.2.2,t.2.1+t.2.2)
noncomputable def BO (bl:List Qj) (n m:Nat):List (Nat×Nat):=bl.map (λt=>(t.1,t.2.1))++[(n,m)]
noncomputable def Cu (bl:List Qj):List AM:=bl.map λt=>("equal",t.1,t.1+t.2.2,t.2.1,t.2.1+t.2.2)
noncomputable def BL (e b:Nat×Nat):jZ:=if e.1<b.1 then(if e.2<b.2 then "replace" else "delete") else(if e.2<b.2 then "insert" else "")
noncomputable def AH (e b:Nat×Nat):List AM:=if BL e b="" then [] else [(BL e b,e.1,b.1,e.2,b.2)]
noncomputable def Cl (es bs:List (Nat×Nat)):List AM:=(es.zip bs).flatMap λp=>AH p.1 p.2
noncomputable def Ew (bl:List Qj) (n m:Nat):List AM:=Cu bl++Cl (Df bl) (BO bl n m)
noncomputable def EQ:List (Int×jZ):=[(0,""),(1,"insert"),(2,"delete"),(3,"replace")]
noncomputable def OC (es bs:List (Nat×Nat)):Prop:=∀(k:Nat) (e b:Nat×Nat),es[k]?=some e->bs[k]?=some b->e.1<=b.1/\e.2<=b.2
noncomputable def J1:List jZ:=["left","right","step","blocks","ends","begins","words","told","k","gone","come","word"]
theorem gd(pm cd doc dv kdv:jD):Bf (Az 48 pm cd doc dv kdv) (Am (stm 48)) ["left","right","step"] J1:=.of (by decide +kernel)
theorem NY{bl:List Qj}{i:Nat}{d:jQ}(hd:(bl.map BX)[i]?=some d):∃t,bl[i]?=some t/\d=BX t:=by
 rw[kc] at hd
 refine Af (j8.mp hd) λm h1 h2=>?_
 exact Ac m h1 h2.symm
theorem Rz{w:jY}{A:kC}{s₀ s:jG}{O:Ap}{a:jN}{mg mb:jZ->Option jD}{xI:j6}{pm cd doc dv kdv:jD}(F:Jq w mg mb xI)(hk:HK xI s₀)(l r:jZ)(st:Nat)(bl:List Qj)(hl':l.length<1000)(hr':r.length<1000)(hbl:bl.length<=100)(n:Nat)
 (hcut:Fn pw w xI n (.ref F.a47) [] [.py (.str l),.py (.str r),.py (.int st),.py (NR 0 l.length 0 r.length)] [] (.py (.list (bl.map BX))))
 (N:Nm (CF pw w A s₀ s (Az 48 pm cd doc dv kdv) a J1 O))(room:A0 (A.deeper (callEnvC (Az 48 pm cd doc dv kdv) s.heap.objs.size a)) n)(P:AF->AX->Prop)
 (hend:Ex (CF pw w A s₀ s (Az 48 pm cd doc dv kdv) a J1 O) [some (.val (.py (.str l))),some (.val (.py (.str r))),some (.val (.py (.int st))),some (.val (.py (.list (bl.map BX)))),some (.val (.py (.list ((Df bl).map BK)))),some (.val (.py (.list ((BO bl l.length r.length).map BK)))),some (.val (.obj (Ez pw w EQ))),some (.own ((Cu bl).map Da)),none,none,none,none] (((Am (stm 48)).take 6).drop 5) P) :
 Ex (CF pw w A s₀ s (Az 48 pm cd doc dv kdv) a J1 O) (Bi [.py (.str l),.py (.str r),.py (.int st)] 9) ((Am (stm 48)).take 6) P:=by
 have hh:=room.handled
 have T:=F.T
 refine Ad (At N 3 (CI hcut room hk F.f47 (BU T hk F.g47) (Ab (Aa 0) (Ab (Aa 1) (Ab (Aa 2) (Ab (Au (ds:=[.int 0,.int (l.length:Nat),.int 0,.int (r.length:Nat)]) (Ab Ai (Ab (Ds (A1 T hk) (Aa 0) rfl (by rwa[hl'])) (Ab Ai (Ab (Ds (A1 T hk) (Aa 1) rfl (by rwa[hr'])) Ah))))) Ah))))) ?_)
 refine Ad (At N 4 (a:=.py (.list ((Df bl).map BK))) (Be (GN (ds:=[BK (0,0)]) (es:=(bl.map λt=>(t.1+t.2.2,t.2.1+t.2.2)).map BK) (Dy (ds:=[BK (0,0)]) (Ab (Au (ds:=[.int 0,.int 0]) (Ab Ai (Ab Ai Ah))) Ah))
  (Be (C4 N (ds:=bl.map BX) (ns:=["i","j","size"]) (BS.none (by decide +kernel) rfl) (C3 N hh (Aa 3)) ?_ ?_ ?_)) ?_)) ?_)
 ·simp
 ·simp only[jK];rwa[hbl]
 ·intro C hC N' i d hd
  refine Af (NY hd) λt ht zz1=>?_;obtain rfl:=zz1
  refine C6 _ (BK (t.1+t.2.2,t.2.1+t.2.2)) (by simp[ht]) Le.none (BV N' hh [0,1,2] (ds:=[_,_,_]) ⟨rfl,rfl,rfl,rfl,rfl,rfl,trivial⟩) ?_
  exact Au (ds:=[.int (t.1+t.2.2:Nat),.int (t.2.1+t.2.2:Nat)]) (Ab (Dh (Aa 0) (Aa 2)) (Ab (Dh (Aa 1) (Aa 2)) Ah))
 ·simp only[jK,j9,lq];rwa[hbl]
 refine Ad (At N 5 (a:=.py (.list ((BO bl l.length r.length).map BK))) (Ev.cast (Be (GN (ds:=(bl.map λt=>(t.1,t.2.1)).map BK) (es:=[BK (l.length,r.length)])
  (Be (C4 N (ds:=bl.map BX) (ns:=["i","j","size"]) (BS.none (by decide +kernel) rfl) (C3 N hh (Aa 3)) ?_ ?_ ?_)) (Dy (ds:=[BK (l.length,r.length)]) (Ab (Au (ds:=[.int (l.length:Nat),.int (r.length:Nat)]) (Ab (Ds (A1 T hk) (Aa 0) rfl (by rwa[hl'])) (Ab (Ds (A1 T hk) (Aa 1) rfl (by rwa[hr'])) Ah))) Ah)) ?_)) ?_) ?_)
 ·simp
 ·simp only[jK];rwa[hbl]
 ·intro C hC N' i d hd
  refine Af (NY hd) λt ht zz1=>?_;obtain rfl:=zz1
  refine C6 _ (BK (t.1,t.2.1)) (by simp[ht]) Le.none (BV N' hh [0,1,2] (ds:=[_,_,_]) ⟨rfl,rfl,rfl,rfl,rfl,rfl,trivial⟩) ?_
  exact Au (ds:=[.int (t.1:Nat),.int (t.2.1:Nat)]) (Ab (Aa 0) (Ab (Aa 1) Ah))
 ·simp only[jK,j9,lq];rwa[hbl]
 ·simp[BO]
 refine @Ad _ _ _ _ _ (@At _ _ _ _ N 6 _ _ _ _ (@YV _ _ _ _ _ EQ (Fs Ai BF (Fs Ai BF (Fs Ai BF (Fs Ai BF W5)))) rfl rfl (by intro h;cases h) (jV rfl) (by decide)) ?_ rfl (jV rfl) rfl rfl)
 refine Ad (Kj N (show jB ""∉J1 by decide +kernel) 7 (ds:=bl.map BX) (rs:=(Cu bl).map Da) (ns:=["i","j","size"]) (BS.none (by decide +kernel) rfl) (C3 N hh (Aa 3)) ?_ ?_ ?_ ?_)
 ·simp[Cu]
 ·simp only[Cu,jK];rwa[hbl]
 ·intro C hC N' i d hd
  refine Af (NY hd) λt ht zz1=>?_;obtain rfl:=zz1
  refine C6 _ (Da ("equal",t.1,t.1+t.2.2,t.2.1,t.2.1+t.2.2)) (by simp[ht,Cu]) Le.none (BV N' hh [0,1,2] (ds:=[_,_,_]) ⟨rfl,rfl,rfl,rfl,rfl,rfl,trivial⟩) ?_
  exact Au (ds:=[.str "equal",.int (t.1:Nat),.int (t.1+t.2.2:Nat),.int (t.2.1:Nat),.int (t.2.1+t.2.2:Nat)]) (Ab BF (Ab (Aa 0) (Ab (Dh (Aa 0) (Aa 2)) (Ab (Aa 1) (Ab (Dh (Aa 1) (Aa 2)) Ah)))))
 exact hend
theorem VK{e b:Nat×Nat}(h1:e.1<=b.1)(h2:e.2<=b.2):EQ.lookup (2*(if(1:Int)<(b.1:Int)-e.1 then 1 else(b.1:Int)-e.1)+(if(1:Int)<(b.2:Int)-e.2 then 1 else(b.2:Int)-e.2))=some (BL e b):=by
 delta e b at h1 h2
 have ha:(if(1:Int)<(b.1:Int)-e.1 then 1 else(b.1:Int)-e.1)=if e.1<b.1 then 1 else 0:=by
  split<;>split<;>(clear_value *;lia)
 have hb:(if(1:Int)<(b.2:Int)-e.2 then 1 else(b.2:Int)-e.2)=if e.2<b.2 then 1 else 0:=by
  split<;>split<;>(clear_value *;lia)
 rw[ha,hb]
 unfold BL
 by_cases c1:e.1<b.1<;>by_cases c2:e.2<b.2<;>simp only[c1,c2,if_true,if_false]<;>decide +kernel
theorem Dj{l:List (Nat×Nat)}{i:Nat}{p:Nat×Nat}(h:l[i]?=some p):(l.map BK)[i]?=some (BK p):=by rw[kc,h];rfl
theorem Ry{w:jY}{A:kC}{s₀ s:jG}{O:Ap}{a:jN}{mg mb:jZ->Option jD}{xI:j6}{pm cd doc dv kdv:jD}(F:Jq w mg mb xI)(hk:HK xI s₀)(l r:jZ)(st:Nat)(bl:List Qj)(es bs:List (Nat×Nat))(pre:List AM)(hlen:es.length=bs.length)(hz:es.length<=200)(hpre:pre.length<=200)(hord:OC es bs)
 (N:Nm (CF pw w A s₀ s (Az 48 pm cd doc dv kdv) a J1 O))(hh:(A.deeper (callEnvC (Az 48 pm cd doc dv kdv) s.heap.objs.size a)).handled=none)(P:AF->AX->Prop)
 (hend:∀x y z u,Ex (CF pw w A s₀ s (Az 48 pm cd doc dv kdv) a J1 O) [some (.val (.py (.str l))),some (.val (.py (.str r))),some (.val (.py (.int st))),some (.val (.py (.list (bl.map BX)))),some (.val (.py (.list (es.map BK)))),some (.val (.py (.list (bs.map BK)))),some (.val (.obj (Ez pw w EQ))),some (.own ((pre++Cl es bs).map Da)),x,y,z,u] (((Am (stm 48)).take 6).drop 6) P) :
 Ex (CF pw w A s₀ s (Az 48 pm cd doc dv kdv) a J1 O) [some (.val (.py (.str l))),some (.val (.py (.str r))),some (.val (.py (.int st))),some (.val (.py (.list (bl.map BX)))),some (.val (.py (.list (es.map BK)))),some (.val (.py (.list (bs.map BK)))),some (.val (.obj (Ez pw w EQ))),some (.own (pre.map Da)),none,none,none,none] (((Am (stm 48)).take 6).drop 5) P:=by
 delta w A s₀ s O a mg mb xI pm cd doc dv kdv l r st bl pre P at F hk es bs hlen hz hpre hord N hh hend
 have T:=F.T
 have hR:AN 0 (es.length:Nat) 1=(kf es.length).map λn=>lY (n:Nat):=by
  have:=DQ (a:=0) (b:=es.length) (c:=1) (by decide)
  simpa using this
 have gl:∀k,(Cl (es.take k) (bs.take k)).length<=k:=by
  intro k
  have:∀(es bs:List (Nat×Nat)),(Cl es bs).length<=es.length:=by
   intro es
   induction es with
   | nil=>intro bs;exact kh _
   | cons e es ih=>
    intro bs
    cases bs with
    | nil=>exact kh _
    | cons b bs=>
     have:=ih bs
     unfold Cl at this ⊢
     rw[sQ,lu,j7]
     have h1:(AH e b).length<=1:=by unfold AH;split<;>simp
     simp only[j9];rwa[this,h1]
  have h:=this (es.take k) (bs.take k)
  rw[lp] at h
  rwa[h]
 refine Ad (EO N (ds:=AN 0 (es.length:Nat) 1) (Ga N hh (A1 T hk) (Ds (n:=es.length) (A1 T hk) (Aa 4) (by simp[IX]) (by rwa[hz])) (by have:=Fk (a:=0) (b:=es.length) (c:=1) (by rwa[]) (by rwa[hz]) (by decide) (by decide);exact this))
  (λk σ=>∃x y z u,σ=[some (.val (.py (.str l))),some (.val (.py (.str r))),some (.val (.py (.int st))),some (.val (.py (.list (bl.map BX)))),some (.val (.py (.list (es.map BK)))),some (.val (.py (.list (bs.map BK)))),some (.val (.obj (Ez pw w EQ))),some (.own ((pre++Cl (es.take k) (bs.take k)).map Da)),x,y,z,u]) ⟨none,none,none,none,by simp[Cl]⟩ ?_ ?_)
 ·intro k d σ1 hd zz1;refine Eb zz1 λx y z u zz2=>?_;clear zz1;obtain rfl:=zz2
  rw[hR] at hd
  obtain⟨hd,hke⟩:d=.int (k:Nat)/\k<es.length:=by
   rw[kc] at hd
   refine Af (j8.mp hd) λm h1 h2=>?_
   obtain⟨h3,h4⟩:=jM.mp h1
   rw[po] at h4
   subst h4
   exact⟨h2.symm,by simpa using h3⟩
  subst hd
  obtain⟨e,he⟩:∃e,es[k]?=some e:=Ag _ (jR hke)
  obtain⟨b,hb⟩:∃b,bs[k]?=some b:=Ag _ (jR (by rwa[hlen,hke]))
  obtain⟨h1,h2⟩:=hord k e b he hb
  have hgap:Cl (es.take (k+1)) (bs.take (k+1))=Cl (es.take k) (bs.take k)++AH e b:=by
   unfold Cl
   rw[kQ,kQ,he,hb]
   simp only[oo]
   rw[List.zip_append (by rw[lp,lp,hlen]),mG]
   simp
  have hkk:=gl k
  rw[hgap]
  generalize Cl (es.take k) (bs.take k)=gs at hkk ⊢
  refine Ac _ (BH N 8) ?_
  refine Ad (At N 9 (Dd (A7 (ds:=[.int b.1,.int b.2]) (Ay (d:=BK b) (Aa 5) (Aa 8) (by rwa[]) (by rwa[hz,hke]) (by rw[ku];exact Dj hb)) Ai (by decide) (by decide) rfl) (A7 (ds:=[.int e.1,.int e.2]) (Ay (d:=BK e) (Aa 4) (Aa 8) (by rwa[]) (by rwa[hz,hke]) (by rw[ku];exact Dj he)) Ai (by decide) (by decide) rfl)) ?_)
  refine Ad (At N 10 (Dd (A7 (ds:=[.int b.1,.int b.2]) (Ay (d:=BK b) (Aa 5) (Aa 8) (by rwa[]) (by rwa[hz,hke]) (by rw[ku];exact Dj hb)) Ai (by decide) (by decide) rfl) (A7 (ds:=[.int e.1,.int e.2]) (Ay (d:=BK e) (Aa 4) (Aa 8) (by rwa[]) (by rwa[hz,hke]) (by rw[ku];exact Dj he)) Ai (by decide) (by decide) rfl)) ?_)
  refine Ad (At N 11 (a:=.py (.str (BL e b))) (Oo (ps:=EQ) (Aa 6) (Bl (Gd Ai (Xc hh (A1 T hk) (Aa 9) Ai) (.inr (by decide))) (Xc hh (A1 T hk) (Aa 10) Ai)) (VK h1 h2)) ?_)
  refine Ad (BI (b:=!decide (BL e b="")) (VN (Aa 11) BF) (λh=>?_) (λh=>?_))
  ·have hw:¬BL e b="":=by simpa using h
   refine Ad (AO N 7 (d:=Da (BL e b,e.1,b.1,e.2,b.2)) (Au (ds:=[.str (BL e b),.int e.1,.int b.1,.int e.2,.int b.2]) (Ab (Aa 11)
    (Ab (A7 (ds:=[.int e.1,.int e.2]) (Ay (d:=BK e) (Aa 4) (Aa 8) (by rwa[]) (by rwa[hz,hke]) (by rw[ku];exact Dj he)) Ai (by decide) (by decide) rfl)
    (Ab (A7 (ds:=[.int b.1,.int b.2]) (Ay (d:=BK b) (Aa 5) (Aa 8) (by rwa[]) (by rwa[hz,hke]) (by rw[ku];exact Dj hb)) Ai (by decide) (by decide) rfl)
    (Ab (A7 (ds:=[.int e.1,.int e.2]) (Ay (d:=BK e) (Aa 4) (Aa 8) (by rwa[]) (by rwa[hz,hke]) (by rw[ku];exact Dj he)) Ai (by decide) (by decide) rfl)
    (Ab (A7 (ds:=[.int b.1,.int b.2]) (Ay (d:=BK b) (Aa 5) (Aa 8) (by rwa[]) (by rwa[hz,hke]) (by rw[ku];exact Dj hb)) Ai (by decide) (by decide) rfl) Ah)))))) ?_ ?_)
   ·rw[jK,j7];rwa[hz,hpre,hke,hkk]
   ·refine Aj (Aj (EH (some (.val (.py (.int (k:Nat))))) (some (.val (.py (.int ((b.1:Int)-e.1))))) (some (.val (.py (.int ((b.2:Int)-e.2))))) (some (.val (.py (.str (BL e b))))) ?_))
    have:AH e b=[(BL e b,e.1,b.1,e.2,b.2)]:=by unfold AH;rw[if_neg hw]
    rw[this,<-l8,kB (l₁:=pre++gs)]
    rfl
  ·have hw:BL e b="":=by simpa using h
   refine Aj (Aj (EH (some (.val (.py (.int (k:Nat))))) (some (.val (.py (.int ((b.1:Int)-e.1))))) (some (.val (.py (.int ((b.2:Int)-e.2))))) (some (.val (.py (.str (BL e b))))) ?_))
   have:AH e b=[]:=by unfold AH;rw[if_pos hw]
   rw[this,kH]
   rfl
 ·intro σ1 zz1;refine Eb zz1 λx y z u zz2=>?_;clear zz1;obtain rfl:=zz2
  refine Aj ?_
  have e1:(AN 0 (es.length:Nat) 1).length=es.length:=by rw[hR];simp
  rw[e1,lD,hlen,lD]
  exact hend x y z u
section
variable {Γ:Cx} {σ:AX} {P:AF->AX->Prop}
theorem QU(N:Nm Γ){O:Ap}{s:jG}{i:Nat}{x:jZ}{a:jN}{R:nJ->Prop}(t:St Γ O σ s)(hi:Γ.ns[i]?=some x)(h:σ[i]?=some (some (.at a R))):∃O',Fx Γ O s O' s/\St Γ O' (σ.set i (some (.val (.raw (.ref a))))) s/\a≠Γ.env.locals/\∃o,s.heap.get? a=some o/\R o:=by
 delta Γ σ O s i x a R at N t hi h
 obtain⟨kp,⟨m,n,vs⟩,cl,nd,lv,sb,fr,fs⟩:=t
 refine W3 (vs i x _ hi h) λv hd zz1 m1 zz2 f1 haL=>?_;obtain rfl:=zz1;obtain⟨o,g,p,z⟩:=zz2
 have hlt:i<σ.length:=(jM.mp h).1
 have hsub:∀b,Ap.has (O.filter λp=>!decide (p.2=a)) b->O.has b:=λb ⟨p,hp,e⟩=>Ac p ((kd.mp hp).1) e
 refine⟨O.filter λp=>!decide (p.2=a),⟨AI.re s,λb hb=>.inl (hsub b hb),λ_ o e=>(Ag o e),λ_ _ e _ _=>e,λ_ _ e _=>e⟩,⟨kp,(Ac m n λj y b e e'=>?_),cl,?_,λp hp=>lv p (kd.mp hp).1,λb hb=>?_,fr,fs⟩,haL,o,g,p⟩
 ·by_cases hj:j=i
  ·subst hj
   (replace e:=CQ hi e;subst e)
   rw[lQ hlt] at e'
   cases e'
   exact Ac _ hd rfl
  ·rw[lR (ln hj)] at e'
   refine Af (vs j y b e e') λu hd' r'=>?_
   refine Ac u hd' ?_
   have other:∀a2,(y,a2)∈O->a2≠a:=by
    rintro a2 hm rfl
    have:=Ap.mem_inj nd m1 hm
    subst this
    exact hj ((mr (jM.mp e).1 N.nodup).mp (e.trans hi.symm))
   have keepm:∀a2,(y,a2)∈O->(y,a2)∈(O.filter λp=>!decide (p.2=a)):=λa2 hm=>kd.mpr ⟨hm,by simp[other a2 hm]⟩
   cases b with
   | val w=>
    cases w with
    | py d=>refine Af r' λbs r q=>?_;exact Ac bs r λb hb z=>q b hb (hsub b z)
    | «by» b=>exact r'
    | raw w=>exact r'
    | obj P=>refine C9 r' λa1 o e1 g p q z=>?_;exact C5 a1 o e1 g p (λh=>q (hsub a1 h)) z
    | st R ok=>refine Af r' λbs r q=>?_;exact Ac bs r λb hb z=>q b hb (hsub b z)
   | own es=>
    refine CR r' λa2 ws' as' e1 m1' l1' r1' q1' f1'=>?_
    exact CA a2 ws' as' e1 (keepm _ m1') l1' r1' (λb hb z=>q1' b hb (hsub b z)) f1'
   | «at» a2 P2=>
    refine CU r' λe1 m1' g2 f1'=>?_
    exact⟨e1,keepm _ m1',g2,f1'⟩
 ·exact qd (pp _ pf) nd
 ·refine Af (sb b hb) λp hp e=>?_
  refine Ac p (kd.mpr ⟨hp,?_⟩) e
  have:p.2≠a:=by
   rw[e]
   rcases N.outer b hb with rfl|⟨o,ho⟩
   ·exact ln haL
   ·rintro rfl;exact B0 f1 ho
  simp[this]
noncomputable def Bb:Option Bd->Bool
 | some (.own _)=>false
 | some (.at _ _)=>false
 | _=>true
noncomputable def Cx.from (Γ:Cx) (s:jG):Cx:={Γ with s₀:=A6 s Γ.env.locals}
theorem St.rebase{O:Ap}{s:jG}(t:St Γ O σ s)(fl:σ.all Bb=true):St (Γ.from s) O σ s:=by
 delta Γ σ O s at t fl
 obtain⟨kp,⟨m,n,vs⟩,cl,nd,lv,sb,fr,fs⟩:=t
 refine⟨λb o e=>(Er e).1,(Ac m n λi x b e1 e2=>?_),cl,nd,lv,sb,fr,A3⟩
 refine Af (vs i x b e1 e2) λv h r=>?_
 have hb:Bb (some b)=true:=kA.mp fl _ (kx e2)
 refine Ac v h ?_
 cases b with
 | val w=>exact r
 | own ds=>cases hb
 | «at» a' P=>cases hb
theorem Om{O:Ap}{s:jG}(t:St Γ O σ s):∀b o,Γ.s₀.heap.get? b=some o->(Γ.from s).s₀.heap.get? b=some o:=λb o e=>(Bj λz=>by rw[z,t.fresh] at e;exact B6 e).trans (t.keep b o e)
theorem E5{s:jG}{b:jN}{o:nJ}(hb:b≠Γ.env.locals)(e:s.heap.get? b=some o):(Γ.from s).s₀.heap.get? b=some o:=(Bj hb).trans e
theorem St.unbase{O O':Ap}{σ':AX}{s s':jG}(t:St Γ O σ s)(t':St (Γ.from s) O' σ' s'):St Γ O' σ' s':=by
 delta Γ σ O O' σ' s s' at t t'
 have up:=Om t
 obtain⟨kp,⟨m,n,vs⟩,cl,nd,lv,sb,fr,fs⟩:=t'
 refine⟨λb o e=>kp b o (up b o e),(Ac m n λi x b e1 e2=>?_),cl,nd,lv,sb,fr,t.fresh⟩
 refine Af (vs i x b e1 e2) λv h r=>?_
 have hn:∀a,(Γ.from s).s₀.heap.get? a=none->Γ.s₀.heap.get? a=none:=λa ha=>gn λo e=>B0 ha (up a o e)
 refine Ac v h ?_
 cases b with
 | val w=>exact r
 | own ds=>refine CR r λa vs as e m l r q z=>?_;exact CA a vs as e m l r q (hn a z)
 | «at» a' P=>refine Ue r λe m g z w=>?_;exact⟨e,m,g,hn a' z,w⟩
theorem Nm.rebase{O:Ap}{s:jG}(N:Nm Γ)(t:St Γ O σ s):Nm (Γ.from s):=by
 refine⟨N.nodup,N.kind,N.apart,N.names,λa ha=>?_⟩
 by_cases h:a=Γ.env.locals
 ·exact .inl h
 ·refine Af (t.sub a ha) λp hp e=>?_
  obtain⟨o,ho⟩:=t.live p hp
  exact .inr (Ag o (E5 h (e▸ho)))
theorem OX{O:Ap}{s:jG}{ss:List md}{Q:uT->jG->Prop}{E:jD->jG->Prop}(N:Nm Γ)(t:St Γ O σ s)(fl:σ.all Bb=true)
 (h:Nm (Γ.from s)->Ex (Γ.from s) σ ss P)(q:∀O' fl af σ' s',Fx Γ O s O' s'->St Γ O' σ' s'->FR O' s'.heap af fl->P af σ'->Q fl s'):wpAny (model Γ.prog Γ.w) Γ.A (execs ss Γ.env) Q E s:=by
 refine h (N.rebase t) O s Q E (t.rebase fl) λO' fl af σ' s' a t' f p=>q O' fl af σ' s' ⟨a.alike,a.own,a.dom,a.kept,a.tups⟩ (t.unbase t') f p
end
theorem Fe{M:tP}{A:kC}{env:xA}{E:jD->jG->Prop}{s:jG}{pos:mi}{g d:jN}{id:String}{e:kJ}{es:List kJ}{Q:jD->jG->Prop}(hp:(e::es).all AE=true)
 (h:wpAny M A (spliced (backTo pos (starEach (e::es) env))) (λvs xL=>xL.heap.get? g=some (A8 id d)/\wpAny M A (call (.ref g) vs) Q E xL) E s) :
 wpAny M A (kY pos (.ref g) [] (backTo pos (starEach (e::es) env)) []) Q E s:=by
 have hst:((backTo pos (starEach (e::es) env)).any (λx=>x.fst) || ([]:List (Option jZ×vi jD)).any λx=>x.fst.isNone)=false:=by
  rw[Bh hp];rfl
 unfold kY
 refine jC (kG (AL hp (lT h (λvs xL xK=>?_) λ_ _ x=>x)))
 obtain⟨hh,g',d',t,os⟩:=xL
 obtain⟨hg,xK⟩:=xK
 refine jC (rB ?_)
 rw[hst]
 have L:wpAny M A (keeperOf (.ref g)) (λk s'=>k=.machine/\s'=⟨hh,g',d',t,os⟩) E ⟨hh,g',d',t,os⟩:=by
  unfold keeperOf
  refine jC (su hg ?_)
  exact jL ⟨rfl,rfl⟩
 refine jC (lT L (λk s' hk=>?_) λ_ _ x=>x)
 obtain⟨rfl,rfl⟩:=hk
 show wpAny _ _ (call (.ref g) vs []>>=λr=>do mq [r] point;pure r) _ _ _
 exact jC (lT xK (λr s' hr=>jC (kG (wpAny_point (jL hr)))) λ_ _ x=>x)
noncomputable def Js (kvs:List (Int×jD)) (f:Int->Option Int):Prop:=∀k,match f k with|none=>valueAt kvs k=none|some r=>∃t,valueAt kvs k=some (.int r t)
theorem Js.none{kvs:List (Int×jD)}{f:Int->Option Int}(h:Js kvs f){k:Int}(e:f k=none):valueAt kvs k=none:=by have:=h k;rw[e] at this;exact this
theorem Js.some{kvs:List (Int×jD)}{f:Int->Option Int}(h:Js kvs f){k r:Int}(e:f k=some r):∃t,valueAt kvs k=some (.int r t):=by have:=h k;rw[e] at this;exact this
noncomputable def DI (w:jY) (f:Int->Option Int) (n:Nat) (o:nJ):Prop:=∃kvs,o.IsDictOf (pS pw w) kvs/\kvs.length<=n/\Js kvs f
theorem DI.solid{w:jY}{f:Int->Option Int}{n:Nat}{o:nJ}(h:DI w f n o):FV o:=by
 refine Af h λkvs zz1 _=>?_;obtain⟨es,ep,hx,hd,_⟩:=zz1
 exact F0 hd
theorem DI.cls{w:jY}{f:Int->Option Int}{n:Nat}{o:nJ}(h:DI w f n o):o.cls≠.type "tuple":=by
 refine Af h λkvs zz1 _=>?_;obtain⟨es,ep,hx,hd,_⟩:=zz1
 rw[hx.1]
 intro e
 injection e with e
 exact absurd e (by decide)
section
variable {Γ:Cx} {σ:AX} {P:AF->AX->Prop}
theorem RH{M:tP}{A:kC}{env:xA}{o i:kJ}{pos:mi}{v:jD}{s:jG}{Q:Unit->jG->Prop}{E:jD->jG->Prop}(h:wpAny M A (eval o env) (λov xJ=>wpAny M A (eval i env) (λiv xQ=>wpAny M A (setItem ov iv v) Q E xQ) E xJ) E s) :
 wpAny M A (assign (.Subscript o i pos) env v) Q E s:=λΓ p hΓ=>by
 obtain⟨rl,e⟩:∃rl:jD->jD->List jD,assign (.Subscript o i pos) env v=(do
  let ov<-mq [v] (eval o env)
  let iv<-mq [v,ov] (eval i env)
  mS pos
  mq [v,ov,iv] (setItem ov iv v)
  release (rl ov iv) []):=⟨_,assign_Subscript o i pos v⟩
 simp only[e,Sem.wp_bind',Sem.wp_holding,wz,Sem.wp_release]
 exact v5 M Γ _ (λov ya xJ xM=>v5 M Γ _ (λiv _ xQ xP=>xP Γ _ hΓ) (λ_ _ _ h'=>h') _ _ (xM Γ _ hΓ)) (λ_ _ _ h'=>h') _ _ (h Γ _ hΓ)
theorem Ki(N:Nm Γ)(i:Nat){x:jZ}{p dp pos:mi}(hP:∀a,P .next (σ.set i (some (.at a (DI Γ.w (λ_=>none) 0)))))(hi:autoParam (Γ.ns[i]?=some x) aR)(hlt:autoParam (i<σ.length) aN)(hk:autoParam (Γ.env.kindOf x=some .local) aR)
 (hs:autoParam (qX (.Dict [] [] dp) (some (.Name x p)) pos.line Γ.env=pure false) aR):X1 Γ σ (.Assign [.Name x p] (.Dict [] [] dp) pos) P:=by
 intro O s Q E t q
 refine l9 (wpAny_Dict_empty ?_) hs
 have k3:kZ s {s with heap:=s.heap.push {cls:=.type "dict",data:=.dict #[]}}:=Keeps.push _ _
 have e3:s.heap.get? s.heap.objs.size=none:=Bk (jP _)
 have emap:(s.heap.push {cls:=.type "dict",data:=.dict #[]}).DictOf (pS pw Γ.w) s.heap.objs.size []:=sL _
 refine Af (pi.mp emap) λo ho hd=>?_
 have hD:DI Γ.w (λ_=>none) 0 o:=Ba [] hd (jP _) λ_=>rfl
 exact V6 N t k3 e3 ho hD hD.solid hD.cls hi hlt hk λs' a u t' f=>q _ .next .next _ s' f t' rfl (hP _)
theorem Qk(hw:Γ.prog=pw)(N:Nm Γ)(ik id:Nat){x y:jZ}{np yp sp pos:mi}{je e:kJ}{r j:Int}{d:jN}{f:Int->Option Int}{n:Nat}(hσ:(σ.set ik (some (.val (.py (.int r)))))[id]?=some (some (.at d (DI Γ.w f n))))(hn:n<=1000)(hf:f j=none)
 (he:Ev Γ σ e (.py (.int r)))(hj:Ev Γ (σ.set ik (some (.val (.py (.int r))))) je (.py (.int j)))
 (hP:P .next ((σ.set ik (some (.val (.py (.int r))))).set id (some (.at d (DI Γ.w (λk=>if k=j then some r else f k) (n+1))))))
 (hi:autoParam (Γ.ns[ik]?=some x) aR)(hlt:autoParam (ik<σ.length) aN)(hk:autoParam (Γ.env.kindOf x=some .local) aR)(hi2:autoParam (Γ.ns[id]?=some y) aR)(hkf:autoParam (Γ.env.scope.kind=.function) aR)(hd:autoParam ((y == ("__debug__":jZ))=false) aK)
 (h2:autoParam (qM (λx=>x.snd) (assignEach [ky x np,uG (.Name y yp) je sp] Γ.env)=[assign (ky x np) Γ.env,assign (uG (.Name y yp) je sp) Γ.env]) aR)
 (hsw:autoParam (nv [ky x np,uG (.Name y yp) je sp] e Γ.env=pure none) aR) :
 X1 Γ σ (.Assign [.Name x np,.Subscript (.Name y yp) je sp] e pos) P:=by
 intro O s Q E t q
 refine oC (he O s _ E t λv s1 t1 k1 r1=>?_) h2 hsw
 refine lK (AG N (b:=.val (.py (.int r))) hi hlt hk t1 r1 λs2 a2 u2 t2=>?_)
 obtain⟨tv,rfl⟩:=r1.int_inv
 have f2:=(Fx.of_keeps k1).tr (Fx.ofBut t1 a2 u2 t2)
 refine RH (Hc id t2 (hj O s2 _ E t2 λjv s3 t3 k3 r3=>?_) hi2 hσ hkf hd)
 obtain⟨tj,rfl⟩:=r3.int_inv
 refine H0 (RG t3 hi2 hσ) λo ho zz1 _ _=>?_;obtain⟨kvs,hd3,hl,ha⟩:=zz1
 have hm:s3.heap.DictOf (pS pw Γ.w) d kvs:=pi.mpr (Ac o ho hd3)
 rw[hw]
 refine wpAny_setItem_pairs (uO pw Γ.w j tj) hm (λh' hm' hs'=>?_) (kN (kN hl hn) (by decide))
 refine Af (pi.mp hm') λo' ho' hd'=>?_
 have hD:DI Γ.w (λk=>if k=j then some r else f k) (n+1) o':=by
  refine⟨_,hd',kN (stored_length_le _ _ _) (ud hl),λk=>?_⟩
  by_cases hkj:k=j
  ·subst hkj
   simp only[if_true]
   exact⟨tv,by rw[Ci (ha.none hf),if_pos rfl]⟩
  ·simp only[if_neg hkj]
   rw[Ci (ha.none hf),if_neg hkj]
   exact ha k
 obtain⟨t4,f4⟩:=em (tk:=s3.toks+1) N t3 hi2 hσ hs' ho' hD hD.solid hD.cls
 exact q _ .next .next _ _ (f2.tr ((Fx.of_keeps k3).tr f4)) t4 rfl hP
theorem Po(hw:Γ.prog=pw)(N:Nm Γ)(id ig:Nat){x y:jZ}{np yp ap pos:mi}{ss:List md}{d:jN}{f:Int->Option Int}{n:Nat}(hσ:σ[id]?=some (some (.at d (DI Γ.w f n))))(hne:id≠ig)
 (fl:∀g,((σ.set ig (some (.val (.raw (.ref g))))).set id (some (.val (.raw (.ref d))))).all Bb=true)
 (h:∀g s,Γ.s₀.heap.get? d=none->(Γ.from s).s₀.heap.get? g=some (A8 "dict.get" d)->(∃o,(Γ.from s).s₀.heap.get? d=some o/\DI Γ.w f n o)->(∀b o,Γ.s₀.heap.get? b=some o->(Γ.from s).s₀.heap.get? b=some o)->Nm (Γ.from s)->Ex (Γ.from s) ((σ.set ig (some (.val (.raw (.ref g))))).set id (some (.val (.raw (.ref d))))) ss P)
 (hi:autoParam (Γ.ns[ig]?=some x) aR)(hlt:autoParam (ig<σ.length) aN)(hk:autoParam (Γ.env.kindOf x=some .local) aR)(hi2:autoParam (Γ.ns[id]?=some y) aR)(hkf:autoParam (Γ.env.scope.kind=.function) aR)(hd:autoParam ((y == ("__debug__":jZ))=false) aK)
 (he:autoParam (eval ((ky y yp).Attribute "get" ap) Γ.env=(do
  let o<-eval (ky y yp) Γ.env
  mS ap.atName
  let r<-mq [o] (pW o "get" true)
  letTemporaryGo (ky y yp) o r
  pure r)) aR)
 (hs:autoParam (qX ((ky y yp).Attribute "get" ap) (some (.Name x np)) pos.line Γ.env=pure false) aR) :
 Ex Γ σ (.Assign [.Name x np] (.Attribute (.Name y yp) "get" ap) pos::ss) P:=by
 intro O s Q E t q
 refine km (l9 (sH (Hc id t ?_ hi2 hσ hkf hd) he) hs)
 refine H0 (RG t hi2 hσ) λo ho hD _ _=>?_
 have hD2:=hD
 refine Af hD2 λkvs zz1 _=>?_;obtain⟨es,ep,hex,hdat,_⟩:=zz1
 rw[hw]
 refine Pz ho hex hdat ?_
 rw[<-hw]
 have kp:kZ s {s with heap:=s.heap.push (A8 "dict.get" d),toks:=s.toks+1}:=Keeps.pushT _ _ _
 have e1:s.heap.get? s.heap.objs.size=none:=Bk (jP _)
 have eg:(s.heap.push (A8 "dict.get" d)).get? s.heap.objs.size=some (A8 "dict.get" d):=jS _ rfl
 have t1:=t.of_keeps kp
 have hgL:s.heap.objs.size≠Γ.env.locals:=λz=>by refine Af t.ex λmm zz1 _=>?_;obtain⟨o,_,_,e,_⟩:=zz1;rw[<-z,e1] at e;exact B6 e
 refine AG N (i:=ig) (b:=.val (.raw (.ref s.heap.objs.size))) hi hlt hk t1 rfl λs2 a2 u2 t2=>?_
 have f2:=(Fx.of_keeps kp).tr (Fx.ofBut t1 a2 u2 t2)
 refine H0 (QU N t2 hi2 (show(σ.set ig (some (.val (.raw (.ref s.heap.objs.size)))))[id]?=some (some (.at d (DI Γ.w f n))) from(lR (ln hne)).trans hσ)) λO3 f3 t3 hdL zr0=>Af zr0 λo3 ho3 hD3=>?_
 refine OX N t3 (fl _) (λN'=>h _ s2 (XB t hi2 hσ).2.1 (E5 hgL (u2 _ _ hgL eg)) (Ac o3 (E5 hdL ho3) hD3) (Om t3) N') λO' fl af σ' s' fx t' fr p=>q O' fl af σ' s' ((f2.tr f3).tr fx) t' fr p
theorem Pt(hw:Γ.prog=pw){g d:jN}{f:Int->Option Int}{n:Nat}{fe e1 e2:kJ}{i c:Int}{cp:mi}(hg:Γ.s₀.heap.get? g=some (A8 "dict.get" d))(hd:∃o,Γ.s₀.heap.get? d=some o/\DI Γ.w f n o)(lo:(d == sysModules)=false)(hf:Ev Γ σ fe (.raw (.ref g)))(h1:Ev Γ σ e1 (.py (.int i)))(h2:Ev Γ σ e2 (.py (.int c)))(hp:autoParam ([e1,e2].all AE=true) aR)
 (he:autoParam (eval (.Call fe [e1,e2] [] cp) Γ.env=(do kY cp (<-eval fe Γ.env) [] (backTo cp (starEach [e1,e2] Γ.env)) (ma cp (ly [] Γ.env)))) aR):Ev Γ σ (.Call fe [e1,e2] [] cp) (.py (.int ((f i).getD c))):=by
 intro O s Q E t q
 refine qS (hf O s _ E t λv s1 t1 k1 r1=>?_) he
 obtain rfl:v=.ref g:=r1
 refine Fe hp (Ab h1 (Ab h2 Ah (by simpa using (kA.mp hp e2 (by simp)))) (by simpa using (kA.mp hp e1 (by simp))) O s1 _ _ E t1 λvs s2 t2 k2 r2=>⟨t2.keep _ _ hg,?_⟩)
 refine BD r2.two λv u zz1 ra rb=>?_;obtain rfl:=zz1
 obtain⟨ta,rfl⟩:=ra.int_inv
 obtain⟨tb,rfl⟩:=rb.int_inv
 refine Af hd λo ho zr0=>Bu zr0 λkvs hd hl ha=>?_
 have hm:s2.heap.DictOf (pS pw Γ.w) d kvs:=pi.mpr (Ac o (t2.keep _ _ ho) hd)
 rw[hw]
 refine Vs (t2.keep _ _ hg) hm.mapOf lo ?_
 have kk:=Keeps.tr (Keeps.tr k1 k2) (Keeps.rfl' (tk:=s2.toks+1))
 refine q _ _ (t.of_keeps kk) kk ?_
 cases e:f i with
 | none=>rw[ha.none e];exact VR.int ..
 | some r=>obtain⟨t',e'⟩:=ha.some e;rw[e'];exact VR.int ..
theorem DU(hw:Γ.prog=pw){g d:jN}{led:Bool}{fe e1:kJ}{x:jZ}{cp:mi}(hg:Γ.s₀.heap.get? g=some (A8 "set.__contains__" d))(hd:Γ.s₀.heap.get? d=some (Cc led))(hf:Ev Γ σ fe (.raw (.ref g)))(h1:Ev Γ σ e1 (.py (.str x)))(hp:autoParam ([e1].all AE=true) aR)
 (he:autoParam (eval (.Call fe [e1] [] cp) Γ.env=(do kY cp (<-eval fe Γ.env) [] (backTo cp (starEach [e1] Γ.env)) (ma cp (ly [] Γ.env)))) aR):Ev Γ σ (.Call fe [e1] [] cp) (.py (.bool false)):=by
 intro O s Q E t q
 refine qS (hf O s _ E t λv s1 t1 k1 r1=>?_) he
 obtain rfl:v=.ref g:=r1
 refine Fe hp (Ab h1 Ah (by simpa using (kA.mp hp e1 (by simp))) O s1 _ _ E t1 λvs s2 t2 k2 r2=>⟨t2.keep _ _ hg,?_⟩)
 refine Af r2.one λv zz1 ra=>?_;obtain rfl:=zz1
 obtain⟨ta,rfl⟩:=ra.str_inv
 rw[hw]
 refine Jn (t2.keep _ _ hg) (t2.keep _ _ hd) ?_
 have kk:=Keeps.tr (Keeps.tr k1 k2) (Keeps.rfl' (tk:=s2.toks+1))
 exact q _ _ (t.of_keeps kk) kk (VR.bool ..)
end
section
open PySem.Builtin PySem.Builtin.ObjectAttr
section
variable {w:jY} {h:j6} {M:tP}
theorem Jl(K:Bn w h):h.get? CM=some (Hz w.params):=K.get CM (by kernel_rfl)
theorem RB(K:Bn w h):mF M h (mroOf (.ref CM)) [.ref CM,.type "tuple",.type "object"]:=(xc K.k (cd:={name:=jB "Match",bases:=[jX "tuple"],mro:=[kz CM,jX "tuple",jX "object"],ns:=134,qualname:=jB "Match",hasDict:=false}) (by kernel_rfl)).andThen .now
theorem Xq(K:Bn w h):mF M h (classData CM) {name:=jB "Match",bases:=[jX "tuple"],mro:=[kz CM,jX "tuple",jX "object"],ns:=134,qualname:=jB "Match",hasDict:=false}:=xc K.k (by kernel_rfl)
theorem Ov(K:Bn w h):mF M h (sg (.ref CM)) none:=by
 intro A Q E s k q
 unfold sg
 refine jC (RB K A _ E s k ?_)
 rw[mX]
 refine jC (jC (jC (jC (oB (k _ _ (Jl K)) (jL ?_)))))
 exact jL (jL (jL q))
theorem FZ:sg (.type "tuple")=pure (some "tuple.__new__"):=F.called_tuple.made
theorem RF:Builtin.Slots.bestBase [.type "tuple"]=pure (.type "tuple"):=by kernel_rfl
theorem Up(K:Bn w h):mF M h (ul (.ref CM)) (.type "tuple"):=by
 intro A Q E s k q
 unfold ul
 refine jC (RB K A _ E s k ?_)
 rw[mX]
 refine jC (jC (jC (Ov K A _ E s k ?_)))
 rw[if_neg (by decide)]
 dsimp only
 refine jC (Xq K A _ E s k ?_)
 dsimp only
 rw[RF]
 refine jC (jL (jL ?_))
 dsimp only
 rw[mX,FZ]
 refine jC (jC (jL ?_))
 rw[if_pos (by rfl)]
 exact jL (jL (jL q))
end
end
section
open PySem.Builtin PySem.Builtin.ObjectAttr
section
variable {w:jY} {M:tP}
theorem VV:wt "tuple.__new__"=some ("tuple","__new__"):=by decide +kernel
theorem XU:qz "tuple.__new__"=some .builtinFn:=by decide +kernel
theorem ON:plainId "tuple.__new__"=true:=by decide +kernel
theorem XV(t:jN):(match oU "tuple.__new__" with|some sig=>qK "tuple.__new__" sig {pos:=[kz CM,kz t]} | x=>pure ())=pure ():=by
 rw[vY (id:="tuple.__new__") (n:=['_','_','w','e','n','_','_']) (o:=['e','l','p','u','t']) (by kernel_rfl) PySem.F.owner_tuple];kernel_rfl
theorem Pd{h:j6}(K:Bn w h):mF M h (Bind.madeHere "tuple.__new__" (.ref CM)) ():=by
 refine(Up K).andThen ?_
 rw[FZ]
 exact @pT _ _ _ _ _ (by kernel_rfl)
noncomputable abbrev T4 (D:jN) (items:Array jD):nJ:={cls:=.ref CM,dict:=some D,data:=.seq items}
theorem IE{A:kC}{R:td->jG->Prop}{hh:j6}{g:Array vB}{d:Drawn}{tk:Nat}{os:lM}{t:jN}{o:nJ}{items:Array jD}{n:Nat}(K:Bn w hh)(ht:hh.get? t=some o)(hc:o.cls=.type "tuple")(hd:o.data=.seq items n)(hsz:items.size<=sizeLine)
 (q:∀h':j6,(∀b o',hh.get? b=some o'->h'.get? b=some o')->R (.ok (.ret (.ref (h'.objs.size+1)))) ⟨(h'.push emptyDict).push (T4 h'.objs.size items),g,d,tk,os⟩) :
 codeAny (model pw w) A (.call (.builtin "tuple.__new__") ⟨[.ref CM,.ref t],[]⟩) R ⟨hh,g,d,tk,os⟩:=by
 have hI:mF (model pw w) hh (isType (.ref CM)) true:=by
  intro A Q E s' k q
  unfold isType w8
  exact jC (oB (k _ _ (Jl K)) (jL q))
 have hS:mF (model pw w) hh (isSubtype (.ref CM) (.type "tuple")) true:=qB K.k (by kernel_rfl)
 have hB:mF (model pw w) hh (ul (.ref CM)) (.type "tuple"):=Up K
 have hM:mF (model pw w) hh (sg (.type "tuple")) (some "tuple.__new__"):=pT FZ
 have hMH:mF (model pw w) hh (Bind.madeHere "tuple.__new__" (.ref CM)) ():=Pd K
 have hN:mF (model pw w) hh (typeLookup (.ref CM) "__init__") (some (.builtin "object.__init__")):=pY K.k (by kernel_rfl)
 refine vP (tO ON _) ?_
 unfold checkBuiltinCall
 rw[XU,VV]
 dsimp only
 rw[if_pos (by decide)]
 refine jC (hI.at ?_)
 refine jC (hS.at ?_)
 rw[if_neg (by decide)]
 refine jC (hB.at ?_)
 refine jC (hM.at ?_)
 dsimp only
 rw[if_neg (by decide +kernel)]
 have ck:=XV t
 refine lC ck ?_
 refine pF F.entry_tuple_new ?_
 rw[nE ON]
 have L0:mF (model pw w) hh (typeOf (.ref t)) (.type "tuple"):=hc▸(oQ ht).andThen .now
 unfold ko.«tuple.__new__»
 dsimp only
 refine jC (hI.at ?_)
 rw[if_neg (by decide)]
 refine jC (hS.at ?_)
 rw[if_neg (by decide)]
 refine jC (hMH.at ?_)
 refine jC (hN.at ?_)
 rw[if_pos (by rfl)]
 refine jC (lC (show noKeywords "tuple" {pos:=[kz CM,kz t]}=pure () by rfl) ?_)
 refine jC (lC (show checkCount "tuple" 0 1 [kz t].length=pure () by rfl) ?_)
 rw[if_neg (by decide)]
 refine jC (wpAny_collect_seq t (.inr rfl) ht hc hd (λh' hk=>?_) hsz)
 refine jC (jL ?_)
 refine jC (wpAny_alloc ?_)
 refine jC ?_
 have e:items.toList.toArray=items:=by simp
 rw[e]
 unfold newObj
 dsimp only
 rw[if_neg (by omega)]
 unfold newObjAsIs classHasDel
 refine jC (wpAny_alloc (jC (jC (su (jH _ (jH _ (hk _ _ (Jl K)))) (jL ?_)))))
 dsimp only
 rw[if_neg (by decide)]
 refine jL (jL ?_)
 have q:=q h' hk
 rw[<-mT h' emptyDict] at q
 exact q
end
end
section
open PySem.Builtin PySem.Builtin.ObjectAttr
noncomputable def Qi (i j k:Int):jQ:=.dict [(.tuple [.int i,.int j,.int k],.none)]
theorem YQ{w:jY}{xI:j6}{n:Nat}{f:jN}{o:nJ}{fd:nY}{st:md}{ps ns:List jZ}{avs:List AV}{r:AV}(K:Bn w xI)(lim:xI.NoLimit)(ho:(KK w.params).lookup f=some o)(hd:o.data=.func fd)(X:Bf fd (Am st) ps ns)(hcd:codeIn (KK w.params) fd.code fd.qualname=true)(hlen:avs.length=ps.length)
 (hbind:∀vs,vs.length=ps.length->l6 fd ⟨vs,[]⟩=pure (ps.zip vs))
 (hB:∀A s O,HK xI s->Nm (Dx pw w A s fd f ns O)->A0 (A.deeper (callEnvC fd s.heap.objs.size f)) n->Ex (Dx pw w A s fd f ns O) (Bi avs (ns.length-ps.length)) (Am st) (λaf _=>af=.ret r)):Fn pw w xI (n+1) (.ref f) [] avs [] r:=
 I3 X (K.get f ho) hd lim (tX K.k hcd) hlen (λs vs _ hl=>.of_eq (hbind vs hl)) hB
theorem Ol{w:jY}{A:kC}{s:jG}{Q:jD×List jD->jG->Prop}{E:jD->jG->Prop}{pl:vi Bool}(K:Bn w s.heap)(q:Q (.builtin "tuple.__new__",[]) {s with toks:=s.toks+1}):wpAny (model pw w) A (nz (.type "tuple") "__new__" pl) Q E s:=by
 have hs:specialOf (.type "tuple") "__getattribute__"=pure (some (.builtin "type.__getattribute__")):=by
  unfold specialOf
  show typeLookup (.type "type") _=_
  rw[lU,lf];kernel_rfl
 unfold nz
 rw[hs]
 refine @jC _ _ _ _ _ _ _ _ _ (jL ?_)
 dsimp only
 rw[if_pos canon_tga]
 refine jC ?_
 have fm:=λQ E r (e:findCls (KK w.params) (.type "tuple") (.type "type") "__new__"=some r) h=>@cls_open pw w A E s (KK w.params) (.type "tuple") (.type "type") "__new__" r false Q none K.k (pT (by rfl)) (pT (by rfl)) (by kernel_rfl) (looks_hook K.k (by kernel_rfl)) (by kernel_rfl) e h
 refine fm _ _ (.val (.builtin "tuple.__new__")) (by kernel_rfl) (jL ?_)
 exact handed_on (by rfl) (jL q)
section
variable {Γ:Cx} {σ:AX}
theorem Kz{mg mb:jZ->Option jD}{xI:j6}{e1 e2:kJ}{tp ap cp:mi}{i j k:Int}(hw:Γ.prog=pw)(K:Bn Γ.w xI)(hk:HK xI Γ.s₀)(hT:Ev Γ σ (.Name (jB "tuple") tp) (.raw (.type "tuple")))(h1:Ev Γ σ e1 (.raw (.ref CM)))(h2:Ev Γ σ e2 (.py (.tuple [.int i,.int j,.int k])))
 {pl:vi Bool}(hp:autoParam ([e1,e2].all AE=true) aR)
 (he:autoParam (eval (.Call (.Attribute (.Name (jB "tuple") tp) "__new__" ap) [e1,e2] [] cp) Γ.env=(do
  let ov<-eval (.Name (jB "tuple") tp) Γ.env
  mS ap.atName
  let (f,first)<-mq [ov] (nz ov "__new__" pl)
  kY cp f first (backTo cp (starEach [e1,e2] Γ.env)) [])) aR) :
 Ev Γ σ (.Call (.Attribute (.Name (jB "tuple") tp) "__new__" ap) [e1,e2] [] cp) (.py (Qi i j k)):=by
 intro O s Q E t q
 refine mj (pl:=pl) (hT O s _ E t λv s1 t1 k1 r1=>?_) he
 obtain rfl:v=.type "tuple":=r1
 have K1:Bn Γ.w s1.heap:=K.keeps λb o e=>t1.keep _ _ (hk b o e)
 rw[hw]
 refine Ol K1 ?_
 rw[<-hw]
 have k2:kZ s1 {s1 with toks:=s1.toks+1}:=Keeps.rfl'
 have t2:=t1.of_keeps k2
 refine callWith_builtin (Bh hp) (AL hp (Ab h1 (Ab h2 Ah (by simpa using (kA.mp hp e2 (by simp)))) (by simpa using (kA.mp hp e1 (by simp))) O _ _ _ E t2 λvs s3 t3 k3 r3=>?_))
 refine BD r3.two λv u zz1 ra rb=>?_;obtain rfl:=zz1
 obtain rfl:v=.ref CM:=ra
 refine Cf rb.tuple_inv λa ws as zz1 zz2 rs qs=>?_;obtain rfl:=zz1;obtain⟨o,ho,hc,n,hd⟩:=zz2
 have K3:Bn Γ.w s3.heap:=K.keeps λb o e=>t3.keep _ _ (hk b o e)
 obtain⟨hh,g,d,tk,os⟩:=s3
 have hsz:ws.size<=sizeLine:=by
  have:=Al rs
  rw[kn] at this
  rw[this];exact jV rfl
 refine mU ?_
 rw[hw]
 refine IE K3 ho hc hd hsz λh' k4=>?_
 have k5:kZ ⟨hh,g,d,tk,os⟩ ⟨(h'.push emptyDict).push (T4 h'.objs.size ws),g,d,tk,os⟩:=AT _ tk rfl λb o e=>jH _ (jH _ (k4 b o e))
 have kk:=Keeps.tr (Keeps.tr (Keeps.tr k1 k2) k3) k5
 have eo:((h'.push emptyDict).push (T4 h'.objs.size ws)).get? (h'.objs.size+1)=some (T4 h'.objs.size ws):=by rw[<-mT h' emptyDict];exact jS _ rfl
 refine q _ _ (t.of_keeps kk) kk (Ac ((h'.objs.size+1)::as) (.mt eo rfl rfl (Ae.keeps (Aw k5) rs)) λb hb=>?_)
 rcases jI.mp hb with rfl|hb
 ·rintro⟨p,hp,e⟩
  obtain⟨o',ho'⟩:=t3.live p hp
  have:=kt (k4 _ _ ho')
  rw[e] at this
  exact absurd this (pt.mpr (qZ _))
 ·exact qs b hb
end
theorem ga(P:jE):Bf (Bq (G0 P)) (Am (BB 3 4)) ["_cls","a","b","size"] ["_cls","a","b","size"]:=.of' rfl rfl rfl (by decide +kernel)
theorem aV(P:jE)(u v x y:jD):l6 (Bq (G0 P)) ⟨[u,v,x,y],[]⟩=pure [((jB "_cls"),u),((jB "a"),v),((jB "b"),x),((jB "size"),y)]:=by rfl
theorem ag{w:jY}{xI:j6}{mg mb:jZ->Option jD}(K:Bn w xI)(T:Br mg mb xI)(i j k:Int):Fn pw w xI 1 (.ref 82) [] [.raw (.ref CM),.py (.int i),.py (.int j),.py (.int k)] [] (.py (Qi i j k)):=by
 refine YQ (o:=G0 w.params) (fd:=Bq (G0 w.params)) (st:=BB 3 4) K T.gl.nolimit (by kernel_rfl) (by kernel_rfl) (ga _) (by kernel_rfl) rfl (λvs hl=>by refine Eb (Yx hl) λv u x y zz1=>?_;obtain rfl:=zz1;exact aV _ v u x y) λA s O hk N room=>?_
 refine Ad (Iz ?_)
 refine Ad (AQ (Kz (mg:=mg) (mb:=mb) rfl K hk (A1 T hk) (Aa 0) (Au (ds:=[.int i,.int j,.int k]) (Ab (Aa 1) (Ab (Aa 2) (Ab (Aa 3) Ah))))) ?_)
 rfl
end
section
open PySem.Builtin PySem.Builtin.ObjectAttr
theorem Yo:qz "object.__init__"=some .slot:=by decide +kernel
theorem Wt:wt "object.__init__"=some ("object","__init__"):=by decide +kernel
theorem O0:plainId "object.__init__"=true:=by decide +kernel
theorem Ut(a:jD)(rest:List jD):sx "object.__init__" ⟨a::rest,[]⟩:=by unfold sx;kernel_rfl
theorem YI{w:jY}{A:kC}{R:td->jG->Prop}{s:jG}{a:jN}{o:nJ}{rest:List jD}(K:Bn w s.heap)(ho:s.heap.get? a=some o)(hc:o.cls=.ref CM)(q:R (.ok (.ret .none)) s) :
 codeAny (model pw w) A (.call (.builtin "object.__init__") ⟨.ref a::rest,[]⟩) R s:=by
 delta w A R a o at s rest K ho hc q
 obtain⟨hh,g,d,tk,os⟩:=s
 have L0:mF (model pw w) hh (typeOf (.ref a)) (.ref CM):=hc▸(oQ ho).andThen .now
 have L1:mF (model pw w) hh (isInstance (.ref a) (.type "object")) true:=L0.andThen (qB K.k (by kernel_rfl))
 have hN:mF (model pw w) hh (typeLookup (.ref CM) "__init__") (some (.builtin "object.__init__")):=pY K.k (by kernel_rfl)
 have hM:mF (model pw w) hh (sg (.ref CM)) none:=Ov K
 refine vP (tO O0 _) (@tY _ _ _ ⟨hh,g,d,tk,os⟩ _ _ _ _ _ _ _ Yo Wt L1 (Ut _ _) ?_)
 refine pF F.entry_object_init ?_
 rw[nE O0]
 unfold ko.«object.__init__»
 dsimp only
 cases rest with
 | nil=>
  rw[if_neg (by decide)]
  exact jL q
 | cons x xs=>
  rw[if_pos (by rfl)]
  refine jC (L0.at ?_)
  refine jC (hN.at ?_)
  refine jC (hM.at ?_)
  rw[if_neg (by decide),if_neg (by decide)]
  exact jL q
theorem Wz{w:jY}{xI:j6}{mg mb:jZ->Option jD}(x3:Bn w xI)(T:Br mg mb xI)(i j k:Int):Fn pw w xI 2 (.ref CM) [] [.py (.int i),.py (.int j),.py (.int k)] [] (.py (Qi i j k)):=by
 intro A O s vs kvs Q E room hk own rv rk q
 have K:Bn w s.heap:=x3.up hk
 refine Cf rv.three λu v x zz1 ru rw' rx=>?_;obtain rfl:=zz1
 obtain rfl:kvs=[]:=by cases kvs with|nil=>rfl|cons _ _=>exact rk.elim
 obtain⟨hh,g,d,tk,os⟩:=s
 have hC:=Jl K
 have typ:mF (model pw w) hh (isInstance (.ref CM) (.type "type")) true:=looks_instIn K.k (by kernel_rfl)
 have call:mF (model pw w) hh (specialOf (.ref CM) "__call__") (some (.builtin "type.__call__")):=looks_specialIn K.k (by kernel_rfl)
 show wpAny (model pw w) A (PySem.call (.ref CM) [u,v,x] []) Q E ⟨hh,g,d,tk,os⟩
 refine mU (vh ?_)
 show wpAny _ _ (wv (.ref CM) _) _ _ _
 refine nd_load hC ?_
 show wpAny _ _ (vQ (.ref CM) _) _ _ _
 unfold vQ
 refine jC (call.at ?_)
 dsimp only
 rw[tc_bind]
 refine jC (jL (jC (jL ?_)))
 refine jL (a:=Fin.again (.call (.builtin "type.__call__") ⟨.ref CM::[u,v,x],[]⟩)) (And.intro rfl ?_)
 refine codeAny_call_builtin_at (sP _ (by decide +kernel)) entry_typeCall (@tY _ _ _ _ _ _ _ _ _ _ _ tc_kind tc_split typ (tc_args _ _ _) ?_)
 unfold ko.«type.__call__»
 dsimp only
 rw[if_neg (by decide)]
 refine jC ((RB K).at ?_)
 rw[if_neg (by decide)]
 refine jC ((Ov K).at ?_)
 dsimp only
 refine jC ?_
 have fm:=λQ E r (e:findCls (KK w.params) (.ref CM) (.type "type") "__new__"=some r) h=>@cls_read pw w (A.under (.builtin "type.__call__" ⟨.ref CM::[u,v,x],[]⟩)) E ⟨hh,g,d,tk,os⟩ (KK w.params) (.type "type") "__new__" CM r false Q K.k (by kernel_rfl) e h
 refine fm _ _ (.get (.builtin "staticmethod.__get__") (.ref 136) .none (.ref CM)) (by kernel_rfl) (jC (kG (mU (sm_get K.k (f:=.ref 82) (rest:=[]) (by kernel_rfl) ?_))))
 refine jL ?_
 refine handed_on (by rfl) ?_
 refine jC (kG ?_)
 have rm:A0 (A.under (.builtin "type.__call__" ⟨.ref CM::[u,v,x],[]⟩)) 1:=A0.under room
 have own':CJ O ⟨hh,g,d,tk+1,os⟩:=⟨own.nodup,own.live⟩
 refine ag x3 T i j k (A.under (.builtin "type.__call__" ⟨.ref CM::[u,v,x],[]⟩)) O ⟨hh,g,d,tk+1,os⟩ [.ref CM,u,v,x] [] _ _ rm hk own' ⟨rfl,ru,rw',rx,trivial⟩ trivial λy s1 k1 r1=>?_
 have kk:kZ ⟨hh,g,d,tk,os⟩ s1:=Keeps.tr Keeps.rfl' k1
 have hq:=q y s1 kk r1
 refine Af r1 λas r1 _=>?_
 obtain⟨a,o,rfl,ho,hc⟩:∃a o,y=.ref a/\s1.heap.get? a=some o/\o.cls=.ref CM:=by
  unfold Qi at r1
  cases r1 with
  | mt e1 e2 e3 e4=>exact FQ _ _ rfl e1 e2
 have K1:Bn w s1.heap:=K.keeps (Aw kk)
 obtain⟨h1,g1,d1,tk1,os1⟩:=s1
 have L0:mF (model pw w) h1 (typeOf (.ref a)) (.ref CM):=hc▸(oQ ho).andThen .now
 have hS:mF (model pw w) h1 (isSubtype (.ref CM) (.ref CM)) true:=qB K1.k (by kernel_rfl)
 have hN:mF (model pw w) h1 (typeLookup (.ref CM) "__init__") (some (.builtin "object.__init__")):=pY K1.k (by kernel_rfl)
 unfold isInstance callSpecial? specialOf
 refine jC (jC (L0.at (hS.at ?_)))
 rw[if_neg (by decide)]
 refine jC (kG (jC (jC (L0.at (hN.at ?_)))))
 dsimp only
 refine kG ?_
 rw[oi_bind]
 refine jC (jL (jC (mU (YI K1 ho hc ?_))))
 refine jL (jL ?_)
 exact hq
theorem PF{M:tP}{w:jY}{A:kC}{env:xA}{E:jD->jG->Prop}{s:jG}{pos:mi}{e:kJ}{es:List kJ}{Q:jD->jG->Prop}(hp:(e::es).all AE=true)
 (h:wpAny M A (spliced (backTo pos (starEach (e::es) env))) (λvs xL=>Bn w xL.heap/\wpAny M A (call (.ref CM) vs) Q E xL) E s) :
 wpAny M A (kY pos (.ref CM) [] (backTo pos (starEach (e::es) env)) []) Q E s:=by
 have hst:((backTo pos (starEach (e::es) env)).any (λx=>x.fst) || ([]:List (Option jZ×vi jD)).any λx=>x.fst.isNone)=false:=by
  rw[Bh hp];rfl
 unfold kY
 refine jC (kG (AL hp (lT h (λvs xL xK=>?_) λ_ _ x=>x)))
 obtain⟨hh,g',d',t,os⟩:=xL
 obtain⟨K,xK⟩:=xK
 refine jC (rB ?_)
 rw[hst]
 have L:wpAny M A (keeperOf (.ref CM)) (λk s'=>k=.machine/\s'=⟨hh,g',d',t,os⟩) E ⟨hh,g',d',t,os⟩:=by
  unfold keeperOf
  refine jC (su (Jl K) ?_)
  show wpAny _ _ (specialOf (.ref CM) "__call__">>=_) _ _ _
  refine jC ((looks_specialIn K.k (by kernel_rfl:specialIn (KK w.params) (.ref CM) "__call__"=some (some (.builtin "type.__call__")))).at ?_)
  exact jL ⟨rfl,rfl⟩
 refine jC (lT L (λk s' hk=>?_) λ_ _ x=>x)
 obtain⟨rfl,rfl⟩:=hk
 show wpAny _ _ (call (.ref CM) vs []>>=λr=>do mq [r] point;pure r) _ _ _
 exact jC (lT xK (λr s' hr=>jC (kG (wpAny_point (jL hr)))) λ_ _ x=>x)
theorem Xe{Γ:Cx}{σ:AX}{mg mb:jZ->Option jD}{xI:j6}{f e1 e2 e3:kJ}{cp:mi}{i j k:Int}(hw:Γ.prog=pw)(K:Bn Γ.w xI)(T:Br mg mb xI)(room:A0 Γ.A 2)(hk:HK xI Γ.s₀)(hf:Ev Γ σ f (.raw (.ref CM)))(h1:Ev Γ σ e1 (.py (.int i)))(h2:Ev Γ σ e2 (.py (.int j)))(h3:Ev Γ σ e3 (.py (.int k)))
 (hp:autoParam ([e1,e2,e3].all AE=true) aR)
 (he:autoParam (eval (.Call f [e1,e2,e3] [] cp) Γ.env=(do kY cp (<-eval f Γ.env) [] (backTo cp (starEach [e1,e2,e3] Γ.env)) (ma cp (ly [] Γ.env)))) aR):Ev Γ σ (.Call f [e1,e2,e3] [] cp) (.py (Qi i j k)):=by
 intro O s Q E t q
 refine qS (hf O s _ E t λv s1 t1 k1 r1=>?_) he
 obtain rfl:v=.ref CM:=r1
 refine PF (w:=Γ.w) hp (Ab h1 (Ab h2 (Ab h3 Ah (by simpa using (kA.mp hp e3 (by simp)))) (by simpa using (kA.mp hp e2 (by simp)))) (by simpa using (kA.mp hp e1 (by simp))) O s1 _ _ E t1 λvs s2 t2 k2 r2=>⟨K.keeps λb o e=>t2.keep _ _ (hk b o e),?_⟩)
 rw[hw]
 exact Wz K T i j k Γ.A O s2 vs [] Q E room (λb o e=>t2.keep _ _ (hk _ _ e)) t2.ownOk r2 trivial λv s3 k3 r3=>q v s3 (t2.of_keeps k3) (Keeps.tr (Keeps.tr k1 k2) k3) r3
end
theorem We{a i k:Nat}(h:a<=i)(l:k<=i+1-a):a<=i+1-k:=
 Nat.le_sub_of_add_le (o9 a k▸Nat.add_le_of_le_sub (pL h) l)
theorem OT{a i k:Nat}(h:a<=i+1)(l:k<=i+1-a):1+k<=i+1+1-a:=by
 rw[Nat.succ_sub h,o9];exact ud l
theorem Wg{a i k b:Nat}(l:k<=i+1-a)(h:i<b):i+1-k+k<=b:=by
 rw[oE (kN l (p0 _ _))];exact h
theorem Wd{a i k:Nat}(h:a<i+1-k):a+k<=i:=wN (Nat.add_lt_of_lt_sub h)
section
variable {α:Type} [DecidableEq α] (as bs:List α) (alo blo bhi:Nat)
noncomputable def Dt (i j:Nat):Prop:=∃x,as[i]?=some x/\bs[j]?=some x
noncomputable def fR (i j:Nat):Decidable (Dt as bs i j):=
 match h:as[i]?,h':bs[j]? with
 | some x,some y=>if e:x=y then isTrue (Ac x h (e▸h')) else isFalse λEM=>Af EM λz h1 h2=>by rw[h] at h1;rw[h'] at h2;(replace h1:=si h1;subst h1);(replace h2:=sj h2;subst h2);exact e rfl
 | none,_=>isFalse λEM=>Af EM λz h1 _=>by exact B0 h h1
 | some _,none=>isFalse λEM=>Af EM λz _ h2=>by exact B0 h' h2
noncomputable def AY:Nat->Nat->Nat
 | 0,j=>@ite _ (Dt as bs 0 j) (fR as bs 0 j) 1 0
 | i+1,j=>@ite _ (Dt as bs (i+1) j) (fR as bs (i+1) j) (1+(if alo<i+1/\blo<j then AY i (j-1) else 0)) 0
theorem Dg(i j:Nat):AY as bs alo blo i j=@ite _ (Dt as bs i j) (fR as bs i j) (1+(if alo<i/\blo<j then AY as bs alo blo (i-1) (j-1) else 0)) 0:=by
 cases i with
 | zero=>unfold AY;split<;>simp
 | succ i=>rw[AY];rfl
theorem UO{i j:Nat}(h:¬Dt as bs i j):AY as bs alo blo i j=0:=by rw[Dg,if_neg h]
theorem Fl:∀{i j:Nat},alo<=i->blo<=j->AY as bs alo blo i j<=i+1-alo/\AY as bs alo blo i j<=j+1-blo
 | 0,j,hi,hj=>by rw[Dg];split<;>(try split)<;>lia
 | i+1,j,hi,hj=>by
  rw[Dg]
  split
  ·split
   ·rename_i h
    have:=Fl (i:=i) (j:=j-1) (wN h.1) (Nat.le_pred_of_lt h.2)
    rw[th]
    obtain⟨j,rfl⟩:=Nat.exists_eq_succ_of_ne_zero (Nat.ne_zero_of_lt h.2)
    exact⟨OT (pM h.1) this.1,OT (pM h.2) this.2⟩
   ·rwa[hi,hj]
  ·rwa[]
theorem G9:∀{i j:Nat},alo<=i->blo<=j->alo+AY as bs alo blo i j<=i->blo+AY as bs alo blo i j<=j->¬Dt as bs (i-AY as bs alo blo i j) (j-AY as bs alo blo i j)
 | 0,j,hi,hj=>by
  rw[Dg]
  split
  ·split<;>lia
  ·intro _ _;simpa using ‹¬_›
 | i+1,j,hi,hj=>by
  rw[Dg]
  split
  ·split
   ·rename_i h
    rw[th]
    intro h1 h2
    have:=G9 (i:=i) (j:=j-1) (by rwa[hi,h]) (by rwa[hj,h]) (by rwa[h1]) (by rwa[hj,h,h2])
    rw[show i+1-(1+AY as bs alo blo i (j-1))=i-AY as bs alo blo i (j-1) by rwa[],show j-(1+AY as bs alo blo i (j-1))=j-1-AY as bs alo blo i (j-1) by rwa[]]
    exact this
   ·intro h1 h2;lia
  ·intro _ _;simpa using ‹¬_›
noncomputable def Gq (i:Nat):List Nat:=(kf bs.length).filter λk=>@decide (Dt as bs i k/\blo<=k/\k<bhi) (@instDecidableAnd _ _ (fR as bs i k) _)
theorem CZ{i k:Nat}:k∈Gq as bs blo bhi i↔Dt as bs i k/\blo<=k/\k<bhi:=by
 unfold Gq
 rw[kd,mv]
 refine(and_congr_right λ_=>@decide_eq_true_iff _ (_)).trans ?_
 refine⟨λh=>h.2,λh=>⟨?_,h⟩⟩
 obtain⟨⟨x,_,e⟩,_⟩:=h
 exact(jM.mp e).1
noncomputable def Fw (i:Nat) (L:List Nat):Int->Option Int:=λk=>if 0<=k/\k.toNat∈L then some (AY as bs alo blo i k.toNat:Int) else none
theorem UN(i:Nat)(L:List Nat)(j:Nat):Fw as bs alo blo i (L++[j])=λk=>if k=(j:Int) then some ((AY as bs alo blo i j:Nat):Int) else Fw as bs alo blo i L k:=by
 funext k
 unfold Fw
 by_cases h:k=(j:Int)
 ·subst h;simp
 ·rw[if_neg h]
  have:(0<=k/\k.toNat∈L++[j])↔(0<=k/\k.toNat∈L):=by
   rw[jW,jJ]
   refine⟨λEM=>Cg EM λh1 h2=>⟨h1,h2.resolve_right λe=>h ?_⟩,λEM=>Cg EM λh1 h2=>⟨h1,.inl h2⟩⟩
   lia
  by_cases h':(0<=k/\k.toNat∈L)
  ·rw[if_pos (this.mpr h'),if_pos h']
  ·rw[if_neg (λz=>h' (this.mp z)),if_neg h']
noncomputable def HU:Nat->Int->Option Int
 | 0=>λ_=>none
 | t+1=>Fw as bs alo blo (alo+t) (Gq as bs blo bhi (alo+t))
theorem U0{t j:Nat}(he:Dt as bs (alo+t) j)(h1:blo<=j)(h2:j<bhi):(HU as bs alo blo bhi t ((j:Int)-1)).getD 0+1=(AY as bs alo blo (alo+t) j:Int):=by
 rw[Dg,if_pos he]
 cases t with
 | zero=>simp[HU]
 | succ t=>
  have hL:HU as bs alo blo bhi (t+1)=Fw as bs alo blo (alo+t) (Gq as bs blo bhi (alo+t)):=rfl
  by_cases hb:blo<j
  ·rw[if_pos (⟨by rwa[],hb⟩:alo<alo+(t+1)/\blo<j),hL]
   unfold Fw
   have e1:((j:Int)-1).toNat=j-1:=by rwa[h1,hb]
   rw[e1,show alo+(t+1)-1=alo+t by rwa[]]
   by_cases hq:Dt as bs (alo+t) (j-1)
   ·rw[if_pos ⟨by rwa[h1,hb],(CZ as bs blo bhi).mpr ⟨hq,by rwa[h1,hb,e1],by rwa[h2,hb,e1]⟩⟩]
    simp;rwa[]
   ·rw[if_neg λz=>hq ((CZ as bs blo bhi).mp z.2).1,UO as bs alo blo hq]
    simp
  ·rw[if_neg (λ(z:alo<alo+(t+1)/\blo<j)=>hb z.2),hL]
   unfold Fw
   rw[if_neg]
   ·simp
   ·rintro⟨h3,h4⟩
    have:=((CZ as bs blo bhi).mp h4).2.1
    rwa[h1,hb,h3,this]
noncomputable abbrev A9:=Nat×Nat×Nat
noncomputable def EJ (i:Nat) (b:A9) (j:Nat):A9:=if b.2.2<AY as bs alo blo i j then(i+1-AY as bs alo blo i j,j+1-AY as bs alo blo i j,AY as bs alo blo i j) else b
noncomputable def Hu (b:A9) (i:Nat):A9:=(Gq as bs blo bhi i).foldl (EJ as bs alo blo i) b
noncomputable def flm (ahi:Nat):A9:=((kf (ahi-alo)).map (alo+·)).foldl (Hu as bs alo blo bhi) (alo,blo,0)
structure Fz (S:Nat->Nat->Prop) (b:A9):Prop where
 max:∀i j,S i j->AY as bs alo blo i j<=b.2.2
 is:b=(alo,blo,0)\/∃i j,S i j/\0<AY as bs alo blo i j/\b=(i+1-AY as bs alo blo i j,j+1-AY as bs alo blo i j,AY as bs alo blo i j)
theorem Fz.step{S:Nat->Nat->Prop}{b:A9}(h:Fz as bs alo blo S b)(i j:Nat):Fz as bs alo blo (λi' j'=>S i' j'\/(i'=i/\j'=j)) (EJ as bs alo blo i b j):=by
 obtain⟨hm,hs⟩:=h
 unfold EJ
 split
 ·rename_i hlt
  refine⟨λi' j' z=>?_,.inr (FQ i j (.inr ⟨rfl,rfl⟩) (by rwa[hlt]) rfl)⟩
  rcases z with z|⟨rfl,rfl⟩
  ·exact pM (nu (hm _ _ z) hlt)
  ·exact jP _
 ·rename_i hlt
  refine⟨λi' j' z=>?_,hs.imp id λ⟨i',j',a,b,c⟩=>FQ i' j' (.inl a) b c⟩
  rcases z with z|⟨rfl,rfl⟩
  ·exact hm _ _ z
  ·exact om hlt
theorem Fz.congr{S S':Nat->Nat->Prop}{b:A9}(h:Fz as bs alo blo S b)(e:∀i j,S i j↔S' i j):Fz as bs alo blo S' b:=by
 obtain⟨hm,hs⟩:=h
 exact⟨λi j z=>hm i j ((e i j).mpr z),hs.imp id λ⟨i,j,a,b,c⟩=>FQ i j ((e i j).mp a) b c⟩
theorem Fz.steps{i:Nat}:∀{L:List Nat} {S:Nat->Nat->Prop} {b:A9},Fz as bs alo blo S b->Fz as bs alo blo (λi' j'=>S i' j'\/(i'=i/\j'∈L)) (L.foldl (EJ as bs alo blo i) b)
 | [],S,b,h=>h.congr as bs alo blo λi j=>by simp
 | x::L,S,b,h=>(Fz.steps (L:=L) (h.step as bs alo blo i x)).congr as bs alo blo λi' j'=>by
  rw[jI]
  constructor
  ·rintro((z|⟨z1,z2⟩)|⟨z1,z2⟩)
   ·exact .inl z
   ·exact .inr ⟨z1,.inl z2⟩
   ·exact .inr ⟨z1,.inr z2⟩
  ·rintro(z|⟨z1,z2|z2⟩)
   ·exact .inl (.inl z)
   ·exact .inl (.inr ⟨z1,z2⟩)
   ·exact .inr ⟨z1,z2⟩
theorem Fz.rounds:∀{I:List Nat} {S:Nat->Nat->Prop} {b:A9},Fz as bs alo blo S b->Fz as bs alo blo (λi' j'=>S i' j'\/(i'∈I/\j'∈Gq as bs blo bhi i')) (I.foldl (Hu as bs alo blo bhi) b)
 | [],S,b,h=>h.congr as bs alo blo λi j=>by simp
 | x::I,S,b,h=>(Fz.rounds (I:=I) (h.steps as bs alo blo (i:=x) (L:=Gq as bs blo bhi x))).congr as bs alo blo λi' j'=>by
  rw[jI]
  constructor
  ·rintro((z|⟨rfl,z2⟩)|⟨z1,z2⟩)
   ·exact .inl z
   ·exact .inr ⟨.inl rfl,z2⟩
   ·exact .inr ⟨.inr z1,z2⟩
  ·rintro(z|⟨rfl|z1,z2⟩)
   ·exact .inl (.inl z)
   ·exact .inl (.inr ⟨rfl,z2⟩)
   ·exact .inr ⟨z1,z2⟩
theorem Pk(ahi:Nat):Fz as bs alo blo (λi j=>alo<=i/\i<ahi/\j∈Gq as bs blo bhi i) (flm as bs alo blo bhi ahi):=by
 have h0:Fz as bs alo blo (λ_ _=>False) (alo,blo,0):=⟨λ_ _ z=>z.elim,.inl rfl⟩
 refine(h0.rounds as bs alo blo bhi (I:=(kf (ahi-alo)).map (alo+·))).congr as bs alo blo λi j=>?_
 rw[kq,false_or]
 constructor
 ·rintro⟨⟨k,hk,rfl⟩,z⟩
  have:=mv.mp hk
  exact⟨by rwa[],by rwa[this],z⟩
 ·rintro⟨h1,h2,z⟩
  exact⟨⟨i-alo,mv.mpr (by rwa[h1,h2]),by rwa[h1]⟩,z⟩
structure ZN (ahi:Nat) (t:A9):Prop where
 i0:alo<=t.1
 i1:t.1+t.2.2<=ahi
 j0:blo<=t.2.1
 j1:t.2.1+t.2.2<=bhi
 ahead:alo<t.1->blo<t.2.1->¬Dt as bs (t.1-1) (t.2.1-1)
 behind:t.1+t.2.2<ahi->t.2.1+t.2.2<bhi->¬Dt as bs (t.1+t.2.2) (t.2.1+t.2.2)
theorem F8{ahi:Nat}(hi:alo<=ahi)(hj:blo<=bhi):ZN as bs alo blo bhi ahi (flm as bs alo blo bhi ahi):=by
 obtain⟨hm,hs⟩:=Pk as bs alo blo bhi ahi
 have big:∀i j,alo<=i->i<ahi->blo<=j->j<bhi->Dt as bs i j->AY as bs alo blo i j<=(flm as bs alo blo bhi ahi).2.2:=λi j h1 h2 h3 h4 h5=>hm i j ⟨h1,h2,(CZ as bs blo bhi).mpr ⟨h5,h3,h4⟩⟩
 rcases hs with e|⟨i,j,⟨h1,h2,h3⟩,h4,e⟩
 ·rw[e] at big ⊢
  refine⟨jP _,hi,jP _,hj,λh=>absurd h (lr _),λh1 h2 h3=>?_⟩
  have:=big alo blo (jP _) (by simpa using h1) (jP _) (by simpa using h2) (by simpa using h3)
  rw[Dg,if_pos (by simpa using h3)] at this
  simp at this
 ·refine C1 ((CZ as bs blo bhi).mp h3) λh5 h6 h7=>?_
  obtain⟨l1,l2⟩:=Fl as bs alo blo h1 h6
  have st:=G9 as bs alo blo h1 h6
  have nx:Dt as bs (i+1) (j+1)->AY as bs alo blo (i+1) (j+1)=1+AY as bs alo blo i j:=λz=>by
   rw[Dg,if_pos z,if_pos ⟨wM h1,wM h6⟩];rfl
  rw[e] at big ⊢
  dsimp only at big
  have big:=big (i+1) (j+1)
  generalize AY as bs alo blo i j=k at *
  refine⟨We h1 l1,Wg l1 h2,We h6 l2,Wg l2 h7,λa b=>?_,λa b c=>?_⟩
  ·dsimp only at a b ⊢
   rw[wE,wE (j+1)]
   exact st (Wd a) (Wd b)
  ·dsimp only at a b c
   rw[oE (kN l1 (p0 _ _))] at a c
   rw[oE (kN l2 (p0 _ _))] at b c
   have:=big (pL h1) a (pL h6) b c
   rw[nx c,o9] at this
   exact absurd this (Nat.not_succ_le_self k)
end
theorem J8{h:j6}:∀{vs:List jD} {ns:List Int},tA vs ns->Ae h vs (ns.map .int) []:=by
 intro vs ns r
 induction r with
 | nil=>exact .nil
 | cons i t x ih=>exact .cons (.int i t) ih
section
variable {Γ:Cx} {σ:AX}
theorem Vh(hw:Γ.prog=pw){y:jZ}{e1 e2:kJ}{yp ap cp:mi}{bs:List jZ}{x:jZ}{pl:vi Bool}(ib:Nat)(hσ:σ[ib]?=some (some (.val (.st (RJ Γ.w bs) (Cn Γ.w bs)))))(h1:Ev Γ σ e1 (.py (.str x)))(h2:Ev Γ σ e2 (.py (.list [])))
 (hi:autoParam (Γ.ns[ib]?=some y) aR)(hk:autoParam (Γ.env.scope.kind=.function) aR)(hd:autoParam ((y == ("__debug__":jZ))=false) aK)(hp:autoParam ([e1,e2].all AE=true) aR)
 (he:autoParam (eval (.Call (.Attribute (.Name y yp) "get" ap) [e1,e2] [] cp) Γ.env=(do
  let ov<-eval (.Name y yp) Γ.env
  mS ap.atName
  let (f,first)<-mq [ov] (nz ov "get" pl)
  kY cp f first (backTo cp (starEach [e1,e2] Γ.env)) [])) aR) :
 Ev Γ σ (.Call (.Attribute (.Name y yp) "get" ap) [e1,e2] [] cp) (.py (.list ((Oj bs bs.length x).map .int))):=by
 intro O s Q E t q
 refine mj (pl:=pl) (EX ib t (λv rv=>?_) hi hσ hk hd) he
 refine Af rv λpls zz1 hO=>?_;obtain⟨dj,ls,rfl,rfl,⟨⟨kvs,hm,hle,f0,f1,f2⟩⟩,lo,_⟩:=zz1
 rw[hw]
 refine mM hm.typeIs F.plainAttrs_dict u7 PySem.F.type_dict_get hm.mapOf.noDict ?_
 rw[<-hw]
 refine callWith_builtin (Bh hp) (AL hp (Ab h1 (Ab h2 Ah (by simpa using (kA.mp hp e2 (by simp)))) (by simpa using (kA.mp hp e1 (by simp))) O _ _ _ E t λvs s3 t3 k3 r3=>?_))
 refine BD r3.two λv u zz1 ra rb=>?_;obtain rfl:=zz1
 obtain⟨ta,rfl⟩:=ra.str_inv
 have hm3:s3.heap.DictOf (mQ pw Γ.w) dj kvs:=hm.keep (Aw k3)
 rw[hw]
 refine call_meetsIn u7 hm3.typeIs uV (PySem.F.args_dict_get_3 _ _ _) (wu (mQ pw Γ.w) dj (q9 pw Γ.w x ta) lo u) (Ac _ hm3.mapOf ?_)
 have kk:=Keeps.tr k3 (Keeps.rfl' (tk:=s3.toks+1))
 refine q _ _ (t.of_keeps kk) kk ?_
 by_cases hx:Oj bs bs.length x=[]
 ·rw[f0 x hx,hx]
  exact rb
 ·refine E8 (f1 x hx) λl vs e hl zz1 ia=>?_;obtain⟨n,pl⟩:=zz1
  rw[e]
  refine Ac [l] (.list (Aw k3 _ _ pl) rfl rfl (J8 ia)) λb hb=>?_
  rw[jJ.mp hb]
  exact hO l (.tail _ hl)
theorem V5(N:Nm Γ){O:Ap}{s:jG}{i:Nat}{x:jZ}{a:AV}(t:St Γ O σ s)(hi:Γ.ns[i]?=some x)(h:σ[i]?=some (some (.val a))):∃v,VR O s.heap a v/\St Γ O (σ.set i (some (.val (.raw v)))) s:=by
 delta Γ σ O s i x a at N t hi h
 obtain⟨kp,⟨m,n,vs⟩,cl,nd,lv,sb,fr,fs⟩:=t
 refine Af (vs i x _ hi h) λv hd r=>?_
 have hlt:i<σ.length:=(jM.mp h).1
 refine⟨v,r,kp,(Ac m n λj y b e e'=>?_),cl,nd,lv,sb,fr,fs⟩
 by_cases hj:j=i
 ·subst hj
  (replace e:=CQ hi e;subst e)
  rw[lQ hlt] at e'
  cases e'
  exact Ac v hd rfl
 ·rw[lR (ln hj)] at e'
  exact vs j y b e e'
theorem Fo{O:Ap}{s:jG}{I D:jN}{m:jZ->Option jD}{k:Nat}{x y:jZ}{sp pos:mi}{v:jD}{Q:jD->jG->Prop}{E:jD->jG->Prop}(hw:Γ.prog=pw)(K:Bn Γ.w s.heap)(i:IN s.heap I D m k)(is:Nat)(t:St Γ O σ s)(hσ:σ[is]?=some (some (.val (.raw (.ref I)))))(hv:m x=some v)
 (q:Q v {s with toks:=s.toks+1})(hi:autoParam (Γ.ns[is]?=some y) aR)(hk:autoParam (Γ.env.scope.kind=.function) aR)(hd:autoParam ((y == ("__debug__":jZ))=false) aK)(hh:autoParam (handedIn v=true) aR)(ha:autoParam (vx (KK Γ.w.params) (.ref CS) x=some none) aK)
 (he:autoParam (eval ((ky y sp).Attribute x pos) Γ.env=(do
  let o<-eval (ky y sp) Γ.env
  mS pos.atName
  let r<-mq [o] (pW o x true)
  letTemporaryGo (ky y sp) o r
  pure r)) aR):wpAny (model Γ.prog Γ.w) Γ.A (eval (.Attribute (.Name y sp) x pos) Γ.env) Q E s:=by
 refine sH (Bw is t ?_ hi hσ hk hd) he
 rw[hw]
 exact Rh K i hv q hh ha
end
section
variable {Γ:Cx} {σ:AX} {P:AF->AX->Prop} {pos:mi}
theorem Ql(hP:P .cont σ):X1 Γ σ (.Continue pos) P:=
 λO s Q E t q=>wpAny_Continue (q O _ .cont σ s (Fx.re Γ O s) t rfl hP)
theorem Ux(N:Nm Γ)(id iy:Nat){x y:jZ}{xp yp:mi}{a:jN}{R:nJ->Prop}(hσ:σ[id]?=some (some (.at a R)))(hP:P .next ((σ.set id none).set iy (some (.at a R))))
 (hi:autoParam (Γ.ns[id]?=some x) aR)(hkf:autoParam (Γ.env.scope.kind=.function) aR)(hd:autoParam ((x == ("__debug__":jZ))=false) aK)(hi2:autoParam (Γ.ns[iy]?=some y) aR)(hlt:autoParam (iy<σ.length) aN)(hk:autoParam (Γ.env.kindOf y=some .local) aR)
 (hs:autoParam (qX (.Name x xp) (some (.Name y yp)) pos.line Γ.env=pure false) aR):X1 Γ σ (.Assign [.Name y yp] (.Name x xp) pos) P:=by
 intro O s Q E t q
 refine l9 (Hc id t ?_ hi hσ hkf hd) hs
 refine H0 (RG t hi hσ) λo ho hR hz hc=>?_
 refine C1 (XB t hi hσ) λ_ h0 haL=>?_
 obtain⟨t1,f1⟩:=QV N y t hi hσ
 refine AG N (i:=iy) (b:=.at a R) hi2 (by rw[nM];exact hlt) hk t1 ⟨rfl,.head _,(H5 o ho hR hz hc),h0,haL⟩ λs2 a2 u2 t2=>?_
 exact q _ .next .next _ s2 (f1.tr (Fx.ofBut t1 a2 u2 t2)) t2 rfl hP
end
noncomputable def RL (Γ:Cx):List Nat->List jZ->Prop
 | [],[]=>True
 | i::is,x::xs=>Γ.ns[i]?=some x/\Γ.env.kindOf x=some .local/\RL Γ is xs
 | _,_=>False
theorem PH{Γ:Cx}(N:Nm Γ)(Q:Unit->jG->Prop)(E:jD->jG->Prop):∀(is:List Nat) (xs:List jZ) (ds:List jQ),RL Γ is xs->∀(σ:AX) (O:Ap) (s:jG) (vs:List jD) (as:List jN),(∀i∈is,i<σ.length)->is.length=ds.length->
 St Γ O σ s->Ae s.heap vs ds as->(∀b∈as,¬O.has b)->(∀s',AI s s'->(∀b o,b≠Γ.env.locals->s.heap.get? b=some o->s'.heap.get? b=some o)->St Γ O (F2 σ is ds) s'->Q () s')->wpAny (model Γ.prog Γ.w) Γ.A (v4 (xs.map λn=>bindName Γ.env n) vs) Q E s:=by
 intro is
 delta Γ Q E at N is
 induction is with
 | nil=>
  intro xs ds hn σ O s vs as hlt hl t r qa q
  cases xs with
  | cons=>exact hn.elim
  | nil=>
   cases ds with
   | cons=>cases hl
   | nil=>
    obtain rfl:=Bg r
    exact jL (q s (AI.re s) (λ_ _ _ e=>e) t)
 | cons i is ih=>
  intro xs ds hn σ O s vs as hlt hl t r qa q
  cases xs with
  | nil=>exact hn.elim
  | cons x xs=>
   refine C1 hn λhi hk h=>?_
   cases ds with
   | nil=>cases hl
   | cons d ds=>
    refine Cz (AK r) λv ws bs cs zz1 r1 rs zz2=>?_;obtain rfl:=zz1;obtain rfl:=zz2
    rw[kO]
    refine rD (bindName_ (AG N (b:=.val (.py d)) hi (hlt i (.head _)) hk t (Ac _ r1 λb hb=>qa b (lO _ hb)) λs1 a1 u1 t1=>?_))
    have f1:=Fx.ofBut t a1 u1 t1
    exact ih xs ds h _ O s1 ws cs (λj hj=>by rw[nM];exact hlt j (.tail _ hj)) (qY hl) t1 (DP t N.names f1 rs λb hb=>qa b (kR _ hb)) (λb hb=>qa b (kR _ hb)) λs2 a2 u2 t2=>q s2 (a1.tr a2) (λb o hb e=>u2 b o hb (u1 b o hb e)) t2
theorem Hb{h:j6}{vs:List jD}{ds:List jQ}{as:List jN}(r:Ae h vs ds as):∃bs,Ae h vs.reverse ds.reverse bs/\∀b∈bs,b∈as:=by
 refine Ae.ind (P:=λvs ds as=>∃bs,Ae h vs.reverse ds.reverse bs/\∀b∈bs,b∈as) (Ac [] .nil λ_ h=>h) (λ{v vs d ds as cs} r _ ih=>?_) r
 refine Af ih λbs r1 q1=>?_
 refine Ac (bs++(as++[])) ?_ λb hb=>?_
 ·rw[wG,wG]
  exact EE r1 (.cons r .nil)
 ·rw[kH] at hb
  exact(jW.mp hb).elim (λhb=>kR _ (q1 b hb)) λhb=>lO _ hb
theorem DB{Γ:Cx}{σ:AX}{P:AF->AX->Prop}{pos:mi}(N:Nm Γ)(hh:Γ.A.handled=none){es:List kJ}{k:Nat}{p:mi}{e:kJ}{ds:List jQ}(is:List Nat)(names:List jZ)(h:Ev Γ σ e (.py (.tuple ds)))(hn:RL Γ is.reverse names.reverse)(hP:P .next (F2 σ is.reverse ds.reverse))
 (hlt':autoParam ((is.all λi=>mC i σ.length)=true) aR)(hl:autoParam (is.length=ds.length) aR)(hl2:autoParam (names.length=ds.length) aR)
 (hs:autoParam (tM [ow es k p] e pos.line Γ.env=pure false) aR)(hw:autoParam (nv [ow es k p] e Γ.env=pure (some names)) aR):X1 Γ σ (.Assign [.Tuple es k p] e pos) P:=by
 intro O s Q E t q
 have hlt:∀i∈is.reverse,i<σ.length:=λi hi=>jV (kA.mp hlt' i (wQ.mp hi))
 refine Assign_Tuple_swapped (h O s _ E t λv s1 t1 k1 r1=>?_) hs hw
 refine Cf r1.tuple_inv λa vs as zz1 ht rs qs=>?_;obtain rfl:=zz1
 have hsz:vs.size=ds.length:=by rw[<-Al rs];simp
 rw[hl2,<-hsz]
 refine unpackItems_tuple hh ht λh' he=>?_
 have kk:kZ s1 {s1 with heap:=h'}:=AT h' s1.toks rfl λb o e=>he b o (lz (kt e)) e
 refine Af (Hb (Ae.keeps (Aw kk) rs)) λbs r2 q2=>?_
 exact PH N _ _ is.reverse names.reverse ds.reverse hn _ _ _ _ _ hlt (by rw[sK,sK,hl]) (t1.of_keeps kk) r2 (λb hb=>qs b (q2 b hb)) λs2 a2 u2 t2=>q _ .next .next _ s2 (((Fx.of_keeps k1).tr (Fx.of_keeps kk)).tr (Fx.ofBut (t1.of_keeps kk) a2 u2 t2)) t2 rfl hP
noncomputable def HR:List jZ:=["self","alo","ahi","blo","bhi","a","b","b2j","isbjunk","besti","bestj","bestsize","j2len","nothing","i","j2lenget","newj2len","j","k"]
theorem d5(P:jE):Bf (Bq (BQ P)) (Am (BB 5 6)) ["self","alo","ahi","blo","bhi"] HR:=.of' rfl rfl rfl (by decide +kernel)
theorem gM{α:Type}{vs:List α}(h:vs.length=5):∃v u x y z,vs=[v,u,x,y,z]:=
 Ao (Pe h) λv ws e h=>Eb (Yx h) λu x y z e3=>eT v u x y z (e.trans (congrArg _ e3))
noncomputable abbrev pI (i:Int):Option Bd:=some (.val (.py (.int i)))
noncomputable abbrev TK (as:List jZ):Option Bd:=some (.val (.py (.list (as.map .str))))
noncomputable abbrev Hf (w:jY) (as bs:List jZ) (I g:jD) (alo ahi blo bhi:Nat) (b:A9) (j2 i jg nj j k:Option Bd):AX:=
 [some (.val (.raw I)),pI alo,pI ahi,pI blo,pI bhi,TK as,TK bs,some (.val (.st (RJ w bs) (Cn w bs))),some (.val (.raw g)),pI b.1,pI b.2.1,pI b.2.2,j2,some (.val (.py (.list []))),i,jg,nj,j,k]
noncomputable def OF (bs:List jZ) (x:jZ):List Nat:=(kf bs.length).filter λk=>decide (bs[k]?=some x)
theorem YK(bs:List jZ)(x:jZ):(Oj bs bs.length x).map lY=(OF bs x).map λj=>lY (j:Nat):=by
 unfold Oj OF
 rw[mw];rfl
noncomputable def Kv (blo bhi:Nat) (k:Nat):Bool:=decide (blo<=k/\k<bhi)
theorem VL{as bs:List jZ}{i blo bhi:Nat}{x:jZ}(h:as[i]?=some x):Gq as bs blo bhi i=(OF bs x).filter (Kv blo bhi):=by
 unfold Gq OF Kv
 rw[List.filter_filter]
 refine List.filter_congr λk _=>?_
 have:Dt as bs i k↔bs[k]?=some x:=by
  constructor
  ·intro zz1;refine Af zz1 λy h1 h2=>?_
   (replace h1:=CQ h h1;subst h1);exact h2
  ·exact λe=>Ac x h e
 rw[<-Bool.decide_and,decide_eq_decide,this]
 exact⟨λEM=>Cg EM λa b=>⟨b,a⟩,λEM=>Cg EM λa b=>⟨b,a⟩⟩
theorem IQ(bs:List jZ)(x:jZ):(OF bs x).Pairwise (· < ·):=uh _ pH
theorem Yk{bs:List jZ}{x:jZ}{j:Nat}(h:j∈OF bs x):bs[j]?=some x:=of_decide_eq_true (kd.mp h).2
theorem V3{l:List Nat}{m j blo bhi:Nat}(hs:l.Pairwise (· < ·))(hj:l[m]?=some j)(hb:bhi<=j):(l.take m).filter (Kv blo bhi)=l.filter (Kv blo bhi):=by
 delta l m j blo bhi at hs hj hb
 have e:l=l.take m++l.drop m:=(pP m l).symm
 conv=>rhs;rw[e,sT]
 have:(l.drop m).filter (Kv blo bhi)=[]:=by
  rw[List.filter_eq_nil_iff]
  intro k hk
  obtain⟨n,hn⟩:=List.mem_iff_getElem?.mp hk
  rw[qN] at hn
  have:j<=k:=by
   cases n with
   | zero=>rw[tG,hj] at hn;(replace hn:=si hn;subst hn);exact jP _
   | succ n=>
    obtain⟨h1,e1⟩:=jM.mp hj
    obtain⟨h2,e2⟩:=jM.mp hn
    have:=nF.mp hs m (m+(n+1)) h1 h2 (by rwa[])
    rw[e1,e2] at this
    exact pM this
  unfold Kv
  rw[decide_eq_true_eq]
  rwa[hb,this]
 rw[this,kH]
theorem UF{l:List Nat}{m j:Nat}(hj:l[m]?=some j)(p:Nat->Bool):(l.take (m+1)).filter p=(l.take m).filter p++(if p j then [j] else []):=by
 rw[kQ,hj,sT]
 congr 1
 simp only[oo,List.filter_cons,List.filter_nil]
section
variable {Γ:Cx} {σ:AX}
theorem Dl{l r:kJ}{pos:mi}{as:List jZ}{n:Nat}(hl:Ev Γ σ l (.py (.list (as.map .str))))(hr:Ev Γ σ r (.py (.int n)))(hn:n<as.length)(hs:as.length<=100)
 (hsub:autoParam (∀o x,subscripted r false o x=tw [o,x] (getItem o x)) aI):Ev Γ σ (.Subscript l r pos) (.py (.str ((as[n]?).getD mJ))):=by
 refine Ay (d:=.str ((as[n]?).getD mJ)) hl hr (by rwa[]) (by rwa[hn,hs]) ?_ hsub
 rw[ku,kc,jR hn]
 rfl
end
theorem WW{w:jY}{A:kC}{s s2:jG}{O:Ap}{as bs:List jZ}{I:jD}{g sj:jN}{led:Bool}{mg mb:jZ->Option jD}{xI:j6}(K:Bn w xI)(T:Br mg mb xI)(hgM:mg "Match"=some (.ref CM))
 (hk:HK xI (Cx.from (Dx pw w A s (Bq (BQ w.params)) 196 HR O) s2).s₀)(N:Nm (Cx.from (Dx pw w A s (Bq (BQ w.params)) 196 HR O) s2))(room:A0 (A.deeper (callEnvC (Bq (BQ w.params)) s.heap.objs.size 196)) 2)
 (hg:(Cx.from (Dx pw w A s (Bq (BQ w.params)) 196 HR O) s2).s₀.heap.get? g=some (A8 "set.__contains__" sj))(hs:(Cx.from (Dx pw w A s (Bq (BQ w.params)) 196 HR O) s2).s₀.heap.get? sj=some (Cc led))
 (alo ahi blo bhi:Nat)(hA:ahi<=as.length)(hB:bhi<=bs.length)(lA:as.length<=100)(lB:bs.length<=100)(b:A9)(fo:ZN as bs alo blo bhi ahi b)(j2 i jg nj j k:Option Bd) :
 Ex (Cx.from (Dx pw w A s (Bq (BQ w.params)) 196 HR O) s2) (Hf w as bs I (.ref g) alo ahi blo bhi b j2 i jg nj j k) ((Am (BB 5 6)).drop 8) (λaf _=>af=.ret (.py (Qi b.1 b.2.1 b.2.2))):=by
 delta w A s s2 O as bs I g sj led mg mb xI alo ahi blo bhi b j2 i jg nj j k at K T hgM hk N room hg hs hA hB lA lB fo
 obtain⟨i0,i1,j0,j1,ha,hb⟩:=fo
 have eqs:∀{p q:Nat},p<as.length->q<bs.length->(((as[p]?).getD mJ=(bs[q]?).getD mJ)↔Dt as bs p q):=λ{p q} h1 h2=>by
  rw[jR h1,jR h2]
  constructor
  ·intro e;exact⟨_,jR h1,by rw[jR h2];exact congrArg some e.symm⟩
  ·intro zz1;refine Af zz1 λx e1 e2=>?_
   rw[jR h1] at e1
   rw[jR h2] at e2
   (replace e1:=si e1;subst e1);exact(kW e2).symm
 refine Ad (Ef (n:=0) (λn σ=>n=0/\σ=Hf w as bs I (.ref g) alo ahi blo bhi b j2 i jg nj j k) ⟨rfl,rfl⟩ λn σ1 hσ=>?_)
 obtain⟨rfl,rfl⟩:=hσ
 refine Ba false (Tv.cast (By (AP (c:=decide ((b.1:Int)>alo)) (An (Aa 9) (Aa 1)) λh1=>AP (c:=decide ((b.2.1:Int)>blo)) (An (Aa 10) (Aa 3)) λh2=>
  AP (c:=true) (VO (c:=false) (Fi (DU rfl hg hs (Aa 8) (Dl (n:=b.2.1-1) (Aa 6) (Ev.cast (Dd (Aa 10) Ai) ?_) ?_ lB)))) λ_=>
  AP (c:=decide ((as[b.1-1]?).getD mJ=(bs[b.2.1-1]?).getD mJ)) (IC (Dl (n:=b.1-1) (Aa 5) (Ev.cast (Dd (Aa 9) Ai) ?_) ?_ lA) (Dl (n:=b.2.1-1) (Aa 6) (Ev.cast (Dd (Aa 10) Ai) ?_) ?_ lB)) λ_=>BC)) ?_) (λh=>(nomatch h)) λ_=>Aj ?_
 ·have h1:=of_decide_eq_true h1;have h2:=of_decide_eq_true h2
  refine congrArg (λz=>AV.py (.int z)) ?_;rwa[h2]
 ·have h1:=of_decide_eq_true h1;have h2:=of_decide_eq_true h2;rwa[hB,j1,h2]
 ·have h1:=of_decide_eq_true h1;have h2:=of_decide_eq_true h2
  refine congrArg (λz=>AV.py (.int z)) ?_;rwa[h1]
 ·have h1:=of_decide_eq_true h1;have h2:=of_decide_eq_true h2;rwa[hA,i1,h1]
 ·have h1:=of_decide_eq_true h1;have h2:=of_decide_eq_true h2
  refine congrArg (λz=>AV.py (.int z)) ?_;rwa[h2]
 ·have h1:=of_decide_eq_true h1;have h2:=of_decide_eq_true h2;rwa[hB,j1,h2]
 ·rw[pJ]
  intro h
  simp only[kL,decide_eq_true_eq,oI,sO] at h
  obtain⟨h1,h2,h3⟩:=h
  exact ha (by rwa[i0,h1]) (by rwa[j0,h2]) ((eqs (by rwa[hA,i0,i1,h1]) (by rwa[hB,j0,j1,h2])).mp h3)
 refine Ad (Ef (n:=0) (λn σ=>n=0/\σ=Hf w as bs I (.ref g) alo ahi blo bhi b j2 i jg nj j k) ⟨rfl,rfl⟩ λn σ1 hσ=>?_)
 obtain⟨rfl,rfl⟩:=hσ
 refine Ba false (Tv.cast (By (AP (c:=decide (((b.1:Int)+(b.2.2:Int))<ahi)) (An (Bl (Aa 9) (Aa 11)) (Aa 2)) λh1=>AP (c:=decide (((b.2.1:Int)+(b.2.2:Int))<bhi)) (An (Bl (Aa 10) (Aa 11)) (Aa 4)) λh2=>
  AP (c:=true) (VO (c:=false) (Fi (DU rfl hg hs (Aa 8) (Dl (n:=b.2.1+b.2.2) (Aa 6) (Ev.cast (Bl (Aa 10) (Aa 11)) ?_) ?_ lB)))) λ_=>
  AP (c:=decide ((as[b.1+b.2.2]?).getD mJ=(bs[b.2.1+b.2.2]?).getD mJ)) (IC (Dl (n:=b.1+b.2.2) (Aa 5) (Ev.cast (Bl (Aa 9) (Aa 11)) ?_) ?_ lA) (Dl (n:=b.2.1+b.2.2) (Aa 6) (Ev.cast (Bl (Aa 10) (Aa 11)) ?_) ?_ lB)) λ_=>BC)) ?_) (λh=>(nomatch h)) λ_=>Aj ?_
 ·refine congrArg (λz=>AV.py (.int z)) ?_;push_cast;rfl
 ·have h1:=of_decide_eq_true h1;have h2:=of_decide_eq_true h2;rwa[hB,h2]
 ·refine congrArg (λz=>AV.py (.int z)) ?_;push_cast;rfl
 ·have h1:=of_decide_eq_true h1;have h2:=of_decide_eq_true h2;rwa[hA,h1]
 ·refine congrArg (λz=>AV.py (.int z)) ?_;push_cast;rfl
 ·have h1:=of_decide_eq_true h1;have h2:=of_decide_eq_true h2;rwa[hB,h2]
 ·rw[pJ]
  intro h
  simp only[kL,decide_eq_true_eq,oI,sO] at h
  obtain⟨h1,h2,h3⟩:=h
  exact hb (by rwa[i1,h1]) (by rwa[j1,h2]) ((eqs (by rwa[hA,h1]) (by rwa[hB,h2])).mp h3)
 refine Ad (Ef (n:=0) (λn σ=>n=0/\σ=Hf w as bs I (.ref g) alo ahi blo bhi b j2 i jg nj j k) ⟨rfl,rfl⟩ λn σ1 hσ=>?_)
 obtain⟨rfl,rfl⟩:=hσ
 refine Ba false (Tv.cast (By (AP (c:=decide ((b.1:Int)>alo)) (An (Aa 9) (Aa 1)) λh1=>AP (c:=decide ((b.2.1:Int)>blo)) (An (Aa 10) (Aa 3)) λh2=>
  AP (c:=false) (d:=false) (Fi (DU rfl hg hs (Aa 8) (Dl (n:=b.2.1-1) (Aa 6) (Ev.cast (Dd (Aa 10) Ai) ?_) ?_ lB))) λh=>(nomatch h))) ?_) (λh=>(nomatch h)) λ_=>Aj ?_
 ·have h1:=of_decide_eq_true h1;have h2:=of_decide_eq_true h2
  refine congrArg (λz=>AV.py (.int z)) ?_;rwa[h2]
 ·have h1:=of_decide_eq_true h1;have h2:=of_decide_eq_true h2;rwa[hB,j1,h2]
 ·simp
 refine Ad (Ef (n:=0) (λn σ=>n=0/\σ=Hf w as bs I (.ref g) alo ahi blo bhi b j2 i jg nj j k) ⟨rfl,rfl⟩ λn σ1 hσ=>?_)
 obtain⟨rfl,rfl⟩:=hσ
 refine Ba false (Tv.cast (By (AP (c:=decide (((b.1:Int)+(b.2.2:Int))<ahi)) (An (Bl (Aa 9) (Aa 11)) (Aa 2)) λh1=>AP (c:=decide (((b.2.1:Int)+(b.2.2:Int))<bhi)) (An (Bl (Aa 10) (Aa 11)) (Aa 4)) λh2=>
  AP (c:=false) (d:=false) (Fi (DU rfl hg hs (Aa 8) (Dl (n:=b.2.1+b.2.2) (Aa 6) (Ev.cast (Bl (Aa 10) (Aa 11)) ?_) ?_ lB))) λh=>(nomatch h))) ?_) (λh=>(nomatch h)) λ_=>Aj ?_
 ·refine congrArg (λz=>AV.py (.int z)) ?_;push_cast;rfl
 ·have h1:=of_decide_eq_true h1;have h2:=of_decide_eq_true h2;rwa[hB,h2]
 ·simp
 exact Ad (AQ (Xe rfl K T room hk (BU T hk hgM) (Aa 9) (Aa 10) (Aa 11)) rfl)
noncomputable abbrev fG (w:jY) (A:kC) (s s2:jG) (O:Ap):Cx:=Cx.from (Dx pw w A s (Bq (BQ w.params)) 196 HR O) s2
noncomputable def WT:md->List md
 | .For _ _ b _ _=>b
 | _=>[]
theorem Yl(bs:List jZ)(x:jZ):(OF bs x).length<=bs.length:=by
 have:=vK (λk=>decide (bs[k]?=some x)) (kf bs.length)
 rw[lI] at this
 exact this
theorem Va{w:jY}{A:kC}{s s2 s3:jG}{O:Ap}{as bs:List jZ}{I:jD}{g:jN}{mg mb:jZ->Option jD}{xI:j6}(K:Bn w xI)(T:Br mg mb xI)
 (hk:HK xI (Cx.from (fG w A s s2 O) s3).s₀)(N:Nm (Cx.from (fG w A s s2 O) s3))(room:A0 (A.deeper (callEnvC (Bq (BQ w.params)) s.heap.objs.size 196)) 2)
 (alo ahi blo bhi t:Nat)(hA:ahi<=as.length)(hB:bhi<=bs.length)(lA:as.length<=100)(lB:bs.length<=100)(ht:alo+t<ahi)(b:A9)(d jg:jN)(n:Nat)
 (lo:(d == sysModules)=false)(hjg:(Cx.from (fG w A s s2 O) s3).s₀.heap.get? jg=some (A8 "dict.get" d))(hd:∃o,(Cx.from (fG w A s s2 O) s3).s₀.heap.get? d=some o/\DI w (HU as bs alo blo bhi t) n o)
 (y z nj:Option Bd)(hy:Bb y=true)(hz:Bb z=true)(P:AF->AX->Prop)
 (hP:∀d2 n y z,n<=100->Bb y=true->Bb z=true->P .next (Hf w as bs I (.ref g) alo ahi blo bhi (Hu as bs alo blo bhi b (alo+t)) (some (.at d2 (DI w (HU as bs alo blo bhi (t+1)) n))) (pI (alo+t:Nat)) (some (.val (.raw (.ref jg)))) none y z)) :
 Ex (Cx.from (fG w A s s2 O) s3) (Hf w as bs I (.ref g) alo ahi blo bhi b (some (.val (.raw (.ref d)))) (pI (alo+t:Nat)) (some (.val (.raw (.ref jg)))) nj y z)
  ((WT (((Am (BB 5 6)).drop 7).headD (.Pass ⟨0,0,0,0⟩))).drop 1) P:=by
 delta w A s s2 s3 O as bs I g mg mb xI alo ahi blo bhi t b d jg n y z nj P at K T hk N room hA hB lA lB ht lo hjg hd hy hz hP
 have hh:(Cx.from (fG w A s s2 O) s3).A.handled=none:=room.handled
 have hit:alo+t<as.length:=by rwa[hA,ht]
 have hx:as[alo+t]?=some (as[alo+t]):=jR hit
 generalize hxe:as[alo+t]=x at hx
 have hwin:Gq as bs blo bhi (alo+t)=(OF bs x).filter (Kv blo bhi):=VL hx
 have hpl:=Yl bs x
 refine Ad (Ki N 16 λd2=>?_)
 have OI:∀n y z,n<=100->Bb y=true->Bb z=true->Ex (Cx.from (fG w A s s2 O) s3) (Hf w as bs I (.ref g) alo ahi blo bhi (((OF bs x).filter (Kv blo bhi)).foldl (EJ as bs alo blo (alo+t)) b) (some (.val (.raw (.ref d)))) (pI (alo+t:Nat)) (some (.val (.raw (.ref jg)))) (some (.at d2 (DI w (Fw as bs alo blo (alo+t) ((OF bs x).filter (Kv blo bhi))) n))) y z)
  ((WT (((Am (BB 5 6)).drop 7).headD (.Pass ⟨0,0,0,0⟩))).drop 3) P:=λn y z hn hy hz=>by
  refine Ad (Ux N 16 12 rfl (Aj ?_))
  have:=hP d2 n y z hn hy hz
  unfold Hu at this
  rw[show HU as bs alo blo bhi (t+1)=Fw as bs alo blo (alo+t) (Gq as bs blo bhi (alo+t)) from rfl,hwin] at this
  exact this
 refine Ad (EO N (ds:=(OF bs x).map λj=>lY (j:Nat)) (C3 N hh (Ev.cast (Vh rfl 7 rfl (Ay (d:=.str x) (Aa 5) (Aa 14) (by rwa[]) (by(clear_value *;omega)) (by rw[ku,kc,hx];rfl)) (Aa 13)) (by rw[YK])))
  (λm σ=>∃n y z,n<=m/\Bb y=true/\Bb z=true/\σ=Hf w as bs I (.ref g) alo ahi blo bhi ((((OF bs x).take m).filter (Kv blo bhi)).foldl (EJ as bs alo blo (alo+t)) b) (some (.val (.raw (.ref d)))) (pI (alo+t:Nat)) (some (.val (.raw (.ref jg)))) (some (.at d2 (DI w (Fw as bs alo blo (alo+t) (((OF bs x).take m).filter (Kv blo bhi))) n))) y z) ?_ ?_ ?_)
 ·refine FP 0 y z (jP _) hy hz ?_
  have:Fw as bs alo blo (alo+t) []=λ_=>none:=by funext k;unfold Fw;rw[if_neg];rintro⟨_,h⟩;cases h
  rw[show(((OF bs x).take 0).filter (Kv blo bhi))=[] from rfl,this]
  rfl
 ·intro m dd σ1 hdd zz1;refine Cf zz1 λn' y z hn' hy hz zz2=>?_;clear zz1;obtain rfl:=zz2
  rw[kc] at hdd
  refine Af (j8.mp hdd) λj hj zz1=>?_;obtain rfl:=zz1
  have hjm:=Yk (kx hj)
  have hml:m<(OF bs x).length:=(jM.mp hj).1
  have hjl:j<bs.length:=(jM.mp hjm).1
  have he:Dt as bs (alo+t) j:=Ac x hx hjm
  have tn:=UF hj (Kv blo bhi)
  generalize hL:((OF bs x).take m).filter (Kv blo bhi)=L at *
  generalize hB0:L.foldl (EJ as bs alo blo (alo+t)) b=B at *
  refine Ac _ (BH N 17) ?_
  refine Ad (BI (b:=decide ((j:Int)<blo)) (An (Aa 17) (Aa 3)) (λh=>Ad (Ql ?_)) (λh=>Aj ?_))
  ·have h:=of_decide_eq_true h
   rw[show Kv blo bhi j=false by unfold Kv;rw[decide_eq_false_iff_not];rwa[h]] at tn
   refine FP n' (some (.val (.py (.int j)))) z (by rwa[hn']) rfl hz ?_
   rw[tn,if_neg ll,kH,hB0]
   rfl
  have h1:=of_decide_eq_false h
  refine Ad (BI (b:=decide ((j:Int)>=bhi)) (An (Aa 17) (Aa 4)) (λh=>Ad (L4 ?_)) (λh=>Aj ?_))
  ·have h:=of_decide_eq_true h
   have tc:=V3 (blo:=blo) (bhi:=bhi) (IQ bs x) hj (by rwa[h])
   rw[hL] at tc
   have:=OI n' (some (.val (.py (.int j)))) z (by rwa[lB,hpl,hn',hml]) rfl hz
   rw[<-tc,hB0] at this
   exact this
  have h2:=of_decide_eq_false h
  have hin:Kv blo bhi j=true:=by unfold Kv;rw[decide_eq_true_eq];rwa[h1,h2]
  rw[hin,if_pos rfl] at tn
  have hjL:j∉L:=by
   intro hm
   rw[<-hL] at hm
   have hm:=(kd.mp hm).1
   obtain⟨q,hq1,hq2⟩:=vU.mp hm
   rw[List.getElem_take] at hq2
   rw[lp] at hq1
   obtain⟨h3,e3⟩:=jM.mp hj
   have:=nF.mp (IQ bs x) q m (by(clear_value *;omega)) h3 (by(clear_value *;omega))
   rw[hq2,e3] at this
   exact absurd this (lr _)
  refine Ad (Qk rfl N 18 16 (r:=(AY as bs alo blo (alo+t) j:Nat)) (j:=(j:Int)) (f:=Fw as bs alo blo (alo+t) L) (n:=n') (d:=d2) rfl (by rwa[lB,hpl,hn',hml]) (by unfold Fw;rw[if_neg];rintro⟨_,h⟩;rw[ku] at h;exact hjL h)
   (Ev.cast (Bl (Pt rfl hjg hd lo (Aa 15) (Dd (Aa 17) Ai) Ai) Ai) (by rw[U0 as bs alo blo bhi he (by rwa[h1]) (by rwa[h2])])) (Aa 17) ?_)
  rw[<-UN]
  have done:∀B',B'=EJ as bs alo blo (alo+t) B j->∃n y z,n<=m+1/\Bb y=true/\Bb z=true/\Hf w as bs I (.ref g) alo ahi blo bhi B' (some (.val (.raw (.ref d)))) (pI (alo+t:Nat)) (some (.val (.raw (.ref jg)))) (some (.at d2 (DI w (Fw as bs alo blo (alo+t) (L++[j])) (n'+1)))) (pI (j:Nat)) (pI (AY as bs alo blo (alo+t) j:Nat)) =
   Hf w as bs I (.ref g) alo ahi blo bhi ((((OF bs x).take (m+1)).filter (Kv blo bhi)).foldl (EJ as bs alo blo (alo+t)) b) (some (.val (.raw (.ref d)))) (pI (alo+t:Nat)) (some (.val (.raw (.ref jg)))) (some (.at d2 (DI w (Fw as bs alo blo (alo+t) (((OF bs x).take (m+1)).filter (Kv blo bhi))) n))) y z:=λB' e=>by
   refine FP (n'+1) (pI (j:Nat)) (pI (AY as bs alo blo (alo+t) j:Nat)) (by rwa[hn']) rfl rfl ?_
   rw[tn,ms,hB0,e]
   rfl
  obtain⟨lA1,lB1⟩:=Fl as bs alo blo (i:=alo+t) (j:=j) (by rwa[]) (by rwa[h1])
  refine Ad (BI (b:=decide (((AY as bs alo blo (alo+t) j:Nat):Int)>(B.2.2:Nat))) (An (Aa 18) (Aa 11)) (λh=>?_) (λh=>Aj (Aj ?_)))
  ·have h:=of_decide_eq_true h
   refine Ad (DB N hh [9,10,11] ["besti","bestj","bestsize"] (Au (ds:=[.int ((alo+t+1-AY as bs alo blo (alo+t) j:Nat):Int),.int ((j+1-AY as bs alo blo (alo+t) j:Nat):Int),.int (AY as bs alo blo (alo+t) j:Nat)]) (Ab (Ev.cast (Bl (Dd (Aa 14) (Aa 18)) Ai) (congrArg (λz=>AV.py (.int z)) (by rwa[h1,lA1]))) (Ab (Ev.cast (Bl (Dd (Aa 17) (Aa 18)) Ai) (congrArg (λz=>AV.py (.int z)) (by rwa[h1,lB1]))) (Ab (Aa 18) Ah)))) ⟨rfl,rfl,rfl,rfl,rfl,rfl,trivial⟩ (Aj (Aj ?_)))
   exact done (alo+t+1-AY as bs alo blo (alo+t) j,j+1-AY as bs alo blo (alo+t) j,AY as bs alo blo (alo+t) j) (by unfold EJ;rw[if_pos (by rwa[h])])
  ·have h:=of_decide_eq_false h
   exact done B (by unfold EJ;rw[if_neg (by rwa[h])])
 ·intro σ1 zz1;refine Cf zz1 λn' y z hn' hy hz zz2=>?_;clear zz1;obtain rfl:=zz2
  rw[jK] at hn' ⊢
  rw[lD]
  exact Aj (OI n' y z (by rwa[lB,hpl,hn']) hy hz)
theorem V4{w:jY}{xI h:j6}(K:Bn w xI)(hk:∀b o,xI.get? b=some o->h.get? b=some o){d:jN}(hd:h.get? d=none):(d == sysModules)=false:=by
 rw[beq_eq_false_iff_ne]
 rintro rfl
 have:=hk _ _ (K.get 1 (o:=pg w.params) (by kernel_rfl):xI.get? sysModules=_)
 have hd:h.get? 1=none:=hd
 exact B0 hd this
theorem YO{w:jY}{as bs:List jZ}{I g:jD}{alo ahi blo bhi:Nat}{b:A9}{j2 i jg nj j k:Option Bd}(h1:Bb j2=true)(h2:Bb i=true)(h3:Bb jg=true)(h4:Bb nj=true)(h5:Bb j=true)(h6:Bb k=true):(Hf w as bs I g alo ahi blo bhi b j2 i jg nj j k).all Bb=true:=by
 show(true&&(true&&(true&&(true&&(true&&(true&&(true&&(true&&(true&&(true&&(true&&(true&&(Bb j2&&(true&&(Bb i&&(Bb jg&&(Bb nj&&(Bb j&&(Bb k&&true)))))))))))))))))))=true
 rw[h1,h2,h3,h4,h5,h6];rfl
theorem WU{w:jY}{A:kC}{s s2:jG}{O:Ap}{as bs:List jZ}{I:jD}{g sj:jN}{led:Bool}{mg mb:jZ->Option jD}{xI:j6}(K:Bn w xI)(T:Br mg mb xI)(hgM:mg "Match"=some (.ref CM))
 (hk:HK xI (fG w A s s2 O).s₀)(N:Nm (fG w A s s2 O))(room:A0 (A.deeper (callEnvC (Bq (BQ w.params)) s.heap.objs.size 196)) 2)
 (hg:(fG w A s s2 O).s₀.heap.get? g=some (A8 "set.__contains__" sj))(hs:(fG w A s s2 O).s₀.heap.get? sj=some (Cc led))
 (alo ahi blo bhi:Nat)(hi:alo<=ahi)(hj:blo<=bhi)(hA:ahi<=as.length)(hB:bhi<=bs.length)(lA:as.length<=100)(lB:bs.length<=100) :
 Ex (fG w A s s2 O) [some (.val (.raw I)),pI alo,pI ahi,pI blo,pI bhi,TK as,TK bs,some (.val (.st (RJ w bs) (Cn w bs))),some (.val (.raw (.ref g))),none,none,none,none,none,none,none,none,none,none]
  ((Am (BB 5 6)).drop 2) (λaf _=>af=.ret (.py (Qi (flm as bs alo blo bhi ahi).1 (flm as bs alo blo bhi ahi).2.1 (flm as bs alo blo bhi ahi).2.2))):=by
 delta w A s s2 O as bs I g sj led mg mb xI alo ahi blo bhi at K T hgM hk N room hg hs hi hj hA hB lA lB
 have hh:(fG w A s s2 O).A.handled=none:=room.handled
 refine Ad (BI (b:=false) (G3 (Aa 2) Fu (λO h v r=>by obtain⟨t,rfl⟩:=VR.int_inv (O:=O) r;rfl)) (λh=>nomatch h) (λ_=>Aj ?_))
 refine Ad (BI (b:=false) (G3 (Aa 4) Fu (λO h v r=>by obtain⟨t,rfl⟩:=VR.int_inv (O:=O) r;rfl)) (λh=>nomatch h) (λ_=>Aj ?_))
 refine Ad (DB N hh [9,10,11] ["besti","bestj","bestsize"] (Au (ds:=[.int alo,.int blo,.int (0:Nat)]) (Ab (Aa 1) (Ab (Aa 3) (Ab Ai Ah)))) ⟨rfl,rfl,rfl,rfl,rfl,rfl,trivial⟩ ?_)
 refine Ad (Ki N 12 λd0=>?_)
 refine Ad (At N 13 (Dy (ds:=[]) Ah) ?_)
 have hR1:AN alo ahi 1=((kf (ahi-alo)).map (alo+·)).map λn=>lY (n:Nat):=by
  have:=DQ (a:=alo) (b:=ahi) (c:=1) (by decide)
  simpa using this
 refine Ad (EO N (ds:=AN alo ahi 1) (I5 N hh (A1 T hk) (Aa 1) (Aa 2) (by have:=Fk (a:=alo) (b:=ahi) (c:=1) (by rwa[hi,hA,lA]) (by rwa[hA,lA]) (by decide) (by decide);exact this))
  (λt σ=>∃d n i jg j k,n<=100/\Bb i=true/\Bb jg=true/\Bb j=true/\Bb k=true/\σ=Hf w as bs I (.ref g) alo ahi blo bhi ((((kf (ahi-alo)).map (alo+·)).take t).foldl (Hu as bs alo blo bhi) (alo,blo,0)) (some (.at d (DI w (HU as bs alo blo bhi t) n))) i jg none j k) ?_ ?_ ?_)
 ·exact ZH d0 0 none none none none (by rwa[]) rfl rfl rfl rfl rfl
 ·rintro t dd σ1 hdd ⟨d,n,i,jg,j,k,hn,h1,h2,h3,h4,rfl⟩
  rw[hR1,kc] at hdd
  refine Af (j8.mp hdd) λi' hi' zz1=>?_;obtain rfl:=zz1
  have hti:i'=alo+t/\alo+t<ahi:=by
   rw[kc] at hi'
   refine Af (j8.mp hi') λq hq zz1=>?_;obtain rfl:=zz1
   obtain⟨h5,h6⟩:=jM.mp hq
   rw[lI] at h5
   rw[po] at h6
   rwa[h5,h6]
  obtain⟨rfl,hta⟩:=hti
  have htk:((kf (ahi-alo)).map (alo+·)).take (t+1)=((kf (ahi-alo)).map (alo+·)).take t++[alo+t]:=by rw[kQ,hi'];rfl
  generalize hB0:(((kf (ahi-alo)).map (alo+·)).take t).foldl (Hu as bs alo blo bhi) (alo,blo,0)=B at *
  refine Ac _ (BH N 14) ?_
  refine Po rfl N 12 15 (d:=d) (f:=HU as bs alo blo bhi t) (n:=n) rfl (by decide) (λg'=>YO rfl rfl rfl rfl h3 h4) λjg' s3 hd0 hjg hd hup N'=>?_
  refine Va K T (λb o e=>hup b o (hk b o e)) N' room alo ahi blo bhi t hA hB lA lB hta B d jg' n (V4 K hk hd0) hjg hd j k none h3 h4 _ λd2 n' y z hn' hy hz=>?_
  refine ZH d2 n' (pI (alo+t:Nat)) (some (.val (.raw (.ref jg')))) y z hn' rfl rfl hy hz ?_
  rw[htk,ms,hB0]
  rfl
 ·rintro σ1 ⟨d,n,i,jg,j,k,hn,h1,h2,h3,h4,rfl⟩
  rw[hR1,jK,lD]
  refine Aj ?_
  exact WW K T hgM hk N room hg hs alo ahi blo bhi hA hB lA lB _ (F8 as bs alo blo bhi hi hj) _ _ _ _ _ _
theorem ax{w:jY}{as bs:List jZ}{mg mb:jZ->Option jD}{xI:j6}(K:Bn w xI)(T:Br mg mb xI)(hgM:mg "Match"=some (.ref CM))
 (alo ahi blo bhi:Nat)(hi:alo<=ahi)(hj:blo<=bhi)(hA:ahi<=as.length)(hB:bhi<=bs.length)(lA:as.length<=100)(lB:bs.length<=100) :
 Fn pw w xI 3 (.ref 196) [] [.st (RM w as bs) (D5 w as bs),.py (.int alo),.py (.int ahi),.py (.int blo),.py (.int bhi)] [] (.py (Qi (flm as bs alo blo bhi ahi).1 (flm as bs alo blo bhi ahi).2.1 (flm as bs alo blo bhi ahi).2.2)):=by
 delta w as bs mg mb xI alo ahi blo bhi at K T hgM hi hj hA hB lA lB
 refine I3 (d5 w.params) (K.get 196 (o:=BQ w.params) (by kernel_rfl)) (by kernel_rfl) T.gl.nolimit (tX K.k (by kernel_rfl)) rfl
  (λs vs hk hl=>by obtain⟨v,u,x,y,z,zz1⟩:=(gM hl);obtain rfl:=zz1;exact .of_defaults (T:=189) (o:=IA w.params) (n:=0) rfl (hk _ _ (K.get 189 (by kernel_rfl))) rfl rfl rfl) λA s O hk N room=>?_
 have hh:(A.deeper (callEnvC (Bq (BQ w.params)) s.heap.objs.size 196)).handled=none:=room.handled
 intro O1 s1 Q E t q
 refine Fp t λs2 k2 t2=>?_
 refine Af (V5 N t2 (i:=0) rfl rfl) λv zz1 t3=>?_;obtain⟨pl,⟨I,D,m,k,la,lb,dj,sj,led,ls,rfl,rfl,i,mo,ra,rb,rj,es⟩,hO⟩:=zz1
 have K2:Bn w s2.heap:=K.keeps λb o e=>t3.keep _ _ (hk b o e)
 have eg0:s2.heap.get? s2.heap.objs.size=none:=Bk (jP _)
 have eg:(s2.heap.push (A8 "set.__contains__" sj)).get? s2.heap.objs.size=some (A8 "set.__contains__" sj):=jS _ rfl
 have kp:kZ s2 {s2 with heap:=s2.heap.push (A8 "set.__contains__" sj),toks:=s2.toks+1+1+1+1+1}:=Keeps.pushT _ _ _
 have hgL:s2.heap.objs.size≠(callEnvC (Bq (BQ w.params)) s.heap.objs.size 196).locals:=λz=>by
  refine Af t3.ex λmm zz1 _=>?_;obtain⟨o,_,_,e,_⟩:=zz1
  have e:s2.heap.get? (callEnvC (Bq (BQ w.params)) s.heap.objs.size 196).locals=some o:=e
  rw[<-z,eg0] at e;exact B6 e
 have hsL:sj≠(callEnvC (Bq (BQ w.params)) s.heap.objs.size 196).locals:=λz=>hO sj (by simp) (z▸t3.sub _ t3.frame)
 have t3:St (Dx pw w A s (Bq (BQ w.params)) 196 HR O) O1 [some (.val (.raw (.ref I))),pI alo,pI ahi,pI blo,pI bhi,none,none,none,none,none,none,none,none,none,none,none,none,none,none] s2:=t3
 refine QZ (O:=O1) (σ:=[some (.val (.raw (.ref I))),pI alo,pI ahi,pI blo,pI bhi,none,none,none,none,none,none,none,none,none,none,none,none,none,none]) N hh [5,6,7,8] [.py (.list (as.map .str)),.py (.list (bs.map .str)),.st (RJ w bs) (Cn w bs),.raw (.ref s2.heap.objs.size)] ⟨rfl,rfl,rfl,rfl,rfl,rfl,rfl,rfl,trivial⟩ rfl (λi hi=>jV (kA.mp (show([5,6,7,8].all λi=>mC i 19)=true from rfl) i hi)) ?_
 refine args_cons (Fo rfl K2 i 0 t3 rfl mo.a (args_cons (Fo rfl K2 i 0 (t3.keeps λ_ _ e=>e) rfl mo.b (args_cons (Fo rfl K2 i 0 (t3.keeps λ_ _ e=>e) rfl mo.b2j (args_cons (Attribute_any_ (Fo rfl K2 i 0 (t3.keeps λ_ _ e=>e) rfl mo.bjunk (Ic es (pZ ?_))))))))))
 refine⟨t3.of_keeps kp,kp,⟨(Ac [la] (Ak.keeps (Aw kp) ra) ?_),(Ac [lb] (Ak.keeps (Aw kp) rb) ?_),(Ac (dj::ls) ((Cn w bs).keeps rj (Aw kp)) ?_),rfl,trivial⟩,jV rfl,λs5 a5 u5 t5=>?_⟩
 ·intro a ha;rw[jJ.mp ha];exact hO la (by simp)
 ·intro a ha;rw[jJ.mp ha];exact hO lb (by simp)
 ·intro a ha;exact hO a (.tail _ (.tail _ (.tail _ (.tail _ (.tail _ ha)))))
 ·have u5':∀b o,b≠(callEnvC (Bq (BQ w.params)) s.heap.objs.size 196).locals->s2.heap.get? b=some o->s5.heap.get? b=some o:=λb o hb e=>u5 b o hb (Aw kp b o e)
  refine OX N t5 rfl (λN'=>WU K T hgM (λb o e=>Om t5 b o (hk b o e)) N' room (E5 hgL (u5 _ _ hgL eg)) (E5 hsL (u5' _ _ hsL es)) alo ahi blo bhi hi hj hA hB lA lB) λO' fl af σ' s' fx t' fr p=>q O' fl af σ' s' (((Fx.of_keeps k2).tr (Fx.ofBut t3 a5 u5' t5)).tr fx) t' fr p
noncomputable def GY (h:j6) (t:jN) (items:Array jD):Prop:=∃o n,h.get? t=some o/\o.data=.seq items n
theorem GY.keeps{h h':j6}{t:jN}{items:Array jD}(r:GY h t items)(k:∀o,h.get? t=some o->h'.get? t=some o):GY h' t items:=Ao r λo n e d=>(AT o n (k o e) d)
section
variable {prog:lF} {w:jY} {A:kC} {E:jD->jG->Prop} {s:jG}
theorem Wh{it t:jN}{i:Nat}{items:Array jD}{x:jD}{Q:Option jD->jG->Prop}(hit:uW s.heap it t i)(ht:GY s.heap t items)(hx:items[i]?=some x)
 (hQ:∀h',uW h' it t (i+1)->ou it s.heap h'->Q (some x) {s with heap:=h'}):wpAny (model prog w) A (pyNext (.ref it)) Q E s:=by
 have hit':=hit
 refine Bu hit' λo ho hc hd=>?_
 refine Ao ht λot n ht hdt=>?_
 unfold pyNext
 refine jC (pC (m6 (name:=jB "__next__") hit.typeIs pr (lJ pr hit.typeIs xi ?_ (xC _))))
 show wpAny _ _ (field (.ref it) 0>>=_) _ _ s
 refine jC (nU ho hd (x:=.ref t) rfl ?_)
 rw[if_neg (show ¬((kz t == jF)=true) from ll)]
 refine jC (nU ho hd (x:=.int i 0) rfl ?_)
 show wpAny _ _ (rW (.ref t)>>=_) _ _ s
 refine jC (mZ ht hdt ?_)
 simp only[ku,hx]
 refine jC (sV ho hd (by simp) (jL (Ac x rfl (jL (hQ _ (Ba _ (mN _ ho (vR (qP hd _))) ((wK ..).trans hc) ?_) (me ..))))))
 rw[qP hd];simp[rawInt]
theorem Ye{it t:jN}{i:Nat}{items:Array jD}{Q:Option jD->jG->Prop}(hh:A.handled=none)(hit:uW s.heap it t i)(ht:GY s.heap t items)(hx:items[i]?=none)
 (hQ:∀h',ub it s.heap h'->Q none {s with heap:=h'}):wpAny (model prog w) A (pyNext (.ref it)) Q E s:=by
 delta prog w A E s it t i items Q at hh hit ht hx hQ
 have hit':=hit
 refine Bu hit' λo ho hc hd=>?_
 refine Ao ht λot n ht hdt=>?_
 unfold pyNext
 refine jC (pC (m6 (name:=jB "__next__") hit.typeIs pr (lJ pr hit.typeIs xi ?_ (xC _))))
 show wpAny _ _ (field (.ref it) 0>>=_) _ _ s
 refine jC (nU ho hd (x:=.ref t) rfl ?_)
 rw[if_neg (show ¬((kz t == jF)=true) from ll)]
 refine jC (nU ho hd (x:=.int i 0) rfl ?_)
 show wpAny _ _ (rW (.ref t)>>=_) _ _ s
 refine jC (mZ ht hdt ?_)
 simp only[ku,hx]
 refine jC (sr (jC (sV ho hd (by simp) ?_)))
 show wpAny _ _ (newExc (.type "StopIteration") []>>=_) _ _ _
 refine jC ?_
 simp only[newExc,newTuple]
 refine jC (oY ?_ (by size_fits))
 refine jC (m:=sW _ _) (lC (a:=jF) (by first|rfl|(simp only[sW];rfl)) ?_)
 refine oY ?_ (by size_fits)
 unfold raiseNew
 refine jC (wpAny_handled ?_)
 first|rw[show A.in1.handled=none from hh]|rw[hh]
 refine jC (jL (wpAny_throw ?_))
 refine jC (wpAny_isInstance (T:="StopIteration") (b:=true) (Ac _ (jS _ rfl) rfl) isSubtype_stop ?_)
 exact jL (hQ _ (((me ..).extBut.push _).push _))
theorem OU{it t:jN}{items:Array jD}(hne:t≠it):∀(n i:Nat) (s:jG) (Q:List jD->jG->Prop),uW s.heap it t i->GY s.heap t items->i+n<=items.size->
 (∀h',uW h' it t (i+n)->ou it s.heap h'->Q ((items.toList.drop i).take n) {s with heap:=h'})->wpAny (model prog w) A (draw (.ref it) n) Q E s
 | 0,i,s,Q,hit,_,_,hQ=>by
  show wpAny _ _ (pure []) Q E s
  exact jL (by simpa using hQ s.heap hit (Heap.SameBut.refl ..))
 | n+1,i,s,Q,hit,ht,hle,hQ=>by
  have hlt:i<items.size:=by rwa[hle]
  show wpAny _ _ (pyNext (.ref it)>>=_) Q E s
  refine jC (Wh hit ht (x:=items[i]) (by simp[hlt]) λxK x0 xY=>?_)
  refine jC (kG (OU hne n (i+1) _ _ x0 (ht.keeps λo e=>(xY.2 t hne).trans e) (by rwa[hle]) λxM yb yc=>jL ?_))
  have hd:items.toList.drop i=items[i]::items.toList.drop (i+1):=by simp[List.drop_eq_getElem_cons,hlt]
  have:=hQ xM (by rw[show i+(n+1)=i+1+n by rwa[]];exact yb) (xY.trans yc)
  rw[hd,List.take_succ_cons] at this
  exact this
theorem EI{w:jY}{h:j6}{t:jN}{o:nJ}{M:tP}(K:Bn w h)(ho:h.get? t=some o)(hc:o.cls=.ref CM):mF M h (specialOf (.ref t) "__iter__") (some (.builtin "tuple.__iter__")):=by
 unfold specialOf
 exact(hc▸(oQ ho).andThen .now:mF M h (typeOf (.ref t)) (.ref CM)).andThen (pY K.k (by kernel_rfl))
end
section
variable {w:jY} {A:kC} {E:jD->jG->Prop} {s:jG} {t:jN} {o:nJ}
theorem XY:qz "tuple.__iter__"=some .slot:=by decide +kernel
theorem VZ:wt "tuple.__iter__"=some ("tuple","__iter__"):=by decide +kernel
theorem XZ(self:jD):bindSpecial (.builtin "tuple.__iter__") self=pure (.builtin "tuple.__iter__",[self]):=slot_tuple_iter.bind self
theorem Y0{Q:jD->jG->Prop}(K:Bn w s.heap)(ho:s.heap.get? t=some o)(hc:o.cls=.ref CM)
 (hQ:Q (.ref s.heap.objs.size) {s with heap:=s.heap.push {cls:=.type "tuple_iterator",data:=.fields #[.ref t,.int 0 0]}}):wpAny (model pw w) A (pyIter (.ref t)) Q E s:=by
 delta w A E t o Q at s K ho hc hQ
 obtain⟨hh,g,d,tk,os⟩:=s
 have L:=EI (M:=model pw w) K ho hc
 have LI:mF (model pw w) hh (isInstance (.ref t) (.type "tuple")) true:=(hc▸(oQ ho).andThen .now:mF (model pw w) hh (typeOf (.ref t)) (.ref CM)).andThen (qB K.k (by kernel_rfl))
 unfold pyIter
 refine jC (L.at ?_)
 dsimp only
 refine jC ?_
 unfold callSpecialIfBoundUnlessNone? xy
 refine kG (jC (jC (L.at ?_)))
 dsimp only
 refine jC (nd_ask (nd_pure ?_))
 have tail:∀(f:vi (Option (jD×List jD))->vi (Option (jD×List jD))),True:=λ_=>trivial
 have core:∀(b:Bool) (Q':Option (jD×List jD)->jG->Prop),Q' (some (.builtin "tuple.__iter__",[.ref t])) ⟨hh,g,d,tk,os⟩->wpAny (model pw w) A (if b then(do return some (<-bindSpecial (.builtin "tuple.__iter__") (.ref t))) else(do return some (<-bindSpecial (.builtin "tuple.__iter__") (.ref t)):vi (Option (jD×List jD))).tryCatch λ_=>do rule "special.get-raises-dropped";pure none) Q' E ⟨hh,g,d,tk,os⟩:=by
  intro b Q' q
  rw[XZ]
  cases b with
  | true=>exact jC (jL (jL q))
  | false=>
   rw[if_neg ll]
   exact vt (jC (jL (jL q)))
 refine core _ _ ?_
 dsimp only
 rw[if_neg (by decide)]
 refine jC (mU ?_)
 refine sX slot_tuple_iter.plain entry_tuple_iter (@tY _ _ _ ⟨hh,g,d,tk,os⟩ _ _ _ _ _ _ _ XY VZ LI (args_tuple_iter _) ?_)
 show wpAny _ _ (do ret (<-newFields "tuple_iterator" [.ref t,rawInt 0])) _ _ _
 refine jC (oY (jL ?_))
 refine jL ?_
 dsimp only
 refine jC (ve (T:="tuple_iterator") (Ac _ (jS _ rfl) rfl) pr.lookup ?_)
 exact jL hQ
theorem Vp{items:Array jD}{n:Nat}{Q:List jD->jG->Prop}(K:Bn w s.heap)(hh:A.handled=none)(ho:s.heap.get? t=some o)(hc:o.cls=.ref CM)(hd:o.data=.seq items n)
 (hQ:∀h',ub s.heap.objs.size s.heap h'->Q items.toList {s with heap:=h'}):wpAny (model pw w) A (unpackItems (.ref t) items.size none) Q E s:=by
 delta w A E s t o items n Q at K hh ho hc hd hQ
 have hlt:t≠s.heap.objs.size:=lz (kt ho)
 have L:=EI (M:=model pw w) K ho hc
 have hr:GY s.heap t items:=AT o n ho hd
 unfold unpackItems notIterableAtAll
 refine jC (jC (L.here ?_))
 rw[if_pos (by rfl)]
 refine jL ?_
 rw[if_neg (by decide)]
 refine jC (kG (Y0 K ho hc ?_))
 dsimp only
 have hrp:GY (s.heap.push {cls:=.type "tuple_iterator",data:=.fields #[.ref t,.int 0 0]}) t items:=hr.keeps λo e=>jH _ e
 refine jC (kG (OU hlt items.size 0 _ _ (Ba _ (jS _ rfl) rfl rfl) hrp (by rwa[]) λxK x0 xY=>?_))
 have hall:List.take items.size (List.drop 0 items.toList)=items.toList:=by
  rw[xE];exact rA (by simp)
 rw[hall,if_neg (by simp)]
 have yd:GY xK t items:=hrp.keeps λo e=>(xY.2 t hlt).trans e
 refine jC (kG (Ye hh x0 yd (by simp) λxM ye=>?_))
 simp only[Option.isSome_none,nq,if_false]
 refine jL (hQ xM λb o hb e=>ye b o hb (xY.extBut b o hb (jH _ e)))
end
section
variable {Γ:Cx} {σ:AX} {P:AF->AX->Prop} {pos:mi}
theorem Ra{O:Ap}{h:j6}{i j k:Int}{v:jD}(r:VR O h (.py (Qi i j k)) v):∃a o vs n as,v=.ref a/\h.get? a=some o/\o.cls=.ref CM/\o.data=.seq vs n/\Ae h vs.toList [.int i,.int j,.int k] as/\¬O.has a/\∀b∈as,¬O.has b:=by
 delta O h k at i j v r
 refine Af r λas r q=>?_
 unfold Qi at r
 cases r with
 | mt e1 e2 e3 e4=>exact eS _ _ _ _ _ rfl e1 e2 e3 e4 (q _ (.head _)) λb hb=>q b (.tail _ hb)
theorem XC{xI:j6}(hw:Γ.prog=pw)(K:Bn Γ.w xI)(hk:HK xI Γ.s₀)(N:Nm Γ)(hh:Γ.A.handled=none)(is:List Nat){es:List kJ}{k:Nat}{p:mi}{i j l:Int}(hn:DY Γ is es)(hlt':autoParam ((is.all λi=>mC i σ.length)=true) aR)(hl:autoParam (is.length=3) aR):As Γ σ (.Tuple es k p) (Qi i j l) (F2 σ is [.int i,.int j,.int l]):=by
 intro O s v Q E t r q
 have hlt:∀i∈is,i<σ.length:=λi hi=>jV (kA.mp hlt' i hi)
 refine W2 (Ra r) λa o vs n as zz1 ho hc hd rs _ qs=>?_;obtain rfl:=zz1
 obtain⟨h1,h2⟩:=E2 hn
 have hsz:vs.size=3:=by have:=Al rs;simpa using this
 have Ks:Bn Γ.w s.heap:=K.keeps λb o e=>t.keep _ _ (hk b o e)
 rw[PyProof.Rows.assign_Tuple]
 refine jC (rB ?_)
 unfold unpack
 rw[h1,hl,h2]
 rw[<-hsz]
 refine jC (kG ?_)
 have cu:=λQ hQ=>@Vp Γ.w Γ.A E s a o vs n Q Ks hh ho hc hd hQ
 rw[<-hw] at cu
 refine cu _ λh' he=>?_
 have kk:kZ s {s with heap:=h'}:=AT h' s.toks rfl λb o e=>he b o (lz (kt e)) e
 exact HS N _ _ is es [.int i,.int j,.int l] hn _ _ _ _ _ hlt hl (t.of_keeps kk) (Ae.keeps (Aw kk) rs) qs λs2 a2 u2 t2=>q s2 (AI.tr (AS h' s.toks rfl) a2) (λb o hb e=>u2 b o hb (Aw kk b o e)) t2
theorem Uw(N:Nm Γ)(ix:Nat){es:List kJ}{k:Nat}{p xp:mi}{x:jZ}{e:kJ}{d:jQ}{σ':AX}(h:Ev Γ σ e (.py d))(ha:As Γ σ (.Tuple es k p) d σ')(hP:P .next (σ'.set ix (some (.val (.py d)))))
 (hi:autoParam (Γ.ns[ix]?=some x) aR)(hlt:autoParam (ix<σ'.length) aN)(hk:autoParam (Γ.env.kindOf x=some .local) aR)
 (h2:autoParam (qM (λx=>x.snd) (assignEach [ow es k p,ky x xp] Γ.env)=[assign (ow es k p) Γ.env,assign (ky x xp) Γ.env]) aR)
 (hsw:autoParam (nv [ow es k p,ky x xp] e Γ.env=pure none) aR):X1 Γ σ (.Assign [.Tuple es k p,.Name x xp] e pos) P:=by
 intro O s Q E t q
 refine oC (h O s _ E t λv s1 t1 k1 r1=>?_) h2 hsw
 refine ha O s1 v _ E t1 r1 λs2 a2 u2 t2=>?_
 have f2:=Fx.ofBut t1 a2 u2 t2
 have r2:VR O s2.heap (.py d) v:=VR.avoid (O:=O) r1 (t1.sub _ t1.frame) (λb hb o e=>u2 b o hb e) (by refine Af t1.ex λm n _=>?_;exact A5 n)
 refine lK (AG N (b:=.val (.py d)) hi hlt hk t2 r2 λs3 a3 u3 t3=>?_)
 exact q O .next .next _ s3 (((Fx.of_keeps k1).tr f2).tr (Fx.ofBut t2 a3 u3 t3)) t3 rfl hP
end
section
variable {w:jY} {A:kC} {E:jD->jG->Prop} {s:jG} {x y:jN} {ox oy:nJ} {a b c a' b' c':Int} {ta tb tc ta' tb' tc':uw} {n n':Nat}
theorem XW:qz "tuple.__lt__"=some .slot:=by decide +kernel
theorem VW:wt "tuple.__lt__"=some ("tuple","__lt__"):=by decide +kernel
theorem XX(self:jD):bindSpecial (.builtin "tuple.__lt__") self=pure (.builtin "tuple.__lt__",[self]):=u0.bind self
theorem Yw{p q:Int}{t u:uw}{Q:jD->jG->Prop}(h:Q (.bool (decide (p<q))) s):wpAny (model pw w) A (w7 .Lt (.int p t) (.int q u)) Q E s:=by
 show wpAny (model pw w) A (compareOp .Lt (.int p t) (.int q u)) Q E s
 exact P.lt_int h
noncomputable def WF (a b c a' b' c':Int):Bool:=if a=a' then(if b=b' then decide (c<c') else decide (b<b')) else decide (a<a')
theorem RC{Q:Fin->jG->Prop}(K:Bn w s.heap)(hx:s.heap.get? x=some ox)(dx:ox.data=.seq #[.int a ta,.int b tb,.int c tc] n)(hy:s.heap.get? y=some oy)(cy:oy.cls=.ref CM)(dy:oy.data=.seq #[.int a' ta',.int b' tb',.int c' tc'] n')
 (h:Q (.done (.ret (.bool (WF a b c a' b' c')))) s):wpAny (model pw w) A (ko.«tuple.__lt__» ⟨[.ref x,.ref y],[]⟩) Q E s:=by
 have LI:mF (model pw w) s.heap (isInstance (.ref y) (.type "tuple")) true:=(cy▸(oQ hy).andThen .now:mF (model pw w) s.heap (typeOf (.ref y)) (.ref CM)).andThen (qB K.k (by kernel_rfl))
 show wpAny _ _ (nh "__lt__" 1 ⟨[.ref x,.ref y],[]⟩>>=_) _ _ _
 refine jC (lC (show nh "__lt__" 1 ⟨[.ref x,.ref y],[]⟩=pure (.ref x,[.ref y]) by kernel_rfl) ?_)
 dsimp only
 refine jC (LI.here ?_)
 rw[if_neg (by decide)]
 refine jC (show wpAny _ _ (rW (.ref x)>>=_) _ _ _ from jC (mZ hx dx (jL ?_)))
 refine jC (show wpAny _ _ (rW (.ref y)>>=_) _ _ _ from jC (mZ hy dy (jL ?_)))
 unfold WF at h
 simp -iota only[sQ,List.zip_nil_right,mX,uL]
 have hit:∀{p q:Int} {t u:uw} {Q':ForInStep (Option Fin×Unit)->jG->Prop},p≠q->Q' (.done (some (.done (.ret (.bool (decide (p<q))))),())) s->wpAny (model pw w) A (do
  let __do_lift<-eqBool (jT p t) (jT q u)
  if(!__do_lift)=true then do
      rule "tuple.compare.by-the-first-pair-that-differs"
      let __do_lift<-w7 CmpOp.Lt (jT p t) (jT q u)
      let __do_lift<-ret __do_lift
      pure (wd (some __do_lift,()))
   else pure (tm (none,()))) Q' E s:=by
  intro p q t u Q' hne hq
  refine jC (ph ?_)
  rw[if_pos (by rw[oO,beq_eq_false_iff_ne];exact hne)]
  exact jC (sr (jC (Yw (jC (jL (jL hq))))))
 have go:∀{p:Int} {t u:uw} {Q':ForInStep (Option Fin×Unit)->jG->Prop},Q' (.yield (none,())) s->wpAny (model pw w) A (do
  let __do_lift<-eqBool (jT p t) (jT p u)
  if(!__do_lift)=true then do
      rule "tuple.compare.by-the-first-pair-that-differs"
      let __do_lift<-w7 CmpOp.Lt (jT p t) (jT p u)
      let __do_lift<-ret __do_lift
      pure (wd (some __do_lift,()))
   else pure (tm (none,()))) Q' E s:=by
  intro p t u Q' hq
  refine jC (ph ?_)
  rw[if_neg (by simp)]
  exact jL hq
 by_cases e1:a=a'
 ·subst e1
  rw[if_pos rfl] at h
  refine jC (jC (go ?_))
  by_cases e2:b=b'
  ·subst e2
   rw[if_pos rfl] at h
   refine jC (go ?_)
   by_cases e3:c=c'
   ·subst e3
    rw[show decide (c<c)=false by simp] at h
    refine jC (go (jL ?_))
    exact jL h
   ·exact jC (hit e3 (jL (jL h)))
  ·rw[if_neg e2] at h
   exact jC (hit e2 (jL (jL h)))
 ·rw[if_neg e1] at h
  exact jC (jC (hit e1 (jL (jL h))))
theorem e8{Q:Bool->jG->Prop}(K:Bn w s.heap)(hu:A.units<cLine)(hx:s.heap.get? x=some ox)(cx:ox.cls=.ref CM)(dx:ox.data=.seq #[.int a ta,.int b tb,.int c tc] n)(hy:s.heap.get? y=some oy)(cy:oy.cls=.ref CM)(dy:oy.data=.seq #[.int a' ta',.int b' tb',.int c' tc'] n')
 (h:Q (WF a b c a' b' c') s):wpAny (model pw w) A (keyLt' oneType' (.ref x) (.ref y)) Q E s:=by
 have L:mF (model pw w) s.heap (specialOf (.ref x) "__lt__") (some (.builtin "tuple.__lt__")):=by
  unfold specialOf
  exact(cx▸(oQ hx).andThen .now:mF (model pw w) s.heap (typeOf (.ref x)) (.ref CM)).andThen (pY K.k (by kernel_rfl))
 have LI:mF (model pw w) s.heap (isInstance (.ref x) (.type "tuple")) true:=(cx▸(oQ hx).andThen .now:mF (model pw w) s.heap (typeOf (.ref x)) (.ref CM)).andThen (qB K.k (by kernel_rfl))
 rw[keyLt'_oneType,oneLt'_eq]
 simp only[if_true]
 refine jC (wpAny_cRoomFor hu ?_)
 refine jC ?_
 unfold callSpecialIfBound? xy
 refine kG (jC (jC (L.here ?_)))
 dsimp only
 refine jC (nd_ask (nd_pure ?_))
 have core:∀(b:Bool) (Q':Option (jD×List jD)->jG->Prop),Q' (some (.builtin "tuple.__lt__",[.ref x])) s->wpAny (model pw w) A (if b then(do return some (<-bindSpecial (.builtin "tuple.__lt__") (.ref x))) else(do return some (<-bindSpecial (.builtin "tuple.__lt__") (.ref x)):vi (Option (jD×List jD))).tryCatch λ_=>do rule "special.get-raises-dropped";pure none) Q' E s:=by
  intro b Q' q
  rw[XX]
  cases b with
  | true=>exact jC (jL (jL q))
  | false=>
   rw[if_neg ll]
   exact vt (jC (jL (jL q)))
 refine core _ _ ?_
 dsimp only
 refine jC (mU ?_)
 refine sX u0.plain PySem.F.entry_tuple_lt (@tY _ _ _ _ _ _ _ _ _ _ _ XW VW LI (PySem.F.args_tuple_lt_2 _ _) ?_)
 refine RC K hx dx hy cy dy ?_
 refine jL ?_
 exact nR h
end
section
set_option backward.match.sparseCases true
noncomputable def CE (r:Nat->Int) (vs:List jD):List jD:=if vs.length<2 then vs else(D1 (CW r) (kas_sort vs.length)).toList.map λi=>vs.getD i jF
noncomputable def Dk (h:j6) (a:jN) (vs:List jD):j6:=((h.update a (kE λ_=>(#[]:Array jD))).push (seqObj "tuple" vs.toArray 0)).push (seqObj "list" #[] 0)
theorem D9{h:j6}{a b:jN}{vs:List jD}{o:nJ}(hb:b≠a)(e:h.get? b=some o):(Dk h a vs).get? b=some o:=
 jH _ (jH _ ((mn _ _ _ _ hb).trans e))
section
variable {prog:lF} {w:jY} {A:kC} {E:jD->jG->Prop} {s:jG} {a:jN} {vs:List jD} {T:jD} {r:Nat->Int}
theorem Kq(hr:∀i j,i<vs.length->j<vs.length->r i=r j->i=j):(CE r vs).length=vs.length:=by
 unfold CE
 split
 ·rfl
 ·rw[jK,kn,(G5 (by(rename_i z0;rwa[z0])) hr).1.size_eq];simp
theorem UK{n:Nat}{P:PySem.Fin->jG->Prop}(ho:s.heap.get? a=some (seqObj "list" vs.toArray n))(h64:vs.length<64)(hT:∀v∈vs,mF (model prog w) (Dk s.heap a vs) (typeOf v) T)(hT1:(T != jX "tuple")=true)(hT2:(T == T)=true)
 (hr:∀i j,i<vs.length->j<vs.length->r i=r j->i=j)(hc:∀i j C,i<vs.length->j<vs.length->C (CW r i j) {s with heap:=Dk s.heap a vs}->kas_ask prog w A oneType' vs i j C {s with heap:=Dk s.heap a vs})
 (h:P (.done (.ret .none)) {s with heap:=(Dk s.heap a vs).update a (kE λ_=>(CE r vs).toArray)}):wpAny (model prog w) A (ko.«list.sort» ⟨[.ref a],[]⟩) P E s:=by
 delta prog w A E s a vs T r n P at ho h64 hT hT1 hT2 hr hc h
 have s1:=me s.heap a (kE λ_=>(#[]:Array jD))
 obtain⟨e1,ho1⟩:∃e1,(s.heap.update a (kE λ_=>(#[]:Array jD))).get? a=some (seqObj "list" #[] e1):=Ag _ (oS ho λ_=>#[])
 have ho3:(Dk s.heap a vs).get? a=some (seqObj "list" #[] e1):=jH _ (jH _ ho1)
 have hlen:=Kq (vs:=vs) hr
 rw[list_sort_plain]
 refine jC (wC ho rfl ?_)
 refine jC (qt ho rfl ?_ (by rw[kK,sizeLine_eq];rwa[h64]) (kh _))
 refine jC (u8 ho1 rfl ?_)
 refine jC (wpAny_newTuple ?_ (by show vs.length<=_;rw[sizeLine_eq];rwa[h64]))
 refine jC (vW ?_ (kh _))
 refine kG ?_
 show wpAny (model prog w) A _ P E {s with heap:=Dk s.heap a vs}
 dsimp only
 have OI:∀(st':SortSt),(arrOf st').map (·.2)=(CE r vs).toArray->vD st'=none->wpAny (model prog w) A (do
  let touched:=(<-seqEpoch a) != e1
  qr (.ref a) λ_=>(arrOf st').map (·.2)
  if let some e:=vD st' then rule "list.sort.comparison-raised";throw e
  if touched then rule "list.sort.modified";raiseError "ValueError" "list modified during sort"
  ret .none) P E {s with heap:=Dk s.heap a vs}:=λst' hout hf=>by
  rw[hout]
  refine jC (u8 ho3 rfl ?_)
  refine jC (qt ho3 rfl ?_ (kh _) (by rw[kK,hlen,sizeLine_eq];rwa[h64]))
  rw[hf]
  simp only[bne_self_eq_false,nq,if_false]
  exact jL h
 by_cases h2:vs.length<2
 ·have hn2:vs.toArray.size<2:=by rw[kK];rwa[h2]
  rw[if_pos hn2,if_pos hn2]
  refine jC (jL ?_)
  refine jC (jL (a:=((),sG general' (vs.toArray.zip vs.toArray) #[] 7 none)) ?_)
  refine OI _ ?_ rfl
  unfold CE
  rw[if_pos h2]
  show(vs.toArray.zip vs.toArray).map (·.2)=_
  apply ng.mp
  rw[pR,wH]
  exact wR (jP _)
 ·have hn2:¬vs.toArray.size<2:=by rw[kK];rwa[h2]
  rw[if_neg hn2,if_neg hn2]
  refine jC (kas_kind (by rwa[h2]) hT hT1 hT2 ?_)
  have est:sG oneType' (vs.toArray.zip vs.toArray) #[] 7 none=kas_st oneType' (wB vs) (kg (kf vs.length)):=by
   have e:=kas_range (wB vs)
   rw[pairsOf_size] at e
   show sG oneType' (wB vs) #[] 7 none=sG oneType' ((kg (kf vs.length)).map (kas_item (wB vs))) #[] 7 none
   rw[e]
  have ask:(kas_sort vs.length).kasWp (kas_ask prog w A oneType' vs) (λp s'=>s'={s with heap:=Dk s.heap a vs}/\p=D1 (CW r) (kas_sort vs.length)) {s with heap:=Dk s.heap a vs}:=
   Rf (Inv:=λs'=>s'={s with heap:=Dk s.heap a vs}) (ok:=(· < vs.length)) (λi j C s' oi oj hI hC=>by subst hI;exact hc i j C oi oj (hC _ rfl)) _ _ (TP (by rwa[h2]) hr) rfl λs' hI=>⟨hI,rfl⟩
  rw[kas_ask_eq] at ask
  have TT:=kas_runs (E:=E) (Q:=λ_ st' s'=>(arrOf st').map (·.2)=(CE r vs).toArray/\vD st'=none/\s'={s with heap:=Dk s.heap a vs})
   (by rwa[h2]) h64 (λp' st' s' a1 a2 a3 a4=>⟨by
    apply ng.mp
    unfold CE
    rw[if_neg h2,a2,Array.map_map,pR,a4.2]
    exact l3 λi _=>by show(kas_item (wB vs) i).2=_;rw[kas_item_eq],a3,a4.1⟩) ask
  rw[<-est] at TT
  refine jC (lT TT ?_ λ_ _ e=>e)
  intro zz1 s' zz2;obtain⟨⟨⟩,st'⟩:=zz1;refine C1 zz2 λha hf zz3=>?_;clear zz2;obtain rfl:=zz3
  dsimp only
  exact OI st' ha hf
end
end
theorem II{h:j6}{d:jQ}{ds:List jQ}{ws:List jD}{as:List jN}(r:Ae h ws (ds++[d]) as):∃ws' v as' bs,ws=ws'++[v]/\Ae h ws' ds as'/\Ak h v d bs/\as=as'++bs:=by
 delta h d at ds ws as r
 induction ds generalizing ws as with
 | nil=>
  refine Cz (AK r) λv us bs cs e1 r1 rs e2=>?_
  obtain rfl:=Bg rs
  cases rs
  exact GR [] v [] bs e1 .nil r1 (e2.trans (kH _))
 | cons e ds ih=>
  refine Cz (AK r) λv us bs cs e1 r1 rs e2=>Cz (ih rs) λws' u as' bs' e3 r2 r3 e4=>?_
  exact GR (v::ws') u (bs++as') bs' (e1.trans (congrArg _ e3)) (.cons r1 r2) r3 (e2.trans ((congrArg _ e4).trans (l8 ..).symm))
section
variable {Γ:Cx} {σ:AX} {pos:mi} {P:AF->AX->Prop}
theorem EZ(N:Nm Γ){O:Ap}{s:jG}{i:Nat}{x:jZ}{ds:List jQ}(t:St Γ O σ s)(hi:Γ.ns[i]?=some x)(hσ:σ[i]?=some (some (.own ds))) :
 ∃m a ws as,s.heap.Ns Γ.env.locals m/\Gk s.heap Γ.env m x (.ref a)/\s.heap.PlainList a ws/\Ae s.heap ws.toList ds as/\(∀b∈as,¬O.has b)/\(O.has a/\Γ.s₀.heap.get? a=none)/\
  ∀(h':j6) (tk:Nat) (ws':Array jD) (ds':List jQ) (as':List jN),(∀b,b≠a->∀o,s.heap.get? b=some o->h'.get? b=some o)->h'.PlainList a ws'->Ae h' ws'.toList ds' as'->(∀b∈as',¬O.has b)->St Γ O (σ.set i (some (.own ds'))) {s with heap:=h',toks:=tk}/\Fx Γ O s O {s with heap:=h',toks:=tk}:=by
 delta Γ σ O s i x ds at N t hi hσ
 obtain⟨kp,⟨m,n,vs⟩,cl,nd,lv,sb,fr,fs⟩:=t
 have hlt:i<σ.length:=(jM.mp hσ).1
 refine Af (vs i x _ hi hσ) λv0 hd zr0=>CR zr0 λa ws as zz1 m1 l1 r1 q1 f1=>?_;obtain rfl:=zz1
 refine eV m a ws as n hd l1 r1 q1 ⟨(Ac _ m1 rfl),f1⟩ λh' tk ws' ds' as' hget hl' r' q'=>?_
 have haO:O.has a:=Ac _ m1 rfl
 have hT:∀o,s.heap.get? a=some o->¬(o.cls=.type "tuple"/\∃vs n,o.data=.seq vs n):=by
  obtain⟨n,e⟩:=l1
  rintro o e' ⟨hc,_⟩
  (replace e':=CQ e e';subst e');exact absurd (show jX "list"=jX "tuple" from hc) (by decide)
 have hLa:=En n l1.isList
 refine⟨⟨λb o e=>hget b (λz=>by rw[z,f1] at e;exact B6 e) o (kp b o e),(Ac m (n.at' λo e=>hget _ (ln hLa) o e) λj y b e e'=>?_),λy c e=>?_,nd,λp hp=>?_,sb,fr,fs⟩,⟨(AS _ _ rfl),λ_ h=>.inl h,λb o e=>?_,λb o e h1 _=>hget b (λz=>h1 (z▸haO)) o e,λb o e q=>hget b (λz=>hT o (z▸e) q) o e⟩⟩
 ·have held:∀{y:jZ} {u:jD},Gk s.heap Γ.env m y u->Gk h' Γ.env m y u:=λz=>z.imp id λ⟨k,c,hc,o,ho,hd⟩=>⟨k,c,hc,o,hget c (ln (Cq (Ac o ho hd) l1.isList)) _ ho,hd⟩
  by_cases hj:j=i
  ·subst hj
   (replace e:=CQ hi e;subst e)
   rw[lQ hlt] at e'
   cases e'
   exact⟨.ref a,held hd,a,ws',as',rfl,m1,hl',r',q',f1⟩
  ·rw[lR (ln hj)] at e'
   refine Af (vs j y b e e') λu hd' r'=>?_
   refine Ac u (held hd') ?_
   have other:∀a2,(y,a2)∈O->a2≠a:=by
    rintro a2 hm rfl
    have:=Ap.mem_inj nd m1 hm
    subst this
    exact hj ((mr (jM.mp e).1 N.nodup).mp (e.trans hi.symm))
   cases b with
   | val w=>exact VR.avoid (O:=O) r' haO hget hT
   | own es=>
    refine CR r' λa2 ws' as' e1 m1' l1' r1' q1' f1'=>?_
    exact CA a2 ws' as' e1 m1' (AR l1' λn e=>(Ag n (hget _ (other _ m1') _ e))) (Aq hget hT r1' λhm=>q1' _ hm haO) q1' f1'
   | «at» a2 P2=>
    refine CU r' λe1 m1' zz1 f1'=>?_;obtain⟨o2,g2,p2⟩:=zz1
    exact⟨e1,m1',(Ac o2 (hget _ (other _ m1') _ g2) p2),f1'⟩
 ·refine Ao (cl y c e) λu o ho hd=>?_
  exact AT u o (hget c (ln (Cq (Ac o ho hd) l1.isList)) _ ho) hd
 ·obtain⟨o1,e1⟩:=lv p hp
  by_cases hp':p.2=a
  ·obtain⟨k,e'⟩:=hl';exact Ag _ (hp'▸e')
  ·exact Ag o1 (hget _ hp' _ e1)
 ·by_cases hb:b=a
  ·obtain⟨k,e'⟩:=hl';exact Ag _ (hb▸e')
  ·exact Ag o (hget b hb o e)
theorem EY(N:Nm Γ){s:jG}{m:jZ->Option jD}{x:jZ}{p:mi}{v:jD}{Q:jD->jG->Prop}{E:jD->jG->Prop}(n:s.heap.Ns Γ.env.locals m)(hd':Gk s.heap Γ.env m x v)(q:Q v s)(hd:autoParam ((x == ("__debug__":jZ))=false) aK):wpAny (model Γ.prog Γ.w) Γ.A (eval (.Name x p) Γ.env) Q E s:=by
 rcases hd' with⟨k1,e1⟩|⟨k1,c,hc,ic⟩
 ·exact nH (mE N.kind k1 n e1 q) hd
 ·exact nH (oq N.kind k1 hc ic q) hd
theorem ZP(N:Nm Γ)(i:Nat){x:jZ}{xp p ap cp:mi}{k:Nat}{es:List kJ}{pl:vi Bool}{ds:List jQ}{d:jQ}{σ':AX}(hσ:σ[i]?=some (some (.own (ds++[d]))))(hs:ds.length<=100000)(ha:As Γ (σ.set i (some (.own ds))) (.Tuple es k p) d σ')(hP:P .next σ')
 (hi:autoParam (Γ.ns[i]?=some x) aR)(hd:autoParam ((x == ("__debug__":jZ))=false) aK)
 (he:autoParam (eval (.Call (.Attribute (.Name x xp) "pop" ap) [] [] cp) Γ.env=(do
  let ov<-eval (.Name x xp) Γ.env
  mS ap.atName
  let (f,first)<-mq [ov] (nz ov "pop" pl)
  kY cp f first (backTo cp (starEach [] Γ.env)) [])) aR)
 (hss:autoParam (tM [ow es k p] (.Call (.Attribute (.Name x xp) "pop" ap) [] [] cp) pos.line Γ.env=pure false) aR)(hw:autoParam (nv [ow es k p] (.Call (.Attribute (.Name x xp) "pop" ap) [] [] cp) Γ.env=pure none) aR) :
 X1 Γ σ (.Assign [.Tuple es k p] (.Call (.Attribute (.Name x xp) "pop" ap) [] [] cp) pos) P:=by
 intro O s Q E t q
 refine Pp (EZ N t hi hσ) λm a ws as n hd' zz1 rs qs zz2 turn=>?_;obtain⟨c,hl⟩:=zz1;obtain⟨haO,_⟩:=zz2
 refine Cz (II rs) λws' v as' bs hws r1 r2 zz1=>?_;obtain rfl:=zz1
 have hsz:ws.size=ws'.length+1:=by rw[<-kn,hws];simp
 have hle:ws.size<=sizeLine:=by
  have:=Al r1
  rw[hsz,this,sizeLine_eq];rwa[hs,this]
 refine wD (mj (pl:=pl) (EY N n hd' (mM (T:="list") (Ac _ hl rfl) F.plainAttrs_list F.slot_list_pop F.type_list_pop (λb hb=>by cases hb;exact Ac _ hl rfl) ?_) hd) he) hss hw
 have hy:ws[ws.size-1]?=some v:=by
  rw[<-oJ,hws,hsz];simp
 refine PySem.P.pop_list (y:=v) hl hy ?_ hle
 have hpl:∃k,(s.heap.update a (kE λxs=>xs.eraseIdxIfInBounds (ws.size-1))).get? a=some (seqObj "list" (ws.eraseIdxIfInBounds (ws.size-1)) k):=Ag _ (oS hl λxs=>xs.eraseIdxIfInBounds (ws.size-1))
 have hget:∀b,b≠a->∀o,s.heap.get? b=some o->(s.heap.update a (kE λxs=>xs.eraseIdxIfInBounds (ws.size-1))).get? b=some o:=λb hb o e=>(mn _ _ _ _ hb).trans e
 have hT:∀o,s.heap.get? a=some o->¬(o.cls=.type "tuple"/\∃vs n,o.data=.seq vs n):=by
  rintro o e' ⟨hc,_⟩
  (replace e':=CQ hl e';subst e');exact absurd (show jX "list"=jX "tuple" from hc) (by decide)
 have e:(ws.eraseIdxIfInBounds (ws.size-1)).toList=ws':=by
  rw[Array.eraseIdxIfInBounds,dif_pos (by omega),Array.toList_eraseIdx,hws,hsz]
  simp[List.eraseIdx_append_of_length_le]
 have na:∀b∈as'++bs,b≠a:=λb hb z=>qs b hb (z▸haO)
 refine Cg (turn _ s.toks _ ds as' hget hpl (by rw[e];exact Aq hget hT r1 λhm=>na a (lO _ hm) rfl) λb hb=>qs b (lO _ hb)) λt1 f1=>?_
 refine ha O _ v _ _ t1 (Ac bs (Bo hget hT r2 λhm=>na a (kR _ hm) rfl) λb hb=>qs b (kR _ hb)) λs2 a2 u2 t2=>?_
 exact q O .next .next _ s2 (f1.tr (Fx.ofBut t1 a2 u2 t2)) t2 rfl hP
end
noncomputable def Fq (t:A9):jQ:=Qi t.1 t.2.1 t.2.2
noncomputable def fB (l:List A9):Prop:=l.Pairwise λx y=>x.1<y.1
theorem Zz{α:Type}(f:α->Int):∀{a b:List α},a.Perm b->a.Pairwise (λx y=>f x<f y)->b.Pairwise (λx y=>f x<f y)->a=b
 | [],b,p,_,_=>(List.nil_perm.mp p).symm
 | x::a,[],p,_,_=>by simpa using p.length_eq
 | x::a,y::b,p,ha,hb=>by
  obtain⟨hx,ha2⟩:=oA.mp ha
  obtain⟨hy,hb2⟩:=oA.mp hb
  have e:x=y:=by
   rcases jI.mp (p.mem_iff.mp (.head _)) with e|hxb
   ·exact e
   ·rcases jI.mp (p.mem_iff.mpr (.head _)) with e|hya
    ·exact e.symm
    ·have h1:=hy x hxb;have h2:=hx y hya;lia
  subst e
  rw[Zz f (List.perm_cons x |>.mp p) ha2 hb2]
section
variable {α:Type} (f:α->Int) (d0:α)
noncomputable def BN (ts:List α) (i:Nat):Int:=f (ts.getD i d0)
variable {ts ts':List α}
theorem Gx(p:ts.Perm ts')(ha:ts'.Pairwise λx y=>f x<f y):∀i j,i<ts.length->j<ts.length->BN f d0 ts i=BN f d0 ts j->i=j:=by
 have hn:(ts.map f).Nodup:=by
  rw[(p.map f).nodup_iff]
  unfold List.Nodup
  rw[pG]
  exact ha.imp λh=>by rwa[h]
 intro i j hi hj h
 unfold BN at h
 have e:∀k (hk:k<ts.length),f (ts.getD k d0)=(ts.map f)[k]'(by rw[jK];exact hk):=λk hk=>by simp[mW,hk]
 rw[e i hi,e j hj] at h
 have hp:=nF.mp hn
 rcases Nat.lt_trichotomy i j with hij|hij|hij
 ·exact absurd h (hp i j _ _ hij)
 ·exact hij
 ·exact absurd h.symm (hp j i _ _ hij)
theorem Wn(p:ts.Perm ts')(ha:ts'.Pairwise λx y=>f x<f y)(hn:¬ts.length<2):(D1 (CW (BN f d0 ts)) (kas_sort ts.length)).toList.map (λi=>ts.getD i d0)=ts':=by
 obtain⟨hp,hs⟩:=G5 (r:=BN f d0 ts) (n:=ts.length) (by rwa[hn]) (Gx f d0 p ha)
 generalize D1 (CW (BN f d0 ts)) (kas_sort ts.length)=q at hp hs
 have hq:q.size=ts.length:=by rw[hp.size_eq];simp
 refine Zz f ?_ ?_ ha
 ·refine vV ?_ p
  have h1:q.toList.Perm (kf ts.length):=by have:=hp.toList;simpa using this
  refine(h1.map _).trans ?_
  have:(kf ts.length).map (λi=>ts.getD i d0)=ts:=by
   refine wU (by simp) λk h1 h2=>?_
   simp[mW,h2]
  rw[this]
 ·rw[pG,nF]
  intro i j hi hj hij
  rw[kn] at hi hj
  have:=hs i j hij (by rwa[hq,hj])
  unfold RR BN at this
  have e:∀k (hk:k<q.size),q.getD k 0=q.toList[k]'(by rw[kn];exact hk):=λk hk=>by simp[we,hk]
  rw[e i hi,e j hj] at this
  exact this
theorem Kn(g:α->jQ){h:j6}{ws:List jD}{as:List jN}(rs:Ae h ws (ts.map g) as)(p:ts.Perm ts')(ha:ts'.Pairwise λx y=>f x<f y):∃as',Ae h (CE (BN f d0 ts) ws) (ts'.map g) as'/\∀b∈as',b∈as:=by
 have hlen:ws.length=ts.length:=by rw[Al rs,jK]
 unfold CE
 rw[hlen]
 by_cases h2:ts.length<2
 ·rw[if_pos h2]
  have:ts=ts':=by
   match ts,h2,p with
   | [],_,p=>exact p.nil_eq
   | [z],_,p=>exact(List.perm_singleton.mp p.symm).symm
  rw[<-this]
  exact Ac as rs λ_ h=>h
 ·rw[if_neg h2]
  refine Af (FF rs (D1 (CW (BN f d0 ts)) (kas_sort ts.length)).toList) λbs r1 q1=>?_
  obtain⟨hp,hs⟩:=G5 (r:=BN f d0 ts) (n:=ts.length) (by rwa[h2]) (Gx f d0 p ha)
  have hlt:∀k∈(D1 (CW (BN f d0 ts)) (kas_sort ts.length)).toList,k<ts.length:=λk hk=>by
   have h1:(D1 (CW (BN f d0 ts)) (kas_sort ts.length)).toList.Perm (kf ts.length):=by have:=hp.toList;simpa using this
   exact mv.mp (h1.mem_iff.mp hk)
  refine Ac bs ?_ q1
  have e1:∀(l:List Nat),(∀k∈l,k<ts.length)->l.filterMap (ws[·]?)=l.map λi=>ws.getD i jF:=λl hl=>by
   induction l with
   | nil=>rfl
   | cons k l ih=>
    have hk:=hl k (.head _)
    rw[wc,jR (by lia),kO,ih λk hk=>hl k (.tail _ hk)]
    simp[mW,show k<ws.length by rwa[hlen,hk]]
  have e2:∀(l:List Nat),(∀k∈l,k<ts.length)->l.filterMap ((ts.map g)[·]?)=(l.map λi=>ts.getD i d0).map g:=λl hl=>by
   induction l with
   | nil=>rfl
   | cons k l ih=>
    have hk:=hl k (.head _)
    rw[wc,jR (by rw[jK];rwa[hk]),kO,kO,ih λk hk=>hl k (.tail _ hk)]
    simp[mW,hk]
  rw[e1 _ hlt,e2 _ hlt,Wn f d0 p ha h2] at r1
  exact r1
end
noncomputable def t0:A9:=(0,0,0)
noncomputable def fT (t:A9):Int:=(t.1:Nat)
theorem Ob{h:j6}{ts:List A9}{ws:List jD}{as:List jN}(r:Ae h ws (ts.map Fq) as){i:Nat}(hi:i<ts.length):∃b o n ta tb tc,ws.getD i jF=.ref b/\b∈as/\h.get? b=some o/\o.cls=.ref CM/\o.data=.seq #[.int (ts.getD i t0).1 ta,.int (ts.getD i t0).2.1 tb,.int (ts.getD i t0).2.2 tc] n:=by
 delta h ts ws as i at r hi
 have hd:(ts.map Fq)[i]?=some (Fq (ts.getD i t0)):=by rw[kc];simp[mW,hi]
 refine BD (B4 r hd) λv bs e1 r1 q1=>?_
 unfold Fq Qi at r1
 cases r1 with
 | @mt a o vs n xs as e2 e3 e4 e5=>
  refine Cz (AK e5) λv1 w1 _ _ h1 ra rs1 zz1=>?_;obtain rfl:=zz1
  refine Cz (AK rs1) λv2 w2 _ _ zz1 rb rs2 zz2=>?_;obtain rfl:=zz1;obtain rfl:=zz2
  refine Cz (AK rs2) λv3 w3 _ _ zz1 rc rs3 zz2=>?_;obtain rfl:=zz1;obtain rfl:=zz2
  obtain rfl:=Bg rs3
  obtain⟨ta,rfl⟩:∃t,v1=.int (ts.getD i t0).1 t:=by cases ra;exact Ag _ rfl
  obtain⟨tb,rfl⟩:∃t,v2=.int (ts.getD i t0).2.1 t:=by cases rb;exact Ag _ rfl
  obtain⟨tc,rfl⟩:∃t,v3=.int (ts.getD i t0).2.2 t:=by cases rc;exact Ag _ rfl
  refine eQ a o n ta tb tc (by rw[mW,e1];rfl) (q1 _ (.head _)) e2 e3 ?_
  rw[e4]
  congr 1
  apply ng.mp
  rw[h1]
section
variable {Γ:Cx} {σ:AX} {pos:mi} {P:AF->AX->Prop}
theorem VF{xI:j6}(hw:Γ.prog=pw)(K:Bn Γ.w xI)(hk:HK xI Γ.s₀)(room:A0 Γ.A 1)(N:Nm Γ)(i:Nat){x:jZ}{xp ap cp:mi}{pl:vi Bool}{ts ts':List A9}(hσ:σ[i]?=some (some (.own (ts.map Fq))))(h64:ts.length<64)(p:ts.Perm ts')(ha:fB ts')(hP:P .next (σ.set i (some (.own (ts'.map Fq)))))
 (hi:autoParam (Γ.ns[i]?=some x) aR)(hd:autoParam ((x == ("__debug__":jZ))=false) aK)(hin:autoParam (interactive Γ.env=false) aR)
 (he:autoParam (eval (.Call (.Attribute (.Name x xp) "sort" ap) [] [] cp) Γ.env=(do
  let ov<-eval (.Name x xp) Γ.env
  mS ap.atName
  let (f,first)<-mq [ov] (nz ov "sort" pl)
  kY cp f first (backTo cp (starEach [] Γ.env)) [])) aR) :
 X1 Γ σ (.Expr (.Call (.Attribute (.Name x xp) "sort" ap) [] [] cp) pos) P:=by
 intro O s Q E t q
 refine Pp (EZ N t hi hσ) λm a ws as n hd' zz1 rs qs zz2 turn=>?_;obtain⟨c,hl⟩:=zz1;obtain⟨haO,ha0⟩:=zz2
 have na:∀b∈as,b≠a:=λb hb z=>qs b hb (z▸haO)
 have hlen:ws.toList.length=ts.length:=by rw[Al rs,jK]
 have ho:s.heap.get? a=some (seqObj "list" ws.toList.toArray c):=by rw[p8];exact hl
 have ha':ts'.Pairwise λx y=>fT x<fT y:=ha.imp λh=>by unfold fT;rwa[h]
 have hr:=Gx fT t0 p ha'
 have K3:Bn Γ.w (Dk s.heap a ws.toList):=K.keeps λb o e=>D9 (λz=>by have:=hk b o e;rw[z,ha0] at this;exact B6 this) (t.keep _ _ (hk b o e))
 refine nI (mj (pl:=pl) (EY N n hd' (mM (T:="list") (Ac _ hl rfl) F.plainAttrs_list F.slot_list_sort F.type_list_sort (λb hb=>by cases hb;exact Ac _ hl rfl) ?_) hd) he) hin
 refine PyProof.Rows.callWith_method0 ?_
 have hT:∀v∈ws.toList,mF (model pw Γ.w) (Dk s.heap a ws.toList) (typeOf v) (.ref CM):=λv hv=>by
  obtain⟨k,hk1,hk2⟩:=vU.mp hv
  refine W1 (Ob rs (i:=k) (by lia)) λb o n' ta tb tc e1 e2 e3 e4 e5=>?_
  rw[mW,jR hk1,hk2] at e1
  have e1:v=.ref b:=e1
  subst e1
  exact e4▸(oQ (D9 (na b e2) e3)).andThen .now
 have OI:=λ(tk:Nat)=>turn ((Dk s.heap a ws.toList).update a (kE λ_=>(CE (BN fT t0 ts) ws.toList).toArray)) tk (CE (BN fT t0 ts) ws.toList).toArray (ts'.map Fq)
 obtain⟨e1,ho1⟩:∃e1,(Dk s.heap a ws.toList).get? a=some (seqObj "list" #[] e1):=Ag _ (jH _ (jH _ (oS ho λ_=>#[])))
 have hget:∀b,b≠a->∀o,s.heap.get? b=some o->((Dk s.heap a ws.toList).update a (kE λ_=>(CE (BN fT t0 ts) ws.toList).toArray)).get? b=some o:=λb hb o e=>(mn _ _ _ _ hb).trans (D9 hb e)
 have hTt:∀o,s.heap.get? a=some o->¬(o.cls=.type "tuple"/\∃vs n,o.data=.seq vs n):=by
  rintro o e' ⟨hc,_⟩
  (replace e':=CQ hl e';subst e');exact absurd (show jX "list"=jX "tuple" from hc) (by decide)
 refine Af (Kn fT t0 Fq rs p ha') λas' rs' hsub=>?_
 refine Cg (OI s.toks as' hget (Ag _ (oS ho1 λ_=>(CE (BN fT t0 ts) ws.toList).toArray)) (by rw[sJ];exact Aq hget hTt rs' λhm=>na a (hsub a hm) rfl) λb hb=>qs b (hsub b hb)) λt1 f1=>?_
 refine lJ slot_list_sort (Ac _ hl rfl) entry_list_sort ?_ (args_list_sort _)
 rw[hw]
 refine UK (r:=BN fT t0 ts) (T:=.ref CM) ho (by rwa[h64,hlen]) hT (by decide) (by rfl) (by rw[hlen];exact hr) (λi j C hi hj hC=>?_) (Ac .none rfl (q O .next .next _ _ f1 t1 rfl hP))
 refine W1 (Ob rs (i:=i) (by rwa[hlen,hi])) λb o n' ta tb tc g1 g2 g3 g4 g5=>?_
 refine W1 (Ob rs (i:=j) (by rwa[hlen,hj])) λb' o' n'' ta' tb' tc' g1' g2' g3' g4' g5'=>?_
 unfold kas_ask
 rw[g1,g1']
 refine e8 (w:=Γ.w) K3 (by have:=room.units;show Γ.A.units+1<cLine;rwa[this]) (D9 (na b g2) g3) g4 g5 (D9 (na b' g2') g3') g4' g5' ?_
 have:WF ((ts.getD i t0).1:Int) (ts.getD i t0).2.1 (ts.getD i t0).2.2 (ts.getD j t0).1 (ts.getD j t0).2.1 (ts.getD j t0).2.2=CW (BN fT t0 ts) i j:=by
  unfold WF CW
  by_cases hij:i=j
  ·subst hij
   simp
  ·have:BN fT t0 ts i≠BN fT t0 ts j:=λz=>hij (hr i j (by rwa[hlen,hi]) (by rwa[hlen,hj]) z)
   unfold BN fT at this
   rw[if_neg this]
   rfl
 rw[this]
 exact hC
end
theorem Um{a t k b f:Nat}(h:t+k<=b)(hk:¬k=0)(ha:a<=t)(hf:b-a<f+1):t-a<f:=by rwa[h,hk,ha,hf]
theorem Ul{a t k b f:Nat}(h:t+k<=b)(hk:¬k=0)(ha:a<=t)(hf:b-a<f+1):b-(t+k)<f:=by rwa[h,hk,ha,hf]
theorem N3{i R k a:Nat}(h:k<R)(h2:R<=i+1-a):i+1-R+k=i-(R-1-k):=by
 replace h2:=kN h2 (p0 _ _)
 rwa[h,h2]
section
variable {α:Type} [DecidableEq α] (as bs:List α)
noncomputable def Y3:Nat->Nat->Nat->Nat->Nat->List A9
 | 0,_,_,_,_=>[]
 | f+1,alo,ahi,blo,bhi=>if(flm as bs alo blo bhi ahi).2.2=0 then [] else Y3 f alo (flm as bs alo blo bhi ahi).1 blo (flm as bs alo blo bhi ahi).2.1++[flm as bs alo blo bhi ahi]++
  Y3 f ((flm as bs alo blo bhi ahi).1+(flm as bs alo blo bhi ahi).2.2) ahi ((flm as bs alo blo bhi ahi).2.1+(flm as bs alo blo bhi ahi).2.2) bhi
theorem Oy:∀(f g alo ahi blo bhi:Nat),alo<=ahi->blo<=bhi->ahi-alo<f->ahi-alo<g->Y3 as bs f alo ahi blo bhi=Y3 as bs g alo ahi blo bhi
 | 0,_,_,_,_,_,_,_,h,_=>absurd h (qo _)
 | _+1,0,_,_,_,_,_,_,_,h=>absurd h (qo _)
 | f+1,g+1,alo,ahi,blo,bhi,hi,hj,h1,h2=>by
  unfold Y3
  obtain⟨a,b,c,d,_,_⟩:=F8 as bs alo blo bhi hi hj
  generalize flm as bs alo blo bhi ahi=t at *
  split
  ·rfl
  ·rename_i z
   rw[Oy f g alo t.1 blo t.2.1 a c (Um b z a h1) (Um b z a h2),Oy f g (t.1+t.2.2) ahi (t.2.1+t.2.2) bhi b d (Ul b z a h1) (Ul b z a h2)]
noncomputable def bl (alo ahi blo bhi:Nat):List A9:=Y3 as bs (ahi-alo+1) alo ahi blo bhi
theorem Xy{alo ahi blo bhi:Nat}(hi:alo<=ahi)(hj:blo<=bhi):bl as bs alo ahi blo bhi=if(flm as bs alo blo bhi ahi).2.2=0 then [] else bl as bs alo (flm as bs alo blo bhi ahi).1 blo (flm as bs alo blo bhi ahi).2.1++[flm as bs alo blo bhi ahi]++
 bl as bs ((flm as bs alo blo bhi ahi).1+(flm as bs alo blo bhi ahi).2.2) ahi ((flm as bs alo blo bhi ahi).2.1+(flm as bs alo blo bhi ahi).2.2) bhi:=by
 unfold bl
 rw[Y3]
 obtain⟨a,b,c,d,_,_⟩:=F8 as bs alo blo bhi hi hj
 generalize flm as bs alo blo bhi ahi=t at *
 split
 ·rfl
 ·rename_i z
  rw[Oy as bs (ahi-alo) (t.1-alo+1) alo t.1 blo t.2.1 a c (Um b z a (ml _)) (ml _),Oy as bs (ahi-alo) (ahi-(t.1+t.2.2)+1) (t.1+t.2.2) ahi (t.2.1+t.2.2) bhi b d (Ul b z a (ml _)) (ml _)]
theorem Uq{alo ahi blo bhi:Nat}(hi:alo<=ahi)(hj:blo<=bhi)(h:alo=ahi\/blo=bhi):bl as bs alo ahi blo bhi=[]:=by
 rw[Xy as bs hi hj,if_pos]
 obtain⟨a,b,c,d,_,_⟩:=F8 as bs alo blo bhi hi hj
 rcases h with h|h<;>lia
structure Hx (alo ahi blo bhi:Nat) (l:List A9):Prop where
 pos:∀t∈l,0<t.2.2
 inn:∀t∈l,alo<=t.1/\t.1+t.2.2<=ahi/\blo<=t.2.1/\t.2.1+t.2.2<=bhi
 eqs:∀t∈l,∀k,k<t.2.2->Dt as bs (t.1+k) (t.2.1+k)
 ord:l.Pairwise λx y=>x.1+x.2.2<=y.1/\x.2.1+x.2.2<=y.2.1/\¬(x.1+x.2.2=y.1/\x.2.1+x.2.2=y.2.1)
theorem IG(alo blo:Nat):∀{i j k:Nat},alo<=i->blo<=j->k<AY as bs alo blo i j->Dt as bs (i-k) (j-k)
 | 0,j,k,hi,hj,h=>by
  rw[Dg] at h
  split at h
  ·rename_i he
   split at h
   ·lia
   ·obtain rfl:k=0:=by rwa[h]
    exact he
  ·lia
 | i+1,j,k,hi,hj,h=>by
  rw[Dg] at h
  split at h
  ·rename_i he
   cases k with
   | zero=>exact he
   | succ k=>
    split at h
    ·rename_i hw
     rw[th] at h
     have:=IG alo blo (i:=i) (j:=j-1) (k:=k) (by rwa[hi,hw]) (by rwa[hj,hw]) (by rwa[h])
     rw[show i+1-(k+1)=i-k by rwa[],show j-(k+1)=j-1-k by rwa[]]
     exact this
    ·lia
  ·lia
theorem YR{alo ahi blo bhi k:Nat}(h:k<(flm as bs alo blo bhi ahi).2.2):Dt as bs ((flm as bs alo blo bhi ahi).1+k) ((flm as bs alo blo bhi ahi).2.1+k):=by
 rcases(Pk as bs alo blo bhi ahi).is with e|⟨i,j,⟨h1,h2,h3⟩,h4,e⟩
 ·rw[e] at h;exact absurd h (qo _)
 ·rw[e] at h ⊢
  dsimp only at h ⊢
  refine C1 ((CZ as bs blo bhi).mp h3) λ_ h6 _=>?_
  obtain⟨l1,l2⟩:=Fl as bs alo blo h1 h6
  have:=IG as bs alo blo (i:=i) (j:=j) (k:=AY as bs alo blo i j-1-k) h1 h6 (nu (p0 _ _) (Nat.sub_lt (Nat.zero_lt_of_lt h) v7))
  rw[N3 h l1,N3 h l2]
  exact this
theorem Ox:∀(f alo ahi blo bhi:Nat),ahi-alo<f->alo<=ahi->blo<=bhi->Hx as bs alo ahi blo bhi (bl as bs alo ahi blo bhi)
 | 0,_,_,_,_,h,_,_=>absurd h (qo _)
 | f+1,alo,ahi,blo,bhi,h,hi,hj=>by
  rw[Xy as bs hi hj]
  obtain⟨a,b,c,d,e1,e2⟩:=F8 as bs alo blo bhi hi hj
  have eq:=λk=>YR as bs (alo:=alo) (ahi:=ahi) (blo:=blo) (bhi:=bhi) (k:=k)
  generalize flm as bs alo blo bhi ahi=t at *
  split
  ·exact⟨λ_ h=>(nomatch h),λ_ h=>(nomatch h),λ_ h=>(nomatch h),.nil⟩
  ·rename_i hz
   obtain⟨p1,q1,r1,s1⟩:=Ox f alo t.1 blo t.2.1 (Um b hz a h) a c
   obtain⟨p2,q2,r2,s2⟩:=Ox f (t.1+t.2.2) ahi (t.2.1+t.2.2) bhi (Ul b hz a h) b d
   have mem:∀x,x∈bl as bs alo t.1 blo t.2.1++[t]++bl as bs (t.1+t.2.2) ahi (t.2.1+t.2.2) bhi->x∈bl as bs alo t.1 blo t.2.1\/x=t\/x∈bl as bs (t.1+t.2.2) ahi (t.2.1+t.2.2) bhi:=λx hx=>by
    simpa[or_assoc] using hx
   refine⟨λx hx=>?_,λx hx=>?_,λx hx=>?_,?_⟩
   ·rcases mem x hx with h|rfl|h
    ·exact p1 x h
    ·exact Nat.pos_of_ne_zero hz
    ·exact p2 x h
   ·rcases mem x hx with h|rfl|h
    ·exact CU (q1 x h) λu v w y=>⟨u,kN v (kN (lZ _ _) b),w,kN y (kN (lZ _ _) d)⟩
    ·exact⟨a,b,c,d⟩
    ·exact CU (q2 x h) λu v w y=>⟨kN a (kN (lZ _ _) u),v,kN c (kN (lZ _ _) w),y⟩
   ·rcases mem x hx with h|rfl|h
    ·exact r1 x h
    ·exact eq
    ·exact r2 x h
   ·rw[nN,nN]
    refine⟨⟨s1,nZ _ _,λx hx y hy=>?_⟩,s2,λx hx y hy=>?_⟩
    ·rw[jJ.mp hy]
     have h1:=q1 x hx
     have h2:=p1 x hx
     refine⟨h1.2.1,h1.2.2.2,λEM=>Cg EM λh3 h4=>?_⟩
     have:=r1 x hx (x.2.2-1) (Nat.sub_lt h2 v7)
     rw[<-wO h2,<-wO h2,h3,h4] at this
     exact e1 (h3▸nu h1.1 (pA h2)) (h4▸nu h1.2.2.1 (pA h2)) this
    ·have h1:=q2 y hy
     have h2:=p2 y hy
     rcases jW.mp hx with hx|hx
     ·have h3:=q1 x hx
      have k1:=kN h3.2.1 (kN (lZ t.1 t.2.2) h1.1)
      refine⟨k1,kN h3.2.2.2 (kN (lZ _ _) h1.2.2.1),λEM=>Cg EM λh4 _=>hz ?_⟩
      exact Nat.eq_zero_of_le_zero (Nat.le_of_add_le_add_left (a:=t.1) (kN h1.1 (h4▸h3.2.1)))
     ·rw[jJ.mp hx]
      refine⟨h1.1,h1.2.2.1,λEM=>Cg EM λh3 h4=>?_⟩
      have:=r2 y hy 0 h2
      rw[tG,tG,<-h3,<-h4] at this
      exact e2 (h3▸mR (pA h2) h1.2.1) (h4▸mR (pA h2) h1.2.2.2) this
theorem Hx.asc{alo ahi blo bhi:Nat}{l:List A9}(r:Hx as bs alo ahi blo bhi l):fB l:=by
 have:l.Pairwise λx y=>x∈l/\(x.1+x.2.2<=y.1/\x.2.1+x.2.2<=y.2.1/\¬(x.1+x.2.2=y.1/\x.2.1+x.2.2=y.2.1)):=List.Pairwise.and_mem.mp r.ord |>.imp λh=>⟨h.1,h.2.2⟩
 exact this.imp λ{x y} ⟨hm,h⟩=>by have:=r.pos x hm;lia
theorem Hx.len{alo ahi blo bhi:Nat}:∀{l:List A9},Hx as bs alo ahi blo bhi l->l.length<=ahi-alo
 | [],_=>kh _
 | t::l,r=>by
  obtain⟨p,q,e,o⟩:=r
  have h1:=q t (.head _)
  have h2:=p t (.head _)
  have o':=oA.mp o
  have r':Hx as bs (t.1+t.2.2) ahi blo bhi l:=⟨λx hx=>p x (.tail _ hx),λx hx=>by have:=q x (.tail _ hx);have:=(o'.1 x hx).1;(rename_i z0;rwa[z0,this]),λx hx=>e x (.tail _ hx),o'.2⟩
  have:=Hx.len r'
  rw[j9]
  rwa[h1,h2,this]
noncomputable abbrev Vx:=Nat×Nat×Nat×Nat
noncomputable def Vt (q:Vx):List A9:=bl as bs q.1 q.2.1 q.2.2.1 q.2.2.2
noncomputable def FY (q:Vx):jQ:=.tuple [.int q.1,.int q.2.1,.int q.2.2.1,.int q.2.2.2]
noncomputable def Od:List Vx->Nat
 | []=>0
 | q::qs=>2*(q.2.1-q.1)+1+Od qs
theorem Em:∀(a b:List Vx),Od (a++b)=Od a+Od b
 | [],b=>by simp[Od]
 | q::a,b=>by rw[tS,Od,Od,Em a b];rwa[]
theorem Oc:∀(a:List Vx),a.length<=Od a
 | []=>kh _
 | q::a=>by have:=Oc a;rw[j9,Od];rwa[this]
end
noncomputable def fY (w:jY) (as bs:List jZ) (I:jN) (h:j6) (v:jD) (pl:List jN):Prop:=v=.ref I/\RM w as bs h v pl
theorem DH(w:jY)(as bs:List jZ)(I:jN):Fg (fY w as bs I):=
 ⟨λ⟨e,r⟩ k t=>⟨e,(D5 w as bs).keepBy r k t⟩,λEM=>Cg EM λe r=>(D5 w as bs).solid r⟩
noncomputable abbrev HN (w:jY) (as bs:List jZ) (I:jN):Option Bd:=some (.val (.st (fY w as bs I) (DH w as bs I)))
section
variable {Γ:Cx} {σ:AX} {P:AF->AX->Prop} {pos:mi}
theorem X3(N:Nm Γ){O:Ap}{s:jG}{i:Nat}{x:jZ}{a:AV}{v:jD}(t:St Γ O σ s)(hi:Γ.ns[i]?=some x)(h:σ[i]?=some (some (.val (.raw v))))(r:VR O s.heap a v):St Γ O (σ.set i (some (.val a))) s:=by
 delta Γ σ O s at N i x a v t hi h r
 obtain⟨kp,⟨m,n,vs⟩,cl,nd,lv,sb,fr,fs⟩:=t
 refine Af (vs i x _ hi h) λu hd hu=>?_
 obtain rfl:u=v:=hu
 have hlt:i<σ.length:=(jM.mp h).1
 refine⟨kp,(Ac m n λj y b e e'=>?_),cl,nd,lv,sb,fr,fs⟩
 by_cases hj:j=i
 ·subst hj
  (replace e:=CQ hi e;subst e)
  rw[lQ hlt] at e'
  cases e'
  exact Ac u hd r
 ·rw[lR (ln hj)] at e'
  exact vs j y b e e'
variable {w:jY} {as bs:List jZ} {I:jN} {xI:j6}
theorem I7{x y:jZ}{sp ap:mi}{a:AV}(hw:Γ.prog=pw)(K:Bn Γ.w xI)(hk:HK xI Γ.s₀)(is:Nat)(hσ:σ[is]?=some (HN Γ.w as bs I))
 (hv:∀(h:j6) (la lb dj sj:jN) (m:jZ->Option jD) (pl ls:List jN) (O:Ap) ,fw m la lb dj sj->Ak h (.ref la) (.list (as.map .str)) [la]->Ak h (.ref lb) (.list (bs.map .str)) [lb]->¬O.has la->¬O.has lb->∃v,m x=some v/\handedIn v=true/\VR O h a v)
 (hi:autoParam (Γ.ns[is]?=some y) aR)(hkf:autoParam (Γ.env.scope.kind=.function) aR)(hd:autoParam ((y == ("__debug__":jZ))=false) aK)(ha:autoParam (vx (KK Γ.w.params) (.ref CS) x=some none) aK)
 (he:autoParam (eval ((ky y sp).Attribute x ap) Γ.env=(do
  let o<-eval (ky y sp) Γ.env
  mS ap.atName
  let r<-mq [o] (pW o x true)
  letTemporaryGo (ky y sp) o r
  pure r)) aR):Ev Γ σ (.Attribute (.Name y sp) x ap) a:=by
 intro O s Q E t q
 have Ks:Bn Γ.w s.heap:=K.keeps λb o e=>t.keep _ _ (hk b o e)
 refine sH (EX is t (λv rv=>?_) hi hσ hkf hd) he
 refine Af rv λpl zz1 hO=>?_;obtain⟨rfl,I',D,m,k,la,lb,dj,sj,led,ls,hI,rfl,i,mo,ra,rb,rj,es⟩:=zz1
 cases hI
 refine Bu (hv s.heap la lb dj sj m [] [] O mo ra rb (hO la (by simp)) (hO lb (by simp))) λv e1 e2 e3=>?_
 rw[hw]
 exact Rh Ks i e1 (q _ _ (t.keeps λ_ _ e=>e) Keeps.rfl' e3) e2 ha
theorem Xb{y:jZ}{sp ap:mi}(hw:Γ.prog=pw)(K:Bn Γ.w xI)(hk:HK xI Γ.s₀)(is:Nat)(hσ:σ[is]?=some (HN Γ.w as bs I))(hi:autoParam (Γ.ns[is]?=some y) aR)(hkf:autoParam (Γ.env.scope.kind=.function) aR)(hd:autoParam ((y == ("__debug__":jZ))=false) aK)
 (he:autoParam (eval ((ky y sp).Attribute "a" ap) Γ.env=(do
  let o<-eval (ky y sp) Γ.env
  mS ap.atName
  let r<-mq [o] (pW o "a" true)
  letTemporaryGo (ky y sp) o r
  pure r)) aR):Ev Γ σ (.Attribute (.Name y sp) "a" ap) (.py (.list (as.map .str))):=
 I7 hw K hk is hσ (λh la lb dj sj m pl ls O mo ra rb h1 h2=>⟨_,mo.a,rfl,[la],ra,λa ha=>by rw[jJ.mp ha];exact h1⟩) hi hkf hd (by kernel_rfl) he
theorem Xa{y:jZ}{sp ap:mi}(hw:Γ.prog=pw)(K:Bn Γ.w xI)(hk:HK xI Γ.s₀)(is:Nat)(hσ:σ[is]?=some (HN Γ.w as bs I))(hi:autoParam (Γ.ns[is]?=some y) aR)(hkf:autoParam (Γ.env.scope.kind=.function) aR)(hd:autoParam ((y == ("__debug__":jZ))=false) aK)
 (he:autoParam (eval ((ky y sp).Attribute "b" ap) Γ.env=(do
  let o<-eval (ky y sp) Γ.env
  mS ap.atName
  let r<-mq [o] (pW o "b" true)
  letTemporaryGo (ky y sp) o r
  pure r)) aR):Ev Γ σ (.Attribute (.Name y sp) "b" ap) (.py (.list (bs.map .str))):=
 I7 hw K hk is hσ (λh la lb dj sj m pl ls O mo ra rb h1 h2=>⟨_,mo.b,rfl,[lb],rb,λa ha=>by rw[jJ.mp ha];exact h2⟩) hi hkf hd (by kernel_rfl) he
theorem W9{y:jZ}{sp ap:mi}(hw:Γ.prog=pw)(K:Bn Γ.w xI)(hk:HK xI Γ.s₀)(is:Nat)(hσ:σ[is]?=some (HN Γ.w as bs I))(hi:autoParam (Γ.ns[is]?=some y) aR)(hkf:autoParam (Γ.env.scope.kind=.function) aR)(hd:autoParam ((y == ("__debug__":jZ))=false) aK)
 (he:autoParam (eval ((ky y sp).Attribute "matching_blocks" ap) Γ.env=(do
  let o<-eval (ky y sp) Γ.env
  mS ap.atName
  let r<-mq [o] (pW o "matching_blocks" true)
  letTemporaryGo (ky y sp) o r
  pure r)) aR):Ev Γ σ (.Attribute (.Name y sp) "matching_blocks" ap) (.raw .none):=
 I7 hw K hk is hσ (λh la lb dj sj m pl ls O mo ra rb h1 h2=>Ba _ mo.mb rfl rfl) hi hkf hd (by kernel_rfl) he
theorem aF{mg mb:jZ->Option jD}{y:jZ}{sp ap cp:mi}{e1 e2 e3 e4:kJ}{pl:vi Bool}(hw:Γ.prog=pw)(K:Bn Γ.w xI)(T:Br mg mb xI)(hgM:mg "Match"=some (.ref CM))(hk:HK xI Γ.s₀)(room:A0 Γ.A 3)(is:Nat)(hσ:σ[is]?=some (HN Γ.w as bs I))
 (alo ahi blo bhi:Nat)(hi':alo<=ahi)(hj':blo<=bhi)(hA:ahi<=as.length)(hB:bhi<=bs.length)(lA:as.length<=100)(lB:bs.length<=100)
 (h1:Ev Γ σ e1 (.py (.int alo)))(h2:Ev Γ σ e2 (.py (.int ahi)))(h3:Ev Γ σ e3 (.py (.int blo)))(h4:Ev Γ σ e4 (.py (.int bhi)))
 (hi:autoParam (Γ.ns[is]?=some y) aR)(hkf:autoParam (Γ.env.scope.kind=.function) aR)(hd:autoParam ((y == ("__debug__":jZ))=false) aK)(p1:autoParam (AE e1=true) aR)(p2:autoParam (AE e2=true) aR)(p3:autoParam (AE e3=true) aR)(p4:autoParam (AE e4=true) aR)
 (he:autoParam (eval (.Call (.Attribute (.Name y sp) "find_longest_match" ap) [e1,e2,e3,e4] [] cp) Γ.env=(do
  let ov<-eval (.Name y sp) Γ.env
  mS ap.atName
  let (f,first)<-mq [ov] (nz ov "find_longest_match" pl)
  kY cp f first (backTo cp (starEach [e1,e2,e3,e4] Γ.env)) [])) aR) :
 Ev Γ σ (.Call (.Attribute (.Name y sp) "find_longest_match" ap) [e1,e2,e3,e4] [] cp) (.py (Fq (flm as bs alo blo bhi ahi))):=by
 intro O s Q E t q
 have Ks:Bn Γ.w s.heap:=K.keeps λb o e=>t.keep _ _ (hk b o e)
 refine mj (pl:=pl) (EX is t (λv rv=>?_) hi hσ hkf hd) he
 have rv':=rv
 refine Af rv' λpls zz1 hO=>?_;obtain⟨rfl,I',D,m,k,la,lb,dj,sj,led,ls,hI,rfl,i,mo,ra,rb,rj,es⟩:=zz1
 cases hI
 rw[hw]
 refine Ep (f:=196) Ks i mo.flm ?_
 refine tZ (K:=KK Γ.w.params) Ks.k (by kernel_rfl) ?_ (by
  show starEach (e1::[e2,e3,e4]) Γ.env=_
  exact CC p1) ?_
 ·have ev:=Ab h1 (Ab h2 (Ab h3 (Ab h4 Ah p4) p3) p2) p1 O s cp
  rw[hw] at ev
  refine ev _ _ t λvs s3 t3 k3 r3=>?_
  have K3:Bn Γ.w s3.heap:=K.keeps λb o e=>t3.keep _ _ (hk b o e)
  refine⟨K3.k,?_⟩
  have rv3:VR O s3.heap (.st (RM Γ.w as bs) (D5 Γ.w as bs)) (.ref I):=by
   refine Af rv λpls zz1 hO=>?_;obtain⟨_,r⟩:=zz1
   exact Ac pls ((D5 Γ.w as bs).keeps r (Aw k3)) hO
  exact ax K T hgM alo ahi blo bhi hi' hj' hA hB lA lB Γ.A O s3 (.ref I::vs) [] Q E room (λb o e=>t3.keep _ _ (hk _ _ e)) t3.ownOk ⟨rv3,r3⟩ trivial λv s4 k4 r4=>q v s4 (t3.of_keeps k4) (Keeps.tr k3 k4) r4
 ·exact Bh (by simp[p2,p3,p4])
end
theorem GL(env:xA):∀(a b:List md),execs (a++b) env=(do match<-execs a env with | .next=>execs b env|f=>pure f)
 | [],b=>by rw[pj,execs_nil,pure_bind]
 | st::a,b=>by
  rw[tS,execs_cons,execs_cons,bind_assoc]
  congr 1
  funext f
  cases f with
  | next=>exact GL env a b
  | _=>rw[pure_bind]
section
variable {Γ:Cx} {σ:AX} {P:AF->AX->Prop} {pos:mi}
theorem N4{O:Ap}{s:jG}{pre post:List md}{R:AX->Prop}{Q:uT->jG->Prop}{E:jD->jG->Prop}(t:St Γ O σ s)(h:Ex Γ σ pre λaf σ'=>af=.next/\R σ')
 (q:∀O' σ' s',Fx Γ O s O' s'->St Γ O' σ' s'->R σ'->wpAny (model Γ.prog Γ.w) Γ.A (execs post Γ.env) Q E s'):wpAny (model Γ.prog Γ.w) Γ.A (execs (pre++post) Γ.env) Q E s:=by
 rw[GL]
 refine jC (h O s _ E t λO' fl af σ' s' f t' fr p=>?_)
 obtain⟨rfl,r⟩:=p
 obtain rfl:fl=.next:=fr
 exact q O' σ' s' f t' r
theorem ZT(N:Nm Γ)(i:Nat){x:jZ}{p:mi}{ds:List jQ}(hσ:σ[i]?=some (some (.own ds)))(hs:ds.length<=100000)(hi:autoParam (Γ.ns[i]?=some x) aR)(hd:autoParam ((x == ("__debug__":jZ))=false) aK)
 (he:autoParam (isTrue (.Name x p) Γ.env (eval (.Name x p) Γ.env)=(do let v<-eval (.Name x p) Γ.env;mS (ky x p).pos;mq [v] (truthy v))) aR):Tv Γ σ (.Name x p) (!ds.isEmpty):=by
 intro O s Q E t q
 refine Pp (EZ N t hi hσ) λm a ws as n hd' zz1 rs qs _ _=>?_;obtain⟨c,hl⟩:=zz1
 have hlen:ws.size=ds.length:=by rw[<-kn,Al rs]
 refine oM (EY N n hd' ?_ hd) he
 refine wpAny_truthy_list (l:=a) (items:=ws) ⟨_,hl,rfl,_,rfl⟩ (by rwa[hs,hlen]) ?_
 have:(!ds.isEmpty)=!ws.isEmpty:=by
  rw[Array.isEmpty,hlen];cases ds<;>rfl
 rw[this] at q
 exact q _ (t.keeps λ_ _ e=>e) Keeps.rfl'
theorem Uy(N:Nm Γ)(i j k:Nat){x y z:jZ}{px py pz:mi}{e:kJ}{d:jQ}(h:Ev Γ σ e (.py d))(hP:P .next (((σ.set i (some (.val (.py d)))).set j (some (.val (.py d)))).set k (some (.val (.py d)))))
 (hi:autoParam (Γ.ns[i]?=some x) aR)(hj:autoParam (Γ.ns[j]?=some y) aR)(hk:autoParam (Γ.ns[k]?=some z) aR)(li:autoParam (i<σ.length) aN)(lj:autoParam (j<σ.length) aN)(lk:autoParam (k<σ.length) aN)
 (ki:autoParam (Γ.env.kindOf x=some .local) aR)(kj:autoParam (Γ.env.kindOf y=some .local) aR)(kk:autoParam (Γ.env.kindOf z=some .local) aR)
 (h2:autoParam (qM (λx=>x.snd) (assignEach [ky x px,ky y py,ky z pz] Γ.env)=[assign (ky x px) Γ.env,assign (ky y py) Γ.env,assign (ky z pz) Γ.env]) aR)
 (hsw:autoParam (nv [ky x px,ky y py,ky z pz] e Γ.env=pure none) aR):X1 Γ σ (.Assign [.Name x px,.Name y py,.Name z pz] e pos) P:=by
 intro O s Q E t q
 have av:∀{s s':jG} {σ:AX} {v:jD},St Γ O σ s->VR O s.heap (.py d) v->(∀b o,b≠Γ.env.locals->s.heap.get? b=some o->s'.heap.get? b=some o)->VR O s'.heap (.py d) v:=λt r u=>VR.avoid (O:=O) r (t.sub _ t.frame) (λb hb o e=>u b o hb e) (by refine Af t.ex λm n _=>?_;exact A5 n)
 refine wpAny_Assign_three (h O s _ E t λv s1 t1 k1 r1=>?_) h2 hsw
 refine lK (AG N (b:=.val (.py d)) hi li ki t1 r1 λs2 a2 u2 t2=>?_)
 have r2:=av t1 r1 u2
 refine lK (AG N (b:=.val (.py d)) hj (by rw[nM];exact lj) kj t2 r2 λs3 a3 u3 t3=>?_)
 have r3:=av t2 r2 u3
 refine lK (AG N (b:=.val (.py d)) hk (by rw[nM,nM];exact lk) kk t3 r3 λs4 a4 u4 t4=>?_)
 exact q O .next .next _ s4 ((((Fx.of_keeps k1).tr (Fx.ofBut t1 a2 u2 t2)).tr (Fx.ofBut t2 a3 u3 t3)).tr (Fx.ofBut t3 a4 u4 t4)) t4 rfl hP
end
noncomputable def ZD:List jZ:=["self","la","lb","queue","matching_blocks","alo","ahi","blo","bhi","i","j","k","x","i1","j1","k1","non_adjacent","i2","j2","k2"]
theorem d4(P:jE):Bf (Bq (Dp P)) (Am (BB 5 7)) ["self"] ZD:=.of' rfl rfl rfl (by decide +kernel)
theorem Y5(P:jE)(u:jD):l6 (Bq (Dp P)) ⟨[u],[]⟩=pure [((jB "self"),u)]:=by rfl
noncomputable abbrev fM (w:jY) (A:kC) (s₀ s:jG) (O:Ap):Cx:=CF pw w A s₀ s (Bq (Dp w.params)) 203 ZD O
noncomputable abbrev GC (w:jY) (as bs:List jZ) (I:jN) (n m:Nat) (qu mb alo ahi blo bhi i j k x i1 j1 k1 na i2 j2 k2:Option Bd):AX:=
 [HN w as bs I,pI n,pI m,qu,mb,alo,ahi,blo,bhi,i,j,k,x,i1,j1,k1,na,i2,j2,k2]
noncomputable def Bx:Option Bd->Bool
 | some (.val (.py _))=>true
 | none=>true
 | _=>false
structure PO (n m:Nat) (q:Vx):Prop where
 i:q.1<=q.2.1
 i':q.2.1<=n
 j:q.2.2.1<=q.2.2.2
 j':q.2.2.2<=m
noncomputable def Z0 (st:md) (i:Nat):md:=((Am st).drop i).headD (.Pass ⟨0,0,0,0⟩)
noncomputable def jc:md->List md
 | .While _ b _ _=>b
 | _=>[]
noncomputable def jr:md->List md
 | .If _ b _ _=>b
 | _=>[]
theorem UR{α:Type}{mb a l r w:List α}{t:α}(p:(mb++(a++(l++[t]++r))).Perm w):((mb++[t])++(a++l++r)).Perm w:=by
 refine vV ?_ p
 rw[l8]
 refine uN mb ?_
 have:(a++(l++[t]++r))=(a++l)++([t]++r):=by simp
 rw[this]
 have h:=(vJ (l₁:=a++l) (l₂:=[t])).append_right r
 simpa using h.symm
theorem U5{w:jY}{A:kC}{s₀ s:jG}{O:Ap}{as bs:List jZ}{I:jN}{mg mb:jZ->Option jD}{xI:j6}(K:Bn w xI)(T:Br mg mb xI)(hgM:mg "Match"=some (.ref CM))(hk:HK xI s₀)
 (N:Nm (fM w A s₀ s O))(room:A0 (A.deeper (callEnvC (Bq (Dp w.params)) s.heap.objs.size 203)) 3)(lA:as.length<=63)(lB:bs.length<=63)(P:AF->AX->Prop)
 (hP:∀(m:List A9) (a b c d i j k x:Option Bd),m.Perm (bl as bs 0 as.length 0 bs.length)->Bx a=true->Bx b=true->Bx c=true->Bx d=true->Bx i=true->Bx j=true->Bx k=true->Bx x=true->
  P .next (GC w as bs I as.length bs.length (some (.own [])) (some (.own (m.map Fq))) a b c d i j k x none none none none none none none)) :
 X1 (fM w A s₀ s O) (GC w as bs I as.length bs.length (some (.own [FY (0,as.length,0,bs.length)])) (some (.own [])) none none none none none none none none none none none none none none none) (Z0 (BB 5 7) 5) P:=by
 delta w A s₀ s O as bs I mg mb xI P at K T hgM hk N room lA lB hP
 have hh:(fM w A s₀ s O).A.handled=none:=room.handled
 refine Ef (n:=Od [(0,as.length,0,bs.length)]) (λn σ=>∃(qs:List Vx) (m:List A9) (a b c d i j k x:Option Bd),n=Od qs/\n<=200/\(∀q∈qs,PO as.length bs.length q)/\(m++qs.flatMap (Vt as bs)).Perm (bl as bs 0 as.length 0 bs.length)/\Bx a=true/\Bx b=true/\Bx c=true/\Bx d=true/\Bx i=true/\Bx j=true/\Bx k=true/\Bx x=true/\
  σ=GC w as bs I as.length bs.length (some (.own (qs.map FY))) (some (.own (m.map Fq))) a b c d i j k x none none none none none none none) ?_ ?_
 ·refine⟨[(0,as.length,0,bs.length)],[],none,none,none,none,none,none,none,none,rfl,?_,?_,?_,rfl,rfl,rfl,rfl,rfl,rfl,rfl,rfl,rfl⟩
  ·show 2*(as.length-0)+1+0<=200;rwa[lA]
  ·intro q hq
   rw[jJ.mp hq]
   exact⟨kh _,jP _,kh _,jP _⟩
  ·rw[pj,lu,og,kH]
   exact List.Perm.refl _
 rintro n σ1 ⟨qs,m,a,b,c,d,i,j,k,x,rfl,hn,hok,hp,ha,hb,hc,hd,hi,hj,hk',hx,rfl⟩
 have hql:=Oc qs
 have hml:m.length<=100:=by
  have h1:=hp.length_eq
  have h2:=(Ox as bs (as.length+1) 0 as.length 0 bs.length (by rwa[]) (kh _) (kh _)).len
  rw[j7] at h1
  rwa[lA,h1,h2]
 refine Ba (!(qs.map FY).isEmpty) (ZT N 3 rfl (by rw[jK];rwa[hn,hql])) (λhne=>?_) λhe=>?_
 rotate_left
 ·have:qs=[]:=by cases qs with|nil=>rfl|cons=>simp at he
  subst this
  refine Aj (hP m a b c d i j k x ?_ ha hb hc hd hi hj hk' hx)
  simpa using hp
 rcases List.eq_nil_or_concat qs with rfl|⟨qs',q,rfl⟩
 ·simp at hne
 rw[List.concat_eq_append] at *
 obtain⟨o1,o2,o3,o4⟩:=hok q (by simp)
 have hmea:Od (qs'++[q])=Od qs'+(2*(q.2.1-q.1)+1):=by rw[Em];rfl
 have hql':=Oc qs'
 have hmap:(qs'++[q]).map FY=qs'.map FY++[FY q]:=by rw[kB];rfl
 rw[mG,lu,og,kH] at hp
 have hbl:Vt as bs q=_:=Xy as bs o1 o3
 obtain⟨f1,f2,f3,f4,_,_⟩:=F8 as bs q.1 q.2.2.1 q.2.2.2 o1 o3
 refine Ad (ZP N 3 (ds:=qs'.map FY) (d:=FY q) (by rw[hmap];rfl) (by rw[jK];rwa[hn,hmea,hql']) (BV N hh [5,6,7,8] (ds:=[_,_,_,_]) ⟨rfl,rfl,rfl,rfl,rfl,rfl,rfl,rfl,trivial⟩) ?_)
 refine Ad (Uw N 12 (aF rfl K T hgM hk room 0 rfl q.1 q.2.1 q.2.2.1 q.2.2.2 o1 o3 o2 o4 (by rwa[lA]) (by rwa[lB]) (Aa 5) (Aa 6) (Aa 7) (Aa 8)) (XC rfl K hk N hh [9,10,11] ⟨rfl,rfl,rfl,rfl,rfl,rfl,trivial⟩) ?_)
 have e1:bl as bs q.1 (flm as bs q.1 q.2.2.1 q.2.2.2 q.2.1).1 q.2.2.1 (flm as bs q.1 q.2.2.1 q.2.2.2 q.2.1).2.1=([(q.1,(flm as bs q.1 q.2.2.1 q.2.2.2 q.2.1).1,q.2.2.1,(flm as bs q.1 q.2.2.1 q.2.2.2 q.2.1).2.1)]:List Vx).flatMap (Vt as bs):=by simp[Vt]
 generalize ht:flm as bs q.1 q.2.2.1 q.2.2.2 q.2.1=t at *
 refine Ad (BI (b:=(t.2.2:Int) != 0) (ID (Aa 11)) (λh=>?_) (λh=>Aj (Aj ?_)))
 rotate_left
 ·have hz:t.2.2=0:=by simpa using h
  rw[hbl,if_pos hz,kH] at hp
  exact⟨Od qs',by rwa[hmea],qs',m,_,_,_,_,_,_,_,_,rfl,by rwa[hn,hmea],λq' hq'=>hok q' (by simp[hq']),hp,rfl,rfl,rfl,rfl,rfl,rfl,rfl,rfl,rfl⟩
 have hz:t.2.2≠0:=by simpa using h
 rw[hbl,if_neg hz] at hp
 refine Ad (AO N 4 (d:=Fq t) (ds:=m.map Fq) (Aa 12) (by rw[jK];rwa[hml]) ?_)
 have hm1:m.map Fq++[Fq t]=(m++[t]).map Fq:=by rw[kB];rfl
 rw[hm1]
 have hp':=UR hp
 have bN:∀(L R:List Vx),L.flatMap (Vt as bs)=bl as bs q.1 t.1 q.2.2.1 t.2.1->R.flatMap (Vt as bs)=bl as bs (t.1+t.2.2) q.2.1 (t.2.1+t.2.2) q.2.2.2->((m++[t])++(qs'++L++R).flatMap (Vt as bs)).Perm (bl as bs 0 as.length 0 bs.length):=λL R hL hR=>by
  rw[mG,mG,hL,hR];exact hp'
 have last:∀(L:List Vx),L.length<=1->∀(P':AF->AX->Prop),(∀(R:List Vx),R.flatMap (Vt as bs)=bl as bs (t.1+t.2.2) q.2.1 (t.2.1+t.2.2) q.2.2.2->(∀w∈R,PO as.length bs.length w)->Od R<=2*(q.2.1-(t.1+t.2.2))+1->
  P' .next (GC w as bs I as.length bs.length (some (.own ((qs'++L++R).map FY))) (some (.own ((m++[t]).map Fq))) (pI q.1) (pI q.2.1) (pI q.2.2.1) (pI q.2.2.2) (pI t.1) (pI t.2.1) (pI t.2.2) (some (.val (.py (Fq t)))) none none none none none none none))->
  Ex (fM w A s₀ s O) (GC w as bs I as.length bs.length (some (.own ((qs'++L).map FY))) (some (.own ((m++[t]).map Fq))) (pI q.1) (pI q.2.1) (pI q.2.2.1) (pI q.2.2.2) (pI t.1) (pI t.2.1) (pI t.2.2) (some (.val (.py (Fq t)))) none none none none none none none)
   ((jr (((jc (Z0 (BB 5 7) 5)).drop 2).headD (.Pass ⟨0,0,0,0⟩))).drop 2) P':=λL hL P' hP'=>by
  refine Ad (BI (b:=decide (((t.1:Nat):Int)+((t.2.2:Nat):Int)<(q.2.1:Nat))&&(decide (((t.2.1:Nat):Int)+((t.2.2:Nat):Int)<(q.2.2.2:Nat))&&true)) (By (AP (An (Bl (Aa 9) (Aa 11)) (Aa 6)) λ_=>AP (An (Bl (Aa 10) (Aa 11)) (Aa 8)) λ_=>BC)) (λh=>?_) (λh=>?_))
  ·simp only[kL,decide_eq_true_eq,and_true] at h
   refine Ad (AO N 3 (d:=FY (t.1+t.2.2,q.2.1,t.2.1+t.2.2,q.2.2.2)) (ds:=(qs'++L).map FY) (Au (ds:=[.int (t.1+t.2.2:Nat),.int q.2.1,.int (t.2.1+t.2.2:Nat),.int q.2.2.2]) (Ab (Dh (Aa 9) (Aa 11)) (Ab (Aa 6) (Ab (Dh (Aa 10) (Aa 11)) (Ab (Aa 8) Ah))))) (by rw[jK,j7];rwa[hn,hmea,hql',hL]) ?_)
   have:=hP' [(t.1+t.2.2,q.2.1,t.2.1+t.2.2,q.2.2.2)] (by simp[Vt]) (λw' hw'=>by rw[jJ.mp hw'];exact⟨f2,o2,f4,o4⟩) (jP _)
   rw[kB (l₁:=qs'++L)] at this
   exact Aj (Aj this)
  ·have:=hP' [] (by
    rw[og]
    refine(Uq as bs f2 f4 ?_).symm
    rw[oI,vO] at h
    rcases h with h|h
    ·left;have:=of_decide_eq_false h;(clear_value *;lia)
    ·right;have:=of_decide_eq_false h;(clear_value *;lia)) (λ_ h=>(nomatch h)) (kh _)
   rw[kH] at this
   exact Aj (Aj this)
 have key:∀(L:List Vx),L.flatMap (Vt as bs)=bl as bs q.1 t.1 q.2.2.1 t.2.1->(∀w∈L,PO as.length bs.length w)->Od L<=2*(t.1-q.1)+1->∀(R:List Vx),R.flatMap (Vt as bs)=bl as bs (t.1+t.2.2) q.2.1 (t.2.1+t.2.2) q.2.2.2->(∀w∈R,PO as.length bs.length w)->Od R<=2*(q.2.1-(t.1+t.2.2))+1->
  Od (qs'++L++R)<Od (qs'++[q])/\(∀w∈qs'++L++R,PO as.length bs.length w)/\((m++[t])++(qs'++L++R).flatMap (Vt as bs)).Perm (bl as bs 0 as.length 0 bs.length):=λL hL1 hL2 hL3 R hR1 hR2 hR3=>by
  refine⟨?_,λw' hw'=>?_,bN L R hL1 hR1⟩
  ·rw[Em,Em,hmea];rwa[o1,f1,f2,hz,hL3,hR3]
  ·rcases jW.mp hw' with hw'|hw'
   ·rcases jW.mp hw' with hw'|hw'
    ·exact hok w' (by simp[hw'])
    ·exact hL2 w' hw'
   ·exact hR2 w' hw'
 refine Ad (BI (b:=decide (((q.1:Nat):Int)<(t.1:Nat))&&(decide (((q.2.2.1:Nat):Int)<(t.2.1:Nat))&&true)) (By (AP (An (Aa 5) (Aa 9)) λ_=>AP (An (Aa 7) (Aa 10)) λ_=>BC)) (λh=>?_) (λh=>?_))
 ·simp only[kL,decide_eq_true_eq,and_true] at h
  refine Ad (AO N 3 (d:=FY (q.1,t.1,q.2.2.1,t.2.1)) (ds:=qs'.map FY) (Au (ds:=[.int q.1,.int t.1,.int q.2.2.1,.int t.2.1]) (Ab (Aa 5) (Ab (Aa 9) (Ab (Aa 7) (Ab (Aa 10) Ah))))) (by rw[jK];rwa[hn,hmea,hql']) (Aj ?_))
  have la:=last [(q.1,t.1,q.2.2.1,t.2.1)] (jP _)
  rw[kB (l₁:=qs')] at la
  refine la _ λR h1 h2 h3=>?_
  obtain⟨k1,k2,k3⟩:=key [(q.1,t.1,q.2.2.1,t.2.1)] (by simp[Vt]) (λw' hw'=>by rw[jJ.mp hw'];exact⟨f1,by show t.1<=_;rwa[o2,f2],f3,by show t.2.1<=_;rwa[o4,f4]⟩) (jP _) R h1 h2 h3
  exact Aj ⟨_,k1,_,m++[t],_,_,_,_,_,_,_,_,rfl,by rwa[hn,k1],k2,k3,rfl,rfl,rfl,rfl,rfl,rfl,rfl,rfl,rfl⟩
 ·have la:=last [] (kh _)
  rw[kH] at la
  refine Aj (la _ λR h1 h2 h3=>?_)
  obtain⟨k1,k2,k3⟩:=key [] (by
   rw[og]
   refine(Uq as bs f1 f3 ?_).symm
   rw[oI,vO] at h
   rcases h with h|h
   ·left;have:=of_decide_eq_false h;(clear_value *;lia)
   ·right;have:=of_decide_eq_false h;(clear_value *;lia)) (λ_ h=>(nomatch h)) (kh _) R h1 h2 h3
  rw[kH] at k1 k2 k3
  exact Aj ⟨_,k1,_,m++[t],_,_,_,_,_,_,_,_,rfl,by rwa[hn,k1],k2,k3,rfl,rfl,rfl,rfl,rfl,rfl,rfl,rfl,rfl⟩
noncomputable def Cy (l:List A9):Nat->A9
 | 0=>(0,0,0)
 | t+1=>l.getD t (0,0,0)
noncomputable def ZO (l:List A9):Prop:=(∀t∈l,0<t.2.2)/\l.Pairwise λx y=>¬(x.1+x.2.2=y.1/\x.2.1+x.2.2=y.2.1)
theorem Hx.apart{α:Type}[DecidableEq α]{as bs:List α}{alo ahi blo bhi:Nat}{l:List A9}(r:Hx as bs alo ahi blo bhi l):ZO l:=⟨r.pos,r.ord.imp λh=>h.2.2⟩
theorem WP{w:jY}{A:kC}{s₀ s:jG}{O:Ap}{as bs:List jZ}{I:jN}{mg mb:jZ->Option jD}{xI:j6}(K:Bn w xI)(T:Br mg mb xI)(hk:HK xI s₀)
 (N:Nm (fM w A s₀ s O))(room:A0 (A.deeper (callEnvC (Bq (Dp w.params)) s.heap.objs.size 203)) 3)(l:List A9)(hl:l.length<=100)(ap:ZO l)(qu:Option Bd)(a b c d i j k x:Option Bd)(P:AF->AX->Prop)
 (hP:∀(i2 j2 k2:Option Bd),Bx i2=true->Bx j2=true->Bx k2=true->
  P .next (GC w as bs I as.length bs.length qu (some (.val (.py (.list (l.map Fq))))) a b c d i j k x (pI (Cy l l.length).1) (pI (Cy l l.length).2.1) (pI (Cy l l.length).2.2) (some (.own ((l.take (l.length-1)).map BX))) i2 j2 k2)) :
 X1 (fM w A s₀ s O) (GC w as bs I as.length bs.length qu (some (.val (.py (.list (l.map Fq))))) a b c d i j k x (pI (0:Nat)) (pI (0:Nat)) (pI (0:Nat)) (some (.own [])) none none none) (Z0 (BB 5 7) 9) P:=by
 delta w A s₀ s O as bs I mg mb xI l qu a b c d i j k x P at K T hk N room hl ap hP
 have hh:(fM w A s₀ s O).A.handled=none:=room.handled
 refine EO N (ds:=l.map Fq) (C3 N hh (Aa 4)) (λt σ=>∃(i2 j2 k2:Option Bd),Bx i2=true/\Bx j2=true/\Bx k2=true/\
  σ=GC w as bs I as.length bs.length qu (some (.val (.py (.list (l.map Fq))))) a b c d i j k x (pI (Cy l t).1) (pI (Cy l t).2.1) (pI (Cy l t).2.2) (some (.own ((l.take (t-1)).map BX))) i2 j2 k2) (FP none none none rfl rfl rfl rfl) ?_ ?_
 ·intro t dd σ1 hdd zz1;refine Cf zz1 λi2 j2 k2 h1 h2 h3 zz2=>?_;clear zz1;obtain rfl:=zz2
  rw[kc] at hdd
  refine Af (j8.mp hdd) λy hy zz1=>?_;obtain rfl:=zz1
  have hyl:t<l.length:=(jM.mp hy).1
  have hnext:Cy l (t+1)=y:=by show l.getD t (0,0,0)=y;rw[mW,hy];rfl
  generalize hp:Cy l t=p
  refine Ac _ (XC rfl K hk N hh [17,18,19] ⟨rfl,rfl,rfl,rfl,rfl,rfl,trivial⟩) ?_
  refine Ad (BI (b:=decide (((p.1:Nat):Int)+((p.2.2:Nat):Int)=(y.1:Nat))&&(decide (((p.2.1:Nat):Int)+((p.2.2:Nat):Int)=(y.2.1:Nat))&&true)) (By (AP (An (Bl (Aa 13) (Aa 15)) (Aa 17)) λ_=>AP (An (Bl (Aa 14) (Aa 15)) (Aa 18)) λ_=>BC)) (λh=>?_) (λh=>?_))
  ·simp only[kL,decide_eq_true_eq,and_true] at h
   cases t with
   | succ t=>
    exfalso
    have hpt:l[t]?=some p:=by
     have hp:l.getD t (0,0,0)=p:=hp
     rw[mW,jR (by rwa[hyl])] at hp
     rw[jR (by(clear_value *;lia))]
     exact congrArg some hp
    obtain⟨q1,q2⟩:=jM.mp hpt
    obtain⟨q3,q4⟩:=jM.mp hy
    have:=nF.mp ap.2 t (t+1) q1 q3 (by rwa[])
    rw[q2,q4] at this
    exact this ⟨by rwa[h],by rwa[h]⟩
   | zero=>
    have hp:(0,0,0)=p:=hp
    subst hp
    refine Ad (VH N 15 (a:=((0:Nat):Int)) rfl (Aa 19) (Aj (Aj (FP (pI y.1) (pI y.2.1) (pI y.2.2) rfl rfl rfl ?_))))
    rw[hnext]
    have e1:y.1=0:=by have:=h.1;simp at this;rwa[h]
    have e2:y.2.1=0:=by have:=h.2;simp at this;rwa[h]
    rw[e1,e2]
    have e3:((0:Nat):Int)+((y.2.2:Nat):Int)=((y.2.2:Nat):Int):=by simp
    show List.set (α:=Option Bd) _ 15 (some (Bd.val (AV.py (lY (((0:Nat):Int)+((y.2.2:Nat):Int))))))=_
    rw[e3]
    rfl
  ·refine Ad (BI (b:=(p.2.2:Int) != 0) (ID (Aa 15)) (λh'=>?_) (λh'=>?_))
   ·have hz:p.2.2≠0:=by simpa using h'
    cases t with
    | zero=>
     have hp:(0,0,0)=p:=hp
     subst hp
     exact absurd rfl hz
    | succ t=>
     have hpt:l[t]?=some p:=by
      have hp:l.getD t (0,0,0)=p:=hp
      rw[mW,jR (by rwa[hyl])] at hp
      rw[jR (by(clear_value *;lia))]
      exact congrArg some hp
     have ht:(l.take (t+1+1-1))=l.take (t+1-1)++[p]:=by
      show l.take (t+1)=l.take t++[p]
      rw[kQ,hpt];rfl
     refine Ad (AO N 16 (d:=BX p) (ds:=(l.take (t+1-1)).map BX) (Au (ds:=[.int p.1,.int p.2.1,.int p.2.2]) (Ab (Aa 13) (Ab (Aa 14) (Ab (Aa 15) Ah)))) (by rw[jK,lp];rwa[hl,hyl]) (Aj ?_))
     refine Ad (DB N hh [13,14,15] ["i1","j1","k1"] (Au (ds:=[.int y.1,.int y.2.1,.int y.2.2]) (Ab (Aa 17) (Ab (Aa 18) (Ab (Aa 19) Ah)))) ⟨rfl,rfl,rfl,rfl,rfl,rfl,trivial⟩ (Aj (Aj (FP (pI y.1) (pI y.2.1) (pI y.2.2) rfl rfl rfl ?_))))
     rw[hnext,ht,kB]
     rfl
   ·have hz:p.2.2=0:=by simpa using h'
    have ht:t=0:=by
     cases t with
     | zero=>rfl
     | succ t=>
      exfalso
      have hp:l.getD t (0,0,0)=p:=hp
      rw[mW,jR (by rwa[hyl])] at hp
      have:=ap.1 p (by rw[<-hp];exact tR _)
      (clear_value *;lia)
    subst ht
    refine Aj ?_
    refine Ad (DB N hh [13,14,15] ["i1","j1","k1"] (Au (ds:=[.int y.1,.int y.2.1,.int y.2.2]) (Ab (Aa 17) (Ab (Aa 18) (Ab (Aa 19) Ah)))) ⟨rfl,rfl,rfl,rfl,rfl,rfl,trivial⟩ (Aj (Aj (FP (pI y.1) (pI y.2.1) (pI y.2.2) rfl rfl rfl ?_))))
    rw[hnext]
    rfl
 ·intro σ1 zz1;refine Cf zz1 λi2 j2 k2 h1 h2 h3 zz2=>?_;clear zz1;obtain rfl:=zz2
  rw[jK]
  exact Aj (hP i2 j2 k2 h1 h2 h3)
noncomputable def Gg (as bs:List jZ):List A9:=bl as bs 0 as.length 0 bs.length++[(as.length,bs.length,0)]
theorem GV(as bs:List jZ):Hx as bs 0 as.length 0 bs.length (bl as bs 0 as.length 0 bs.length):=Ox as bs (as.length+1) 0 as.length 0 bs.length (by rwa[]) (kh _) (kh _)
theorem YN{w:jY}{A:kC}{s₀ s:jG}{O:Ap}{as bs:List jZ}{I:jN}{mg mb:jZ->Option jD}{xI:j6}(K:Bn w xI)(T:Br mg mb xI)(hgM:mg "Match"=some (.ref CM))(hk:HK xI s₀)
 (N:Nm (fM w A s₀ s O))(room:A0 (A.deeper (callEnvC (Bq (Dp w.params)) s.heap.objs.size 203)) 3)(lA:as.length<=63)(lB:bs.length<=63) :
 Ex (fM w A s₀ s O) [HN w as bs I,none,none,none,none,none,none,none,none,none,none,none,none,none,none,none,none,none,none,none] ((Am (BB 5 7)).take 12)
  (λaf σ'=>af=.next/\∃(mb a b c d i j k x i1 j1 k1 i2 j2 k2:Option Bd),Bx mb=true/\Bx a=true/\Bx b=true/\Bx c=true/\Bx d=true/\Bx i=true/\Bx j=true/\Bx k=true/\Bx x=true/\Bx i1=true/\Bx j1=true/\Bx k1=true/\Bx i2=true/\Bx j2=true/\Bx k2=true/\
   σ'=GC w as bs I as.length bs.length (some (.own [])) mb a b c d i j k x i1 j1 k1 (some (.own ((Gg as bs).map BX))) i2 j2 k2):=by
 delta w A s₀ s O as bs I mg mb xI at K T hgM hk N room lA lB
 have hh:(fM w A s₀ s O).A.handled=none:=room.handled
 have hz:∀l:List jZ,IX (.py (.list (l.map .str)))=some l.length:=λl=>by simp[IX]
 have row:=GV as bs
 have hbl:=row.len
 refine Ad (Iz ?_)
 refine Ad (BI (b:=false) (Tv.cast (Gr (c:=true) (W9 rfl K hk 0 rfl) Fu (λO h v r=>by obtain rfl:v=.none:=r;rfl) (λO h v r=>by obtain rfl:v=.none:=r;rfl)) rfl) (λh=>nomatch h) (λ_=>Aj ?_))
 refine Ad (DB N hh [1,2] ["la","lb"] (Au (ds:=[.int as.length,.int bs.length]) (Ab (Ds (A1 T hk) (Xb rfl K hk 0 rfl) (hz as) (by rwa[lA])) (Ab (Ds (A1 T hk) (Xa rfl K hk 0 rfl) (hz bs) (by rwa[lB])) Ah))) ⟨rfl,rfl,rfl,rfl,trivial⟩ ?_)
 refine Ad (Gn N 3 (CH (ds:=[FY (0,as.length,0,bs.length)]) (Ab (Au (ds:=[.int (0:Nat),.int as.length,.int (0:Nat),.int bs.length]) (Ab Ai (Ab (Aa 1) (Ab Ai (Ab (Aa 2) Ah))))) Ah) (jV rfl)) ?_)
 refine Ad (Gn N 4 (CH (ds:=[]) Ah (by decide)) ?_)
 refine Ad (U5 K T hgM hk N room lA lB _ λm a b c d i j k x hp h1 h2 h3 h4 h5 h6 h7 h8=>?_)
 have hml:=hp.length_eq
 refine Ad (VF rfl K hk (room.le (by rwa[])) N 4 rfl (by rwa[lA,hbl,hml]) hp row.asc ?_)
 refine Ad (Uy N 13 14 15 Ai ?_)
 refine Ad (Gn N 16 (CH (ds:=[]) Ah (by decide)) ?_)
 refine Ct N 4 ?_
 refine Ad (WP K T hk N room (bl as bs 0 as.length 0 bs.length) (by rwa[lA,hbl]) row.apart _ a b c d i j k x _ λi2 j2 k2 g1 g2 g3=>?_)
 generalize hl:bl as bs 0 as.length 0 bs.length=l at *
 have OI:∀(na:List jQ),na=l.map BX->Ex (fM w A s₀ s O) (GC w as bs I as.length bs.length (some (.own [])) (some (.val (.py (.list (l.map Fq))))) a b c d i j k x (pI (Cy l l.length).1) (pI (Cy l l.length).2.1) (pI (Cy l l.length).2.2) (some (.own na)) i2 j2 k2) (((Am (BB 5 7)).take 12).drop 11)
  (λaf σ'=>af=.next/\∃(mb a b c d i j k x i1 j1 k1 i2 j2 k2:Option Bd),Bx mb=true/\Bx a=true/\Bx b=true/\Bx c=true/\Bx d=true/\Bx i=true/\Bx j=true/\Bx k=true/\Bx x=true/\Bx i1=true/\Bx j1=true/\Bx k1=true/\Bx i2=true/\Bx j2=true/\Bx k2=true/\
   σ'=GC w as bs I as.length bs.length (some (.own [])) mb a b c d i j k x i1 j1 k1 (some (.own ((Gg as bs).map BX))) i2 j2 k2):=λna e=>by
  refine Ad (AO N 16 (d:=BX (as.length,bs.length,0)) (ds:=na) (Au (ds:=[.int as.length,.int bs.length,.int (0:Nat)]) (Ab (Aa 1) (Ab (Aa 2) (Ab Ai Ah)))) (by rw[e,jK];rwa[lA,hbl]) (Aj ⟨rfl,some (.val (.py (.list (l.map Fq)))),a,b,c,d,i,j,k,x,pI (Cy l l.length).1,pI (Cy l l.length).2.1,pI (Cy l l.length).2.2,i2,j2,k2,rfl,h1,h2,h3,h4,h5,h6,h7,h8,rfl,rfl,rfl,g1,g2,g3,?_⟩))
  unfold Gg
  rw[hl,kB,e]
  rfl
 refine Ad (BI (b:=((Cy l l.length).2.2:Int) != 0) (ID (Aa 15)) (λh'=>?_) (λh'=>?_))
 ·have hz:(Cy l l.length).2.2≠0:=by simpa using h'
  refine Ad (AO N 16 (d:=BX (Cy l l.length)) (ds:=(l.take (l.length-1)).map BX) (Au (ds:=[.int (Cy l l.length).1,.int (Cy l l.length).2.1,.int (Cy l l.length).2.2]) (Ab (Aa 13) (Ab (Aa 14) (Ab (Aa 15) Ah)))) (by rw[jK,lp];rwa[lA,hbl]) (Aj (OI _ ?_)))
  cases hll:l.length with
  | zero=>rw[hll] at hz;exact absurd rfl hz
  | succ n=>
   show(l.take n).map BX++[BX (l.getD n (0,0,0))]=_
   have:l=l.take n++[l.getD n (0,0,0)]:=by
    conv=>lhs;rw[<-lD (l:=l),hll,kQ,jR (by rwa[hll])]
    rw[mW,jR (by rwa[hll])];rfl
   conv=>rhs;rw[this,kB]
   rfl
 ·have hz:(Cy l l.length).2.2=0:=by simpa using h'
  refine Aj (OI _ ?_)
  have:l=[]:=by
   cases hll:l.length with
   | zero=>exact qc hll
   | succ n=>
    exfalso
    rw[hll] at hz
    have e:Cy l (n+1)=l[n]'(by rwa[hll]):=by show l.getD n (0,0,0)=_;rw[mW,jR (by rwa[hll])];rfl
    rw[e] at hz
    have:=row.pos (l[n]'(by(clear_value *;lia))) (tR _)
    (clear_value *;lia)
  rw[this];rfl
section
variable {w:jY} {A:kC} {E:jD->jG->Prop} {s:jG}
theorem UB:qz "tuple.__len__"=some .slot:=by decide +kernel
theorem QS:wt "tuple.__len__"=some ("tuple","__len__"):=by decide +kernel
theorem UC(self:jD):bindSpecial (.builtin "tuple.__len__") self=pure (.builtin "tuple.__len__",[self]):=uU.bind self
theorem aj{a:jN}{o:nJ}{vs:Array jD}{n:Nat}{Q:jD->jG->Prop}(K:Bn w s.heap)(ho:s.heap.get? a=some o)(hc:o.cls=.ref CM)(hd:o.data=.seq vs n)(hs:vs.size<1000)
 (h:Q (.int vs.size (s.toks+1)) {s with toks:=s.toks+1+1}):wpAny (model pw w) A (call (.builtin "len") [.ref a]) Q E s:=by
 delta w A E s a o vs n Q at K ho hc hd hs h
 have L:mF (model pw w) s.heap (specialOf (.ref a) "__len__") (some (.builtin "tuple.__len__")):=by
  unfold specialOf
  exact(hc▸(oQ ho).andThen .now:mF (model pw w) s.heap (typeOf (.ref a)) (.ref CM)).andThen (pY K.k (by kernel_rfl))
 have LI:mF (model pw w) s.heap (isInstance (.ref a) (.type "tuple")) true:=(hc▸(oQ ho).andThen .now:mF (model pw w) s.heap (typeOf (.ref a)) (.ref CM)).andThen (qB K.k (by kernel_rfl))
 refine Calls.call_function_entry kind_len plain_len entry_len (args_len1 _) ?_
 unfold ko.«len»
 refine jC (m:=oneArg "len" _) (jL ?_)
 unfold callSpecial?
 refine jC (jC (L.here ?_))
 dsimp only
 refine kG ?_
 rw[UC]
 refine jC (jL (jC (mU ?_)))
 refine sX uU.plain PySem.F.entry_tuple_len (@tY _ _ _ _ _ _ _ _ _ _ _ UB QS LI (PySem.F.args_tuple_len_1 _) ?_)
 show wpAny _ _ (nh "__len__" 0 ⟨[.ref a],[]⟩>>=_) _ _ _
 refine jC (lC (show nh "__len__" 0 ⟨[.ref a],[]⟩=pure (.ref a,[]) by kernel_rfl) ?_)
 dsimp only
 refine jC (show wpAny _ _ (rW (.ref a)>>=_) _ _ _ from jC (mZ ho hd (jL ?_)))
 refine jC (wpAny_mkInt (jL ?_))
 refine jL ?_
 dsimp only
 refine jC (kG (jL ?_))
 refine jC (uZ ?_)
 show wpAny _ _ (if((vs.size:Nat):Int)<0 then _ else _) _ _ _
 rw[if_neg (by rwa[])]
 show wpAny _ _ (if((vs.size:Nat):Int)>=2^63 then _ else _) _ _ _
 rw[if_neg (by rwa[hs])]
 exact jC (wpAny_mkInt (jL (Ac _ rfl h)))
end
section
variable {Γ:Cx} {σ:AX}
theorem Xf{f e:kJ}{i j k:Int}{xI:j6}{pos:mi}(hw:Γ.prog=pw)(K:Bn Γ.w xI)(hk:HK xI Γ.s₀)(hf:Ev Γ σ f (.raw (.builtin "len")))(he:Ev Γ σ e (.py (Qi i j k)))(hp:autoParam (AE e=true) aR)
 (hee:autoParam (eval (.Call f [e] [] pos) Γ.env=(do kY pos (<-eval f Γ.env) [] (backTo pos (starEach [e] Γ.env)) (ma pos (ly [] Γ.env)))) aR):Ev Γ σ (.Call f [e] [] pos) (.py (.int 3)):=by
 intro O s Q E t q
 refine qS (hf O s _ E t λv s1 t1 k1 r1=>?_) hee
 obtain rfl:v=.builtin "len":=r1
 refine callWith_builtin (Bh (by rw[lE,hp];rfl)) (AL (by rw[lE,hp];rfl) (Ab he Ah hp O s1 _ _ E t1 λus s2 t2 k2 r2=>?_))
 refine Af r2.one λu zz1 ru=>?_;obtain rfl:=zz1
 refine W2 (Ra ru) λa o vs n as zz1 ho hc hd rs _ _=>?_;obtain rfl:=zz1
 have hsz:vs.size=3:=by have:=Al rs;simpa using this
 have K2:Bn Γ.w s2.heap:=K.keeps λb o e=>t2.keep _ _ (hk b o e)
 rw[hw]
 refine aj K2 ho hc hd (by rwa[hsz]) ?_
 rw[hsz]
 have kk:=Keeps.tr (Keeps.tr k1 k2) (Keeps.rfl' (tk:=s2.toks+1+1))
 exact q _ _ (t.of_keeps kk) kk (VR.int ..)
end
theorem f6(P:jE):Bf (Bq (Jt P)) (Am (BB 3 5)) ["cls","iterable"] ["cls","iterable","result"]:=.of' rfl rfl rfl (by decide +kernel)
theorem aU(P:jE)(u v:jD):l6 (Bq (Jt P)) ⟨[u,v],[]⟩=pure [((jB "cls"),u),((jB "iterable"),v)]:=by rfl
section
open PySem.Builtin
theorem T6:mroOf (.type "map")=pure [.type "map",.type "object"]:=by rw[mroOf_type];kernel_rfl
theorem IU:typeLookup (.type "map") "__new__"=pure (some (.builtin "map.__new__")):=by rw[lU,lf];kernel_rfl
theorem JX:Slot "map" "__init__" "object.__init__":=
 .of (owner:="object") (n:="__init__") (by rw[lU,lf];kernel_rfl) (by decide +kernel) (by decide +kernel) (by decide +kernel) (by first|exact .inl (by decide +kernel)|exact .inr (by decide +kernel)) (by rw[mK];kernel_rfl)
theorem RD:TypeCalled "map" "map.__new__" "object.__init__":=
 ⟨by decide +kernel,by decide +kernel,(AS _ _ T6),madeBy_type T6 IU (by decide +kernel),by decide +kernel,by rw[mK];kernel_rfl,JX⟩
theorem NU(a b:jD):checkTypeCall "map" ⟨[a,b],[]⟩=pure ():=by kernel_rfl
theorem O8(a b:jD):checkBuiltinCall "map.__new__" ⟨[.type "map",a,b],[]⟩=pure ():=by kernel_rfl
theorem Ke:uu table "map.__new__"=some ko.«map.__new__»:=rX (by kernel_rfl)
theorem Fc:uu table "map.__next__"=some ko.«map.__next__»:=rX (by kernel_rfl)
theorem XD(a b c:jD):sx "object.__init__" ⟨[a,b,c],[]⟩:=Ut a [b,c]
theorem CD:Slot "map" "__next__" "map.__next__":=
 .of (owner:="map") (n:="__next__") (by rw[lU,lf];kernel_rfl) (by decide +kernel) (by decide +kernel) (by decide +kernel) (by first|exact .inl (by decide +kernel)|exact .inr (by decide +kernel)) (by rw[mK];kernel_rfl)
theorem FC:Slot "map" "__iter__" "map.__iter__":=
 .of (owner:="map") (n:="__iter__") (by rw[lU,lf];kernel_rfl) (by decide +kernel) (by decide +kernel) (by decide +kernel) (by first|exact .inl (by decide +kernel)|exact .inr (by decide +kernel)) (by rw[mK];kernel_rfl)
theorem FU(a:jD):sx "map.__next__" ⟨[a],[]⟩:=by unfold sx;kernel_rfl
theorem Kg(a:jD):sx "map.__iter__" ⟨[a],[]⟩:=by unfold sx;kernel_rfl
theorem Jb:uu table "map.__iter__"=some ko.«dict_keyiterator.__iter__»:=
 entryFor_alias (id':="dict_keyiterator.__iter__") (by kernel_rfl) (by decide +kernel) (by decide +kernel) (by kernel_rfl)
theorem UX:typeLookup (.type "map") "__len__"=pure none:=by rw[lU,lf];kernel_rfl
theorem Rb:typeLookup (.type "map") "__length_hint__"=pure none:=by rw[lU,lf];kernel_rfl
theorem X2:isSubtype (.type "map") (.type "map")=pure true:=by rw[mK];kernel_rfl
noncomputable def Pc (h:j6) (l:jN):j6:=h.push {cls:=.type "list_iterator",data:=.fields #[.ref l,.int 0 0]}
noncomputable def Kt (h:j6) (l:jN):j6:=(Pc h l).push {cls:=.type "tuple",data:=.seq #[.ref h.objs.size]}
noncomputable def Pb (h:j6) (l:jN) (f:jD):j6:=(Kt h l).push {cls:=.type "map",data:=.fields #[.ref (Pc h l).objs.size,f]}
theorem J3(f:jD)(l:jN)(items:Array jD)(n:Nat) :
 Meets (ko.«map.__new__» ⟨[.type "map",f,.ref l],[]⟩) (λ_ R s=>s.heap.get? l=some {cls:=.type "list",dict:=none,data:=.seq items n,slots:=#[]}/\
  R (.ok (.ret (.ref (Kt s.heap l).objs.size))) {s with heap:=Pb s.heap l f}):=
 .of_wp λprog w A R s h=>by
  obtain⟨hp,g,d,tk,os⟩:=s;refine Cg h λhl h=>?_
  have hsub:=X2
  have hL:Heap.IsList (Shared.heap ⟨hp,g,d,tk,os⟩) l items:=⟨_,hl,rfl,n,rfl⟩
  wp_walk using oK hl,wpAny_pyIter_list hL
  exact Ac _ rfl h
section
variable {prog:lF} {w:jY} {A:kC} {E:jD->jG->Prop} {s:jG}
theorem Xs{f:jD}{l:jN}{items:Array jD}{n:Nat}{Q:jD->jG->Prop}(hl:s.heap.get? l=some {cls:=.type "list",dict:=none,data:=.seq items n,slots:=#[]})
 (h:Q (.ref (Kt s.heap l).objs.size) {s with heap:=Pb s.heap l f}):wpAny (model prog w) A (call (.type "map") [f,.ref l]) Q E s:=
 callType_new RD (by decide) (NU _ _) (O8 _ _) (λobj=>XD obj _ _) Ke (J3 f l items n) ⟨hl,(Ac _ (jS _ rfl) rfl),h⟩
end
structure C7 (h:j6) (M T it l p:jN) (items:Array jD) (n i:Nat):Prop where
 map:h.get? M=some {cls:=.type "map",data:=.fields #[.ref T,.ref p]}
 tup:h.get? T=some {cls:=.type "tuple",data:=.seq #[.ref it]}
 iter:h.IsListIter it l i
 list:h.get? l=some {cls:=.type "list",dict:=none,data:=.seq items n,slots:=#[]}
 fn:h.get? p=some (rY (.ref 89) (.ref CM))
 ne1:it≠M
 ne2:it≠T
 ne3:it≠l
 ne4:it≠p
theorem C7.keeps{h h':j6}{M T it l p:jN}{items:Array jD}{n i:Nat}(m:C7 h M T it l p items n i)(k:∀b o,h.get? b=some o->h'.get? b=some o):C7 h' M T it l p items n i:=
 ⟨k _ _ m.map,k _ _ m.tup,Af m.iter λo e r=>(Ac o (k _ _ e) r),k _ _ m.list,k _ _ m.fn,m.ne1,m.ne2,m.ne3,m.ne4⟩
section
variable {w:jY} {A:kC} {E:jD->jG->Prop} {s:jG} {M T it l p:jN} {items:Array jD} {n i:Nat}
theorem WB{x:jD}{Q:Option jD->jG->Prop}(m:C7 s.heap M T it l p items n i)(hx:items[i]?=some x)
 (h:∀h',C7 h' M T it l p items n (i+1)->ou it s.heap h'->wpAny (model pw w) A.in1 (call (.ref p) [x]) (λv s'=>Q (some v) s') (λ_ _=>False) {s with heap:=h'}):wpAny (model pw w) A (pyNext (.ref M)) Q E s:=by
 have hT:s.TypeIs (.ref M) "map":=Ac _ m.map rfl
 unfold pyNext
 refine jC (pC (m6 (name:=jB "__next__") hT CD (lJ CD hT Fc ?_ (FU _))))
 unfold ko.«map.__next__»
 refine jC (lC (show nh "__next__" 0 ⟨[.ref M],[]⟩=pure (.ref M,[]) by kernel_rfl) ?_)
 dsimp only
 refine jC (nU m.map rfl (x:=.ref T) rfl ?_)
 refine jC (mZ m.tup rfl ?_)
 dsimp only
 have e0:(#[kz it]:Array jD)=[kz it].toArray:=rfl
 rw[e0,sR,mX]
 refine jC (jC (jC (kG (wpAny_nextOf_list_item m.iter ⟨_,m.list,rfl,_,rfl⟩ hx λh' hit hs=>?_))))
 have m':C7 h' M T it l p items n (i+1):=⟨(hs.2 M (ln m.ne1)).trans m.map,(hs.2 T (ln m.ne2)).trans m.tup,hit,(hs.2 l (ln m.ne3)).trans m.list,(hs.2 p (ln m.ne4)).trans m.fn,m.ne1,m.ne2,m.ne3,m.ne4⟩
 refine jL ?_
 dsimp only
 rw[uL]
 refine jL ?_
 refine jC (nU m'.map rfl (x:=.ref p) rfl ?_)
 refine jC (kG (lT (h h' m' hs) (λv s' hq=>?_) λ_ _ z=>z.elim))
 refine jC (uZ ?_)
 exact jL (Ac v rfl (jL hq))
theorem Yu{Q:Option jD->jG->Prop}(hh:A.handled=none)(m:C7 s.heap M T it l p items n i)(hx:items[i]?=none)
 (h:∀h',ub it s.heap h'->Q none {s with heap:=h'}):wpAny (model pw w) A (pyNext (.ref M)) Q E s:=by
 have hT:s.TypeIs (.ref M) "map":=Ac _ m.map rfl
 unfold pyNext
 refine jC (pC (m6 (name:=jB "__next__") hT CD (lJ CD hT Fc ?_ (FU _))))
 unfold ko.«map.__next__»
 refine jC (lC (show nh "__next__" 0 ⟨[.ref M],[]⟩=pure (.ref M,[]) by kernel_rfl) ?_)
 dsimp only
 refine jC (nU m.map rfl (x:=.ref T) rfl ?_)
 refine jC (mZ m.tup rfl ?_)
 dsimp only
 have e0:(#[kz it]:Array jD)=[kz it].toArray:=rfl
 rw[e0,sR,mX]
 refine jC (jC (jC (kG (wpAny_nextOf_list_end hh m.iter ⟨_,m.list,rfl,_,rfl⟩ hx λh' e hs he=>?_))))
 refine Af he λoe ho hc=>?_
 refine jC (wpAny_isInstance (T:="StopIteration") (b:=true) (Ac _ ho hc) isSubtype_stop ?_)
 exact jL (h h' hs)
theorem WA{Q:jD->jG->Prop}(m:C7 s.heap M T it l p items n i)(h:Q (.ref M) s):wpAny (model pw w) A (pyIter (.ref M)) Q E s:=by
 have hT:s.TypeIs (.ref M) "map":=Ac _ m.map rfl
 refine wpAny_pyIter_slot hT FC (lJ FC hT Jb ?_ (Kg _))
 refine lT (Q:=λOI s'=>OI=.done (.ret (.ref M))/\s'=s) (E:=λ_ _=>False) ?_ (λOI s' hq=>?_) λ_ _ z=>z.elim
 ·show wpAny _ _ (nh "__iter__" 0 ⟨[.ref M],[]⟩>>=_) _ _ _
  refine jC (lC (show nh "__iter__" 0 ⟨[.ref M],[]⟩=pure (.ref M,[]) by kernel_rfl) ?_)
  exact jL ⟨rfl,rfl⟩
 ·obtain⟨rfl,rfl⟩:=hq
  exact⟨_,rfl,"map",_,hT,CD.lookup,h⟩
end
end
section
open PySem.Builtin
theorem UY{w:jY}{A:kC}{xI:j6}{mg mb:jZ->Option jD}{s:jG}{O:Ap}{x:jD}{R:td->jG->Prop}(K:Bn w xI)(T:Br mg mb xI)(room:A0 A 1)(hk:HK xI s)(own:CJ O s){i j k:Int}(rx:VR O s.heap (.py (.tuple [.int i,.int j,.int k])) x)
 (q:∀v s',kZ s s'->VR O s'.heap (.py (Qi i j k)) v->R (.ok (.ret v)) s'):codeAny (model pw w) A (.call (.ref 89) ⟨[.ref CM,x],[]⟩) R s:=by
 refine Ho (s₀:=s) (avs:=[.raw (.ref CM),.py (.tuple [.int i,.int j,.int k])]) (vs:=[.ref CM,x]) (n:=0) (f6 w.params) (K.get 89 (o:=Jt w.params) (by kernel_rfl)) (by kernel_rfl) T.gl.nolimit (tX K.k (by kernel_rfl)) room hk own (λ_ _ e=>e) own.live (.of_eq (aU _ _ _)) rfl ⟨rfl,rx,trivial⟩ λN rm s1 E' t k1=>?_
 have body:Ex (CF pw w A s s (Bq (Jt w.params)) 89 ["cls","iterable","result"] O) (Bi [.raw (.ref CM),.py (.tuple [.int i,.int j,.int k])] 1) (Am (BB 3 5)) (λaf _=>af=.ret (.py (Qi i j k))):=by
  refine Ad (Iz ?_)
  refine Ad (At N 2 (Kz (mg:=mg) (mb:=mb) rfl K hk (A1 T hk) (Aa 0) (Aa 1)) ?_)
  refine Ad (BI (b:=!decide ((3:Int)=3)) (An (Xf rfl K hk (A1 T hk) (Aa 2)) Ai) (λh=>nomatch h) (λ_=>Aj ?_))
  exact Ad (AQ (Aa 2) rfl)
 refine body _ s1 _ E' t λO' fl af σ' s' f t' fr p=>?_
 subst p
 refine Af fr λv zz1 zr0=>Af zr0 λas r qa=>?_;obtain rfl:=zz1
 refine q v s' ?_ (Ac as r λb hb hO=>qa b hb (t'.sub b (Af hO λp hp e=>(Ac p (.tail _ hp) e))))
 refine Ao k1 λh1 tk1 zz1 _=>?_;clear k1;obtain rfl:=zz1
 refine B1 f.alike λh2 tk2 zz1=>?_;obtain rfl:=zz1
 exact AT h2 tk2 rfl t'.keep
end
section
open PySem.Builtin
noncomputable abbrev Iv (acc:Array jD) (c:Nat):nJ:={cls:=.type "list",dict:=none,data:=.seq acc c,slots:=#[]}
structure bx (O:Ap) (s₀ s:jG) (S M T it l p:jN) (items:Array jD) (n:Nat) (ts:List A9) (i:Nat) (acc:Array jD) (c:Nat):Prop where
 al:AI s₀ s
 old:∀b o,s₀.heap.get? b=some o->s.heap.get? b=some o
 m:C7 s.heap M T it l p items n i
 lst:s.heap.get? S=some (Iv acc c)
 rd:∃as,Ae s.heap acc.toList ((ts.take i).map Fq) as/\∀b∈as,¬O.has b/\b≠S/\b≠it
theorem WZ{w:jY}{A:kC}{xI:j6}{mg mb:jZ->Option jD}{s₀:jG}{O:Ap}{S M T it l p:jN}{items:Array jD}{n:Nat}{ts:List A9}{res:jD}{R:td->jG->Prop}{ias:List jN}
 (K:Bn w xI)(T':Br mg mb xI)(room:A0 A.in1.in1 1)(hk:HK xI s₀)(own:CJ O s₀)(ri:Ae s₀.heap items.toList (ts.map BX) ias)(hi:∀b∈ias,¬O.has b)(hz:ts.length<=1000)
 (sS:s₀.heap.get? S=none)(sI:s₀.heap.get? it=none)(neS:S≠it)(neS2:S≠M)(neS3:S≠T)(neS4:S≠l)(neS5:S≠p)
 (q:∀s acc c,AI s₀ s->(∀b o,s₀.heap.get? b=some o->s.heap.get? b=some o)->s.heap.get? S=some (Iv acc c)->(∃as,Ae s.heap acc.toList (ts.map Fq) as/\∀b∈as,¬O.has b/\b≠S)->R (.ok (.ret res)) s) :
 ∀(k i:Nat) (s:jG) (acc:Array jD) (c:Nat),ts.length-i=k->i<=ts.length->bx O s₀ s S M T it l p items n ts i acc c->codeAny (model pw w) A (.builtin "list.extend.loop" ⟨[.ref S,.ref M,res],[]⟩) R s:=by
 delta w A xI mg mb s₀ O S M T it l p items n ts res R ias at K T' room hk own ri hi hz sS sI neS neS2 neS3 neS4 neS5 q
 have hlen:items.size=ts.length:=by rw[<-kn,Al ri,jK]
 intro k
 induction k with
 | zero=>
  intro i s acc c hk' hin L
  obtain rfl:i=ts.length:=by rwa[hk',hin]
  refine pF uk ?_
  rw[nE oV _]
  show wpAny _ A.in1 (pyNext (.ref M)>>=_) _ _ s
  refine jC (Yu room.handled L.m (by rw[vn (by rwa[hlen])]) λh' he=>?_)
  refine jL ?_
  refine Af L.rd λas r1 q1=>?_
  rw[lD] at r1
  refine q _ acc c (L.al.tr (AS _ _ rfl)) (λb o e=>he b o (λz=>by rw[z,sI] at e;exact B6 e) (L.old b o e)) (he S _ neS L.lst) (Ac as ?_ λb hb=>⟨(q1 b hb).1,(q1 b hb).2.1⟩)
  refine Aq (L:=it) (λb hb o e=>he b o hb e) ?_ r1 λhm=>(q1 it hm).2.2 rfl
  rintro o e ⟨hc,_⟩
  refine Bu L.m.iter λo' e' c' _=>?_
  (replace e':=CQ e e';subst e')
  rw[hc] at c';exact absurd c' (by decide)
 | succ k ih=>
  intro i s acc c hk' hin L
  have hlt:i<ts.length:=by rwa[hk',hin]
  obtain⟨x,hx⟩:∃x,items[i]?=some x:=Ag _ (oZ (by rwa[hlen,hin,hlt]))
  refine pF uk ?_
  rw[nE oV _]
  show wpAny _ A.in1 (pyNext (.ref M)>>=_) _ _ s
  refine jC (WB L.m hx λh' m' hs=>?_)
  refine Af L.rd λas r1 q1=>?_
  have nT:∀o,s.heap.get? it=some o->¬(o.cls=.type "tuple"/\∃vs n,o.data=.seq vs n):=by
   rintro o e ⟨hc,_⟩
   refine Bu L.m.iter λo' e' c' _=>?_
   (replace e':=CQ e e';subst e')
   rw[hc] at c';exact absurd c' (by decide)
  have g1:∀b,b≠it->∀o,s.heap.get? b=some o->h'.get? b=some o:=AJ hs
  have old1:∀b o,s₀.heap.get? b=some o->h'.get? b=some o:=λb o e=>g1 b (λz=>by rw[z,sI] at e;exact B6 e) o (L.old b o e)
  have r2:Ae h' acc.toList ((ts.take i).map Fq) as:=Aq g1 nT r1 λhm=>(q1 it hm).2.2 rfl
  have hd:(ts.map BX)[i]?=some (BX ts[i]):=by rw[kc,jR hlt];rfl
  refine BD (B4 ri hd) λv bs e1 rv qv=>?_
  rw[oJ,hx] at e1
  (replace e1:=si e1;subst e1)
  refine mU (method_call (s:={s with heap:=h'}) m'.fn ?_)
  refine UY (s:={s with heap:=h'}) (O:=O) (i:=ts[i].1) (j:=ts[i].2.1) (k:=ts[i].2.2) K T' room (λb o e=>old1 b o (hk b o e)) ⟨own.nodup,λp hp=>AR (own.live p hp) λo e=>(Ag o (old1 _ _ e))⟩ (Ac bs (Ak.keeps old1 rv) λb hb=>hi b (qv b hb)) λv s2 k2 r3=>?_
  have o2:∀b o,h'.get? b=some o->s2.heap.get? b=some o:=Aw k2
  refine W2 (Ra r3) λa o vs nn as2 zz1 ho hc hdd rs2 ha qs2=>?_;obtain rfl:=zz1
  have S2:s2.heap.get? S=some (Iv acc c):=o2 _ _ (g1 S neS _ L.lst)
  have m2:C7 s2.heap M T it l p items n (i+1):=m'.keeps o2
  have aS:a≠S:=λz=>by rw[z,S2] at ho;(replace ho:=si ho;subst ho);exact absurd (show jX "list"=kz CM from hc) (by decide)
  have aI:a≠it:=λz=>by
   refine Bu m2.iter λo' e' c' _=>?_
   rw[z,e'] at ho;(replace ho:=sj ho;subst ho)
   rw[c'] at hc;exact absurd hc (by decide)
  obtain⟨av,rav,qav⟩:∃av,Ak s2.heap (.ref a) (Fq ts[i]) av/\∀b∈av,b=a:=by
   refine Ac [a] ?_ λb hb=>jJ.mp hb
   have e0:as2=[]:=by
    refine Cz (AK rs2) λ_ _ _ _ hv ra r1' e1'=>?_
    refine Cz (AK r1') λ_ _ _ _ hv2 rb r2' e2'=>?_
    refine Cz (AK r2') λ_ _ _ _ hv3 rc r3' e3'=>?_
    obtain hv4:=Bg r3'
    subst hv4
    cases ra;cases rb;cases rc;cases r3'
    rw[e1',e2',e3'];rfl
   rw[e0] at rs2
   exact .mt ho hc hdd rs2
  show wpAny _ A.in1 (wh S (·.push (.ref a))>>=_) _ _ _
  have hacc:acc.size=i:=by rw[<-kn,Al r1,jK,lp];rwa[hin]
  refine jC ?_
  refine sC S2 rfl (jL ⟨tO oV _,?_⟩) (by rw[hacc,sizeLine_eq];(clear_value *;lia)) (by show(acc.push _).size<=sizeLine+1;rw[w0,hacc,sizeLine_eq];(clear_value *;lia))
  have S3:=mN (kE (·.push (kz a))) S2 rfl
  have g3:∀b,b≠S->∀o,s2.heap.get? b=some o->(s2.heap.update S (kE (·.push (kz a)))).get? b=some o:=λb hb o e=>(mn _ _ _ _ hb).trans e
  have nS:∀o,s2.heap.get? S=some o->¬(o.cls=.type "tuple"/\∃vs n,o.data=.seq vs n):=by
   rintro o e ⟨hc,_⟩
   (replace e:=CQ S2 e;subst e)
   exact absurd (show jX "list"=jX "tuple" from hc) (by decide)
  refine ih (i+1) _ (acc.push (.ref a)) _ (by(clear_value *;lia)) hlt ⟨(L.al.tr (AS h' s.toks rfl)).tr ((Bc k2).tr (AS _ _ rfl)),λb o e=>g3 b (λz=>by rw[z,sS] at e;exact B6 e) o (o2 _ _ (old1 b o e)),?_,S3,?_⟩
  ·refine Af m2.iter λo' e' r'=>?_
   exact⟨g3 _ (ln neS2) _ m2.map,g3 _ (ln neS3) _ m2.tup,(Ac o' (g3 _ (ln neS) _ e') r'),g3 _ (ln neS4) _ m2.list,g3 _ (ln neS5) _ m2.fn,m2.ne1,m2.ne2,m2.ne3,m2.ne4⟩
  ·refine Ac (as++av) ?_ λb hb=>?_
   ·rw[qT,kQ,jR hlt,kB]
    exact DZ (Bo g3 nS rav λhm=>aS (qav S hm).symm) (Aq g3 nS (Ae.keeps o2 r2) λhm=>(q1 S hm).2.1 rfl)
   ·rcases jW.mp hb with hb|hb
    ·exact q1 b hb
    ·rw[qav b hb];exact⟨ha,aS,aI⟩
end
section
open PySem.Builtin
theorem Kf{w:jY}{A:kC}{xI:j6}{mg mb:jZ->Option jD}{s₀ s:jG}{O:Ap}{M T it l p:jN}{items:Array jD}{n:Nat}{ts:List A9}{ias:List jN}{Q:jD->jG->Prop}{E:jD->jG->Prop}
 (K:Bn w xI)(T':Br mg mb xI)(room:A0 A.in1.in1.in1 1)(hk:HK xI s₀)(own:CJ O s₀)(ri:Ae s₀.heap items.toList (ts.map BX) ias)(hi:∀b∈ias,¬O.has b)(hz:ts.length<=1000)
 (sI:s₀.heap.get? it=none)(al:AI s₀ s)(old:∀b o,s₀.heap.get? b=some o->s.heap.get? b=some o)(m:C7 s.heap M T it l p items n 0)
 (q:∀S s' acc c,AI s₀ s'->(∀b o,s₀.heap.get? b=some o->s'.heap.get? b=some o)->s₀.heap.get? S=none->s'.heap.get? S=some (Iv acc c)->(∃as,Ae s'.heap acc.toList (ts.map Fq) as/\∀b∈as,¬O.has b/\b≠S)->Q (.ref S) s') :
 wpAny (model pw w) A (call (.type "list") [.ref M]) Q E s:=by
 delta w A xI mg mb s₀ s O M T it l p items n ts ias Q E at K T' room hk own ri hi hz sI al old m q
 refine callType_codes (Q₁:=λobj xL=>obj=.ref s.heap.objs.size/\xL={s with heap:=s.heap.push {cls:=.type "list",data:=.seq #[]}}) PySem.F.called_list (PySem.F.typeCall_list_1 _) PySem.F.entry_list_init
  (code_list_new _ ⟨rfl,rfl⟩) λobj xL xK=>?_
 obtain⟨rfl,rfl⟩:=xK
 have hS:(s.heap.push {cls:=.type "list",data:=.seq #[]}).get? s.heap.objs.size=some {cls:=.type "list",data:=.seq #[]}:=jS _ rfl
 have s0S:s.heap.get? s.heap.objs.size=none:=Bk (jP _)
 have sS:s₀.heap.get? s.heap.objs.size=none:=gn λo e=>by have:=old _ _ e;exact B0 s0S this
 have m1:C7 (s.heap.push {cls:=.type "list",data:=.seq #[]}) M T it l p items n 0:=m.keeps λb o e=>jH _ e
 have ne:∀{b:jN} {o:nJ},s.heap.get? b=some o->s.heap.objs.size≠b:=λe z=>by rw[<-z,s0S] at e;exact B6 e
 refine Af m.iter λoi ei ri'=>?_
 have old1:∀b o,s₀.heap.get? b=some o->(s.heap.push {cls:=.type "list",data:=.seq #[]}).get? b=some o:=λb o e=>jH _ (old b o e)
 generalize hSg:s.heap.objs.size=S at *
 generalize hhg:s.heap.push {cls:=.type "list",data:=.seq #[]}=hh at *
 refine⟨(Ac _ hS rfl),PySem.F.args_list_init_2 _ _,?_⟩
 show wpAny _ A.in1.in1 (do let old<-tQ (.ref S);qr (.ref S) (λ_=>#[]);letGo old.toList.reverse;pN (.ref S) (.ref M) .none) _ _ _
 refine jC ?_
 unfold tQ
 refine jC (mZ hS rfl (jL ?_))
 show wpAny _ A.in1.in1 (wh S (λ_=>#[])>>=λ_=>letGo (#[]:Array jD).toList.reverse>>=λ_=>pN (.ref S) (.ref M) .none) _ _ _
 refine jC (sC hS rfl ?_)
 have x4:=mN (kE (λ_=>(#[]:Array jD))) hS rfl
 refine jC (uZ ?_)
 have gu:∀(h:j6) (f:Array jD->Array jD) b,b≠S->∀o,h.get? b=some o->(h.update S (kE f)).get? b=some o:=λh f b hb o e=>(mn _ _ _ _ hb).trans e
 have mu:∀(h:j6) (f:Array jD->Array jD),C7 h M T it l p items n 0->C7 (h.update S (kE f)) M T it l p items n 0:=λh f m=>by
  refine Af m.iter λo' e' r'=>?_
  exact⟨gu _ _ _ (ln (ne ‹C7 s.heap M T it l p items n 0›.map)) _ m.map,gu _ _ _ (ln (ne ‹C7 s.heap M T it l p items n 0›.tup)) _ m.tup,(Ac o' (gu _ _ _ (ln (ne ei)) _ e') r'),gu _ _ _ (ln (ne ‹C7 s.heap M T it l p items n 0›.list)) _ m.list,gu _ _ _ (ln (ne ‹C7 s.heap M T it l p items n 0›.fn)) _ m.fn,m.ne1,m.ne2,m.ne3,m.ne4⟩
 have m2:=mu _ (λ_=>(#[]:Array jD)) m1
 have hT:({s with heap:=hh.update S (kE λ_=>(#[]:Array jD))}:jG).TypeIs (.ref M) "map":=Ac _ m2.map rfl
 unfold pN
 refine jC (sq hT ?_)
 have h1:tz (.ref S) (.ref M)=false:=by simp[tz,ne m.map]
 have h2:(jX "map" == jX "list")=false:=by decide
 have h3:(jX "map" == jX "tuple")=false:=by decide
 simp only[h1,h2,h3,Bool.or_false,nq,if_false]
 refine jC (WA (s:={s with heap:=hh.update S (kE λ_=>(#[]:Array jD))}) m2 ?_)
 refine jC (kG ?_)
 unfold Builtin.List.listLengthHint
 refine jC (ve hT UX ?_)
 show wpAny _ A.in1.in1 (specialOf (kz M) (jB "__length_hint__")>>=_) _ _ _
 refine jC (ve hT Rb ?_)
 refine jL ?_
 show wpAny _ A.in1.in1 (rule "list.extend.makes-room">>=λ_=>Builtin.List.listTouch (.ref S)>>=λ_=>again (.builtin "list.extend.loop" ⟨[.ref S,.ref M,.none],[]⟩)) _ _ _
 refine jC (sr ?_)
 refine jC ?_
 show wpAny _ A.in1.in1 (wh S (·.push .none)>>=λ_=>wh S (·.pop)) _ _ _
 refine jC (sC x4 rfl ?_)
 have x5:=mN (kE (·.push jF)) x4 rfl
 refine sC (hz:=by seq_fits) x5 rfl ?_
 have yf:=mN (kE (·.pop)) x5 rfl
 have m3:=mu _ (λxs=>xs.pop) (mu _ (λxs=>xs.push jF) m2)
 refine jL ⟨tO oV _,?_⟩
 refine WZ (A:=A.in1) K T' room hk own ri hi hz sS sI (ne ei) (ne m.map) (ne m.tup) (ne m.list) (ne m.fn) (λs' acc c a1 a2 a3 a4=>⟨rfl,q S s' acc c a1 a2 sS a3 a4⟩) ts.length 0 _ #[] _ (by rwa[]) (kh _)
  ⟨al.tr (AS _ _ rfl),λb o e=>?_,m3,yf,[],.nil,λ_ h=>(nomatch h)⟩
 have hb:b≠S:=λz=>by rw[z,sS] at e;exact B6 e
 exact gu _ _ _ hb _ (gu _ _ _ hb _ (gu _ _ _ hb _ (old1 b o e)))
end
section
open PySem.Builtin
theorem Xp(P:jE):readsIn (KK P) CM (.type "type")=true:=by kernel_rfl
theorem PC(P:jE):findCls (KK P) (.ref CM) (.type "type") "_make"=some (.get (.builtin "classmethod.__get__") (.ref 91) .none (.ref CM)):=by kernel_rfl
theorem RA(P:jE):recIn (KK P) 91 "classmethod"=some [.ref 89,.bool false]:=by kernel_rfl
theorem Yv{w:jY}{A:kC}{E:jD->jG->Prop}{s:jG}{expr:Bool}{Q:jD->jG->Prop}(K:Bn w s.heap)
 (h:Q (.ref s.heap.objs.size) {s with heap:=s.heap.push (rY (.ref 89) (.ref CM)),toks:=s.toks+1}):wpAny (model pw w) A (pW (.ref CM) "_make" expr) Q E s:=
 cls_bind K.k (Xp w.params) (PC w.params) (mU (cm_get (s:={s with toks:=s.toks+1}) K.k (RA w.params) (handed_on rfl h)))
theorem Ev.run{Γ:Cx}{σ:AX}{e:kJ}{av:AV}{O:Ap}{s:jG}{Q:jD->jG->Prop}{E:jD->jG->Prop}(h:Ev Γ σ e av)(t:St Γ O σ s)(q:∀v s',St Γ O σ s'->kZ s s'->VR O s'.heap av v->Q v s'):wpAny (model Γ.prog Γ.w) Γ.A (eval e Γ.env) Q E s:=h O s Q E t q
structure Zd (w:jY) (as bs:List jZ) (h:j6) (I D:jN) (m:jZ->Option jD) (k:Nat) (O:Ap):Prop where
 inn:IN h I D m k
 ex:∃la lb dj sj led ls,fw m la lb dj sj/\Ak h (.ref la) (.list (as.map .str)) [la]/\Ak h (.ref lb) (.list (bs.map .str)) [lb]/\RJ w bs h (.ref dj) (dj::ls)/\h.get? sj=some (Cc led)/\(∀a∈I::D::la::lb::sj::dj::ls,¬O.has a)/\D∉la::lb::sj::dj::ls
theorem Zd.rm{w:jY}{as bs:List jZ}{h:j6}{I D:jN}{m:jZ->Option jD}{k:Nat}{O:Ap}(x:Zd w as bs h I D m k O):∃pl,fY w as bs I h (.ref I) pl/\(∀a∈pl,¬O.has a)/\D∈pl/\I∈pl:=
 ZG x.ex λla lb dj sj led ls h1 h2 h3 h4 h5 h6 _=>H5 _ ⟨rfl,I,D,m,k,la,lb,dj,sj,led,ls,rfl,rfl,x.inn,h1,h2,h3,h4,h5⟩ h6 (.tail _ (.head _)) (.head _)
theorem Zd.step{w:jY}{as bs:List jZ}{h h':j6}{I D:jN}{m m':jZ->Option jD}{k k':Nat}{O O':Ap}(x:Zd w as bs h I D m k O)(i':IN h' I D m' k')(hm:∀la lb dj sj,fw m la lb dj sj->fw m' la lb dj sj)
 (kp:∀b o,h.get? b=some o->b≠D->¬O.has b->h'.get? b=some o)(tp:∀b o,h.get? b=some o->(o.cls=.type "tuple"/\∃vs n,o.data=.seq vs n)->h'.get? b=some o)(hO:∀b o,h.get? b=some o->¬O.has b->¬O'.has b):Zd w as bs h' I D m' k' O':=by
 refine H0 x.rm λpl rmi hpl _ _=>?_
 refine ZG x.ex λla lb dj sj led ls h1 h2 h3 h4 h5 h6 h7=>?_
 have ne:∀a∈la::lb::sj::dj::ls,a≠D:=λa ha z=>h7 (z▸ha)
 have kk:∀a∈la::lb::sj::dj::ls,∀o,h.get? a=some o->h'.get? a=some o:=λa ha o e=>kp a o e (ne a ha) (h6 a (.tail _ (.tail _ ha)))
 have live:∀a∈I::D::la::lb::sj::dj::ls,∃o,h.get? a=some o:=λa ha=>by
  rcases jI.mp ha with rfl|ha
  ·exact Ag _ x.inn.inst
  ·rcases jI.mp ha with rfl|ha
   ·refine Ao x.inn.dict λes n e _=>?_;exact Ag _ e
   ·rcases jI.mp ha with rfl|ha
    ·exact BA h2 _ (.head _)
    ·rcases jI.mp ha with rfl|ha
     ·exact BA h3 _ (.head _)
     ·rcases jI.mp ha with rfl|ha
      ·exact Ag _ h5
      ·obtain⟨o,e,_⟩:=(Cn w bs).solid h4 a ha;exact Ag o e
 refine⟨i',la,lb,dj,sj,led,ls,hm _ _ _ _ h1,CX h2 (λb hb=>kk b (by rw[jJ.mp hb];exact .head _)) tp,CX h3 (λb hb=>kk b (by rw[jJ.mp hb];exact .tail _ (.head _))) tp,
  (Cn w bs).keepBy h4 (λb hb=>kk b (.tail _ (.tail _ (.tail _ hb)))) tp,kk sj (.tail _ (.tail _ (.head _))) _ h5,λa ha=>AR (live a ha) λo e=>hO a o e (h6 a ha),h7⟩
theorem Fx.at{Γ:Cx}{O O':Ap}{s s':jG}(f:Fx Γ O s O' s'){b:jN}{o:nJ}(e:s.heap.get? b=some o)(h:¬O.has b)(hc:∀x,(x,b)∉Γ.env.cells):s'.heap.get? b=some o:=f.kept b o e h (λEM=>AR EM λx z=>hc x z)
theorem YM{w:jY}{A:kC}{s:jG}{O:Ap}{I D:jN}{m:jZ->Option jD}{k:Nat}{xI:j6}{as bs:List jZ}{mg mb:jZ->Option jD}{Q:jD->jG->Prop}{E:jD->jG->Prop}(K:Bn w xI)(T:Br mg mb xI)(hgM:mg "Match"=some (.ref CM))(room:A0 A 6)(hk:HK xI s)(own:CJ O s)(hD0:xI.get? D=none)
 (i:Zd w as bs s.heap I D m k O)(hkk:k<=800)(lA:as.length<=63)(lB:bs.length<=63)
 (q:∀s' S,AI s s'->(∀b o,b≠D->s.heap.get? b=some o->s'.heap.get? b=some o)->VR O s'.heap (.py (.list ((Gg as bs).map Fq))) (.ref S)->(∃o,s'.heap.get? D=some o)->Q (.ref S) s') :
 wpAny (model pw w) A (call (.ref 203) [.ref I]) Q E s:=by
 delta w A s O I D m k xI as bs mg mb Q E at K T hgM room hk own hD0 i hkk lA lB q
 refine H0 i.rm λpl rmi hpl hDp hIp=>?_
 have hDO:¬O.has D:=hpl D hDp
 refine Db (args:=⟨[.ref I],[]⟩) (vs:=[.ref I]) (fd:=Bq (Dp w.params)) (st:=BB 5 7) K T.gl.nolimit room hk own hDO (f:=203) (o:=Dp w.params) (by kernel_rfl) (by kernel_rfl) (d4 _) (by kernel_rfl) (.of_eq (Y5 _ _)) rfl (λN rm s1 E' t k1=>?_)
 have MF:=Zc.of (w:=w) i.inn hDO
 have hk0:HK xI (A6 s D):=Es hk hD0
 have new0:s.heap.get? s.heap.objs.size=none:=Bk (jP _)
 have liveP:∀a∈pl,∃o,s.heap.get? a=some o:=λa ha=>Af ((DH w as bs I).solid rmi a ha) λo e _=>(Ag o e)
 have hplO:∀a∈pl,¬Ap.has (("",s.heap.objs.size)::O) a:=λa ha=>by
  rintro⟨p,hp,e⟩
  rcases jI.mp hp with rfl|hp
  ·obtain⟨o,e'⟩:=liveP a ha
   rw[<-e,new0] at e';exact B6 e'
  ·exact hpl a ha (Ac p hp e)
 have t1:St (fM w A (A6 s D) s O) (("",s.heap.objs.size)::O) [HN w as bs I,none,none,none,none,none,none,none,none,none,none,none,none,none,none,none,none,none,none,none] s1:=
  X3 N t (i:=0) (x:="self") rfl rfl (a:=.st (fY w as bs I) (DH w as bs I)) (Ac pl ((DH w as bs I).keeps rmi (Aw k1)) hplO)
 have ed:Am (BB 5 7)=(Am (BB 5 7)).take 12++(Am (BB 5 7)).drop 12:=(pP 12 _).symm
 rw[ed]
 have hnocell:∀b,∀x,(x,b)∉(fM w A (A6 s D) s O).env.cells:=λb x h=>(by cases h)
 refine N4 t1 (YN K T hgM hk0 N (rm.le (by rwa[])) lA lB) ?_
 rintro O' σ' s2 fx t2 ⟨mb,a,b,c,d,i',j,k',x,i1,j1,k1',i2,j2,k2,h1,h2,h3,h4,h5,h6,h7,h8,h9,g1,g2,g3,g4,g5,g6,rfl⟩
 have i1':=i.inn.keeps (Aw k1)
 have old2:∀b o,s.heap.get? b=some o->¬O.has b->s2.heap.get? b=some o:=λb o e hb=>fx.at (Aw k1 b o e) (λEM=>Af EM λp hp e'=>by
  rcases jI.mp hp with rfl|hp
  ·have e':s.heap.objs.size=b:=e'
   rw[<-e',new0] at e;exact B6 e
  ·exact hb (Ac p hp e')) (hnocell b)
 have iS:=i.inn
 have in2:IN s2.heap I D m k:=by
  refine Ao iS.dict λes n e r=>?_
  exact⟨old2 _ _ iS.inst (hpl I hIp),es,n,old2 _ _ e hDO,r⟩
 have hDO':¬O'.has D:=λh=>by
  rcases fx.own D h with z|z
  ·exact hplO D hDp z
  ·refine Ao i1'.dict λes n e r=>?_
   exact B0 z e
 refine Af (V5 N t2 (i:=0) rfl rfl) λv0 zz1 t3=>?_;obtain⟨pl2,⟨rfl,_⟩,_⟩:=zz1
 have hkΓ:HK xI (fM w A (A6 s D) s O).s₀:=hk0
 have KS:∀s':jG,(∀b o,(A6 s D).heap.get? b=some o->s'.heap.get? b=some o)->Bn w s'.heap:=λs' h=>K.keeps λb o e=>h b o (hk0 b o e)
 have fl:((GC w as bs I as.length bs.length (some (.own [])) mb a b c d i' j k' x i1 j1 k1' (some (.own ((Gg as bs).map BX))) i2 j2 k2).set 0 (some (.val (.raw (.ref I))))).all C8=true:=by
  have vf:∀x,Bx x=true->C8 x=true:=λx h=>by
   cases x with
   | none=>rfl
   | some b=>
    cases b with
    | val a=>cases a<;>first|rfl|exact(ll h).elim
    | _=>first|rfl|exact(ll h).elim
  simp only[GC,List.set_cons_zero,lE,vp,vf _ h1,vf _ h2,vf _ h3,vf _ h4,vf _ h5,vf _ h6,vf _ h7,vf _ h8,vf _ h9,vf _ g1,vf _ g2,vf _ g3,vf _ g4,vf _ g5,vf _ g6]
  rfl
 generalize hσ:(GC w as bs I as.length bs.length (some (.own [])) mb a b c d i' j k' x i1 j1 k1' (some (.own ((Gg as bs).map BX))) i2 j2 k2).set 0 (some (.val (.raw (.ref I))))=σ at *
 have TR:σ[16]?=some (some (.own ((Gg as bs).map BX))):=by rw[<-hσ];rfl
 have s0:σ[0]?=some (some (.val (.raw (.ref I)))):=by rw[<-hσ];rfl
 refine km (uF (qS (Ev.run (A1 (v:=.type "list") T hkΓ) t3 λv s3 t4 k3 r3=>?_) (by rfl)) (by rfl))
 obtain rfl:v=.type "list":=r3
 refine o8 (Bh (by rfl)) (AL (by rfl) (args_cons (qS (Ev.run (A1 (v:=.type "map") T hkΓ) t4 λv s4 t5 k4 r4=>?_) (by rfl))))
 obtain rfl:v=.type "map":=r4
 refine o8 (Bh (by rfl)) (AL (by rfl) (args_cons (Attribute_any_ (Ev.run (BU T hkΓ hgM) t5 λv s5 t6 k5 r5=>?_))))
 obtain rfl:v=.ref CM:=r5
 refine Yv (KS s5 t6.keep) (args_cons ?_)
 have kp:kZ s5 {s5 with heap:=s5.heap.push (rY (.ref 89) (.ref CM)),toks:=s5.toks+1}:=Keeps.pushT _ _ _
 have t7:=t6.of_keeps kp
 have hp:({s5 with heap:=s5.heap.push (rY (.ref 89) (.ref CM)),toks:=s5.toks+1}:jG).heap.get? s5.heap.objs.size=some (rY (.ref 89) (.ref CM)):=jS _ rfl
 have k26:kZ s2 {s5 with heap:=s5.heap.push (rY (.ref 89) (.ref CM)),toks:=s5.toks+1}:=Keeps.tr (Keeps.tr (Keeps.tr k3 k4) k5) kp
 generalize ({s5 with heap:=s5.heap.push (rY (.ref 89) (.ref CM)),toks:=s5.toks+1}:jG)=s6 at *
 refine Pp (EZ N t7 (i:=16) rfl TR) λmm l ws ias nn hd' zz1 ri qi _ _=>?_;obtain⟨c0,hl⟩:=zz1
 refine EY N nn hd' (pZ (Xs hl (pZ ?_)))
 have hz1:(Pc s6.heap l).objs.size=s6.heap.objs.size+1:=mT _ _
 have hz2:(Kt s6.heap l).objs.size=s6.heap.objs.size+1+1:=(mT _ _).trans (by rw[hz1])
 have g1':∀b o,s6.heap.get? b=some o->(Pb s6.heap l (.ref s5.heap.objs.size)).get? b=some o:=λb o e=>jH _ (jH _ (jH _ e))
 have nw:∀{b:jN} {o:nJ},s6.heap.get? b=some o->s6.heap.objs.size≠b:=λe=>Nat.ne_of_gt (kt e)
 have mat:C7 (Pb s6.heap l (.ref s5.heap.objs.size)) (Kt s6.heap l).objs.size (Pc s6.heap l).objs.size s6.heap.objs.size l s5.heap.objs.size ws c0 0:=
  ⟨by
   have:=jS (h:=Kt s6.heap l) (o:={cls:=.type "map",data:=.fields #[.ref (Pc s6.heap l).objs.size,.ref s5.heap.objs.size]}) rfl
   exact this,
   jH _ (jS _ rfl),(Ba _ (jH _ (jH _ (jS _ rfl))) rfl rfl),g1' _ _ hl,g1' _ _ hp,λz=>absurd (show(s6.heap.objs.size:Nat)=s6.heap.objs.size+1+1 from z.trans hz2) (by rwa[hz2]),λz=>absurd (show(s6.heap.objs.size:Nat)=s6.heap.objs.size+1 from z.trans hz1) (by rwa[hz1]),nw hl,nw hp⟩
 have hbl:=(GV as bs).len
 have hz:(Gg as bs).length<=1000:=by unfold Gg;rw[j7,pQ];rwa[lA,hbl]
 refine Kf (s₀:=s6) (s:={s6 with heap:=Pb s6.heap l (.ref s5.heap.objs.size)}) K T (by exact(rm.le (show 4<=5 by rwa[])).in1.in1.in1) (λb o e=>t7.keep _ _ (hk0 b o e)) t7.ownOk ri qi hz (Bk (jP _)) (AS _ _ rfl) g1' mat λS s7 acc c1 al7 old7 fS hS rS=>?_
 refine B1 al7 λh7 tk7 zz1=>?_;clear al7;obtain rfl:=zz1
 have k67:kZ s6 {s6 with heap:=h7,toks:=tk7}:=AT h7 tk7 rfl old7
 refine Af rS λas' r' q'=>?_
 have t8:=t7.of_keeps k67
 have in7:=in2.keeps (Aw (Keeps.tr k26 k67))
 generalize hs7:({s6 with heap:=h7,toks:=tk7}:jG)=s7 at *
 refine Bw 0 t8 (F7 (KS s7 t8.keep) in7 (by rwa[hkk]) λh8 i8 sb8=>?_) rfl s0
 refine Ao in7.dict λes7 n7 eD7 _=>?_
 refine Ao i8.dict λes8 n8 eD8 _=>?_
 have t9:=Ej (tk:=s7.toks+2) N t8 A3 MF.dl hDO' eD7 rfl fl sb8 eD8
 refine km (pV (DJ rfl t9 (KS _ t9.keep) i8 (Aa 0 rfl s0) (v:=.ref S) (by simp[Bm]) λs10 k10 t10=>?_))
 have SD:S≠D:=λz=>by
  refine Ao in2.dict λes n e _=>?_
  rw[z,Aw k26 _ _ e] at fS;exact XM fS
 have hsub:∀b,O.has b->Ap.has O' b:=λb ⟨p,hp,e⟩=>t10.sub b (Ac p (.tail _ hp) e)
 have SO:¬Ap.has O' S:=λEM=>Af EM λp hp e=>by
  obtain⟨o,e'⟩:=t7.live p hp
  rw[e,fS] at e';exact B6 e'
 have r8:Ak h8 (.ref S) (.list ((Gg as bs).map Fq)) (S::as'):=
  .list ((sb8.2 S SD).trans hS) rfl rfl (Aq (λb hb o e=>(sb8.2 b hb).trans e) (λo e ⟨hc,_⟩=>by(replace e:=CQ eD7 e;subst e);exact absurd (show jX "dict"=jX "tuple" from hc) (by decide)) r' (EC eD7 rfl r'))
 refine q s10 S ?_ (λb o hb e=>t10.keep b o ((Bj hb).trans e)) (Ac _ (Ak.keeps (Aw k10) r8) λb hb=>?_) (Ag _ (Aw k10 _ _ eD8))
 ·exact((Bc k1).tr (fx.alike.tr ((Bc k26).tr ((Bc k67).tr (AS _ _ rfl))))).tr (Bc k10)
 ·rcases jI.mp hb with rfl|hb
  ·exact λh=>SO (hsub _ h)
  ·exact λh=>(q' b hb).1 (hsub _ h)
end

section
variable {Γ:Cx} {σ:AX} {P:AF->AX->Prop} {pos:mi}
theorem TI{e:kJ}{x:jZ}(h:Ev Γ σ e (.py (.str x)))(hx:x.length<=1000)(he:autoParam (isTrue e Γ.env (eval e Γ.env)=(do let v<-eval e Γ.env;mS e.pos;mq [v] (truthy v))) aR):Tv Γ σ e (x.length != 0):=by
 intro O s Q E t q
 refine oM (h O s _ E t λv s' t' k r=>?_) he
 obtain⟨tx,rfl⟩:=r.str_inv
 refine P.truthy_str (by rwa[hx]) ?_
 have:((x.length:Int) != 0)=(x.length != 0):=by rw[qh];simp
 rw[this]
 exact q _ (t'.keeps λ_ _ e=>e) (Keeps.tr k Keeps.rfl')
theorem Uz(N:Nm Γ)(i j:Nat){x y:jZ}{px py:mi}{e:kJ}{d:jQ}(h:Ev Γ σ e (.py d))(hP:P .next ((σ.set i (some (.val (.py d)))).set j (some (.val (.py d)))))
 (hi:autoParam (Γ.ns[i]?=some x) aR)(hj:autoParam (Γ.ns[j]?=some y) aR)(li:autoParam (i<σ.length) aN)(lj:autoParam (j<σ.length) aN)
 (ki:autoParam (Γ.env.kindOf x=some .local) aR)(kj:autoParam (Γ.env.kindOf y=some .local) aR)
 (h2:autoParam (qM (λx=>x.snd) (assignEach [ky x px,ky y py] Γ.env)=[assign (ky x px) Γ.env,assign (ky y py) Γ.env]) aR)
 (hsw:autoParam (nv [ky x px,ky y py] e Γ.env=pure none) aR):X1 Γ σ (.Assign [.Name x px,.Name y py] e pos) P:=by
 intro O s Q E t q
 refine oC (h O s _ E t λv s1 t1 k1 r1=>?_) h2 hsw
 refine lK (AG N (b:=.val (.py d)) hi li ki t1 r1 λs2 a2 u2 t2=>?_)
 have r2:VR O s2.heap (.py d) v:=VR.avoid (O:=O) r1 (t1.sub _ t1.frame) (λb hb o e=>u2 b o hb e) (by refine Af t1.ex λm n _=>?_;exact A5 n)
 refine lK (AG N (b:=.val (.py d)) hj (by rw[nM];exact lj) kj t2 r2 λs3 a3 u3 t3=>?_)
 exact q O .next .next _ s3 (((Fx.of_keeps k1).tr (Fx.ofBut t1 a2 u2 t2)).tr (Fx.ofBut t2 a3 u3 t3)) t3 rfl hP
end
noncomputable def B5 (t:A9):List AM:=if t.2.2=0 then [] else [("equal",t.1,t.1+t.2.2,t.2.1,t.2.1+t.2.2)]
noncomputable def Kk (s:Nat×Nat×List AM) (t:A9):Nat×Nat×List AM:=(t.1+t.2.2,t.2.1+t.2.2,s.2.2++AH (s.1,s.2.1) (t.1,t.2.1)++B5 t)
noncomputable def FM (l:List A9):Nat×Nat×List AM:=l.foldl Kk (0,0,[])
noncomputable def E0 (l:List A9):List AM:=(FM l).2.2
theorem Rk(l:List A9)(t:A9):FM (l++[t])=Kk (FM l) t:=by unfold FM;rw[ms];rfl
theorem Ub(e b:Nat×Nat):(AH e b).length<=1:=by unfold AH;split<;>simp
theorem Vi(t:A9):(B5 t).length<=1:=by unfold B5;split<;>simp
theorem U9(l:List A9):(FM l).2.2.length<=2*l.length:=by
 have:∀(r:List A9) (s:Nat×Nat×List AM),(r.foldl Kk s).2.2.length<=s.2.2.length+2*r.length:=by
  intro r
  induction r with
  | nil=>intro s;exact lZ _ _
  | cons t r ih=>
   intro s
   refine kN (ih _) ?_
   have h1:=Ub (s.1,s.2.1) (t.1,t.2.1)
   have h2:=Vi t
   show(s.2.2++AH (s.1,s.2.1) (t.1,t.2.1)++B5 t).length+_<=_
   rw[j7,j7,j9]
   rwa[h1,h2]
 have:=this l (0,0,[])
 rw[lq,tD] at this
 exact this
noncomputable def ZC:List jZ:=["self","i","j","answer","ai","bj","size","tag"]
theorem d3(P:jE):Bf (Bq (Eg P)) (Am (BB 5 8)) ["self"] ZC:=.of' rfl rfl rfl (by decide +kernel)
theorem Y4(P:jE)(u:jD):l6 (Bq (Eg P)) ⟨[u],[]⟩=pure [((jB "self"),u)]:=by rfl
noncomputable abbrev fO (w:jY) (A:kC) (s₀ s:jG) (O:Ap):Cx:=CF pw w A s₀ s (Bq (Eg w.params)) 210 ZC O
noncomputable abbrev O5 (I:jN) (i j:Nat) (out:List AM) (ai bj sz tag:Option Bd):AX:=[some (.val (.raw (.ref I))),pI i,pI j,some (.own (out.map Da)),ai,bj,sz,tag]
theorem TV(out:List AM)(c:AM):(out++[c]).map Da=out.map Da++[Da c]:=by rw[kB];rfl
theorem Ws{w:jY}{A:kC}{s₀ s:jG}{O:Ap}(N:Nm (fO w A s₀ s O))(hh:(fO w A s₀ s O).A.handled=none)(I:jN)(i j:Nat)(out:List AM)(t:A9)(tag:Option Bd)(hlen:out.length<=1000)(P:AF->AX->Prop)
 (hP:∀tag,P .next (O5 I (t.1+t.2.2) (t.2.1+t.2.2) (out++AH (i,j) (t.1,t.2.1)++B5 t) (pI t.1) (pI t.2.1) (pI t.2.2) tag)) :
 Ex (fO w A s₀ s O) (O5 I i j out (pI t.1) (pI t.2.1) (pI t.2.2) tag) (WT (((Am (BB 5 8)).drop 4).headD (.Pass ⟨0,0,0,0⟩))) P:=by
 delta w A s₀ s O I out tag P at N hh i j t hlen hP
 obtain⟨a,b,z⟩:=t
 have lW:∀x:jZ,x="replace"\/x="delete"\/x="insert"->(x.length != 0)=true/\x.length<=1000/\x≠"":=by
  rintro x (rfl|rfl|rfl)<;>exact⟨by decide,by decide,by decide⟩
 have tail:∀(out2:List AM) (tg:Option Bd),out2.length<=1001->out2=out++AH (i,j) (a,b)->Ex (fO w A s₀ s O) (O5 I i j out2 (pI a) (pI b) (pI z) tg) ((WT (((Am (BB 5 8)).drop 4).headD (.Pass ⟨0,0,0,0⟩))).drop 3) P:=λout2 tg hl he=>by
  refine Ad (DB N hh [1,2] ["i","j"] (Au (ds:=[.int (a+z:Nat),.int (b+z:Nat)]) (Ab (Dh (Aa 4) (Aa 6)) (Ab (Dh (Aa 5) (Aa 6)) Ah))) ⟨rfl,rfl,rfl,rfl,trivial⟩ ?_)
  refine Ad (BI (b:=((z:Nat):Int) != 0) (ID (Aa 6)) (λh=>?_) (λh=>?_))
  ·have hz:z≠0:=by simpa using h
   refine Ad (AO N 3 (d:=Da ("equal",a,a+z,b,b+z)) (ds:=out2.map Da) (Au (ds:=[.str "equal",.int (a:Nat),.int (a+z:Nat),.int (b:Nat),.int (b+z:Nat)]) (Ab BF (Ab (Aa 4) (Ab (Aa 1) (Ab (Aa 5) (Ab (Aa 2) Ah)))))) (by rw[jK];rwa[hl]) (Aj (Aj ?_)))
   have:=hP tg
   rw[show B5 (a,b,z)=([("equal",a,a+z,b,b+z)]:List AM) from if_neg hz,<-he] at this
   unfold O5 at this
   rw[TV] at this
   exact this
  ·have hz:z=0:=by simpa using h
   have:=hP tg
   rw[show B5 (a,b,z)=[] from if_pos hz,<-he,kH] at this
   exact Aj (Aj this)
 have mid:∀x,x=BL (i,j) (a,b)->Ex (fO w A s₀ s O) (O5 I i j out (pI a) (pI b) (pI z) (some (.val (.py (.str x))))) ((WT (((Am (BB 5 8)).drop 4).headD (.Pass ⟨0,0,0,0⟩))).drop 2) P:=λx hx=>by
  by_cases hz:x=""
  ·refine Ad (BI (b:=false) (Tv.cast (TI (Aa 7) (by rw[hz];decide)) (by rw[hz];rfl)) (λh=>nomatch h) (λ_=>Aj (tail out _ (by rwa[hlen]) ?_)))
   unfold AH
   rw[if_pos (hx▸hz),kH]
  ·have hl:x="replace"\/x="delete"\/x="insert":=by
    rw[hx] at hz ⊢
    unfold BL at hz ⊢
    split<;>split<;>simp_all
   refine Ad (BI (b:=true) (Tv.cast (TI (Aa 7) (lW x hl).2.1) (lW x hl).1) (λ_=>?_) (λh=>nomatch h))
   refine Ad (AO N 3 (d:=Da (x,i,a,j,b)) (ds:=out.map Da) (Au (ds:=[.str x,.int (i:Nat),.int (a:Nat),.int (j:Nat),.int (b:Nat)]) (Ab (Aa 7) (Ab (Aa 1) (Ab (Aa 4) (Ab (Aa 2) (Ab (Aa 5) Ah)))))) (by rw[jK];rwa[hlen]) (Aj ?_))
   have:=tail (out++[(x,i,a,j,b)]) (some (.val (.py (.str x)))) (by rw[j7,pQ];rwa[hlen]) (by
    unfold AH
    rw[if_neg (hx▸hz),<-hx])
   unfold O5 at this
   rw[TV] at this
   exact this
 refine Ad (At N 7 BF ?_)
 have e1:decide (((i:Nat):Int)<((a:Nat):Int))=decide (i<a):=by rw[qh];simp
 have e2:decide (((j:Nat):Int)<((b:Nat):Int))=decide (j<b):=by rw[qh];simp
 by_cases c1:i<a<;>by_cases c2:j<b
 ·refine Ad (BI (b:=true) (Tv.cast (By (AP (An (Aa 1) (Aa 4)) λ_=>AP (An (Aa 2) (Aa 5)) λ_=>BC)) (by rw[e1,e2,decide_eq_true c1,decide_eq_true c2];rfl)) (λ_=>Ad (At N 7 BF (Aj (mid _ ?_)))) (λh=>nomatch h))
  unfold BL;rw[if_pos c1,if_pos c2]
 ·refine Ad (BI (b:=false) (Tv.cast (By (AP (An (Aa 1) (Aa 4)) λ_=>AP (An (Aa 2) (Aa 5)) λ_=>BC)) (by rw[e1,e2,decide_eq_true c1,decide_eq_false c2];rfl)) (λh=>nomatch h) (λ_=>?_))
  refine Ad (BI (b:=true) (Tv.cast (An (Aa 1) (Aa 4)) (by rw[e1,decide_eq_true c1])) (λ_=>Ad (At N 7 BF (Aj (Aj (mid _ ?_))))) (λh=>nomatch h))
  unfold BL;rw[if_pos c1,if_neg c2]
 ·refine Ad (BI (b:=false) (Tv.cast (By (AP (An (Aa 1) (Aa 4)) λ_=>AP (An (Aa 2) (Aa 5)) λ_=>BC)) (by rw[e1,decide_eq_false c1];rfl)) (λh=>nomatch h) (λ_=>?_))
  refine Ad (BI (b:=false) (Tv.cast (An (Aa 1) (Aa 4)) (by rw[e1,decide_eq_false c1])) (λh=>nomatch h) (λ_=>?_))
  refine Ad (BI (b:=true) (Tv.cast (An (Aa 2) (Aa 5)) (by rw[e2,decide_eq_true c2])) (λ_=>Ad (At N 7 BF (Aj (Aj (Aj (mid _ ?_)))))) (λh=>nomatch h))
  unfold BL;rw[if_neg c1,if_pos c2]
 ·refine Ad (BI (b:=false) (Tv.cast (By (AP (An (Aa 1) (Aa 4)) λ_=>AP (An (Aa 2) (Aa 5)) λ_=>BC)) (by rw[e1,decide_eq_false c1];rfl)) (λh=>nomatch h) (λ_=>?_))
  refine Ad (BI (b:=false) (Tv.cast (An (Aa 1) (Aa 4)) (by rw[e1,decide_eq_false c1])) (λh=>nomatch h) (λ_=>?_))
  refine Ad (BI (b:=false) (Tv.cast (An (Aa 2) (Aa 5)) (by rw[e2,decide_eq_false c2])) (λh=>nomatch h) (λ_=>Aj (Aj (Aj (mid _ ?_)))))
  unfold BL;rw[if_neg c1,if_neg c2]
theorem I2{α β:Type}(f:α->Nat)(mk:α->β)(size:β->Nat)(hs:∀x,size (mk x)=f x)(b0:β)(h0:size b0=0)(L:List α) :
 (L.foldl (λb x=>if size b<f x then mk x else b) b0=b0/\∀x∈L,f x=0)\/
 ∃L1 x L2,L=L1++x::L2/\0<f x/\(∀y∈L1,f y<f x)/\(∀y∈L2,f y<=f x)/\L.foldl (λb x=>if size b<f x then mk x else b) b0=mk x:=by
 have main:∀(K L:List α),L.reverse=K->(L.foldl (λb x=>if size b<f x then mk x else b) b0=b0/\∀x∈L,f x=0)\/
  ∃L1 x L2,L=L1++x::L2/\0<f x/\(∀y∈L1,f y<f x)/\(∀y∈L2,f y<=f x)/\L.foldl (λb x=>if size b<f x then mk x else b) b0=mk x:=by
  intro K
  induction K with
  | nil=>
   intro L h
   obtain rfl:L=[]:=by simpa using h
   exact .inl ⟨rfl,λx hx=>(nomatch hx)⟩
  | cons z K ih=>
   intro L h
   obtain rfl:L=K.reverse++[z]:=by
    have:=congrArg List.reverse h
    simpa using this
   have ih:=ih K.reverse (by simp)
   rw[ms]
   simp only[mY,uM]
   rcases ih with⟨e,hz⟩|⟨L1,x,L2,e,hx,h1,h2,e'⟩
   ·rw[e,h0]
    by_cases c:0<f z
    ·rw[if_pos c]
     exact .inr (KB K.reverse z [] rfl c (λy hy=>by rw[hz y hy];exact c) (λy hy=>(nomatch hy)) rfl)
    ·rw[if_neg c]
     refine .inl ⟨rfl,λx hx=>?_⟩
     rcases jW.mp hx with hx|hx
     ·exact hz x hx
     ·rw[jJ.mp hx];rwa[c]
   ·rw[e',hs]
    by_cases c:f x<f z
    ·rw[if_pos c]
     refine .inr (KB K.reverse z [] rfl (by rwa[hx,c]) (λy hy=>?_) (λy hy=>(nomatch hy)) rfl)
     rw[e] at hy
     rcases jW.mp hy with hy|hy
     ·have:=h1 y hy;rwa[c,this]
     ·rcases jI.mp hy with rfl|hy
      ·exact c
      ·have:=h2 y hy;rwa[c,this]
    ·rw[if_neg c]
     refine .inr (KB L1 x (L2++[z]) (by rw[e];simp) hx h1 (λy hy=>?_) rfl)
     rcases jW.mp hy with hy|hy
     ·exact h2 y hy
     ·rw[jJ.mp hy];rwa[c]
 exact main _ L rfl
noncomputable def J5 (p q:Nat×Nat):Prop:=p.1<q.1\/(p.1=q.1/\p.2<q.2)
noncomputable def B8 (I:List Nat) (J:Nat->List Nat):List (Nat×Nat):=I.flatMap λi=>(J i).map λj=>(i,j)
theorem DC{I:List Nat}{J:Nat->List Nat}{p:Nat×Nat}:p∈B8 I J↔p.1∈I/\p.2∈J p.1:=by
 unfold B8
 rw[lw]
 constructor
 ·intro zz1;refine Af zz1 λi hi hp=>?_
  refine Af (kq.mp hp) λj hj zz1=>?_;obtain rfl:=zz1
  exact⟨hi,hj⟩
 ·rintro⟨h1,h2⟩
  exact Ac p.1 h1 (kq.mpr (Ac p.2 h2 rfl))
theorem El(J:Nat->List Nat)(hJ:∀i,(J i).Pairwise (· < ·)):∀(I:List Nat),I.Pairwise (· < ·)->(B8 I J).Pairwise J5
 | [],_=>.nil
 | i::I,h=>by
  obtain⟨h1,h2⟩:=oA.mp h
  show((J i).map (λj=>(i,j))++B8 I J).Pairwise J5
  refine nN.mpr ⟨?_,El J hJ I h2,λp hp q hq=>?_⟩
  ·rw[pG]
   exact(hJ i).imp λh=>.inr ⟨rfl,h⟩
  ·obtain⟨j,hj,rfl⟩:=kq.mp hp
   exact .inl (h1 _ (DC.mp hq).1)
theorem HX{β:Type}(g:β->Nat->Nat->β)(J:Nat->List Nat):∀(I:List Nat) (b:β),I.foldl (λb i=>(J i).foldl (λb j=>g b i j) b) b=(B8 I J).foldl (λb p=>g b p.1 p.2) b
 | [],b=>rfl
 | i::I,b=>by
  show I.foldl _ ((J i).foldl _ b)=((J i).map (λj=>(i,j))++B8 I J).foldl _ b
  rw[ms,List.foldl_map,HX g J I]
theorem IW{p q:Nat×Nat}(h:J5 p q)(h':J5 q p):False:=by
 unfold J5 at h h';rwa[h,h']
theorem GK{L:List (Nat×Nat)}(hL:L.Pairwise J5)(f:Nat×Nat->Nat){L1 L2:List (Nat×Nat)}{x:Nat×Nat}(e:L=L1++x::L2)(h1:∀y∈L1,f y<f x)(h2:∀y∈L2,f y<=f x) :
 x∈L/\(∀y∈L,f y<=f x)/\∀y∈L,J5 y x->f y<f x:=by
 subst e
 refine C1 (nN.mp hL) λ_ hc _=>?_
 obtain⟨hx,_⟩:=oA.mp hc
 refine⟨by simp,λy hy=>?_,λy hy hl=>?_⟩
 ·rcases jW.mp hy with hy|hy
  ·exact pM (h1 y hy)
  ·rcases jI.mp hy with rfl|hy
   ·exact jP _
   ·exact h2 y hy
 ·rcases jW.mp hy with hy|hy
  ·exact h1 y hy
  ·rcases jI.mp hy with rfl|hy
   ·exact(IW hl hl).elim
   ·exact(IW hl (hx y hy)).elim
theorem UH{j0 st i:Nat}(hst:0<st):j0<=CO j0 st i/\CO j0 st i<j0+st/\CO j0 st i%st=i%st:=by
 have h0:(0:Int)<st:=mH.mpr hst
 obtain⟨r,hr⟩:=pB (kM ((i:Int)-j0) h0)
 have h1:=lm ((i:Int)-j0) h0
 have e:CO j0 st i=j0+r:=by unfold CO;rw[hr];rfl
 rw[e]
 rw[hr] at h1
 refine⟨lZ _ _,sM (mH.mp h1) _,rU ?_⟩
 show(((j0+r)%st:Nat):Int)=((i%st:Nat):Int)
 rw[xn,xn,xG,show((r:Nat):Int)=((i:Int)-j0)%st from hr.symm.trans (kT _ (rO h0)),Int.add_emod_emod,Int.add_comm,Int.sub_add_cancel]
theorem WL{j0 j1 st i j:Nat}(hst:st=4\/st=10):j∈E4 j0 j1 st i↔j0<=j/\j<j1/\j%st=i%st:=by
 have h0:0<st:=by rcases hst with rfl|rfl<;>decide
 obtain⟨s1,s2,s3⟩:=UH (j0:=j0) (i:=i) h0
 unfold E4
 rw[kq,<-s3]
 generalize CO j0 st i=s at *
 constructor
 ·rintro⟨k,hk,rfl⟩
  have hk:=(rZ h0).mp (mv.mp hk)
  rw[tE] at hk
  exact⟨kN s1 (lZ _ _),by rwa[h0,hk],Nat.add_mul_mod_self_right _ _ _⟩
 ·rintro⟨h1,h2,h3⟩
  have hs:s<=j:=om λh=>by
   have e:=um h3.symm
   rw[p7 (by rwa[h0,s2,h1])] at e
   exact Nat.sub_ne_zero_of_lt h e
  have e:=Nat.div_mul_cancel (Nat.dvd_of_mod_eq_zero (um h3))
  refine⟨(j-s)/st,mv.mpr ((rZ h0).mpr ?_),by rw[e];exact Nat.add_sub_of_le hs⟩
  rw[tE,e]
  rwa[h0,h2,hs]
theorem U1{j0 j1 st i:Nat}(hst:0<st):(E4 j0 j1 st i).Pairwise (· < ·):=by
 unfold E4
 rw[pG]
 refine pH.imp λ{a b} h=>?_
 have:=Nat.mul_lt_mul_of_pos_right h hst
 rwa[this]
theorem C0{a b i:Nat}:i∈(kf (b-a)).map (a+·)↔a<=i/\i<b:=by
 rw[kq]
 constructor
 ·intro zz1;refine Af zz1 λk hk zz2=>?_;clear zz1;obtain rfl:=zz2
  have:=mv.mp hk
  rwa[this]
 ·rintro⟨h1,h2⟩
  exact⟨i-a,mv.mpr (by rwa[h1,h2]),by rwa[h1]⟩
theorem Gy(a n:Nat):((kf n).map (a+·)).Pairwise (· < ·):=by
 rw[pG]
 exact pH.imp λh=>by rwa[h]
section
variable {α:Type} [DecidableEq α] {as bs:List α} {l r:List Nat} {st:Nat}
structure RN (as bs:List α) (l r:List Nat) (st:Nat):Prop where
 la:as.length=l.length
 lb:bs.length=r.length
 eq:∀i j,Dt as bs i j↔(∃c,l[i]?=some c/\r[j]?=some c)/\i%st=j%st
theorem TS{i1 j1 i j k:Nat}(hl:i1<=l.length)(hr:j1<=r.length)(h:k<Cw l r i1 j1 i j):i+k<i1/\j+k<j1/\∃c,l[i+k]?=some c/\r[j+k]?=some c:=by
 delta l r i1 j1 i j k at hl hr h
 have h:=(Un (pM h)).mp h
 rw[Ed hl,Ed hr] at h
 refine Af h λc h1 h2=>?_
 split at h1
 ·split at h2
  ·exact⟨by assumption,by assumption,c,h1,h2⟩
  ·exact B6 h2
 ·exact B6 h1
theorem Wf{i1 j1 i j:Nat}(hl:i1<=l.length)(hr:j1<=r.length):∀k,(∀t,t<k->i+t<i1/\j+t<j1/\∃c,l[i+t]?=some c/\r[j+t]?=some c)->k<=Cw l r i1 j1 i j
 | 0,_=>kh _
 | k+1,h=>by
  have ih:=Wf hl hr k λt ht=>h t (by rwa[ht])
  refine(Un ih).mpr ?_
  refine C1 (h k (by rwa[])) λh1 h2 zr0=>Af zr0 λc h3 h4=>?_
  rw[Ed hl,Ed hr,if_pos h1,if_pos h2]
  exact⟨c,h3,h4⟩
theorem Yb{alo blo i j k:Nat}(ha:alo<=i)(hb:blo<=j)(h1:k<=i+1-alo)(h2:k<=j+1-blo)(h:∀t,t<k->Dt as bs (i-t) (j-t)):k<=AY as bs alo blo i j:=by
 rcases Nat.lt_or_ge (AY as bs alo blo i j) k with c|c
 ·exact(G9 as bs alo blo ha hb (by rwa[ha,h1,c]) (by rwa[hb,h2,c]) (h _ c)).elim
 ·exact c
noncomputable def Pv (as bs:List α) (alo ahi blo bhi:Nat):List (Nat×Nat):=B8 ((kf (ahi-alo)).map (alo+·)) (Gq as bs blo bhi)
theorem WV(as bs:List α)(alo ahi blo bhi:Nat):flm as bs alo blo bhi ahi=(Pv as bs alo ahi blo bhi).foldl (λ(b:A9) p=>if b.2.2<AY as bs alo blo p.1 p.2 then(p.1+1-AY as bs alo blo p.1 p.2,p.2+1-AY as bs alo blo p.1 p.2,AY as bs alo blo p.1 p.2) else b) (alo,blo,0):=
 HX (λb i j=>EJ as bs alo blo i b j) (Gq as bs blo bhi) _ _
theorem Of(l r:List Nat)(st alo ahi blo bhi:Nat):Cb l r st alo ahi blo bhi=(B8 ((kf (ahi-alo)).map (alo+·)) (E4 blo bhi st)).foldl (λ(b:Qj) p=>if b.2.2<Cw l r ahi bhi p.1 p.2 then(p.1,p.2,Cw l r ahi bhi p.1 p.2) else b) (alo,blo,0):=rfl
theorem Wc{a b c d k:Nat}(ka:k<=a+1)(kb:k<=b+1)(k0:0<k)(h1:¬(a+1-k<c\/a+1-k=c/\b+1-k<d))(h2:¬(c+k-1<a\/c+k-1=a/\d+k-1<b)):a+1-k=c/\b+1-k=d:=by
 have e:a+1-k=c:=by rwa[k0,h1,h2]
 exact⟨e,by rwa[ka,k0,h1,h2,e]⟩
theorem Pj(M:RN as bs l r st)(hst:st=4\/st=10){alo ahi blo bhi:Nat}(hA:ahi<=l.length)(hB:bhi<=r.length):flm as bs alo blo bhi ahi=Cb l r st alo ahi blo bhi:=by
 rw[WV,Of]
 have toEnd:∀i j k,alo<=i->blo<=j->i%st=j%st->0<k->k<=Cw l r ahi bhi i j->(i+k-1,j+k-1)∈Pv as bs alo ahi blo bhi/\k<=AY as bs alo blo (i+k-1) (j+k-1):=by
  intro i j k h1 h2 h3 h0 hk
  have eqs:∀t,t<k->Dt as bs (i+t) (j+t):=λt ht=>(M.eq _ _).mpr ⟨(TS hA hB (mR ht hk)).2.2,by rw[Nat.add_mod,h3,<-Nat.add_mod]⟩
  have hl:=TS hA hB (mR (show k-1<k by rwa[h0]) hk)
  refine⟨DC.mpr ⟨C0.mpr ⟨by show alo<=i+k-1;rwa[h1,h0],by show i+k-1<ahi;lia⟩,(CZ as bs blo bhi).mpr ⟨?_,by show blo<=j+k-1;rwa[h2,h0],by show j+k-1<bhi;lia⟩⟩,Yb (by rwa[h1,h0]) (by rwa[h2,h0]) (by rwa[h1,h0]) (by rwa[h2,h0]) λt ht=>?_⟩
  ·have:=eqs (k-1) (by rwa[h0])
   rw[show i+(k-1)=i+k-1 by rwa[h0],show j+(k-1)=j+k-1 by rwa[h0]] at this
   exact this
  ·have:=eqs (k-1-t) (by rwa[h0])
   rw[show i+(k-1-t)=i+k-1-t by rwa[ht],show j+(k-1-t)=j+k-1-t by rwa[ht]] at this
   exact this
 have toStart:∀p∈Pv as bs alo ahi blo bhi,0<AY as bs alo blo p.1 p.2->(p.1+1-AY as bs alo blo p.1 p.2,p.2+1-AY as bs alo blo p.1 p.2)∈B8 ((kf (ahi-alo)).map (alo+·)) (E4 blo bhi st)/\AY as bs alo blo p.1 p.2<=Cw l r ahi bhi (p.1+1-AY as bs alo blo p.1 p.2) (p.2+1-AY as bs alo blo p.1 p.2)/\alo<=p.1+1-AY as bs alo blo p.1 p.2/\blo<=p.2+1-AY as bs alo blo p.1 p.2/\(p.1+1-AY as bs alo blo p.1 p.2)%st=(p.2+1-AY as bs alo blo p.1 p.2)%st:=by
  rintro⟨i,j⟩ hp h0
  obtain⟨h1,h2⟩:=DC.mp hp
  obtain⟨h3,h4⟩:=C0.mp h1
  refine C1 ((CZ as bs blo bhi).mp h2) λh5 h6 h7=>?_
  show(_:Prop)
  dsimp only at h0 h3 h4 h5 h6 h7 ⊢
  obtain⟨b1,b2⟩:=Fl as bs alo blo h3 h6
  have eqs:∀t,t<AY as bs alo blo i j->Dt as bs (i-t) (j-t):=λt ht=>IG as bs alo blo h3 h6 ht
  generalize AY as bs alo blo i j=k at *
  have hm:(i+1-k)%st=(j+1-k)%st:=by
   have:=((M.eq _ _).mp (eqs (k-1) (by rwa[h0]))).2
   rw[show i-(k-1)=i+1-k by rwa[h0],show j-(k-1)=j+1-k by rwa[h0]] at this
   exact this
  refine⟨DC.mpr ⟨C0.mpr ⟨by show alo<=i+1-k;rwa[h0,b1],by show i+1-k<ahi;rwa[h4,h0]⟩,(WL hst).mpr ⟨by show blo<=j+1-k;rwa[h0,b2],by show j+1-k<bhi;rwa[h7,h0],hm.symm⟩⟩,Wf hA hB k λt ht=>⟨by rwa[h4,h0,b1,ht],by rwa[h7,h0,b2,ht],?_⟩,by rwa[h0,b1],by rwa[h0,b2],hm⟩
  have:=((M.eq _ _).mp (eqs (k-1-t) (by rwa[h0]))).1
  rw[<-N3 ht b1,<-N3 ht b2] at this
  exact this
 have isStart:∀p∈B8 ((kf (ahi-alo)).map (alo+·)) (E4 blo bhi st),alo<=p.1/\blo<=p.2/\p.1%st=p.2%st:=λp hp=>by
  obtain⟨h1,h2⟩:=DC.mp hp
  obtain⟨h3,h4⟩:=C0.mp h1
  refine C1 ((WL hst).mp h2) λh5 h6 h7=>?_
  exact⟨h3,h5,h7.symm⟩
 have sE:(Pv as bs alo ahi blo bhi).Pairwise J5:=El _ (λi=>uh _ pH) _ (Gy _ _)
 have sS:(B8 ((kf (ahi-alo)).map (alo+·)) (E4 blo bhi st)).Pairwise J5:=El _ (λi=>U1 (by rcases hst with rfl|rfl<;>decide)) _ (Gy _ _)
 rcases I2 (λp:Nat×Nat=>AY as bs alo blo p.1 p.2) (λp=>((p.1+1-AY as bs alo blo p.1 p.2,p.2+1-AY as bs alo blo p.1 p.2,AY as bs alo blo p.1 p.2):A9)) (λb=>b.2.2) (λ_=>rfl) (alo,blo,0) rfl (Pv as bs alo ahi blo bhi) with⟨e1,z1⟩|⟨L1,x,L2,e1,p1,a1,b1,r1⟩<;>
 rcases I2 (λp:Nat×Nat=>Cw l r ahi bhi p.1 p.2) (λp=>((p.1,p.2,Cw l r ahi bhi p.1 p.2):Qj)) (λb=>b.2.2) (λ_=>rfl) (alo,blo,0) rfl (B8 ((kf (ahi-alo)).map (alo+·)) (E4 blo bhi st)) with⟨e2,z2⟩|⟨K1,y,K2,e2,p2,a2,b2,r2⟩
 ·rw[e1,e2]
 ·exfalso
  refine C1 (GK sS _ e2 a2 b2) λmy _ _=>?_
  obtain⟨i1,i2,i3⟩:=isStart y my
  refine Cg (toEnd y.1 y.2 _ i1 i2 i3 p2 (jP _)) λm1 m2=>?_
  have:=z1 _ m1
  dsimp only at this p2
  rwa[p2,m2,this]
 ·exfalso
  refine C1 (GK sE _ e1 a1 b1) λmx _ _=>?_
  refine C1 (toStart x mx p1) λm1 m2 _=>?_
  have:=z2 _ m1
  dsimp only at this p1
  rwa[p1,m2,this]
 ·rw[r1,r2]
  refine C1 (GK sE _ e1 a1 b1) λmx gx fx=>?_
  refine C1 (GK sS _ e2 a2 b2) λmy gy fy=>?_
  refine Ue (toStart x mx p1) λm1 m2 _ _ _=>?_
  refine C1 (isStart y my) λi1 i2 i3=>?_
  refine Cg (toEnd y.1 y.2 _ i1 i2 i3 p2 (jP _)) λn1 n2=>?_
  have g1:=gy _ m1
  have g2:=gx _ n1
  have f1:=fy (x.1+1-AY as bs alo blo x.1 x.2,x.2+1-AY as bs alo blo x.1 x.2) m1
  have f2:=fx (y.1+Cw l r ahi bhi y.1 y.2-1,y.2+Cw l r ahi bhi y.1 y.2-1) n1
  obtain⟨b1',b2'⟩:AY as bs alo blo x.1 x.2<=x.1+1-alo/\AY as bs alo blo x.1 x.2<=x.2+1-blo:=by
   obtain⟨h1,h2⟩:=DC.mp mx
   exact Fl as bs alo blo (C0.mp h1).1 ((CZ as bs blo bhi).mp h2).2.1
  dsimp only at p1 p2 g1 g2 f1 f2 m2 n2
  unfold J5 at f1 f2
  dsimp only at f1 f2
  generalize AY as bs alo blo x.1 x.2=k at *
  generalize Cw l r ahi bhi y.1 y.2=k' at *
  have hk:k=k':=xD (kN m2 g1) (kN n2 g2)
  subst hk
  have h1:¬(x.1+1-k<y.1\/x.1+1-k=y.1/\x.2+1-k<y.2):=λh=>by have:=f1 h;rwa[m2,g1,f1,h]
  have h2:¬(y.1+k-1<x.1\/y.1+k-1=x.1/\y.2+k-1<x.2):=λh=>by have:=f2 h;rwa[n2,g2,f2,h]
  refine Cg (Wc (kN b1' (p0 _ _)) (kN b2' (p0 _ _)) p1 h1 h2) λe3 e4=>?_
  rw[e3,e4]
theorem Oz(M:RN as bs l r st)(hst:st=4\/st=10):∀(f alo ahi blo bhi:Nat),ahi<=l.length->bhi<=r.length->alo<=ahi->blo<=bhi->Y3 as bs f alo ahi blo bhi=Dm l r st f alo ahi blo bhi
 | 0,_,_,_,_,_,_,_,_=>rfl
 | f+1,alo,ahi,blo,bhi,hA,hB,hi,hj=>by
  have e:=Pj M hst (alo:=alo) (blo:=blo) hA hB
  have ok:=F8 as bs alo blo bhi hi hj
  unfold Y3 Dm
  rw[e] at ok ⊢
  dsimp only
  generalize Cb l r st alo ahi blo bhi=t at *
  split
  ·rfl
  ·rw[Oz M hst f alo t.1 blo t.2.1 (by have:=ok.i1;(rename_i z0;rwa[hA,z0,this])) (by have:=ok.j1;(rename_i z0;rwa[hB,z0,this])) ok.i0 ok.j0,Oz M hst f _ ahi _ bhi hA hB ok.i1 ok.j1]
end
noncomputable def JZ:Nat×Nat->List A9->List AM
 | _,[]=>[]
 | e,t::r=>AH e (t.1,t.2.1)++B5 t++JZ (t.1+t.2.2,t.2.1+t.2.2) r
theorem TY(l:List A9):E0 l=JZ (0,0) l:=by
 have:∀(l:List A9) (s:Nat×Nat×List AM),(l.foldl Kk s).2.2=s.2.2++JZ (s.1,s.2.1) l:=by
  intro l
  induction l with
  | nil=>intro s;exact(kH _).symm
  | cons t r ih=>
   intro s
   show(r.foldl Kk (Kk s t)).2.2=_
   rw[ih]
   show s.2.2++AH (s.1,s.2.1) (t.1,t.2.1)++B5 t++_=s.2.2++(AH (s.1,s.2.1) (t.1,t.2.1)++B5 t++_)
   simp only[l8]
   rfl
 exact(this l (0,0,[])).trans (pj _)
theorem Jj(n m:Nat):∀(l:List A9) (e:Nat×Nat),(∀t∈l,0<t.2.2)->(JZ e (l++[(n,m,0)])).Perm (Cu l++Cl (e::l.map λt=>(t.1+t.2.2,t.2.1+t.2.2)) (BO l n m))
 | [],e,_=>by
  show(AH e (n,m)++B5 (n,m,0)++[]).Perm ([]++Cl [e] [(n,m)])
  rw[show B5 (n,m,0)=[] from if_pos rfl,kH,kH,pj]
  show(AH e (n,m)).Perm (AH e (n,m)++[])
  rw[kH]
 | t::r,e,h=>by
  have ih:=Jj n m r (t.1+t.2.2,t.2.1+t.2.2) λt ht=>h t (.tail _ ht)
  have ht:=h t (.head _)
  show(AH e (t.1,t.2.1)++B5 t++JZ _ (r++[(n,m,0)])).Perm ((("equal":jZ),t.1,t.1+t.2.2,t.2.1,t.2.1+t.2.2)::Cu r++(AH e (t.1,t.2.1)++Cl (_::r.map λt=>(t.1+t.2.2,t.2.1+t.2.2)) (BO r n m)))
  rw[show B5 t=[(("equal":jZ),t.1,t.1+t.2.2,t.2.1,t.2.1+t.2.2)] from if_neg (by rwa[ht])]
  refine(uN _ ih).trans ?_
  generalize AH e (t.1,t.2.1)=g
  generalize Cl (_::r.map λt=>(t.1+t.2.2,t.2.1+t.2.2)) (BO r n m)=z
  generalize Cu r=y
  generalize ((("equal":jZ),t.1,t.1+t.2.2,t.2.1,t.2.1+t.2.2):AM)=q
  have e1:g++[q]++(y++z)=g++(q::(y++z)):=by simp
  have e2:q::y++(g++z)=(q::y)++(g++z):=rfl
  rw[e1,e2]
  refine List.perm_middle.trans ?_
  show(q::(g++(y++z))).Perm (q::(y++(g++z)))
  refine List.Perm.cons _ ?_
  rw[<-l8,<-l8]
  exact List.Perm.append_right _ vJ
noncomputable def Gj (c:AM):Prop:=c.2.1<=c.2.2.1/\c.2.2.2.1<=c.2.2.2.2/\(c.2.1<c.2.2.1\/c.2.2.2.1<c.2.2.2.2)
noncomputable def RP (c d:AM):Prop:=c.2.2.1<=d.2.1/\c.2.2.2.2<=d.2.2.2.1
theorem I1{e b:Nat×Nat}(h1:e.1<=b.1)(h2:e.2<=b.2){c:AM}(hc:c∈AH e b):Gj c/\e.1<=c.2.1/\e.2<=c.2.2.2.1/\c.2.2.1<=b.1/\c.2.2.2.2<=b.2:=by
 unfold AH at hc
 split at hc
 ·cases hc
 ·rename_i hw
  obtain rfl:=jJ.mp hc
  refine⟨⟨h1,h2,?_⟩,jP _,jP _,jP _,jP _⟩
  unfold BL at hw
  by_cases c1:e.1<b.1
  ·exact .inl c1
  ·by_cases c2:e.2<b.2
   ·exact .inr c2
   ·exact(hw (by rw[if_neg c1,if_neg c2])).elim
noncomputable def KM:Nat×Nat->List A9->Prop
 | _,[]=>True
 | e,t::r=>e.1<=t.1/\e.2<=t.2.1/\KM (t.1+t.2.2,t.2.1+t.2.2) r
theorem TX:∀(l:List A9) (e:Nat×Nat),KM e l->(∀c∈JZ e l,Gj c/\e.1<=c.2.1/\e.2<=c.2.2.2.1)/\(JZ e l).Pairwise RP
 | [],_,_=>⟨λ_ h=>(nomatch h),.nil⟩
 | t::r,e,⟨h1,h2,h3⟩=>by
  obtain⟨ih1,ih2⟩:=TX r _ h3
  have eqP:∀c∈B5 t,Gj c/\t.1<=c.2.1/\t.2.1<=c.2.2.2.1/\c.2.2.1<=t.1+t.2.2/\c.2.2.2.2<=t.2.1+t.2.2:=λc hc=>by
   unfold B5 at hc
   split at hc
   ·cases hc
   ·obtain rfl:=jJ.mp hc
    exact⟨⟨lZ _ _,lZ _ _,.inl (by show t.1<t.1+t.2.2;(rename_i z0;rwa[z0]))⟩,jP _,jP _,jP _,jP _⟩
  have gP:∀c∈AH e (t.1,t.2.1),_:=λc hc=>I1 (e:=e) (b:=(t.1,t.2.1)) h1 h2 hc
  dsimp only at gP
  refine⟨λc hc=>?_,?_⟩
  ·rcases jW.mp hc with hc|hc
   ·rcases jW.mp hc with hc|hc
    ·exact⟨(gP c hc).1,(gP c hc).2.1,(gP c hc).2.2.1⟩
    ·have:=eqP c hc;exact⟨this.1,by lia,by lia⟩
   ·have:=ih1 c hc;dsimp only at this;exact⟨this.1,by lia,by lia⟩
  ·refine nN.mpr ⟨nN.mpr ⟨?_,?_,λc hc d hd=>?_⟩,ih2,λc hc d hd=>?_⟩
   ·unfold AH;split
    ·exact .nil
    ·exact nZ _ _
   ·unfold B5;split
    ·exact .nil
    ·exact nZ _ _
   ·have a:=gP c hc;have b:=eqP d hd
    exact⟨by lia,by lia⟩
   ·have b:=ih1 d hd
    dsimp only at b
    rcases jW.mp hc with hc|hc
    ·have a:=gP c hc
     exact⟨by lia,by lia⟩
    ·have a:=eqP c hc
     exact⟨by lia,by lia⟩
noncomputable def Fm (c:AM):Int:=(((c.2.1*1000+c.2.2.1)*1000+c.2.2.2.1)*1000+c.2.2.2.2:Nat)
noncomputable def EK (c:AM):Prop:=c.2.1<1000/\c.2.2.1<1000/\c.2.2.2.1<1000/\c.2.2.2.2<1000
theorem Z4{c d:AM}(pc:Gj c)(pd:Gj d)(b:RP c d)(sc:EK c)(sd:EK d):Fm c<Fm d:=by
 obtain⟨w,i,i',j,j'⟩:=c
 obtain⟨w',k,k',l,l'⟩:=d
 unfold Gj at pc pd
 unfold RP at b
 unfold EK at sc sd
 unfold Fm
 dsimp only at *
 rwa[pc,pd,b]
theorem lx{x y a b:Nat}(ha:a<1000)(hb:b<1000):x*1000+a<y*1000+b↔x<y\/x=y/\a<b:=by
 refine⟨λh=>?_,λh=>?_⟩<;>rwa[ha,hb,h]
theorem iX{x y a b:Nat}(ha:a<1000)(hb:b<1000):x*1000+a=y*1000+b↔x=y/\a=b:=by
 refine⟨λh=>?_,λh=>by rw[h.1,h.2]⟩
 obtain rfl:x=y:=xD (om λz=>Nat.ne_of_gt ((lx hb ha).mpr (.inl z)) h) (om λz=>lz ((lx ha hb).mpr (.inl z)) h)
 exact⟨rfl,Nat.add_left_cancel h⟩
theorem Yh{c d:AM}(sc:EK c)(sd:EK d):Fm c<Fm d↔(c.2.1<d.2.1\/(c.2.1=d.2.1/\(c.2.2.1<d.2.2.1\/(c.2.2.1=d.2.2.1/\(c.2.2.2.1<d.2.2.2.1\/(c.2.2.2.1=d.2.2.2.1/\c.2.2.2.2<d.2.2.2.2)))))):=by
 unfold Fm
 rw[mH,lx sc.2.2.2 sd.2.2.2,lx sc.2.2.1 sd.2.2.1,lx sc.2.1 sd.2.1,iX sc.2.2.1 sd.2.2.1,iX sc.2.1 sd.2.1]
 simp only[or_assoc,and_assoc,and_or_left]
theorem KF{n m:Nat}:∀(l:List A9) (e:Nat×Nat),(∀t∈l,e.1<=t.1/\e.2<=t.2.1)->(∀t∈l,t.1+t.2.2<=n/\t.2.1+t.2.2<=m)->(l.Pairwise λx y=>x.1+x.2.2<=y.1/\x.2.1+x.2.2<=y.2.1)->e.1<=n->e.2<=m->KM e (l++[(n,m,0)])
 | [],e,_,_,_,h1,h2=>⟨h1,h2,trivial⟩
 | t::r,e,h1,h2,h3,_,_=>by
  obtain⟨p1,p2⟩:=oA.mp h3
  exact⟨(h1 t (.head _)).1,(h1 t (.head _)).2,KF r _ (λu hu=>p1 u hu) (λu hu=>h2 u (.tail _ hu)) p2 (h2 t (.head _)).1 (h2 t (.head _)).2⟩
theorem Hx.chain{α:Type}[DecidableEq α]{as bs:List α}{n m:Nat}{l:List A9}(r:Hx as bs 0 n 0 m l):KM (0,0) (l++[(n,m,0)]):=
 KF l (0,0) (λt ht=>⟨kh _,kh _⟩) (λt ht=>⟨(r.inn t ht).2.1,(r.inn t ht).2.2.2⟩) (r.ord.imp λh=>⟨h.1,h.2.1⟩) (kh _) (kh _)
theorem TW{n m:Nat}:∀(l:List A9) (e:Nat×Nat),KM e l->(∀t∈l,t.1+t.2.2<=n/\t.2.1+t.2.2<=m)->∀c∈JZ e l,c.2.2.1<=n/\c.2.2.2.2<=m
 | [],_,_,_=>λ_ h=>(nomatch h)
 | t::r,e,⟨h1,h2,h3⟩,h=>λc hc=>by
  have ht:=h t (.head _)
  rcases jW.mp hc with hc|hc
  ·rcases jW.mp hc with hc|hc
   ·have:=I1 (e:=e) (b:=(t.1,t.2.1)) h1 h2 hc
    dsimp only at this
    exact⟨by lia,by lia⟩
   ·unfold B5 at hc
    split at hc
    ·cases hc
    ·obtain rfl:=jJ.mp hc
     exact ht
  ·exact TW r _ h3 (λu hu=>h u (.tail _ hu)) c hc
theorem H8{n m:Nat}:∀(l:List A9) (e:Nat×Nat),KM e (l++[(n,m,0)])->OC (e::l.map λt=>(t.1+t.2.2,t.2.1+t.2.2)) (BO l n m)
 | [],e,⟨h1,h2,_⟩=>λk a b ha hb=>by
  cases k with
  | zero=>cases ha;cases hb;exact⟨h1,h2⟩
  | succ k=>exact B6 ha
 | t::r,e,⟨h1,h2,h3⟩=>λk a b ha hb=>by
  cases k with
  | zero=>cases ha;cases hb;exact⟨h1,h2⟩
  | succ k=>exact H8 r _ h3 k a b ha hb
theorem Ph:∀(es bs:List (Nat×Nat)),(Cl es bs).length<=es.length
 | [],bs=>kh _
 | e::es,[]=>kh _
 | e::es,b::bs=>by
  have:=Ph es bs
  unfold Cl at this ⊢
  rw[sQ,lu,j7,j9]
  have h1:=Ub e b
  dsimp only
  rwa[this,h1]
structure XF (n m:Nat) (l:List A9) (ops:List AM):Prop where
 perm:ops.Perm (Ew l n m)
 asc:ops.Pairwise λc d=>Fm c<Fm d
 small:∀c∈ops,EK c
 order:OC (Df l) (BO l n m)
 len:(Ew l n m).length<=2*l.length+1
theorem XR{α:Type}[DecidableEq α]{as bs:List α}{n m:Nat}{l:List A9}(r:Hx as bs 0 n 0 m l)(hn:n<1000)(hm:m<1000):XF n m l (E0 (l++[(n,m,0)])):=by
 have ch:=r.chain
 obtain⟨h1,h2⟩:=TX _ _ ch
 have tp:=TW (n:=n) (m:=m) _ _ ch λt ht=>by
  rcases jW.mp ht with ht|ht
  ·exact⟨(r.inn t ht).2.1,(r.inn t ht).2.2.2⟩
  ·rw[jJ.mp ht];exact⟨jP _,jP _⟩
 rw[TY]
 have sm:∀c∈JZ (0,0) (l++[(n,m,0)]),EK c:=λc hc=>by
  have a:=(h1 c hc).1
  have b:=tp c hc
  unfold Gj at a
  unfold EK
  rwa[hn,hm,a,b]
 refine⟨Jj n m l (0,0) r.pos,?_,sm,H8 l _ ch,?_⟩
 ·refine List.Pairwise.imp_of_mem (λ{c d} hc hd b=>Z4 (h1 c hc).1 (h1 d hd).1 b (sm c hc) (sm d hd)) h2
 ·have:=Ph (Df l) (BO l n m)
  unfold Ew
  rw[j7]
  unfold Df at this
  simp only[Cu,Df,jK,j9] at this ⊢
  rwa[this]
theorem XO.run{Γ:Cx}{σ:AX}{e:kJ}{ds:List jQ}{O:Ap}{s:jG}{Q:jD->jG->Prop}{E:jD->jG->Prop}(h:XO Γ σ e ds)(t:St Γ O σ s)(q:∀a vs as s',kZ s s'->s.heap.get? a=none->s'.heap.PlainList a vs->Ae s'.heap vs.toList ds as->(∀b∈as,¬O.has b)->a∉as->Q (.ref a) s'):wpAny (model Γ.prog Γ.w) Γ.A (eval e Γ.env) Q E s:=h O s Q E t q
theorem Yn{w:jY}{A:kC}{s:jG}{O:Ap}{I D:jN}{m:jZ->Option jD}{k:Nat}{xI:j6}{as bs:List jZ}{mg mb:jZ->Option jD}{Q:jD->jG->Prop}{E:jD->jG->Prop}(K:Bn w xI)(T:Br mg mb xI)(hgM:mg "Match"=some (.ref CM))(room:A0 A 8)(hk:HK xI s)(own:CJ O s)(hD0:xI.get? D=none)
 (i:Zd w as bs s.heap I D m k O)(hkk:k<=700)(lA:as.length<=63)(lB:bs.length<=63)(hop:m "opcodes"=some .none)
 (q:∀s' S,AI s s'->(∀b o,b≠D->s.heap.get? b=some o->s'.heap.get? b=some o)->VR O s'.heap (.py (.list ((E0 (Gg as bs)).map Da))) (.ref S)->(∃o,s'.heap.get? D=some o)->Q (.ref S) s') :
 wpAny (model pw w) A (call (.ref 210) [.ref I]) Q E s:=by
 delta w A s O I D m k xI as bs mg mb Q E at K T hgM room hk own hD0 i hkk lA lB hop q
 refine H0 i.rm λpl rmi hpl hDp hIp=>?_
 have hDO:¬O.has D:=hpl D hDp
 refine Db (args:=⟨[.ref I],[]⟩) (vs:=[.ref I]) (fd:=Bq (Eg w.params)) (st:=BB 5 8) K T.gl.nolimit room hk own hDO (f:=210) (o:=Eg w.params) (by kernel_rfl) (by kernel_rfl) (d3 _) (by kernel_rfl) (.of_eq (Y4 _ _)) rfl (λN rm s1 E' t k1=>?_)
 have MF:=Zc.of (w:=w) i.inn hDO
 have hk0:HK xI (A6 s D):=Es hk hD0
 have new0:s.heap.get? s.heap.objs.size=none:=Bk (jP _)
 have liveP:∀a∈pl,∃o,s.heap.get? a=some o:=λa ha=>Af ((DH w as bs I).solid rmi a ha) λo e _=>(Ag o e)
 have KS:∀s':jG,(∀b o,(A6 s D).heap.get? b=some o->s'.heap.get? b=some o)->Bn w s'.heap:=λs' h=>K.keeps λb o e=>h b o (hk0 b o e)
 have hh:(fO w A (A6 s D) s O).A.handled=none:=rm.handled
 refine Fp t λs2 k2 t2=>?_
 have k12:=Keeps.tr k1 k2
 have i2:=i.inn.keeps (Aw k12)
 refine km (ur (qg (DJ rfl t2 (KS s2 t2.keep) i2 (Aa 0) hop λs4 k4 t4=>Ev.run Fb t4 λv s5 t5 k5 r5=>?_) (by rfl)))
 obtain rfl:v=.none:=r5
 refine uq (by rfl) (nR ?_)
 refine l5 ?_
 have k15:=Keeps.tr (Keeps.tr k12 k4) k5
 refine Wm t5 (Uz N 1 2 (d:=.int 0) Ai ⟨rfl,rfl⟩) (P:=λσ'=>σ'=[some (.val (.raw (.ref I))),pI (0:Nat),pI (0:Nat),none,none,none,none,none]) ?_
 rintro O6 σ6 s6 fx6 t6 rfl
 have hnocell:∀b,∀x,(x,b)∉(fO w A (A6 s D) s O).env.cells:=λb x h=>(by cases h)
 have i5:=i.inn.keeps (Aw k15)
 have hplO:∀a∈pl,¬Ap.has (("",s.heap.objs.size)::O) a:=λa ha=>by
  rintro⟨p,hp,e⟩
  rcases jI.mp hp with rfl|hp
  ·obtain⟨o,e'⟩:=liveP a ha
   rw[<-e,new0] at e';exact B6 e'
  ·exact hpl a ha (Ac p hp e)
 have old6:∀b o,s.heap.get? b=some o->b∈pl->s6.heap.get? b=some o:=λb o e hb=>fx6.at (Aw k15 b o e) (hplO b hb) (hnocell b)
 have in6:IN s6.heap I D m k:=by
  refine Ao i.inn.dict λes n e r=>?_
  exact⟨old6 _ _ i.inn.inst hIp,es,n,old6 _ _ e hDp,r⟩
 have hpl6:∀a∈pl,¬O6.has a:=λa ha h=>by
  rcases fx6.own a h with z|z
  ·exact hplO a ha z
  ·obtain⟨o,e⟩:=liveP a ha
   exact B0 z (Aw k15 _ _ e)
 refine km (oC (XO.run (CH (ds:=[]) Ah (by decide)) t6 λa vs as7 s7 k7 hn l7 r7 q7 hna=>?_) (by rfl) (by rfl))
 have t7:=ET (x:="answer") t6 k7 hn (AR l7 λn e=>(Ag _ e))
 have in7:=in6.keeps (Aw k7)
 have aD:a≠D:=λz=>by
  refine Ao in6.dict λes n e _=>?_
  rw[z,e] at hn;exact XM hn
 have old67:∀b∈pl,¬Ap.has (("answer",a)::O6) b:=λb hb=>by
  rintro⟨p,hp,e⟩
  rcases jI.mp hp with rfl|hp
  ·obtain⟨o,e'⟩:=liveP b hb
   have e:a=b:=e
   rw[e,old6 _ _ e' hb] at hn;exact XM hn
  ·exact hpl6 b hb (Ac p hp e)
 refine Dn (Bw 0 t7 (F7 (KS s7 t7.keep) in7 (by rwa[hkk]) λh8 i8 sb8=>?_))
 refine Ao in7.dict λes7 n7 eD7 _=>?_
 refine Ao i8.dict λes8 n8 eD8 _=>?_
 have t8:=Ej (tk:=s7.toks+2) N t7 A3 MF.dl (old67 D hDp) eD7 rfl rfl sb8 eD8
 refine lK (G4 N (i:=3) (x:="answer") (b:=.own []) rfl (jV rfl) rfl t8 (CA a vs [] rfl (.head _) (l7.at (λo e=>(sb8.2 a aD).trans e)) (by rw[Bg r7];exact .nil) (λ_ h=>(nomatch h)) ?_) λs9 f9 t9=>?_)
 ·cases e:(A6 s D).heap.get? a with
  | none=>exact e
  | some o=>have:=t6.keep a o e;exact B0 hn this
 have live7:∀b o,s.heap.get? b=some o->¬O.has b->¬Ap.has (("answer",a)::O6) b:=λb o e hb=>by
  have h1:¬Ap.has (("",s.heap.objs.size)::O) b:=by
   rintro⟨p,hp,e'⟩
   rcases jI.mp hp with rfl|hp
   ·have e':s.heap.objs.size=b:=e'
    rw[<-e',new0] at e;exact B6 e
   ·exact hb (Ac p hp e')
  rintro⟨p,hp,e'⟩
  rcases jI.mp hp with rfl|hp
  ·have e':a=b:=e'
   rw[e',fx6.at (Aw k15 b o e) h1 (hnocell b)] at hn;exact XM hn
  ·rcases fx6.own b (Ac p hp e') with z|z
   ·exact h1 z
   ·exact B0 z (Aw k15 b o e)
 have kp9:∀b o,s.heap.get? b=some o->b≠D->¬O.has b->s9.heap.get? b=some o:=λb o e hb hO=>by
  have h1:¬Ap.has (("",s.heap.objs.size)::O) b:=by
   rintro⟨p,hp,e'⟩
   rcases jI.mp hp with rfl|hp
   ·have e':s.heap.objs.size=b:=e'
    rw[<-e',new0] at e;exact B6 e
   ·exact hO (Ac p hp e')
  exact f9.at ((sb8.2 b hb).trans (Aw k7 b o (fx6.at (Aw k15 b o e) h1 (hnocell b)))) (live7 b o e hO) (hnocell b)
 have tp9:∀b o,s.heap.get? b=some o->(o.cls=.type "tuple"/\∃vs n,o.data=.seq vs n)->s9.heap.get? b=some o:=λb o e ht=>by
  have e7:=Aw k7 b o (fx6.tups b o (Aw k15 b o e) ht)
  have hb:b≠D:=λz=>by
   rw[z,eD7] at e7;(replace e7:=si e7;subst e7)
   exact absurd (show jX "dict"=jX "tuple" from ht.1) (by decide)
  exact f9.tups b o ((sb8.2 b hb).trans e7) ht
 have i9:IN s9.heap I D (Bm m "opcodes" (.ref a)) (k+1):=by
  refine Ao i8.dict λes n e r=>?_
  exact⟨f9.at i8.inst (old67 I hIp) (hnocell I),es,n,f9.at e (old67 D hDp) (hnocell D),r⟩
 have mat9:Zd w as bs s9.heap I D (Bm m "opcodes" (.ref a)) (k+1) (("answer",a)::O6):=
  i.step i9 (λla lb dj sj h=>⟨(if_neg (by decide)).trans h.a,(if_neg (by decide)).trans h.b,(if_neg (by decide)).trans h.b2j,(if_neg (by decide)).trans h.bjunk,(if_neg (by decide)).trans h.mb,(if_neg (by decide)).trans h.flm,(if_neg (by decide)).trans h.gmb⟩) kp9 tp9 live7
 obtain⟨la,lb,dj,sj,led,ls,mo9,_⟩:=mat9.ex
 have row:=GV as bs
 have hlb:(Gg as bs).length<=64:=by
  have:=row.len
  unfold Gg
  rw[j7,pQ];rwa[lA,this]
 refine km (VG (ds:=(Gg as bs).map Fq) (O:=(("answer":jZ),a)::O6) (P:=λaf σ'=>af=.next/\∃x y z u i j,σ'=O5 I i j (E0 (Gg as bs)) x y z u) N (λs'=>AI s s'/\(∃o,s'.heap.get? D=some o)/\∀b o,(A6 s D).heap.get? b=some o->s'.heap.get? b=some o) (λQ' hQ'=>mj (Bw 0 t9 (Ep (f:=203) (KS s9 t9.keep) i9 mo9.gmb (xe (K:=KK w.params) (KS s9 t9.keep).k (by kernel_rfl) ?_))) (by rfl))
  (λt σ=>∃x y z u,σ=O5 I (FM ((Gg as bs).take t)).1 (FM ((Gg as bs).take t)).2.1 (FM ((Gg as bs).take t)).2.2 x y z u) (EH none none none none rfl) ?_ ?_ ?_)
 ·refine YM K T hgM (rm.le (by rwa[])) (λb o e=>t9.keep b o (hk0 b o e)) t9.ownOk hD0 mat9 (by rwa[hkk]) lA lB λs10 S al10 kp10 r10 hD10=>?_
  refine B1 al10 λh10 tk10 zz1=>?_;clear al10;obtain rfl:=zz1
  refine Ao i9.dict λes9 n9 eD9 _=>?_
  obtain⟨o10,eD10⟩:=hD10
  have t10:=Ek (tk:=tk10) N t9 A3 MF.dl (old67 D hDp) eD9 rfl rfl kp10 eD10
  exact I6 N hh t10 r10 (hQ' _ t10 ⟨(Bc k15).tr (fx6.alike.tr ((Bc k7).tr (AI.tr (AS _ _ rfl) (f9.alike.tr (AS _ _ rfl))))),(Ag o10 eD10),t10.keep⟩)
 ·intro t d σ1 hd zz1;refine Eb zz1 λx y z u zz2=>?_;clear zz1;obtain rfl:=zz2
  rw[kc] at hd
  refine Af (j8.mp hd) λb hb zz1=>?_;obtain rfl:=zz1
  have ht:t<(Gg as bs).length:=(jM.mp hb).1
  refine Ac _ (XC rfl K hk0 N hh [4,5,6] ⟨rfl,rfl,rfl,rfl,rfl,rfl,trivial⟩) ?_
  have hl:=U9 ((Gg as bs).take t)
  rw[lp] at hl
  refine Ws N hh I _ _ _ b _ (by rwa[hlb,ht,hl]) _ λtag=>EH (pI b.1) (pI b.2.1) (pI b.2.2) tag ?_
  have:(Gg as bs).take (t+1)=(Gg as bs).take t++[b]:=by rw[kQ,hb];rfl
  rw[this,Rk]
  rfl
 ·intro σ1 zz1;refine Eb zz1 λx y z u zz2=>?_;clear zz1;obtain rfl:=zz2
  refine Aj ⟨rfl,x,y,z,u,(FM (Gg as bs)).1,(FM (Gg as bs)).2.1,?_⟩
  rw[jK,lD]
  rfl
 ·intro s' O' fl af σ' s'' zz1 fx t' fr zz3;refine C1 zz1 λal zz2 kp=>?_;obtain⟨oD,eD⟩:=zz2;obtain⟨rfl,x,y,z,u,i',j',rfl⟩:=zz3
  obtain rfl:fl=.next:=fr
  refine(Ct N 3 (Ad (AQ (Aa 3) rfl)):Ex (fO w A (A6 s D) s O) _ _ (λaf _=>af=.ret (.py (.list ((E0 (Gg as bs)).map Da))))) O' s'' _ _ t' λO2 fl af σ2 s2 fx2 t2 fr2 haf=>?_
  subst haf
  refine Af fr2 λv zz1 zz2=>?_;clear fr2;obtain rfl:=zz1;obtain⟨fp,r,hfp⟩:=zz2
  have hS:∃S,v=.ref S:=by cases r;exact Ag _ rfl
  obtain⟨S,rfl⟩:=hS
  exact q s2 S (al.tr (fx.alike.tr fx2.alike)) (λb o hb e=>t2.keep b o ((Bj hb).trans e)) (Ac fp r λb hb h=>hfp b hb (Af h λp hp e=>t2.sub b (Ac p (.tail _ hp) e))) (by
   obtain⟨o1,e1⟩:=fx.dom D oD eD
   exact fx2.dom D o1 e1)
noncomputable def HT (st k c:Nat):jZ:=(⟨#[c]⟩:jZ)++jB (toString (((k:Nat):Int).fmod (st:Nat)))
noncomputable def Bp (l:jZ) (st:Nat):List jZ:=l.cps.toList.mapIdx λk c=>HT st k c
theorem BE(l:jZ)(st:Nat):(Bp l st).length=l.length:=by simp[Bp];rfl
noncomputable def Yq:List jZ:=["left","right","step","matcher"]
theorem gc(pm cd doc dv kdv:jD):Bf (Az 49 pm cd doc dv kdv) (Am (stm 49)) ["left","right","step"] Yq:=.of (by decide +kernel)
theorem aX(pm cd doc v u x:jD):l6 (Az 49 pm cd doc .none .none) ⟨[v,u,x],[]⟩=pure [((jB "left"),v),((jB "right"),u),((jB "step"),x)]:=by rfl
theorem BJ.fin{w:jY}{h:j6}{dj:jN}{bs:List jZ}{n:Nat}{Lk:jN->Prop}(b:BJ w h dj bs n Lk):∃ls:List jN,BJ w h dj bs n (·∈ls)/\(∀l∈ls,Lk l)/\∀l∈ls,∃vs,h.PlainList l vs:=by
 delta w h dj bs n Lk at b
 refine W4 b.map λkvs h1 h2 h3 h4 h5=>?_
 refine⟨(bs.filter λx=>decide (Oj bs n x≠[])).filterMap λx=>match valueAt kvs x with|some (.ref l)=>some l|_=>none,⟨kvs,h1,h2,h3,λx hx=>?_,h5⟩,λl hl=>?_,λl hl=>?_⟩
 ·refine E8 (h4 x hx) λl vs e _ p q=>?_
  refine⟨l,vs,e,qL.mpr ⟨x,kd.mpr ⟨?_,decide_eq_true hx⟩,by rw[e]⟩,p,q⟩
  obtain⟨i,hi⟩:=List.exists_mem_of_ne_nil _ hx
  unfold Oj at hi
  refine Af (kq.mp hi) λk hk zz1=>?_;obtain rfl:=zz1
  have:=of_decide_eq_true (kd.mp hk).2
  exact kx this
 ·refine Af (qL.mp hl) λx hx e=>?_
  refine BD (h4 x (of_decide_eq_true (kd.mp hx).2)) λl' vs e' p _=>?_
  rw[e'] at e
  cases e;exact p
 ·refine Af (qL.mp hl) λx hx e=>?_
  refine E8 (h4 x (of_decide_eq_true (kd.mp hx).2)) λl' vs e' _ p _=>?_
  rw[e'] at e
  cases e;exact Ag vs p
theorem EW{h:j6}{v:jD}{bs:List jZ}{fp:List jN}(r:Ak h v (.list (bs.map .str)) fp):∃l,v=.ref l/\fp=[l]:=by
 delta h bs at v fp r
 generalize hd:PyData.list (bs.map .str)=d at r
 cases r with
 | list _ _ _ ra=>
  cases hd
  obtain⟨_,rfl⟩:=FE ra
  exact Ac _ rfl rfl
 | _=>exact PySem.PyData.noConfusion hd
theorem YH(P:jE):keepIn (KK P) (.ref CS)=true:=by kernel_rfl
theorem Pu{u:jZ}{i:Nat}{d:jQ}(h:(Ce (Dv u))[i]?=some d):∃c,u.cps.toList[i]?=some c/\d=.tuple [.int i,.str ⟨#[c]⟩]:=by
 refine Af (Eu h) λd' h1 zz1=>?_;obtain rfl:=zz1
 unfold Dv at h1
 rw[kc] at h1
 refine Af (j8.mp h1) λc hc zz1=>?_;obtain rfl:=zz1
 exact Ac c hc rfl
theorem Q9{n:Int}(h0:0<=n)(h1:n<1000):(jB (toString n)).length<=4:=by
 have:∀k:Fin 1000,(jB (toString ((k.val:Nat):Int))).length<=4:=by decide +kernel
 have:=this ⟨n.toNat,by rwa[h1]⟩
 rwa[show(((⟨n.toNat,by lia⟩:Fin 1000).val:Nat):Int)=n from(show((n.toNat:Nat):Int)=n by lia)] at this
theorem IS(st i c:Nat)(hst:0<st)(hst':st<1000):(⟨#[c]⟩:jZ).length+(jB (toString (((i:Nat):Int).fmod (st:Nat)))).length<=100000:=by
 have:=Q9 (n:=((i:Nat):Int).fmod (st:Nat)) (kM _ (by rwa[hst,hst'])) (tL (lm _ (by rwa[hst,hst'])) (by rwa[hst,hst']))
 have h1:(⟨#[c]⟩:jZ).length=1:=rfl
 rwa[this,h1]
theorem UM{w:jY}{A:kC}{s:jG}{O:Ap}{a:jN}{mg mb:jZ->Option jD}{xI:j6}{pm cd doc dv kdv:jD}(K:Bn w xI)(T:Br mg mb xI)(hgM:mg "Match"=some (.ref CM))(hgS:mg "SequenceMatcher"=some (.ref CS))(hk:HK xI s)(l r:jZ)(st:Nat)(hst:0<st)(hst':st<1000)(hl:l.length<=63)(hr:r.length<=63)
 (N:Nm (Dx pw w A s (Az 49 pm cd doc dv kdv) a Yq O))(room:A0 (A.deeper (callEnvC (Az 49 pm cd doc dv kdv) s.heap.objs.size a)) 10) :
 Ex (Dx pw w A s (Az 49 pm cd doc dv kdv) a Yq O) (Bi [.py (.str l),.py (.str r),.py (.int st)] 1) (Am (stm 49)) (λaf _=>af=.ret (.py (.list ((E0 (Gg (Bp l st) (Bp r st))).map Da)))):=by
 delta w A s O a mg mb xI pm cd doc dv kdv l r st at K T hgM hgS hk hst hst' hl hr N room
 have hh:=room.handled
 intro O1 s1 Q E t1 q
 have kU:∀s':jG,(∀b o,s.heap.get? b=some o->s'.heap.get? b=some o)->Bn w s'.heap:=λs' h=>K.keeps λb o e=>h b o (hk b o e)
 refine km (l9 (qS (Ev.run (BU T hk hgS) t1 λv s2 t2 k2 r2=>?_) (by rfl)) (by rfl))
 obtain rfl:v=.ref CS:=r2
 refine tZ (K:=KK w.params) (kU s2 t2.keep).k (YH _) ((Ab Fu
  (Ab (Be (C4 N (ds:=Ce (Dv l)) (rs:=(Bp l st).map .str) (cl:=[(jB "step",s.heap.objs.size+1)]) (ns:=["k","sign","step"]) (σ0:=[none,none,some (.val (.py (.int st)))])
   (BS.of (by decide +kernel) rfl (nZ _ _) (show([jB "step"]:List jZ).Nodup by decide +kernel) ?_ ?_) (Kx N hh (A1 T hk) (Aa 0)) ?_ ?_ ?_))
  (Ab (Be (C4 N (ds:=Ce (Dv r)) (rs:=(Bp r st).map .str) (cl:=[(jB "step",s.heap.objs.size+1)]) (ns:=["k","sign","step"]) (σ0:=[none,none,some (.val (.py (.int st)))])
   (BS.of (by decide +kernel) rfl (nZ _ _) (show([jB "step"]:List jZ).Nodup by decide +kernel) ?_ ?_) (Kx N hh (A1 T hk) (Aa 1)) ?_ ?_ ?_)) Ah))) O1 s2 _ _ _ t2 λvs s3 t3 k3 r3=>⟨(kU s3 t3.keep).k,?_⟩)
 ·intro x c h
  obtain e:=jJ.mp h
  cases e;kernel_rfl
 ·exact λC=>sn (sn (sc (⟨2,_,s.heap.objs.size+1,rfl,rfl,rfl,by kernel_rfl,by kernel_rfl,by kernel_rfl,by kernel_rfl⟩) λ_ _ _ e=>B6 e))
 ·simp[Ce,Dv,Bp]
 ·rw[jK,BE];rwa[hl]
 ·intro C hC N' i d hd
  refine Af (Pu hd) λc hc zz1=>?_;obtain rfl:=zz1
  have hi:i<l.length:=(jM.mp hc).1
  have hm:(((i:Nat):Int).fmod (st:Nat))<1000/\0<=(((i:Nat):Int).fmod (st:Nat)):=⟨tL (lm _ (by rwa[hst,hst'])) (by rwa[hst,hst']),kM _ (by rwa[hst,hst'])⟩
  refine C6 _ (.str (HT st i c)) (by rw[kc];unfold Bp;rw[oW,hc];rfl) ?_ (BV N' hh [0,1] (ds:=[_,_]) ⟨rfl,rfl,rfl,rfl,trivial⟩) ?_
  ·exact λj b=>iQ
  ·exact Hn (Aa 1) (Pq (A1 T hk) (CB (Aa 0) (Aa 2) (by rwa[hst,hst'])) (by(clear_value *;omega))) (IS st i c hst hst')
 ·intro x c h
  obtain e:=jJ.mp h
  cases e;kernel_rfl
 ·exact λC=>sn (sn (sc (⟨2,_,s.heap.objs.size+1,rfl,rfl,rfl,by kernel_rfl,by kernel_rfl,by kernel_rfl,by kernel_rfl⟩) λ_ _ _ e=>B6 e))
 ·simp[Ce,Dv,Bp]
 ·rw[jK,BE];rwa[hr]
 ·intro C hC N' i d hd
  refine Af (Pu hd) λc hc zz1=>?_;obtain rfl:=zz1
  have hi:i<r.length:=(jM.mp hc).1
  have hm:(((i:Nat):Int).fmod (st:Nat))<1000/\0<=(((i:Nat):Int).fmod (st:Nat)):=⟨tL (lm _ (by rwa[hst,hst'])) (by rwa[hst,hst']),kM _ (by rwa[hst,hst'])⟩
  refine C6 _ (.str (HT st i c)) (by rw[kc];unfold Bp;rw[oW,hc];rfl) ?_ (BV N' hh [0,1] (ds:=[_,_]) ⟨rfl,rfl,rfl,rfl,trivial⟩) ?_
  ·exact λj b=>iQ
  ·exact Hn (Aa 1) (Pq (A1 T hk) (CB (Aa 0) (Aa 2) (by rwa[hst,hst'])) (by(clear_value *;omega))) (IS st i c hst hst')
 ·refine Cf r3.three λv1 v2 v3 zz1 r1 r2 r3'=>?_;obtain rfl:=zz1
  refine Af r1 λas1 rn _=>?_
  cases rn
  refine Af r2 λfpa ra qa=>?_
  refine Af (EW ra) λla zz1 zz2=>?_;obtain rfl:=zz1;obtain rfl:=zz2
  refine Af r3' λfpb rb qb=>?_
  refine Af (EW rb) λlb zz1 zz2=>?_;obtain rfl:=zz1;obtain rfl:=zz2
  refine WC K T room (λb o e=>t3.keep _ _ (hk b o e)) t3.ownOk rb qb (by rw[BE];rwa[hr]) λs4 I D dj sj sp led al4 kp4 fI fD i4 bj ⟨fdj,dD⟩ fsj esj=>?_
  refine B1 al4 λh4 tk4 zz1=>?_;clear al4;obtain rfl:=zz1
  have k34:kZ s3 {s3 with heap:=h4,toks:=tk4}:=AT h4 tk4 rfl kp4
  have t4:=t3.of_keeps k34
  have k14:=Keeps.tr k2 (Keeps.tr k3 k34)
  have hsz:∃o,s3.heap.get? s.heap.objs.size=some o:=by
   refine Af t3.ex λmm zz1 _=>?_;obtain⟨o,_,_,e,_⟩:=zz1
   exact Ag o e
  have neL:∀b,s3.heap.get? b=none->b≠s.heap.objs.size:=λb e z=>by
   obtain⟨o,e'⟩:=hsz
   rw[<-z,e] at e';exact B6 e'
  have frO:∀b,s3.heap.get? b=none->¬O1.has b:=λb e ⟨p,hp,e'⟩=>by
   obtain⟨o,e2⟩:=t3.live p hp
   rw[e',e] at e2;exact B6 e2
  have frs:∀b,s3.heap.get? b=none->s.heap.get? b=none:=λb e=>by
   cases e':s.heap.get? b with
   | none=>rfl
   | some o=>exact B0 e (t3.keep _ _ e')
  have LO:O1.has s.heap.objs.size:=t3.sub _ t3.frame
  generalize hs4:({s3 with heap:=h4,toks:=tk4}:jG)=s4 at *
  refine AG N (i:=3) (x:="matcher") (b:=.val (.raw (.ref I))) rfl (jV rfl) rfl t4 rfl λs5 a5 u5 t5=>?_
  have h4e:s4.heap=h4:=by rw[<-hs4]
  have u5':∀b o,b≠s.heap.objs.size->s4.heap.get? b=some o->s5.heap.get? b=some o:=u5
  have i5:IN s5.heap I D (Bm (Bm (Bm (mI (λ_=>none) la lb) "b2j" (.ref dj)) "bjunk" (.ref sj)) "bpopular" (.ref sp)) 14:=by
   obtain⟨es,n,e,r⟩:=i4.dict
   exact⟨u5' _ _ (neL I fI) i4.inst,es,n,u5' _ _ (neL D fD) e,r⟩
  have rd:∀(ls:List jZ) (x:jN),VR O1 s3.heap (.py (.list (ls.map .str))) (.ref x)->Ak s5.heap (.ref x) (.list (ls.map .str)) [x]/\¬O1.has x:=λls x rx=>by
   obtain⟨fp,r1,q1⟩:=VR.avoid (O:=O1) (rx.kept k34) LO (λb hb o e=>u5' b o hb e) (by obtain⟨m,n,_⟩:=t4.ex;exact A5 n)
   refine Af (EW r1) λz e1 zz1=>?_;obtain rfl:=zz1
   cases e1
   exact⟨r1,q1 _ (.head _)⟩
  obtain⟨ra5,qa5⟩:=rd (Bp l st) la (Ac _ ra qa)
  obtain⟨rb5,qb5⟩:=rd (Bp r st) lb (Ac _ rb qb)
  refine Bu bj.fin λls bj1 fls pls=>?_
  have esj5:s5.heap.get? sj=some (Cc led):=u5' _ _ (neL sj fsj) esj
  refine Ao i5.dict λesD nD eD5 _=>?_
  have rj:RJ w (Bp r st) s5.heap (.ref dj) (dj::ls):=C5 dj ls rfl rfl (bj1.keeps (λ_ h=>h) (λo es n e _=>u5' _ _ (neL dj fdj) e) (λl vs hl p=>p.at λo e=>u5' _ _ (neL l (fls l hl)) e)) (V4 K (λb o e=>t3.keep _ _ (hk b o e)) fdj) λl hl=>AR (pls l hl) λvs p=>(Ag vs (p.at λo e=>u5' _ _ (neL l (fls l hl)) e))
  have mat:Zd w (Bp l st) (Bp r st) s5.heap I D (Bm (Bm (Bm (mI (λ_=>none) la lb) "b2j" (.ref dj)) "bjunk" (.ref sj)) "bpopular" (.ref sp)) 14 O1:=by
   refine⟨i5,la,lb,dj,sj,led,ls,⟨rfl,rfl,rfl,rfl,rfl,rfl,rfl⟩,ra5,rb5,rj,esj5,λb hb=>?_,λhb=>?_⟩
   ·rcases jI.mp hb with rfl|hb
    ·exact frO _ fI
    ·rcases jI.mp hb with rfl|hb
     ·exact frO _ fD
     ·rcases jI.mp hb with rfl|hb
      ·exact qa5
      ·rcases jI.mp hb with rfl|hb
       ·exact qb5
       ·rcases jI.mp hb with rfl|hb
        ·exact frO _ fsj
        ·rcases jI.mp hb with rfl|hb
         ·exact frO _ fdj
         ·exact frO _ (fls b hb)
   ·rcases jI.mp hb with rfl|hb
    ·obtain⟨o,e⟩:=BA ra _ (.head _);exact B0 fD e
    ·rcases jI.mp hb with rfl|hb
     ·obtain⟨o,e⟩:=BA rb _ (.head _);exact B0 fD e
     ·rcases jI.mp hb with rfl|hb
      ·rw[esj5] at eD5;exact absurd (show jX "set"=jX "dict" from congrArg Obj.cls (kW eD5)) (by decide)
      ·rcases jI.mp hb with rfl|hb
       ·exact dD rfl
       ·obtain⟨vs,n,e⟩:=pls D hb
        have:=u5' _ _ (neL D fD) e
        rw[eD5] at this;exact absurd (show jX "dict"=jX "list" from congrArg Obj.cls (kW this)) (by decide)
  refine km (pV (mj (Bw 3 t5 (Ep (f:=210) (kU s5 t5.keep) i5 rfl (xe (K:=KK w.params) (kU s5 t5.keep).k (by kernel_rfl) ?_))) (by rfl)))
  refine Yn K T hgM (room.le (by rwa[])) (λb o e=>t5.keep _ _ (hk b o e)) t5.ownOk ?_ mat (by rwa[]) (by rw[BE];exact hl) (by rw[BE];exact hr) rfl λs6 S al6 kp6 r6 hD6=>?_
  ·exact gn λo e=>by have:=t3.keep _ _ (hk _ _ e);exact B0 fD this
  ·have t6:St (Dx pw w A s (Az 49 pm cd doc dv kdv) a Yq O) O1 (List.set (Bi [AV.py (oP l),AV.py (oP r),AV.py (lY st)] 1) 3 (some (Bd.val (AV.raw (kz I))))) s6:=by
    refine B1 al6 λh6 tk6 zz1=>?_;clear al6;obtain rfl:=zz1
    obtain⟨o6,e6⟩:=hD6
    exact Ek (tk:=tk6) N t5 (frs D fD) (neL D fD) (frO D fD) eD5 rfl rfl kp6 e6
   have step:∀b o,s1.heap.get? b=some o->b≠s.heap.objs.size->s6.heap.get? b=some o:=λb o e hb=>by
    have e3:=Aw (Keeps.tr k2 k3) b o e
    have hbD:b≠D:=λz=>by rw[z,fD] at e3;exact B6 e3
    exact kp6 b o hbD (u5' b o hb (Aw k34 b o e3))
   refine q O1 (.ret (.ref S)) (.ret (.py (.list ((E0 (Gg (Bp l st) (Bp r st))).map Da)))) _ s6 ⟨(Bc k14).tr (a5.tr al6),λ_ h=>.inl h,λb o e=>?_,λb o e hO _=>step b o e λz=>hO (z▸LO),λb o e ht=>step b o e λz=>?_⟩ t6 (Ac _ rfl r6) rfl
   ·by_cases hb:b=s.heap.objs.size
    ·refine Af t6.ex λmm zz1 _=>?_;obtain⟨o',_,_,e',_⟩:=zz1
     exact Ag o' (hb▸e')
    ·exact Ag o (step b o e hb)
   ·refine Af t1.ex λm n _=>?_
    subst z
    exact A5 n o e ht
theorem X8{w:jY}{xI:j6}{a:jN}{mg mb:jZ->Option jD}(K:Bn w xI)(T:Br mg mb xI)(hgM:mg "Match"=some (.ref CM))(hgS:mg "SequenceMatcher"=some (.ref CS))(FO:Av xI 49 a .none .none)(l r:jZ)(st:Nat)(hst:0<st)(hst':st<1000)(hl:l.length<=63)(hr:r.length<=63) :
 Fn pw w xI 11 (.ref a) [] [.py (.str l),.py (.str r),.py (.int st)] [] (.py (.list ((E0 (Gg (Bp l st) (Bp r st))).map Da))):=
 Ea FO (λpm cd doc=>gc pm cd doc _ _) T.gl.nolimit rfl (λpm cd doc vs h=>by refine FN (Yy h) λv u x zz1=>?_;obtain rfl:=zz1;exact aX pm cd doc v u x) (λpm cd doc A s O hk N room=>UM K T hgM hgS hk l r st hst hst' hl hr N room)
noncomputable abbrev IZ (p5:mi):Arguments:={posonlyargs:=[],args:=[{arg:="code",annotation:=none,pos:=p5}],vararg:=none,kwonlyargs:=[],kw_defaults:=[],kwarg:=none,defaults:=[]}
noncomputable abbrev J6 (k:Nat) (p1 p2 p3 p4:mi):kJ:=.Subscript (.Name "code" p1) (.Slice (some (.Constant (.int 1) k p2)) none none p3) p4
noncomputable abbrev IY:sZ:={kind:=.function,names:=[(jB "code",.local)],isGenerator:=false,isCoroutine:=false,more:=[]}
theorem YE{w:jY}{A:kC}{E:jD->jG->Prop}{s:jG}{f t c':jN}{qual:jZ}{pm ctv:jD}{k:Nat}{p1 p2 p3 p4 p5:mi}{items:Array jD}{Q:jD->jG->Prop}
 (hf:s.heap.get? f=some (kla_obj "<lambda>" qual (IZ p5) (J6 k p1 p2 p3 p4) IY [] pm c' ctv))(hcd:s.heap.CodeRec (.ref c') qual)(lim:s.heap.NoLimit)(hroom:A.depth<recursionLimit)
 (ht:vE s.heap t items)(hsz:items.size=5)
 (q:∀a s',kZ s s'->s.heap.get? a=none->s'.heap.get? a=some {cls:=.type "tuple",data:=.seq (items.toList.drop 1).toArray}->Q (.ref a) s'):wpAny (model pw w) A (call (.ref f) [.ref t]) Q E s:=by
 delta w A E s f t c' qual pm ctv k p1 p2 p3 p4 p5 items Q at hf hcd lim hroom ht hsz q
 refine mU (kla_callFunE (args:=⟨[.ref t],[]⟩) hroom hf rfl rfl rfl rfl hcd ?_)
 rw[show l6 (kla_fn "<lambda>" qual (IZ p5) (J6 k p1 p2 p3 p4) IY [] pm (.ref c') ctv) ⟨[.ref t],[]⟩=pure [(jB "code",.ref t)] from rfl]
 refine jL ?_
 refine q8 rfl (λx hx=>.inl (by rw[jJ.mp hx];rfl)) λenv he s' x=>?_
 subst he
 refine⟨lim.keeps x.toInCall.keep,kla_codeExpr ?_⟩
 have ht':vE s'.heap t items:=ht.keeps x.toInCall.keep
 have hn:=x.toInCall.ns
 refine wI slot_tuple_getitem.lookup (nH (mE rfl rfl hn (v:=.ref t) rfl ?_) (by kernel_rfl)) (by intro _ _;rfl)
 refine w6 ?_
 show wpAny _ _ (eval (.Constant (.int 1) k p2) _) _ _ _
 refine wpAny_Constant_int ?_
 refine jL (jL ?_)
 have hT:vE (s'.heap.push {cls:=.type "slice",data:=.fields #[.int 1 s'.toks,.none,.none]}) t items:=ht'.keeps λ_ _ e=>jH _ e
 refine⟨hT.typeIs,getItem_tuple_from (a:=1) hT (rf ..) (jP _) (by rwa[hsz]) ?_ (by rw[hsz,sizeLine_eq];rwa[])⟩
 refine Ao x.toInCall.done λh1 tk1 zz1 kk=>?_;obtain rfl:=zz1
 have n0:∀b,h1.objs.size<=b->s.heap.get? b=none:=λb hb=>gn λo e=>absurd (kt (kk _ _ e)) (pt.mpr hb)
 exact q _ _ (AT _ _ rfl λb o e=>jH _ (jH _ (kk b o e))) (n0 _ (by show h1.objs.size<=(h1.push _).objs.size;rw[mT];exact qZ _)) (jS _ rfl)
noncomputable abbrev PT:jN:=386
noncomputable abbrev CT:jN:=388
structure DX (h:j6) (Z:jN->Prop) (pos:mi) (qual:jZ):Prop where
 ex:∃ps,h.get? PT=some (qk ps)/\uR ps.toList/\(codeAmong pos ps.toList=none\/∃c',codeAmong pos ps.toList=some (.ref c')/\h.CodeRec (.ref c') qual/\¬Z c')
theorem NX{a b:Int}{c:jD}(l:List jD)(h:uR l):uR (l++[rawInt a,rawInt b,c]):=by
 generalize e:l.length=n
 induction n using Nat.strongRecOn generalizing l with
 | ind n ih=>
  cases l with
  | nil=>exact trivial
  | cons x l=>
   cases l with
   | nil=>cases x<;>exact h.elim
   | cons y l=>
    cases l with
    | nil=>cases x<;>first|exact h.elim|(cases y<;>exact h.elim)
    | cons z r=>
     have k:uR r->uR (r++[rawInt a,rawInt b,c]):=λh=>ih _ (by rw[<-e];exact mR (ml _) (lZ _ 2)) r h rfl
     cases x<;>first|exact h.elim|(cases y<;>first|exact h.elim|exact k h)
theorem DX.keeps{h h':j6}{Z Z':jN->Prop}{pos:mi}{qual:jZ}(T:DX h Z pos qual)(kP:∀o,h.get? PT=some o->h'.get? PT=some o)(k:∀b o,h.get? b=some o->¬Z b->h'.get? b=some o)(hz:∀b o,h.get? b=some o->¬Z b->¬Z' b):DX h' Z' pos qual:=by
 refine Bu T.ex λps h1 h2 h3=>?_
 refine⟨ps,kP _ h1,h2,?_⟩
 rcases h3 with h3|⟨c',g1,⟨a,o,vs,t,e,e2,e3⟩,g3⟩
 ·exact .inl h3
 ·cases e
  exact .inr (Ba _ g1 (Ug _ o vs t rfl (k _ _ e2 g3) e3) (hz _ o e2 g3))
theorem WH{M:tP}{A:kC}{E:jD->jG->Prop}{s:jG}{env:xA}{k:Nat}{p1 p2 p3 p4 p5 pos:mi}{mg:jZ->Option jD}{Q:jD->jG->Prop}
 (hge0:env.globals=mP)(hcode:env.code=.ref CT)(hcl:vw IY env=pure [])(hdef:defaultsOf (IZ p5) env=([],[]))(hg:s.heap.Ns mP mg)(C:CodeHd s.heap CT PT)(hb:s.heap.BuiltinsAt mg PT)(hgP:mP≠PT)
 (Z:jN->Prop)(hZ:∀b,s.heap.get? b=none->¬Z b)(T:DX s.heap Z pos (env.qual++"<lambda>"))
 (q:∀f c' pm ctv s',AI s s'->(∀b o,b≠PT->s.heap.get? b=some o->s'.heap.get? b=some o)->DX s'.heap Z pos (env.qual++"<lambda>")->s.heap.get? f=none->s'.heap.get? f=some (kla_obj "<lambda>" (env.qual++"<lambda>") (IZ p5) (J6 k p1 p2 p3 p4) IY [] pm c' ctv)->s'.heap.CodeRec (.ref c') (env.qual++"<lambda>")->Q (.ref f) s') :
 wpAny M A (eval (.Lambda (IZ p5) (J6 k p1 p2 p3 p4) IY pos) env) Q E s:=by
 refine Bu T.ex λps hP ht hc=>?_
 refine kla_eval hdef ?_
 have none_of:∀{n:Nat},s.heap.objs.size<=n->s.heap.get? n=none:=λh=>sf h
 rcases hc with hn|⟨c',hs,hr,hz⟩
 ·refine kla_makeFunction (mg:=mg) hcl hge0 hg hcode C hP ht hn hgP hb λc' ctv h' tk hx h1 h2 hr hp=>?_
  have hf:(h'.push (kla_obj "<lambda>" (env.qual++"<lambda>") (IZ p5) (J6 k p1 p2 p3 p4) IY [] ((mg "__name__").getD .none) c' ctv)).get? h'.objs.size=some _:=jS _ rfl
  refine q h'.objs.size c' _ ctv _ (AS _ _ rfl) (λb o hb e=>jH _ (hx b o hb e)) ⟨_,jH _ hp,?_,.inr (Ba c' ?_ ?_ (hZ _ (none_of h1)))⟩ (none_of (pM (nu h1 h2))) hf ?_
  ·rw[pe];exact NX _ ht
  ·rw[pe];exact codeAmong_snoc _ ht hn
  ·refine Cz hr λa o vs t g1 g2 g3 g4=>?_
   exact GR a o vs t g1 (jH _ g2) g3 g4
  ·refine Cz hr λa o vs t g1 g2 g3 g4=>?_
   exact GR a o vs t g1 (jH _ g2) g3 g4
 ·refine kla_makeFunctionHit (mg:=mg) hcl hge0 hg hcode C hP ht hs hb λctv h' tk hk h1=>?_
  have hf:(h'.push (kla_obj "<lambda>" (env.qual++"<lambda>") (IZ p5) (J6 k p1 p2 p3 p4) IY [] ((mg "__name__").getD .none) c' ctv)).get? h'.objs.size=some _:=jS _ rfl
  have hr':(h'.push (kla_obj "<lambda>" (env.qual++"<lambda>") (IZ p5) (J6 k p1 p2 p3 p4) IY [] ((mg "__name__").getD .none) c' ctv)).CodeRec (.ref c') (env.qual++"<lambda>"):=by
   refine Cz hr λa o vs t g1 g2 g3 g4=>?_
   exact GR a o vs t g1 (jH _ (hk _ _ g2)) g3 g4
  exact q h'.objs.size c' _ ctv _ (AS _ _ rfl) (λb o hb e=>jH _ (hk b o e)) ⟨ps,jH _ (hk _ _ hP),ht,.inr (Ba c' hs hr' hz)⟩ (none_of h1) hf hr'
noncomputable def KL (h:j6) (k:jD) (c:AM):Prop:=∃a o n t1 t2 t3 t4,k=.ref a/\h.get? a=some o/\o.cls=.type "tuple"/\o.data=.seq #[.int c.2.1 t1,.int c.2.2.1 t2,.int c.2.2.2.1 t3,.int c.2.2.2.2 t4] n
theorem GD{x y:Nat}{P:Prop}(h:(x:Int)=y):(x<y\/(x=y/\P))↔P:=⟨λz=>z.elim (λz=>absurd (rU h) (lz z)) (·.2),λz=>.inr ⟨rU h,z⟩⟩
theorem WD{x y:Nat}{P:Prop}(h:(x:Int)≠y):(x:Int)<y↔(x<y\/(x=y/\P)):=⟨λz=>.inl (mH.mp z),λz=>z.elim mH.mpr λz=>absurd (congrArg _ z.1) h⟩
theorem am{prog:lF}{w:jY}{A:kC}{s:jG}{k k':jD}{c d:AM}{E:jD->jG->Prop}{Q:Bool->jG->Prop}(hc:KL s.heap k c)(hd:KL s.heap k' d)(sc:EK c)(sd:EK d)
 (h:Q (decide (Fm c<Fm d)) s):wpAny (model prog w) A (keyLt' (tuples' true) k k') Q E s:=by
 refine Ud hc λa o n t1 t2 t3 t4 zz1 ho _ dx=>?_;clear hc;obtain rfl:=zz1
 refine Ud hd λb o' n' u1 u2 u3 u4 zz1 ho' _ dy=>?_;clear hd;obtain rfl:=zz1
 refine kat_lt ho dx ho' dy ?_
 have lex:=Yh sc sd
 have lt1:∀{p q:Int} {t u:uw} {Q:Bool->jG->Prop},Q (decide (p<q)) s->wpAny (model prog w) A (oneLt' false (.int p t) (.int q u)) Q (λ_ _=>False) s:=λh=>kat_one _ _ (P.lt_int h)
 refine xd (ph (kat_go (λe=>kat_yes (xd (ph (kat_go (λe2=>kat_yes (xd (ph (kat_go (λe3=>kat_yes (xd (ph (kat_go (λe4=>kat_yes (kat_nil ?_)) λe4=>kat_no (lt1 ?_))))) λe3=>kat_no (lt1 ?_))))) λe2=>kat_no (lt1 ?_))))) λe=>kat_no (oneLt_int ?_)))
 ·rw[beq_iff_eq] at e e2 e3 e4
  have:¬Fm c<Fm d:=λhh=>by rw[lex,GD e,GD e2,GD e3] at hh;exact lz hh (rU e4)
  rw[decide_eq_false this] at h
  exact h
 ·rw[beq_iff_eq] at e e2 e3
  rw[beq_eq_false_iff_ne] at e4
  have:decide ((c.2.2.2.2:Int)<(d.2.2.2.2:Int))=decide (Fm c<Fm d):=by rw[decide_eq_decide,lex,GD e,GD e2,GD e3];exact mH
  rw[this];exact h
 ·rw[beq_iff_eq] at e e2
  rw[beq_eq_false_iff_ne] at e3
  have:decide ((c.2.2.2.1:Int)<(d.2.2.2.1:Int))=decide (Fm c<Fm d):=by rw[decide_eq_decide,lex,GD e,GD e2];exact WD e3
  rw[this];exact h
 ·rw[beq_iff_eq] at e
  rw[beq_eq_false_iff_ne] at e2
  have:decide ((c.2.2.1:Int)<(d.2.2.1:Int))=decide (Fm c<Fm d):=by rw[decide_eq_decide,lex,GD e];exact WD e2
  rw[this];exact h
 ·rw[beq_eq_false_iff_ne] at e
  have:decide ((c.2.1:Int)<(d.2.1:Int))=decide (Fm c<Fm d):=by rw[decide_eq_decide,lex];exact WD e
  rw[this];exact h
noncomputable def BW (h:j6):List jD->List AM->Prop
 | [],[]=>True
 | k::ks,c::cs=>KL h k c/\BW h ks cs
 | _,_=>False
theorem BW.ni{h:j6}{ks:List jD}(r:BW h ks []):ks=[]:=by
 cases ks with
 | nil=>rfl
 | cons _ _=>exact rq r
theorem BW.ci{h:j6}{ks:List jD}{c:AM}{cs:List AM}(r:BW h ks (c::cs)):∃k ks',ks=k::ks'/\KL h k c/\BW h ks' cs:=by
 cases ks with
 | nil=>exact rq r
 | cons k ks'=>exact FQ k ks' rfl r.1 r.2
theorem BW.keeps{h h':j6}{ks:List jD}{cs:List AM}(x:BW h ks cs)(kk:∀a o,h.get? a=some o->o.cls=.type "tuple"->h'.get? a=some o):BW h' ks cs:=by
 induction cs generalizing ks with
 | nil=>rw[x.ni];exact uE
 | cons c cs ih=>
  refine BD x.ci λk ks' e h1 h2=>?_
  refine Ud h1 λa o n t1 t2 t3 t4 e' g c r=>?_
  rw[e];exact⟨⟨a,o,n,t1,t2,t3,t4,e',kk a o g c,c,r⟩,ih h2⟩
theorem BW.snoc{h:j6}{k:jD}{c:AM}(hk:KL h k c):∀{ks:List jD} {cs:List AM},BW h ks cs->BW h (ks++[k]) (cs++[c])
 | [],[],_=>⟨hk,trivial⟩
 | _::_,_::_,⟨h1,h2⟩=>⟨h1,h2.snoc hk⟩
theorem BW.len{h:j6}:∀{ks:List jD} {cs:List AM},BW h ks cs->ks.length=cs.length
 | [],[],_=>rfl
 | _::_,_::_,⟨_,h2⟩=>by rw[j9,j9,h2.len]
theorem BW.at{h:j6}{q0:AM}{ks:List jD}{cs:List AM}{i:Nat}(x:BW h ks cs)(hi:i<cs.length):KL h (ks.getD i jF) (cs.getD i q0):=by
 induction cs generalizing ks i with
 | nil=>exact absurd hi (qo _)
 | cons c cs ih=>
  refine BD x.ci λk ks' e h1 h2=>?_
  rw[e]
  cases i with
  | zero=>exact h1
  | succ i=>exact ih h2 (vH hi)
theorem BW.tups{h:j6}{ks:List jD}{cs:List AM}(x:BW h ks cs):∃fs,KatTups h ks fs/\fs.length=cs.length/\∀v∈fs,∃i t,v=.int i t:=by
 induction cs generalizing ks with
 | nil=>rw[x.ni];exact Ba [] uE rfl λ_ h=>nomatch h
 | cons c cs ih=>
  refine BD x.ci λk ks' e h1 h2=>Bu (ih h2) λfs k1 k2 k3=>?_
  refine Ud h1 λa o n t1 t2 t3 t4 e' g c d=>?_
  rw[e]
  refine Ba (_::fs) ⟨⟨a,o,_,n,e',g,c,d,rfl⟩,k1⟩ (congrArg (· + 1) k2) λv hv=>?_
  rcases jI.mp hv with rfl|hv
  ·exact AS _ _ rfl
  ·exact k3 v hv
theorem eu{h:j6}{ws:List jD}{d:jQ}{ds:List jQ}{as:List jN}(r:Ae h ws (d::ds) as):∃v ws' cs bs,ws=v::ws'/\Ak h v d cs/\Ae h ws' ds bs:=
 Cz (AK r) λv ws' b c e r ra _=>Ug v ws' b c e r ra
theorem N5{h:j6}{ws:List jD}{i:Int}{ds:List jQ}{as:List jN}(r:Ae h ws (.int i::ds) as):∃t ws' bs,ws=.int i t::ws'/\Ae h ws' ds bs:=
 E7 (eu r) λv ws' b c e r ra=>(VR.int_inv (O:=[]) ⟨b,r,λ_ _ h=>Af h λ_ m _=>nomatch m⟩).elim λt q=>KC t ws' c (q▸e) ra
theorem Z6{h:j6}{ws:List jD}{i:jZ}{ds:List jQ}{as:List jN}(r:Ae h ws (.str i::ds) as):∃t ws' bs,ws=.str i t::ws'/\Ae h ws' ds bs:=
 E7 (eu r) λv ws' b c e r ra=>(VR.str_inv (O:=[]) ⟨b,r,λ_ _ h=>Af h λ_ m _=>nomatch m⟩).elim λt q=>KC t ws' c (q▸e) ra
theorem Xn{h:j6}{v:jD}{c:AM}{as:List jN}(r:Ak h v (Da c) as):∃t items t1 t2 t3 t4 t5,v=.ref t/\vE h t items/\items=#[.str c.1 t5,.int c.2.1 t1,.int c.2.2.1 t2,.int c.2.2.2.1 t3,.int c.2.2.2.2 t4]:=by
 delta h v c as at r
 refine Cf (VR.tuple_inv (O:=[]) (ds:=[.str c.1,.int c.2.1,.int c.2.2.1,.int c.2.2.2.1,.int c.2.2.2.2]) ⟨as,r,λ_ _ h=>Af h λ_ m _=>nomatch m⟩) λa vs _ e it ra _=>?_
 refine CG (Z6 ra) λt5 w1 _ q1 ra=>CG (N5 ra) λt1 w2 _ q2 ra=>CG (N5 ra) λt2 w3 _ q3 ra=>CG (N5 ra) λt3 w4 _ q4 ra=>CG (N5 ra) λt4 w5 _ q5 ra=>?_
 exact eO a vs t1 t2 t3 t4 t5 e it (ng.mp (q1.trans (congrArg _ (q2.trans (congrArg _ (q3.trans (congrArg _ (q4.trans (congrArg _ (q5.trans (congrArg _ (Bg ra))))))))))))
noncomputable def q0:AM:=("",0,0,0,0)
noncomputable def Gi (h:j6):List jD->List AM->Prop
 | [],[]=>True
 | v::vs,c::cs=>(∃t items t1 t2 t3 t4 t5,v=.ref t/\vE h t items/\items=#[.str c.1 t5,.int c.2.1 t1,.int c.2.2.1 t2,.int c.2.2.2.1 t3,.int c.2.2.2.2 t4])/\Gi h vs cs
 | _,_=>False
theorem Gi.of{h:j6}:∀{vs:List jD} {cs:List AM} {as:List jN},Ae h vs (cs.map Da) as->Gi h vs cs
 | vs,[],as,r=>by rw[Bg r];trivial
 | vs,c::cs,as,r=>by
  refine Cz (AK r) λv ws bs cs' zz1 r1 r2 zz2=>?_;obtain rfl:=zz1;obtain rfl:=zz2
  obtain⟨t,items,t1,t2,t3,t4,t5,e⟩:=(Xn r1)
  exact⟨(eP t items t1 t2 t3 t4 t5 e),Gi.of r2⟩
structure Jr (s0 s:jG) (kS:jN) (ks:List jD) (cs:List AM) (e:Nat):Prop where
 al:AI s0 s
 old:∀b o,b≠kS->s0.heap.get? b=some o->s.heap.get? b=some o
 lst:s.heap.get? kS=some (seqObj "list" ks.toArray e)
 keys:BW s.heap ks cs
theorem YG{w:jY}{A:kC}{E:jD->jG->Prop}{s0:jG}{f c' kS:jN}{qual:jZ}{pm ctv:jD}{k:Nat}{p1 p2 p3 p4 p5:mi}{body:jD->PUnit->vi (ForInStep PUnit)}
 (hf:s0.heap.get? f=some (kla_obj "<lambda>" qual (IZ p5) (J6 k p1 p2 p3 p4) IY [] pm c' ctv))(hcd:∀s e ks cs,Jr s0 s kS ks cs e->s.heap.CodeRec (.ref c') qual/\s.heap.NoLimit)(hroom:A.depth<recursionLimit)(hfk:f≠kS)(hkS:∀o,s0.heap.get? kS=some o->o.cls≠.type "tuple")
 (hb:∀(x:jD) (s:jG) (Q:ForInStep PUnit->jG->Prop),wpAny (model pw w) A (call (.ref f) [x]) (λk s'=>wpAny (model pw w) A (qr (.ref kS) (·.push k)) (λ_ s''=>Q (.yield ⟨⟩) s'') E s') (λ_ _=>False) s->wpAny (model pw w) A (body x ⟨⟩) Q E s) :
 ∀(r:List jD) (cs':List AM) (ks:List jD) (cs:List AM) (e:Nat) (s:jG),Gi s0.heap r cs'->Jr s0 s kS ks cs e->ks.length+r.length<64->
  wpAny (model pw w) A (forIn r PUnit.unit body) (λ_ s'=>∃ks' e',Jr s0 s' kS ks' (cs++cs') e') E s:=by
 intro r
 induction r with
 | nil=>
  intro cs' ks cs e s hr i _
  cases cs' with
  | cons=>exact hr.elim
  | nil=>
   rw[uL,kH]
   exact jL (AS ks e i)
 | cons x r ih=>
  intro cs' ks cs e s hr i hlen
  cases cs' with
  | nil=>exact hr.elim
  | cons c cs'=>
   obtain⟨⟨t,items,t1,t2,t3,t4,t5,ex,ht,hit⟩,hr⟩:=hr
   subst ex
   rw[mX]
   have htk:t≠kS:=λz=>by refine Bu ht λo e1 e2 _=>?_;exact hkS o (z▸e1) e2
   have ht':vE s.heap t items:=by refine Af ht λo e1 r1=>?_;exact Ac o (i.old t o htk e1) r1
   obtain⟨hc1,hc2⟩:=hcd s e ks cs i
   refine jC (hb _ s _ (YE (i.old f _ hfk hf) hc1 hc2 hroom ht' (by rw[hit];rfl) λa s' kk ha ha'=>?_))
   have l1:=Aw kk _ _ i.lst
   rw[j9] at hlen
   refine qt l1 rfl ?_ (by rw[kK,sizeLine_eq];rwa[hlen]) (kN (tF (w0 ..)) (by rw[kK,sizeLine_eq];rwa[hlen]))
   have ea:(kg ks).push (.ref a)=kg (ks++[.ref a]):=by simp
   have ake:a≠kS:=λz=>by rw[z,i.lst] at ha;exact XM ha
   have sb:=me s'.heap kS (kE (·.push (kz a)))
   obtain⟨c2,hc2'⟩:∃c2,(s'.heap.update kS (kE (·.push (kz a)))).get? kS=some (seqObj "list" (kg (ks++[.ref a])) c2):=⟨_,by rw[<-ea];exact oS l1 (·.push (kz a))⟩
   have i':Jr s0 {s' with heap:=s'.heap.update kS (kE (·.push (kz a)))} kS (ks++[.ref a]) (cs++[c]) c2:=by
    refine⟨i.al.tr ((Bc kk).tr (AS _ _ rfl)),λb o hb e=>(sb.2 b hb).trans (Aw kk _ _ (i.old b o hb e)),hc2',BW.snoc (eN a _ 0 t1 t2 t3 t4 rfl ((sb.2 a ake).trans ha') rfl ?_) (i.keys.keeps λb o e hc=>(sb.2 b λz=>?_).trans (Aw kk _ _ e))⟩
    ·show Data.seq (items.toList.drop 1).toArray 0=_
     rw[hit];rfl
    ·rw[z,i.lst] at e;(replace e:=si e;subst e);exact absurd (show jX "list"=jX "tuple" from hc) (by decide)
   have:=ih cs' (ks++[.ref a]) (cs++[c]) c2 _ hr i' (by rw[j7,pQ];rwa[hlen])
   rw[l8] at this
   exact this
theorem Wl{w:jY}{A:kC}{E:jD->jG->Prop}{s:jG}{f c' a kS:jN}{qual:jZ}{pm ctv:jD}{k:Nat}{p1 p2 p3 p4 p5:mi}{vs:List jD}{cs ops:List AM}{e1:Nat}{P:PySem.Fin->jG->Prop}
 (hf:s.heap.get? f=some (kla_obj "<lambda>" qual (IZ p5) (J6 k p1 p2 p3 p4) IY [] pm c' ctv))(hcd:s.heap.CodeRec (.ref c') qual)(lim:s.heap.NoLimit)(hL:∀h':j6,(∀b o,b≠kS->s.heap.get? b=some o->h'.get? b=some o)->h'.NoLimit)(hroom:A.depth<recursionLimit)
 (hkS:s.heap.get? kS=some (seqObj "list" #[] 0))(ha:s.heap.get? a=some (seqObj "list" #[] e1))(hne:a≠kS)(tv:Gi s.heap vs cs)(hlen:vs.length=cs.length)(h64:vs.length<64)(p:cs.Perm ops)(asc:ops.Pairwise λx y=>Fm x<Fm y)(sm:∀c∈cs,EK c)
 (q:∀s' c2,AI s s'->(∀b o,b≠a->b≠kS->s.heap.get? b=some o->s'.heap.get? b=some o)->s'.heap.get? a=some (seqObj "list" (CE (BN Fm q0 cs) vs).toArray c2)->P (.done (.ret .none)) s') :
 wpAny (model pw w) A (ksk_rest a (.ref f) false vs.toArray e1 (.ref kS)) P E s:=by
 have hr:=Gx Fm q0 p asc
 have hfk:f≠kS:=λz=>by rw[z,hkS] at hf;exact absurd (show jX "list"=jX "function" from congrArg Obj.cls (kW hf)) (by decide)
 have ck:∀s' e ks cs,Jr s s' kS ks cs e->s'.heap.CodeRec (.ref c') qual/\s'.heap.NoLimit:=λs' e ks cs i=>by
  refine Cz hcd λx o xs t g1 g2 g3 g4=>?_
  exact⟨(GR x o xs t g1 (i.old x o (λz=>by rw[z,hkS] at g2;(replace g2:=si g2;subst g2);cases g3) g2) g3 g4),hL _ i.old⟩
 unfold ksk_rest
 refine jC (sr ?_)
 rw[sR]
 refine jC (lT (YG hf ck hroom hfk (λo e=>by(replace e:=CQ hkS e;subst e);exact(show jX "list"≠jX "tuple" by decide)) (λx s' Q hx=>?_) vs cs [] [] 0 s tv ⟨AI.re s,λ_ _ _ e=>e,hkS,trivial⟩ (by simpa using h64)) (λ_ s1 hd=>?_) λ_ _ x=>x)
 ·refine jC (pC (lT hx (λk s'' hk=>?_) λ_ _ hF=>hF.elim))
  exact jC (lT hk (λ_ s3 h=>jL h) λ_ _ x=>x)
 refine B1 hd λks e inv=>?_
 rw[pj] at inv
 have hkl:=inv.keys.len
 refine jC (wC inv.lst rfl ?_)
 have hol:=Kq (vs:=vs) (r:=BN Fm q0 cs) (λi j hi hj=>hr i j (by rwa[hlen,hi]) (by rwa[hlen,hj]))
 have ha1:=inv.old a _ hne ha
 have OI:∀(st':SortSt),(arrOf st').map (·.2)=(CE (BN Fm q0 cs) vs).toArray->vD st'=none->wpAny (model pw w) A (ksk_tail a false e1 (.ref kS) st') P E s1:=λst' hout hfl=>by
  have sb1:=me s1.heap kS (kE λ_=>(#[]:Array jD))
  have ha2:=(sb1.2 a hne).trans ha1
  have sb2:=me (s1.heap.update kS (kE λ_=>(#[]:Array jD))) a (kE λ_=>(CE (BN Fm q0 cs) vs).toArray)
  unfold ksk_tail
  dsimp only
  rw[hout]
  refine jC (qt inv.lst rfl ?_ (by rw[kK,sizeLine_eq];rwa[hlen,h64,hkl]) (kh _))
  refine jC (uZ ?_)
  refine jC (u8 ha2 rfl ?_)
  refine jC (qt ha2 rfl ?_ (kh _) (by simp only[nq,if_false];rw[kK,hol,sizeLine_eq];rwa[h64]))
  rw[hfl]
  simp only[bne_self_eq_false,nq,if_false]
  exact jL (q _ _ (inv.al.tr (AS _ _ rfl)) (λb o h1 h2 e=>(sb2.2 b h1).trans ((sb1.2 b h2).trans (inv.old b o h2 e))) (oS ha2 λ_=>(CE (BN Fm q0 cs) vs).toArray))
 unfold ksk_end
 dsimp only
 simp only[nq,if_false]
 by_cases h2:vs.length<2
 ·have hn2:vs.toArray.size<2:=by rw[kK];rwa[h2]
  rw[if_pos hn2,if_pos hn2]
  refine jC (jL ?_)
  refine jC (jL (a:=((),sG general' ((kg ks).zip vs.toArray) #[] 7 none)) ?_)
  refine OI _ ?_ rfl
  unfold CE
  rw[if_pos h2]
  show((kg ks).zip vs.toArray).map (·.2)=_
  apply ng.mp
  rw[pR,wH]
  exact wR (show vs.length<=ks.length by rwa[hlen,hkl])
 ·have hn2:¬vs.toArray.size<2:=by rw[kK];rwa[h2]
  rw[if_neg hn2,if_neg hn2]
  refine Bu inv.keys.tups λfs g1 g2 g3=>?_
  refine jC (kat_kind (T:=.type "int") g1 (by rwa[hlen,h2,g2]) (λv hv=>?_) (by decide) ?_)
  ·obtain⟨i,t,rfl⟩:=g3 v hv
   exact .now
  rw[show(jX "int" != jX "tuple")=true by decide]
  have ask:(kas_sort vs.length).kasWp (kas_ask pw w A (tuples' true) ks) (λp s'=>s'=s1/\p=D1 (CW (BN Fm q0 cs)) (kas_sort vs.length)) s1:=
   Rf (Inv:=λs'=>s'=s1) (ok:=(· < vs.length)) (λi j C s' oi oj hI hC=>by
    subst hI
    unfold kas_ask
    have at':∀i,i<vs.length->cs.getD i q0∈cs:=λi hi=>by
     rw[mW,jR (by rwa[hlen,hi])];exact tR _
    exact am (inv.keys.at (q0:=q0) (by rwa[hlen,oi])) (inv.keys.at (q0:=q0) (by rwa[hlen,oj])) (sm _ (at' i oi)) (sm _ (at' j oj)) (hC _ rfl)) _ _ (TP (by rwa[h2]) (λi j hi hj=>hr i j (by rwa[hlen,hi]) (by rwa[hlen,hj]))) rfl λs' hI=>⟨hI,rfl⟩
  refine jC (lT (kat_run (Q:=λst' s'=>(arrOf st').map (·.2)=(CE (BN Fm q0 cs) vs).toArray/\vD st'=none/\s'=s1) (by rwa[hlen,hkl]) (by rwa[h2]) h64 (λp' st' s' a1 a2 a3 a4=>⟨?_,a3,a4.1⟩) ask) ?_ λ_ _ x=>x)
  ·rw[kat_snds (by rwa[hlen,hkl]) a2,a4.2]
   unfold CE
   rw[if_neg h2]
  ·intro zz1 s' zz2;obtain⟨⟨⟩,st'⟩:=zz1;refine C1 zz2 λhout hfl zz3=>?_;clear zz2;obtain rfl:=zz3
   exact OI st' hout hfl
theorem QW{w:jY}{A:kC}{E:jD->jG->Prop}{s:jG}{f c' l:jN}{qual:jZ}{pm ctv:jD}{k:Nat}{p1 p2 p3 p4 p5:mi}{vs:List jD}{cs ops:List AM}{as:List jN}{Q:jD->jG->Prop}
 (hf:s.heap.get? f=some (kla_obj "<lambda>" qual (IZ p5) (J6 k p1 p2 p3 p4) IY [] pm c' ctv))(hcd:s.heap.CodeRec (.ref c') qual)(lim:s.heap.NoLimit)(hroom:A.in1.in1.depth<recursionLimit)
 (hl:s.heap.IsList l vs.toArray)(rs:Ae s.heap vs (cs.map Da) as)(h64:vs.length<64)(p:cs.Perm ops)(asc:ops.Pairwise λx y=>Fm x<Fm y)(sm:∀c∈cs,EK c)
 (q:∀D s' c,kZ s s'->s.heap.get? D=none->s'.heap.get? D=some (seqObj "list" (CE (BN Fm q0 cs) vs).toArray c)->Q (.ref D) s') :
 wpAny (model pw w) A (call (.builtin "sorted") [.ref l] [(jB "key",.ref f)]) Q E s:=by
 delta w A E s f c' l qual pm ctv k p1 p2 p3 p4 p5 vs cs ops as Q at hf hcd lim hroom hl rs h64 p asc sm q
 refine call_function_entry_kw kind_sorted plain_sorted entry_sorted (ksk_s1 _ _) ?_
 unfold ko.«sorted»
 refine jC (m:=checkCount "sorted" 1 1 _) (jL ?_)
 refine jC (collect_list hl ?_ (by rw[sizeLine_eq];rwa[h64]))
 refine jC (vW ?_ (by rw[sizeLine_eq];rwa[h64]))
 have hsz:((s.heap.push (seqObj "list" #[] 0)).update s.heap.objs.size (kE (·++vs.toArray))).objs.size=s.heap.objs.size+1:=by
  rw[Heap.size_update];exact mT _ _
 have hoL:(((s.heap.push (seqObj "list" #[] 0)).update s.heap.objs.size (kE (·++vs.toArray))).push (seqObj "list" vs.toArray 0)).get? (s.heap.objs.size+1)=some (seqObj "list" vs.toArray 0):=by
  rw[<-hsz];exact jS _ rfl
 have keep:∀b o,s.heap.get? b=some o->(((s.heap.push (seqObj "list" #[] 0)).update s.heap.objs.size (kE (·++vs.toArray))).push (seqObj "list" vs.toArray 0)).get? b=some o:=λb o q=>by
  have hlt:b<s.heap.objs.size:=kt q
  refine jH _ ((mn _ _ _ _ (lz hlt)).trans (jH _ q))
 show wpAny _ _ _ _ _ {s with heap:=((s.heap.push (seqObj "list" #[] 0)).update s.heap.objs.size (kE (·++vs.toArray))).push (seqObj "list" vs.toArray 0)}
 rw[hsz]
 have hD:s.heap.get? (s.heap.objs.size+1)=none:=sf (qZ _)
 generalize hH:((s.heap.push (seqObj "list" #[] 0)).update s.heap.objs.size (kE (·++vs.toArray))).push (seqObj "list" vs.toArray 0)=H at *
 generalize hDg:s.heap.objs.size+1=D at *
 refine jC (kG (wpAny_call_entry_kw slot_list_sort (Ac _ hoL rfl) entry_list_sort ?body (ksk_l1 _ _)))
 case body=>
  show wpAny (model pw w) A.in1.in1 (ko.«list.sort» ⟨[.ref D],[(jB "key",.ref f)]⟩) _ _ _
  rw[ksk_t1]
  have sb:=me H D (kE λ_=>(#[]:Array jD))
  obtain⟨e1,ho1⟩:∃e1,(H.update D (kE λ_=>(#[]:Array jD))).get? D=some (seqObj "list" #[] e1):=Ag _ (oS hoL λ_=>#[])
  have hbD:∀b o,s.heap.get? b=some o->b≠D:=λb o e z=>by rw[z,hD] at e;exact B6 e
  unfold ksk_tree
  refine jC (wC hoL rfl ?_)
  refine jC (qt hoL rfl ?_ (by rw[kK,sizeLine_eq];rwa[h64]) (kh _))
  refine jC (u8 ho1 rfl ?_)
  refine jC (wpAny_newTuple ?_ (by show vs.length<=_;rw[sizeLine_eq];rwa[h64]))
  refine jC (vW ?_ (kh _))
  refine kG ?_
  have k3:∀b o,s.heap.get? b=some o->(((H.update D (kE λ_=>(#[]:Array jD))).push (seqObj "tuple" vs.toArray 0)).push (seqObj "list" #[] 0)).get? b=some o:=λb o e=>jH _ (jH _ ((sb.2 b (hbD b o e)).trans (keep b o e)))
  have kD:(((H.update D (kE λ_=>(#[]:Array jD))).push (seqObj "tuple" vs.toArray 0)).push (seqObj "list" #[] 0)).get? D=some (seqObj "list" #[] e1):=jH _ (jH _ ho1)
  have kS0:((H.update D (kE λ_=>(#[]:Array jD))).push (seqObj "tuple" vs.toArray 0)).get? ((H.update D (kE λ_=>(#[]:Array jD))).push (seqObj "tuple" vs.toArray 0)).objs.size=none:=sf (jP _)
  have k2:∀b o,s.heap.get? b=some o->((H.update D (kE λ_=>(#[]:Array jD))).push (seqObj "tuple" vs.toArray 0)).get? b=some o:=λb o e=>jH _ ((sb.2 b (hbD b o e)).trans (keep b o e))
  have kS1:(((H.update D (kE λ_=>(#[]:Array jD))).push (seqObj "tuple" vs.toArray 0)).push (seqObj "list" #[] 0)).get? ((H.update D (kE λ_=>(#[]:Array jD))).push (seqObj "tuple" vs.toArray 0)).objs.size=some (seqObj "list" #[] 0):=jS _ rfl
  have neD:D≠((H.update D (kE λ_=>(#[]:Array jD))).push (seqObj "tuple" vs.toArray 0)).objs.size:=λz=>by
   have:=jH (h:=H.update D (kE λ_=>(#[]:Array jD))) (seqObj "tuple" vs.toArray 0) ho1
   rw[<-z,this] at kS0;exact XM kS0
  show wpAny (model pw w) A.in1.in1 (ksk_rest D (.ref f) false vs.toArray e1 (.ref ((H.update D (kE λ_=>(#[]:Array jD))).push (seqObj "tuple" vs.toArray 0)).objs.size)) _ _ {s with heap:=((H.update D (kE λ_=>(#[]:Array jD))).push (seqObj "tuple" vs.toArray 0)).push (seqObj "list" #[] 0)}
  generalize ((H.update D (kE λ_=>(#[]:Array jD))).push (seqObj "tuple" vs.toArray 0)).objs.size=kS at *
  generalize hH2:(H.update D (kE λ_=>(#[]:Array jD))).push (seqObj "tuple" vs.toArray 0)=H2 at *
  have hbS:∀b o,s.heap.get? b=some o->b≠kS:=λb o e z=>by rw[<-z,k2 b o e] at kS0;exact XM kS0
  refine Wl (s:={s with heap:=H2.push (seqObj "list" #[] 0)}) (cs:=cs) (ops:=ops) (k3 _ _ hf) (Cz hcd λx o xs t g1 g2 g3 g4=>(GR x o xs t g1 (k3 _ _ g2) g3 g4)) (lim.keeps k3) (λh' hk=>lim.keeps λb o e=>hk b o (hbS b o e) (k3 b o e)) hroom kS1 kD neD (Gi.of (Ae.keeps k3 rs)) (by rw[Al rs,jK]) h64 p asc sm λs' c2 al old hDs=>?_
  refine B1 al λh4 tk4 zz1=>?_;clear al;obtain rfl:=zz1
  exact Ac _ rfl (jL (Ac _ rfl (q D _ c2 (AT h4 tk4 rfl λb o e=>old b o (hbD b o e) (hbS b o e) (k3 b o e)) hD hDs)))
noncomputable def Oi:jZ:=(PA (stm 48)++".<locals>.")++"<lambda>"
noncomputable def Eo:mi:=⟨658,28,658,49⟩
structure Iy (mg:jZ->Option jD) (xK:j6) (a48:jN):Prop where
 fn:∃o pm doc,xK.get? a48=some o/\o.data=.func (Az 48 pm (.ref CT) doc .none .none)/\xK.CodeRec (.ref CT) (PA (stm 48))
 hd:CodeHd xK CT PT
 bi:xK.BuiltinsAt mg PT
 noP:xK.get? PT=none
theorem Zf{M:tP}{A:kC}{env:xA}{E:jD->jG->Prop}{s:jG}{f kv:kJ}{es:List kJ}{x:jZ}{kp pos:mi}{Q:jD->jG->Prop}
 (h:wpAny M A (eval f env) (λv xL=>wpAny M A (kY pos v [] (backTo pos (starEach es env)) (ma pos (ly [⟨some x,kv,kp⟩] env))) Q E xL) E s)
 (he:autoParam (eval (.Call f es [⟨some x,kv,kp⟩] pos) env=(do kY pos (<-eval f env) [] (backTo pos (starEach es env)) (ma pos (ly [⟨some x,kv,kp⟩] env)))) aR) :
 wpAny M A (eval (.Call f es [⟨some x,kv,kp⟩] pos) env) Q E s:=by
 rw[he];exact jC h
theorem aY(pm cd doc v u x:jD):l6 (Az 48 pm cd doc .none .none) ⟨[v,u,x],[]⟩=pure [((jB "left"),v),((jB "right"),u),((jB "step"),x)]:=by rfl
theorem Vm{w:jY}{A:kC}{s:jG}{O:Ap}{mg mb:jZ->Option jD}{xK:j6}{Q:jD->jG->Prop}{E:jD->jG->Prop}(F:Jq w mg mb xK)(B:Iy mg xK F.a48)(room:A0 A 70)(hk:HK xK s)(own:CJ O s)(hPO:¬O.has PT)(Z:jN->Prop)(hZO:∀b,O.has b->Z b)(hZl:∀b,Z b->∃o,s.heap.get? b=some o)(T:DX s.heap Z Eo Oi)
 (l r:jZ)(st:Nat)(hst:0<st)(hst':st<1000)(hl:l.length<=30)(hr:r.length<=30){vs:List jD}(rv:DD O s.heap [.py (.str l),.py (.str r),.py (.int st)] vs)(ops:List AM)
 (told:XF l.length r.length (Dm l.cps.toList r.cps.toList st (l.length+1) 0 l.length 0 r.length) ops)
 (q:∀v s',AI s s'->(∀b o,b≠PT->s.heap.get? b=some o->s'.heap.get? b=some o)->DX s'.heap Z Eo Oi->VR O s'.heap (.py (.list (ops.map Da))) v->Q v s') :
 wpAny (model pw w) A (call (.ref F.a48) vs []) Q E s:=by
 delta w A s O mg mb Q E at xK F B room hk own hPO Z hZO hZl T l r st hst hst' hl hr vs rv ops told q
 refine Ec B.fn λo48 pm doc ho hd hcd=>?_
 have hPs:∀b o,xK.get? b=some o->b≠PT:=λb o e z=>by rw[z,B.noP] at e;exact B6 e
 have hk0:HK xK (A6 s PT):=λb o e=>(Bj (hPs b o e)).trans (hk b o e)
 have new0:s.heap.get? s.heap.objs.size=none:=Bk (jP _)
 have hvl:vs.length=3:=rv.length
 refine Jc (s₀:=A6 s PT) (args:=⟨vs,[]⟩) (gd pm (.ref CT) doc .none .none) ho hd F.T.gl.nolimit hcd room hk own (λb o e=>(Er e).1) (λp hp=>AR (own.live p hp) λo e=>(Ag o ((Bj λz=>hPO (Ac p hp z)).trans e)))
  (.of_eq (by refine FN (Yy hvl) λv u x zz1=>?_;obtain rfl:=zz1;exact aY _ _ _ v u x)) hvl rv (λN rm s1 E' t k1=>?_)
 generalize hbl:Dm l.cps.toList r.cps.toList st (l.length+1) 0 l.length 0 r.length=bl at *
 have hbn:bl.length<=30:=by
  have:=DM (l:=l.cps.toList) (r:=r.cps.toList) (st:=st) (f:=l.length+1) (i0:=0) (i1:=l.length) (j0:=0) (j1:=r.length) (jP _) (jP _) (kh _) (kh _)
  rw[hbl] at this;rwa[hl,this]
 have hcut:=aM (w:=w) F.T F.f46 F.g46 F.f47 F.g47 l r st hst hst' (by rwa[hl]) (by rwa[hr]) (l.length+1) 0 l.length 0 r.length (jP _) (jP _) (kh _) (kh _) (by rwa[])
 rw[hbl] at hcut
 have hbeg:(BO bl l.length r.length).length=(Df bl).length:=by simp[BO,Df]
 have hel:(Df bl).length=bl.length+1:=by simp[Df]
 have hql:(Cu bl).length=bl.length:=by simp[Cu]
 have hbody:Ex (CF pw w A (A6 s PT) s (Az 48 pm (.ref CT) doc .none .none) F.a48 J1 O) (Bi [.py (.str l),.py (.str r),.py (.int st)] 9) ((Am (stm 48)).take 6) (λaf σ'=>af=.next/\∃x y z u,σ'=[some (.val (.py (.str l))),some (.val (.py (.str r))),some (.val (.py (.int st))),some (.val (.py (.list (bl.map BX)))),some (.val (.py (.list ((Df bl).map BK)))),some (.val (.py (.list ((BO bl l.length r.length).map BK)))),some (.val (.obj (Ez pw w EQ))),some (.own ((Ew bl l.length r.length).map Da)),x,y,z,u]):=
  Rz F hk0 l r st bl (by rwa[hl]) (by rwa[hr]) (by rwa[hbn]) (l.length+2) hcut N (rm.le (by rwa[hl])) _ (Ry F hk0 l r st bl (Df bl) (BO bl l.length r.length) (Cu bl) hbeg.symm (by rwa[hbn,hel]) (by rwa[hbn,hql]) told.order N rm.handled _ λx y z u=>Aj ⟨rfl,x,y,z,u,rfl⟩)
 have ed:Am (stm 48)=(Am (stm 48)).take 6++(Am (stm 48)).drop 6:=(pP 6 _).symm
 rw[ed]
 refine N4 t hbody ?_
 intro O2 σ2 s2 fx t2 zz1;refine Eb zz1 λx y z u zz2=>?_;clear zz1;obtain rfl:=zz2
 have hnocell:∀b,∀x,(x,b)∉(CF pw w A (A6 s PT) s (Az 48 pm (.ref CT) doc .none .none) F.a48 J1 O).env.cells:=λb x h=>(by cases h)
 have O1of:∀b o,s.heap.get? b=some o->¬O.has b->¬Ap.has (("",s.heap.objs.size)::O) b:=λb o e hb=>by
  rintro⟨p,hp,e'⟩
  rcases jI.mp hp with rfl|hp
  ·have e':s.heap.objs.size=b:=e'
   rw[<-e',new0] at e;exact B6 e
  ·exact hb (Ac p hp e')
 have up2:∀b o,s.heap.get? b=some o->¬O.has b->s2.heap.get? b=some o:=λb o e hb=>fx.at (Aw k1 b o e) (O1of b o e hb) (hnocell b)
 refine Af T.ex λpsT hPT _=>?_
 have hPO1:=O1of PT _ hPT hPO
 have hPO2:¬O2.has PT:=λh=>by
  rcases fx.own PT h with z|z
  ·exact hPO1 z
  ·exact B0 z (Aw k1 _ _ hPT)
 have T2:DX s2.heap (λb=>Z b\/O2.has b) Eo Oi:=T.keeps (λo e=>up2 PT o e hPO) (λb o e h=>up2 b o e λz=>h (hZO b z)) λb o e hb0 h=>by
  have hb:¬O.has b:=λz=>hb0 (hZO b z)
  rcases h with h|h
  ·exact hb0 h
  rcases fx.own b h with z|z
  ·exact O1of b o e hb z
  ·exact B0 z (Aw k1 _ _ e)
 have up1:∀s':jG,(∀b o,(A6 s PT).heap.get? b=some o->s'.heap.get? b=some o)->∀b o,xK.get? b=some o->s'.heap.get? b=some o:=λs' h b o e=>h b o (hk0 b o e)
 refine km (pV (Zf (Ev.run (A1 (v:=.builtin "sorted") F.T hk0) t2 λv s3 t3 k3 r3=>?_) (by rfl)))
 obtain rfl:v=.builtin "sorted":=r3
 refine Pp (EZ N t3 (i:=7) rfl rfl) λmm l7 ws as nn hd' zz1 rs qs zz2 _=>?_;obtain⟨c7,hl7⟩:=zz1;obtain⟨hO7,hf7⟩:=zz2
 have T3:DX s3.heap (λb=>Z b\/O2.has b) Eo Oi:=T2.keeps (λo e=>Aw k3 _ _ e) (λb o e _=>Aw k3 _ _ e) λ_ _ _ h=>h
 have live3:∀b,s3.heap.get? b=none->¬O2.has b:=λb e ⟨p,hp,e'⟩=>by
  obtain⟨o,e2⟩:=t3.live p hp
  rw[e',e] at e2;exact B6 e2
 have liveZ:∀b,s3.heap.get? b=none->¬(Z b\/O2.has b):=λb e h=>h.elim (λh=>by
  obtain⟨o,e1⟩:=hZl b h
  obtain⟨o',e2⟩:=fx.dom b o (Aw k1 _ _ e1)
  exact B0 e (Aw k3 _ _ e2)) (live3 b e)
 refine callWith_kw (args_cons (EY N nn hd' (pZ (kwAll_cons (WH (mg:=mg) rfl rfl (by rfl) (by rfl) (F.T.gl.g.keeps (up1 s3 t3.keep)) (B.hd.keeps (up1 s3 t3.keep)) ?_ (by decide) _ liveZ T3 λf c' pm' ctv s5 al5 kp5 T5 fr5 hf5 hc5=>kwAll_nil ?_)))))
 ·obtain⟨bm,ob,b1,b2,b3,b4,b5,b6⟩:=B.bi
  exact Uh bm ob b1 b2 b3 b4 (up1 s3 t3.keep _ _ b5) b6
 refine Af T3.ex λps3 hP3 _=>?_
 have rs5:Ae s5.heap ws.toList ((Ew bl l.length r.length).map Da) as:=Bt (wr:=[PT]) (λb o hb e=>kp5 b o (λz=>hb (z▸.head _)) e) (λb hb=>by rw[jJ.mp hb];exact AT _ ps3 hP3 rfl) rs
 have l7P:l7≠PT:=λz=>hPO2 (z▸hO7)
 have il:s5.heap.IsList l7 ws.toList.toArray:=⟨_,kp5 _ _ l7P hl7,rfl,c7,by rw[p8]⟩
 have hdep:A0 (A.deeper (callEnvC (Az 48 pm (.ref CT) doc .none .none) s.heap.objs.size F.a48)).in1.in1 1:=(rm.le (show 3<=69 by rwa[])).in1.in1
 have lim5:s5.heap.NoLimit:=F.T.gl.nolimit.keeps λb o e=>kp5 b o (hPs b o e) (up1 s3 t3.keep b o e)
 have hwl:ws.toList.length=(Ew bl l.length r.length).length:=by rw[Al rs,jK]
 refine QW (cs:=Ew bl l.length r.length) (ops:=ops) hf5 hc5 lim5 (by have:=hdep.depth;show(A.deeper (callEnvC (Az 48 pm (.ref CT) doc .none .none) s.heap.objs.size F.a48)).in1.in1.depth<_;rwa[this]) il rs5 (by have:=told.len;rwa[hbn,hwl,this]) told.perm.symm told.asc (λc hc=>told.small c (told.perm.mem_iff.mpr hc)) λD s6 c6 k56 fD hD=>?_
 refine Af (Kn Fm q0 Da rs5 told.perm.symm told.asc) λas' r' q'=>?_
 have sub2:∀b,O.has b->O2.has b:=λb ⟨p,hp,e⟩=>t2.sub b (Ac p (.tail _ hp) e)
 have D3:s3.heap.get? D=none:=by
  cases e:s3.heap.get? D with
  | none=>rfl
  | some o=>
   by_cases hDP:D=PT
   ·refine Af T5.ex λps5 hP5 _=>?_
    rw[<-hDP,fD] at hP5;exact B6 hP5
   ·exact B0 fD (kp5 D o hDP e)
 refine q (.ref D) s6 ((Bc k1).tr (fx.alike.tr ((Bc k3).tr (al5.tr (Bc k56))))) (λb o hb e=>Aw k56 b o (kp5 b o hb (t3.keep b o ((Bj hb).trans e)))) (T5.keeps (λo e=>Aw k56 _ _ e) (λb o e _=>Aw k56 _ _ e) λb o _ h hh=>h (.inl hh)) (Ac (D::as') (.list hD rfl rfl (by rw[sJ];exact Ae.keeps (Aw k56) r')) λb hb=>?_)
 rcases jI.mp hb with rfl|hb
 ·exact λh=>live3 _ D3 (sub2 _ h)
 ·exact λh=>qs b (q' b hb) (sub2 _ h)
structure XG (h:j6) (Z:jN->Prop):Prop where
 tab:DX h Z Eo Oi
 live:∀b,Z b->∃o,h.get? b=some o
theorem XG.obj{h:j6}{Z:jN->Prop}(T:XG h Z):∃ps,h.get? PT=some (qk ps):=Af T.tab.ex λps e _=>(Ag ps e)
theorem DO{h:j6}{ps:Array jD}(e:h.get? PT=some (qk ps)):∀{v:jD} {d:jQ} {as:List jN},Ak h v d as->PT∉as:=by
 intro v d as r
 refine Ak.rec (motive_1:=λv d as _=>PT∉as) (motive_2:=λvs ds as _=>PT∉as) ?_ ?_ ?_ ?_ ?_ ?_ ?_ ?_ ?_ r
 ·exact λh=>nomatch h
 ·exact λ_ h=>nomatch h
 ·exact λ_ _ h=>nomatch h
 ·exact λ_ _ h=>nomatch h
 ·intro a o' vs n xs as e1 e2 e3 _ ih hm
  rcases jI.mp hm with hm|hm
  ·rw[<-hm,e] at e1;(replace e1:=si e1;subst e1);cases e3
  ·exact ih hm
 ·intro a o' vs n xs as e1 e2 e3 _ ih hm;exact ih hm
 ·intro a o' vs n xs as e1 e2 e3 _ ih hm
  rcases jI.mp hm with hm|hm
  ·rw[<-hm,e] at e1;(replace e1:=si e1;subst e1);cases e3
  ·exact ih hm
 ·exact λh=>nomatch h
 ·intro v vs d ds as bs _ _ ih1 ih2 hm
  exact(jW.mp hm).elim ih1 ih2
theorem QT{h:j6}{ps:Array jD}{v:Option jD}(e:h.get? PT=some (qk ps))(ic:h.IsCell PT v):False:=by
 obtain⟨o,e',r⟩:=ic
 (replace e':=CQ e e';subst e')
 simp at r
noncomputable def Ww (O:Ap):Ap:=O.filter λp=>!decide (p.2=PT)
theorem GA{O:Ap}{b:jN}:(Ww O).has b↔O.has b/\b≠PT:=by
 unfold Ww Ap.has
 constructor
 ·intro zz1;refine Af zz1 λp hp e=>?_
  obtain⟨h1,h2⟩:=kd.mp hp
  exact⟨(Ac p h1 e),λz=>by subst e;simp[z] at h2⟩
 ·rintro⟨⟨p,hp,e⟩,hb⟩
  exact Ac p (kd.mpr ⟨hp,by subst e;simp[hb]⟩) e
theorem VM{O:Ap}{h:j6}:∀{as:List AV} {vs:List jD},DD O h as vs->(∀a∈as,∃d,a=.py d)->DD (Ww O) h as vs:=by
 intro as
 induction as with
 | nil=>intro vs r _;rw[r.ni];trivial
 | cons a as ih=>
  intro vs r hp
  refine BD r.ci λv ws e h1 h2=>?_
  rw[e]
  obtain⟨d,rfl⟩:=hp a (.head _)
  refine Af h1 λfp r q=>?_
  exact⟨(Ac fp r λb hb hh=>q b hb (GA.mp hh).1),ih h2 λa ha=>hp a (.tail _ ha)⟩
theorem Vb{Γ:Cx}{σ:AX}{mg mb:jZ->Option jD}{xK:j6}{f e1 e2 e3:kJ}{pos:mi}(hw:Γ.prog=pw)(N:Nm Γ)(he0:jB ""∉Γ.ns)(F:Jq Γ.w mg mb xK)(B:Iy mg xK F.a48)(room:A0 Γ.A 70)(hk:HK xK Γ.s₀)(h0P:Γ.s₀.heap.get? PT=none)
 (l r:jZ)(st:Nat)(hst:0<st)(hst':st<1000)(hl:l.length<=30)(hr:r.length<=30)(ops:List AM)(told:XF l.length r.length (Dm l.cps.toList r.cps.toList st (l.length+1) 0 l.length 0 r.length) ops)
 (hf:Ev Γ σ f (.raw (.ref F.a48)))(h1:Ev Γ σ e1 (.py (.str l)))(h2:Ev Γ σ e2 (.py (.str r)))(h3:Ev Γ σ e3 (.py (.int st)))(O:Ap)(hPT:(jB "",PT)∈O)(Z:jN->Prop)(hZ:∀b,O.has b->Z b)
 (p1:autoParam (AE e1=true) aR)(p2:autoParam (AE e2=true) aR)(p3:autoParam (AE e3=true) aR)
 (he:autoParam (eval (.Call f [e1,e2,e3] [] pos) Γ.env=(do kY pos (<-eval f Γ.env) [] (backTo pos (starEach [e1,e2,e3] Γ.env)) (ma pos (ly [] Γ.env)))) aR) :
 bE Γ (·=PT) (λh=>XG h Z) O σ (.Call f [e1,e2,e3] [] pos) (.py (.list (ops.map Da))):=by
 intro s Q E t hX j q
 refine qS (Ev.run hf t λv s1 t1 k1 r1=>?_) he
 obtain rfl:v=.ref F.a48:=r1
 refine Ec B.fn λo48 pm doc ho hd hcd=>?_
 refine callWith_function (o:=o48) (fd:=_) (AL (by simp[p1,p2,p3]) (Ab h1 (Ab h2 (Ab h3 Ah p3) p2) p1 O s1 _ _ E t1 λvs s2 t2 k2 r2=>⟨⟨t2.keep _ _ (hk _ _ ho),hd⟩,?_⟩))
 have k12:=Keeps.tr k1 k2
 have hsub:∀b,(Ww O).has b->O.has b:=λb h=>(GA.mp h).1
 have own':CJ (Ww O) s2:=⟨(pp _ pf).nodup t2.nodup,λp hp=>t2.live p (kd.mp hp).1⟩
 have T2:DX s2.heap Z Eo Oi:=j.tab.keeps (λo e=>Aw k12 _ _ e) (λb o e _=>Aw k12 _ _ e) λ_ _ _ h=>h
 have live2:∀b,Z b->∃o,s2.heap.get? b=some o:=λb h=>AR (j.live b h) λo e=>(Ag o (Aw k12 _ _ e))
 rw[hw]
 refine Vm (w:=Γ.w) F B room (λb o e=>t2.keep _ _ (hk _ _ e)) own' (λh=>(GA.mp h).2 rfl) Z (λb h=>hZ b (hsub b h)) live2 T2 l r st hst hst' hl hr (VM r2 (by intro a ha;simp at ha;rcases ha with rfl|rfl|rfl<;>exact Ag _ rfl)) ops told λv s3 al kp T3 rv=>?_
 refine Af T2.ex λps2 hP2 _=>?_
 refine Af T3.ex λps3 hP3 _=>?_
 have noTup:∀o,s2.heap.get? PT=some o->¬(o.cls=.type "tuple"/\∃vs n,o.data=.seq vs n):=by
  rintro o e ⟨_,vs,n,hd⟩
  (replace e:=CQ hP2 e;subst e);cases hd
 have t3:St Γ O σ s3:=by
  refine B1 al λh3 tk3 zz1=>?_;clear al;obtain rfl:=zz1
  refine Iu N t2 (a:=PT) (y:="") hPT he0 (λz=>?_) (λx hx=>?_) h0P noTup kp (Ag _ hP3)
  ·refine Af t2.ex λm zz1 _=>?_;obtain⟨o,es,ep,e,hd,_⟩:=zz1
   rw[<-z,hP2] at e;(replace e:=si e;subst e);cases hd
  ·obtain⟨v,ic⟩:=t2.cells x PT (DR N hx)
   exact QT hP2 ic
 refine Af rv λfp rd hfp=>?_
 refine q v s3 t3 ((Bc k12).tr al) (λb o hb e=>kp b o hb (Aw k12 _ _ e)) ⟨T3,λb h=>?_⟩ (Ac fp rd λb hb h=>hfp b hb (GA.mpr ⟨h,λz=>DO hP3 rd (z▸hb)⟩))
 by_cases hb:b=PT
 ·exact Ag _ (hb▸hP3)
 ·obtain⟨o,e⟩:=live2 b h;exact Ag o (kp b o hb e)
theorem bE.and{Γ:Cx}{X:jN->Prop}{J:j6->Prop}{O:Ap}{σ:AX}{e:kJ}{av:AV}{c:Prop}(h:bE Γ X J O σ e av):bE Γ X (λh=>c/\J h) O σ e av:=
 λs Q E t hX j q=>h s Q E t hX j.2 λv s' t' a k j' r=>q v s' t' a k ⟨j.1,j'⟩ r
theorem W6{Γ:Cx}{σ:AX}{pos:mi}{elt tgt iter:kJ}{scope:sZ}{cl:List (jZ×jN)}{ns:List jZ}{σ0:AX}{ds rs:List jQ}{O:Ap}{s:jG}{Q:jD->jG->Prop}{E:jD->jG->Prop}(N:Nm Γ)(X:BS Γ σ scope cl ns σ0)(hI:RO Γ σ tgt iter ds)(hlen:ds.length=rs.length)(hsz:rs.length<=100000)
 (body:∀C (O':Ap) (Z:jN->Prop),Γ.s₀.heap.get? C=none->Nm (Γ.comp scope cl ns C)->(jB "",PT)∈O'->(∀b,O'.has b->Z b)->∀(i:Nat) (d:jQ),ds[i]?=some d->∃σ1 r,rs[i]?=some r/\Le σ0 σ1/\As (Γ.comp scope cl ns C) σ0 tgt d σ1/\bE (Γ.comp scope cl ns C) (·=PT) (λh=>XG h Z) O' σ1 elt (.py r))
 (t:St Γ O σ s)(hPT:(jB "",PT)∈O)(T:DX s.heap O.has Eo Oi)
 (q:∀v s',AI s s'->(∀b o,b≠PT->s.heap.get? b=some o->s'.heap.get? b=some o)->VR O s'.heap (.py (.list rs)) v->(∃ps,s'.heap.get? PT=some (qk ps))->Q v s')
 (hs:autoParam (∀x,foldedSetIterable iter Γ.env x=pure x) aI):wpAny (model Γ.prog Γ.w) Γ.A (eval (.ListComp elt [⟨tgt,iter,[],0⟩] scope pos) Γ.env) Q E s:=by
 refine Af T.ex λps hP _=>?_
 rw[eval_ListComp]
 refine rC (use:=none) rfl hs X.clos X.kind X.names (hI O s _ E t λI fp wr R Md Tt s2 vs es as k2 W hT t2 self hfp hwr hfd hrs has rd=>?_)
 have hPw:PT∉wr:=λh=>by exact B0 (hwr _ h) hP
 have hP2:=Aw k2 _ _ hP
 refine H7 (RR:=λacc C=>compPost (model Γ.prog Γ.w) Γ.A E none Q acc C) (·=PT) (λC D h=>(PT≠C/\PT≠D)/\XG h (λb=>O.has b\/b=C\/b=D\/(b∈wr/\∃o,s2.heap.get? b=some o))) N X hlen hsz (λC D hC N' i d hd=>?_) (λb hb=>Ac _ hPT hb.symm) (λb hb o e ht=>?_) (λC D h hC hD eC eD hk=>?_) (λC D h h' hk hdom hj=>?_) (λC D h hj b hb o e ht=>?_) k2 W hT t2 self hfp hwr t.keep hfd hrs has rd ?_
 ·obtain⟨σ1,r,e1,e2,e3,e4⟩:=body C ((jB "",C)::(jB "",D)::O) (λb=>O.has b\/b=C\/b=D\/(b∈wr/\∃o,s2.heap.get? b=some o)) hC N' (.tail _ (.tail _ hPT)) (λb ⟨p,hp,e⟩=>by
   rcases jI.mp hp with rfl|hp
   ·exact .inr (.inl e.symm)
   ·rcases jI.mp hp with rfl|hp
    ·exact .inr (.inr (.inl e.symm))
    ·exact .inl (Ac p hp e)) i d hd
  exact C6 σ1 r e1 e2 e3 e4.and
 ·subst hb
  refine Cg ht λ_ zr0=>B1 zr0 λvs n hd=>?_
  (replace e:=CQ hP2 e;subst e);cases hd
 ·have ne:∀b o,s.heap.get? b=some o->b≠C/\b≠D:=λb o e=>⟨λz=>(by rw[z] at e;exact B0 hC (Aw k2 _ _ e)),λz=>(by rw[z] at e;exact B0 hD (Aw k2 _ _ e))⟩
  refine⟨ne PT _ hP,T.keeps (λo e=>hk _ _ (Aw k2 _ _ e)) (λb o e _=>hk _ _ (Aw k2 _ _ e)) λb o e hz h=>?_,λb h=>?_⟩
  ·rcases h with h|h|h|⟨h,_⟩
   ·exact hz h
   ·exact(ne b o e).1 h
   ·exact(ne b o e).2 h
   ·exact B0 (hwr b h) e
  ·rcases h with⟨p,hp,e⟩|h|h|⟨_,o,e⟩
   ·obtain⟨o,e'⟩:=t2.live p hp;exact Ag o (hk _ _ (e▸e'))
   ·exact h▸eC
   ·exact h▸eD
   ·exact Ag o (hk _ _ e)
 ·refine Cg hj λzz1 j=>?_;obtain⟨c1,c2⟩:=zz1
  refine⟨⟨c1,c2⟩,j.tab.keeps (λo e=>hk _ _ e c1 c2 hPw) (λb o e hz=>?_) (λ_ _ _ h=>h),λb h=>?_⟩
  ·by_cases hb:b∈wr
   ·refine(hz (.inr (.inr (.inr ⟨hb,?_⟩)))).elim
    rcases hfp b (W.sub b hb) with⟨o,e,_⟩|⟨_,_,o,e⟩<;>exact Ag o e
   ·exact hk b o e (λz=>hz (.inr (.inl z))) (λz=>hz (.inr (.inr (.inl z)))) hb
  ·obtain⟨o,e⟩:=j.live b h;exact hdom b o e
 ·subst hb
  obtain⟨ps',hP'⟩:=hj.2.obj
  refine Cg ht λ_ zr0=>B1 zr0 λvs n hd=>?_
  (replace e:=CQ hP' e;subst e);cases hd
 ·rintro D C s' ys bs al hk hj0 hwl hD hC hDC ⟨m,hn⟩ hl hr hb
  refine Ac m hn λh' hs'=>?_
  have g:=AJ hs'
  have frO:∀b,s2.heap.get? b=none->¬O.has b:=λb e ⟨p,hp,e'⟩=>by
   obtain⟨o,e2⟩:=t2.live p hp
   rw[e',e] at e2;exact B6 e2
  refine q (.ref D) {s' with heap:=h'} ((Bc k2).tr (al.tr (AS _ _ rfl))) (λb o hbP e=>?_) (Ac (D::bs) ?_ λb hb'=>?_) ?_
  ·have e2:=Aw k2 b o e
   exact g b (λz=>by rw[z,hC] at e2;exact B6 e2) o (hk b o (λhb=>by exact B0 (hwr b hb) e) hbP e2)
  ·obtain⟨n,e⟩:=hl
   exact .list (g _ hDC _ e) rfl rfl (Aq g (A5 hn) hr λhm=>(hb C hm).2.1 rfl)
  ·rcases jI.mp hb' with rfl|hb'
   ·exact frO _ hD
   ·exact(hb b hb').1
  ·refine Af hj0 λh0 zz1 hk0=>?_;obtain⟨_,j⟩:=zz1
   obtain⟨ps',e'⟩:=j.obj
   exact Ag ps' (g PT (λz=>by rw[<-z,hP2] at hC;exact XM hC) _ (hk0 _ _ hPw e'))
noncomputable def WG (script L R:List Int):AX:=[some (.val (.py (Cr script))),some (.val (.py (Cr L))),some (.val (.py (Cr R))),some (.val (.py (.str TR))),some (.val (.py (.str X9))),some (.val (.py (.list [B7 (AA L),B7 (AA R)]))),some (.val (.py (.list [B7 (AA L),B7 (AA R)]))),some (.val (.py (.tuple [.int 4,.int 4,.int 10])))]
theorem UW(f:Int->jZ)(h:∀m,(f m).length=10)(row:List Int):((row.map f).map (·.length)).sum=row.length*10:=by
 rw[mw,show(·.length)∘f=λ_=>10 from funext h,rN,nc]
theorem YB{w:jY}{A:kC}{s:jG}{O:Ap}{a:jN}{mg mb:jZ->Option jD}{xI:j6}{pm cd doc dv kdv:jD}(F:Jq w mg mb xI)(hk:HK xI s)(script:List Int)(hs:script.length<=63)(n:Nat)(hn:10<=n)
 (okL:Ca (Bs script).1)(okR:Ca (Bs script).2)(eL:ER (Bs script).1=AA (Bs script).1)(eR:ER (Bs script).2=AA (Bs script).2)
 (shS:pD (.list [B7 (AA (Bs script).1),B7 (AA (Bs script).2)])=true)(eqS:ui (.list [B7 (AA (Bs script).1),B7 (AA (Bs script).2)]) (.list [B7 (AA (Bs script).1),B7 (AA (Bs script).2)])=true)
 (N:Nm (Dx pw w A s (Az 50 pm cd doc dv kdv) a Q7 O))(room:A0 (A.deeper (callEnvC (Az 50 pm cd doc dv kdv) s.heap.objs.size a)) n) :
 Ex (Dx pw w A s (Az 50 pm cd doc dv kdv) a Q7 O) (Bi [.py (Cr script)] 7) ((Am (stm 50)).take 7) (λaf σ'=>af=.next/\σ'=WG script (Bs script).1 (Bs script).2):=by
 delta w A s O a mg mb xI pm cd doc dv kdv script n at F hk hs hn okL okR eL eR shS eqS N room
 have hh:=room.handled
 have T:=F.T
 generalize hL:(Bs script).1=L at *
 generalize hR:(Bs script).2=R at *
 have fr:∀j,s.heap.get? (s.heap.objs.size+1+j)=none:=λj=>Bk (by rwa[])
 have hrows:=Yd (w:=w) T F.f41 script hs
 rw[hL,hR] at hrows
 refine Ad (Gm (CI hrows (room.le (by rwa[hn])) hk F.f41 (BU T hk F.g41) (Ab (Aa 0) Ah)) (BV N hh [1,2] (ds:=[_,_]) ⟨rfl,rfl,rfl,rfl,trivial⟩) ?_)
 refine Ad (CP N 3 (c:=s.heap.objs.size+1) (BF) ?_ (by kernel_rfl) (fr 0))
 refine Ad (CP N 4 (c:=s.heap.objs.size+1+1) (BF) ?_ (by kernel_rfl) (fr 1))
 have two:∀(f:List Int->List jZ) (i:Nat) (d:jQ),([Cr L,Cr R]:List jQ)[i]?=some d->∃row,Ca row/\d=Cr row/\([B7 (f L),B7 (f R)]:List jQ)[i]?=some (B7 (f row)):=by
  exact λf=>iA (Ba L okL rfl rfl) (Ba R okR rfl rfl)
 refine Ad (CP N 5 (c:=s.heap.objs.size+1+1+1) (Be (ds:=[B7 (AA L),B7 (AA R)]) (C4 N (ds:=[Cr L,Cr R]) (cl:=[(jB "sixtyfour",s.heap.objs.size+1+1),(jB "sixteen",s.heap.objs.size+1)]) (ns:=["row","sixteen","sixtyfour"])
  (σ0:=[none,some (.val (.py (.str TR))),some (.val (.py (.str X9)))])
  (BS.of (by decide +kernel) rfl (iB (rp _)) (show([jB "sixtyfour",jB "sixteen"]:List jZ).Nodup by decide +kernel) ?_ ?_)
  (Ft N hh (Au (ds:=[_,_]) (Ab (Aa 1) (Ab (Aa 2) Ah)))) rfl (jV rfl) ?_)) ?_ (by kernel_rfl) (fr 2))
 ·intro x c h
  rcases jI.mp h with e|h
  ·cases e;kernel_rfl
  ·obtain e:=jJ.mp h
   cases e;kernel_rfl
 ·exact λC=>sn (fE (⟨3,_,s.heap.objs.size+1,rfl,rfl,rfl,by kernel_rfl,by kernel_rfl,by kernel_rfl,by kernel_rfl⟩) (⟨4,_,s.heap.objs.size+1+1,rfl,rfl,rfl,by kernel_rfl,by kernel_rfl,by kernel_rfl,by kernel_rfl⟩))
 ·intro C hC N' i d hd
  refine Bu (two AA i d hd) λrow ok zz1 hr=>?_;obtain rfl:=zz1
  refine C6 _ _ hr ?_ (BH N' 0) ?_
  ·exact λj b=>ek
  ·exact Dy (ds:=(AA row).map .str) (Ab (CI (Ur T F.f44 row ok.len 4 (by decide) (by decide) TR (by decide +kernel)) (room.le (by rwa[hn])) hk F.f44 (BU T hk F.g44) (Ab (Aa 0) (Ab Ai (Ab (Aa 1) Ah))))
    (Ab (CI (Ur T F.f44 row ok.len 6 (by decide) (by decide) X9 (by decide +kernel)) (room.le (by rwa[hn])) hk F.f44 (BU T hk F.g44) (Ab (Aa 0) (Ab Ai (Ab (Aa 2) Ah))))
    (Ab (CI (Rd T F.f45 row (by have:=ok.len;rwa[this]) ok.el) (room.le (by rwa[hn])) hk F.f45 (BU T hk F.g45) (Ab (Aa 0) Ah)) Ah)))
 have osz:∀row:List Int,Ca row->(byteArr (AD row)).size<=6:=λrow ok=>by rw[DV,CL];have:=ok.len;rwa[this]
 refine Ad (CP N 6 (c:=s.heap.objs.size+1+1+1+1) (Be (ds:=[B7 (ER L),B7 (ER R)]) (C4 N (ds:=[Cr L,Cr R]) (ns:=["row"]) (BS.none (by decide +kernel) rfl)
  (Ft N hh (Au (ds:=[_,_]) (Ab (Aa 1) (Ab (Aa 2) Ah)))) rfl (jV rfl) ?_)) ?_ (by kernel_rfl) (fr 3))
 ·intro C hC N' i d hd
  refine Bu (two ER i d hd) λrow ok zz1 hr=>?_;obtain rfl:=zz1
  have ho:=osz row ok
  have he16:(H4 (byteArr (AD row))).size<=1000:=by
   unfold H4
   rw[kK,jK,kn,qH,kK,Ck,kn]
   rwa[ho]
  have he64:(byteArr (EG (B9 (byteArr (AD row))))).size<=1000:=by
   have h1:=(G8 (B9 (byteArr (AD row)))).len
   have h2:(B9 (byteArr (AD row))).length=(byteArr (AD row)).size:=by simp[B9]
   rw[DV]
   unfold EG
   rw[j7]
   have h3:∀st,(BR st).length<=3:=λst=>by
    unfold BR
    split
    ·exact jP _
    ·split
     ·show 2<=3;decide
     ·show 0<=3;decide
   have:=h3 (DG (B9 (byteArr (AD row))))
   rwa[ho,h1,h2,this]
  refine C6 _ _ hr Le.none (BH N' 0) ?_
  have f16:=bv (w:=w) T F.f16 F.f12 F.g12 F.e12 F.f7 F.g7 F.gN (byteArr (AD row)) (by rwa[ho])
  have f64:=br (w:=w) T F.f15 F.e15 F.f10 F.g10 F.f7 F.g7 F.f8 F.g8 F.g64 (byteArr (AD row)) (by rwa[ho])
  have f42:=US (w:=w) T F.f42 row (by have:=ok.len;rwa[this]) ok.el
  refine Dy (ds:=(ER row).map .str) (Ab (CI (TJ T F.f43 _ he16) (room.le (by rwa[hn])) hk F.f43 (BU T hk F.g43) (Ab (CI f16 (room.le (by rwa[hn])) hk F.f16 (BU T hk F.g16) (Ab (CI f42 (room.le (by rwa[hn])) hk F.f42 (BU T hk F.g42) (Ab (Aa 0) Ah)) Ah)) Ah))
   (Ab (CI (TJ T F.f43 _ he64) (room.le (by rwa[hn])) hk F.f43 (BU T hk F.g43) (Ab (CI f64 (room.le (by rwa[hn])) hk F.f15 (BU T hk F.g15) (Ab (CI f42 (room.le (by rwa[hn])) hk F.f42 (BU T hk F.g42) (Ab (Aa 0) Ah)) Ah)) Ah))
   (Ab (GO (ys:=row.map λm=>mO "" (Ax m 10)) (Be (C4 N' (ds:=row.map .int) (ns:=["mode"]) (BS.none (by decide +kernel) rfl) (C3 N' hh (Aa 0)) ?_ ?_ ?_)) (by decide) ?_) Ah)))
  ·simp
  ·simp only[jK];have:=ok.len;rwa[this]
  ·intro C2 hC2 N2 j d2 hd2
   refine Af (Fr hd2) λm hm zz1=>?_;obtain rfl:=zz1
   refine C6 _ (.str (mO "" (Ax m 10))) (by simp[hm]) Le.none (BH N2 0) ?_
   exact CI (Pm T F.f39 F.f18 F.g18 F.gtb F.rtb m) (room.le (by rwa[hn])) hk F.f39 (BU T hk F.g39) (Ab (Aa 0) Ah)
  ·rw[UW _ On,jK]
   have:=ok.len;rwa[this]
 rw[eL,eR]
 have hu:(Dx pw w A s (Az 50 pm cd doc dv kdv) a Q7 O).A.units+64<cLine:=by
  have:=room.units
  show(A.deeper (callEnvC (Az 50 pm cd doc dv kdv) s.heap.objs.size a)).units+64<cLine
  rwa[hn,this]
 refine Ad (BI (b:=false) (Tv.cast (eh (a:=.list [B7 (AA L),B7 (AA R)]) (b:=.list [B7 (AA L),B7 (AA R)]) (Aa 6) (Aa 5) shS shS hu) (by rw[eqS];rfl)) (λh=>by exact lN h) (λ_=>Aj ?_))
 refine Ad (CP N 7 (c:=s.heap.objs.size+1+1+1+1+1) (Au (ds:=[.int 4,.int 4,.int 10]) (Ab Ai (Ab Ai (Ab Ai Ah)))) ?_ (by kernel_rfl) (fr 4))
 exact Aj ⟨rfl,rfl⟩
theorem IJ{h:j6}{ps:Array jD}(e:h.get? PT=some (qk ps)){v:List jD}{d:List jQ}{as:List jN}(r:Ae h v d as):PT∉as:=
 Ae.ind (P:=λ_ _ as=>PT∉as) (λh=>nomatch h) (λr _ ih h=>(jW.mp h).elim (DO e r) ih) r
theorem ZZ{Γ:Cx}{O:Ap}{σ:AX}{s:jG}{ps:Array jD}(t:St Γ O σ s)(hP:s.heap.get? PT=some (qk ps))(hO:¬O.has PT):St {Γ with s₀:=A6 Γ.s₀ PT} (("",PT)::O) σ s:=by
 delta Γ O σ s ps at t hP hO
 obtain⟨kp,⟨m,n,vs⟩,cl,nd,lv,sb,fr,fs⟩:=t
 have hh:∀a,Γ.s₀.heap.get? a=none->(A6 Γ.s₀ PT).heap.get? a=none:=λa e=>by
  cases e':(A6 Γ.s₀ PT).heap.get? a with
  | none=>rfl
  | some o=>exact B0 e ((Er e').1)
 have av:∀{b:jN},b≠PT->¬O.has b->¬Ap.has (("",PT)::O) b:=λh1 h2 ⟨p,hp,e⟩=>by
  rcases jI.mp hp with rfl|hp
  ·exact h1 e.symm
  ·exact h2 (Ac p hp e)
 have noT:∀{b:jN},(∃o,s.heap.get? b=some o/\FV o)->b≠PT:=λ⟨o,e,z⟩ hb=>by
  rw[hb,hP] at e;(replace e:=si e;subst e);exact z.2 _ rfl
 refine⟨λb o e=>kp b o (Er e).1,(Ac m n λi y b e e'=>?_),cl,?_,λp hp=>?_,λb hb=>Af (sb b hb) λp hp e=>(Ac p (.tail _ hp) e),fr,hh _ fs⟩
 ·refine Af (vs i y b e e') λv hd r=>?_
  refine Ac v hd ?_
  cases b with
  | val w=>
   cases w with
   | py d=>refine Af r λbs r q=>?_;exact Ac bs r λb hb=>av (λz=>DO hP r (z▸hb)) (q b hb)
   | «by» b=>exact r
   | raw u=>exact r
   | obj P=>refine C9 r λa1 o e1 g p q z=>?_;exact C5 a1 o e1 g p (av (noT (Ac o g z)) q) z
   | st R ok=>refine Af r λbs r q=>?_;exact Ac bs r λb hb=>av (noT (ok.solid r b hb)) (q b hb)
  | own ds=>
   refine CR r λa us as e1 m1 l1 r1 q1 f1=>?_
   exact CA a us as e1 (.tail _ m1) l1 r1 (λb hb=>av (λz=>IJ hP r1 (z▸hb)) (q1 b hb)) (hh _ f1)
  | «at» a P=>
   refine Ue r λe1 m1 h1 f1 z1=>?_
   exact⟨e1,.tail _ m1,h1,hh _ f1,z1⟩
 ·rw[kO,mf]
  exact⟨λhm=>Af (kq.mp hm) λp hp e=>hO (Ac p hp e),nd⟩
 ·rcases jI.mp hp with rfl|hp
  ·exact Ag _ hP
  ·exact lv p hp
theorem ae{w:jY}{A:kC}{s:jG}{fd:nY}{a:jN}{ns:List jZ}{O:Ap}{ps:Array jD}(N:Nm (Dx pw w A s fd a ns O))(hP:s.heap.get? PT=some (qk ps))(hO:¬O.has PT):Nm (CF pw w A (A6 s PT) s fd a ns O):=by
 obtain⟨h1,h2,h3,h4,h5⟩:=N
 refine⟨h1,h2,h3,h4,λb hb=>?_⟩
 rcases h5 b hb with h|⟨o,e⟩
 ·exact .inl h
 ·refine .inr (Ag o ((Bj λz=>?_).trans e))
  refine Af hb λp hp e'=>?_
  rcases jI.mp hp with rfl|hp
  ·have e':s.heap.objs.size=b:=e'
   have:=kt e
   rw[<-e'] at this
   exact absurd this (lr _)
  ·exact hO (Ac p hp (e'.trans z))
theorem YC{w:jY}{A:kC}{s s1:jG}{O O1:Ap}{a:jN}{mg mb:jZ->Option jD}{xI xK:j6}{pm cd doc dv kdv:jD}{Q:uT->jG->Prop}{E:jD->jG->Prop}(F:Jq w mg mb xI)(hk:HK xI s)(xV:Jq w mg mb xK)(xN:HK xK (A6 s PT))(B:Iy mg xK xV.a48)(script L R:List Int)(ops:Nat->List AM)
 (lens:∀l,l∈AA L\/l∈AA R->l.length<=30)
 (told:∀(k:Nat) (l r:jZ) (st:Nat),(AA L)[k]?=some l->(AA R)[k]?=some r->([4,4,10]:List Int)[k]?=some (st:Int)->XF l.length r.length (Dm l.cps.toList r.cps.toList st (l.length+1) 0 l.length 0 r.length) (ops k))
 (hseen:∀(k:Nat) (l r:jZ) (st:Int),(AA L)[k]?=some l->(AA R)[k]?=some r->([4,4,10]:List Int)[k]?=some st->Fn pw w xI 11 (.ref F.a49) [] [.py (.str l),.py (.str r),.py (.int st)] [] (.py (.list ((ops k).map Da))))
 (shD:pD (.list [.list ((ops 0).map Da),.list ((ops 1).map Da),.list ((ops 2).map Da)])=true)(eqD:ui (.list [.list ((ops 0).map Da),.list ((ops 1).map Da),.list ((ops 2).map Da)]) (.list [.list ((ops 0).map Da),.list ((ops 1).map Da),.list ((ops 2).map Da)])=true)
 (N:Nm (Dx pw w A s (Az 50 pm cd doc dv kdv) a Q7 O))(room:A0 (A.deeper (callEnvC (Az 50 pm cd doc dv kdv) s.heap.objs.size a)) 70)(hO:¬O.has PT)(hPs:∃ps,s.heap.get? PT=some (qk ps))
 (t:St (Dx pw w A s (Az 50 pm cd doc dv kdv) a Q7 O) O1 (WG script L R) s1)(T:DX s1.heap (Ap.has (("",PT)::O1)) Eo Oi)(hO1:¬O1.has PT)
 (q:∀s',AI s1 s'->(∀b o,b≠PT->s1.heap.get? b=some o->s'.heap.get? b=some o)->(∃ps,s'.heap.get? PT=some (qk ps))->Q (.ret (.bool true)) s') :
 wpAny (model pw w) (A.deeper (callEnvC (Az 50 pm cd doc dv kdv) s.heap.objs.size a)) (execs ((Am (stm 50)).drop 7) (callEnvC (Az 50 pm cd doc dv kdv) s.heap.objs.size a)) Q E s1:=by
 delta w A s s1 O O1 a mg mb xI xK pm cd doc dv kdv Q E script L R ops at F hk xV xN B lens told hseen shD eqD N room hO hPs t T hO1 q
 obtain⟨ps0,hP0⟩:=hPs
 have hh:=room.handled
 have N1:=ae N hP0 hO
 have hu:(A.deeper (callEnvC (Az 50 pm cd doc dv kdv) s.heap.objs.size a)).units+64<cLine:=by
  have:=room.units
  rwa[this]
 have r3:AN 0 3 1=[.int 0,.int 1,.int 2]:=by kernel_rfl
 have pick3:∀(i:Nat) (d:jQ),(AN 0 3 1)[i]?=some d->∃l r st,d=.int (i:Nat)/\i<3/\(AA L)[i]?=some l/\(AA R)[i]?=some r/\([4,4,10]:List Int)[i]?=some st/\([.list ((ops 0).map Da),.list ((ops 1).map Da),.list ((ops 2).map Da)]:List jQ)[i]?=some (.list ((ops i).map Da)):=by
  rw[r3]
  exact jb (CA _ _ _ rfl (by decide) rfl rfl rfl rfl) (CA _ _ _ rfl (by decide) rfl rfl rfl rfl) (CA _ _ _ rfl (by decide) rfl rfl rfl rfl)
 refine km (pV (wpAny_Compare1 (Ev.run (Be (C4 N (ds:=AN 0 3 1) (rs:=[.list ((ops 0).map Da),.list ((ops 1).map Da),.list ((ops 2).map Da)]) (cl:=[(jB "told",s.heap.objs.size+1+1+1+1),(jB "steps",s.heap.objs.size+1+1+1+1+1)]) (ns:=["k","steps","told"])
  (σ0:=[none,some (.val (.py (.tuple [.int 4,.int 4,.int 10]))),some (.val (.py (.list [B7 (AA L),B7 (AA R)])))])
  (BS.of (by decide +kernel) rfl (iB (lz (ml _))) (show([jB "told",jB "steps"]:List jZ).Nodup by decide +kernel) ?_ ?_)
  (Ga N hh (A1 F.T hk) Ai (by decide +kernel)) (by rw[r3];rfl) (jV rfl) ?_)) t λx s2 t2 k2 r2=>?_) (by rfl)))
 ·intro x c h
  rcases jI.mp h with e|h
  ·cases e;kernel_rfl
  ·obtain e:=jJ.mp h
   cases e;kernel_rfl
 ·exact λC=>sn (fE (⟨7,_,s.heap.objs.size+1+1+1+1+1,rfl,rfl,rfl,by kernel_rfl,by kernel_rfl,by kernel_rfl,by kernel_rfl⟩) (⟨6,_,s.heap.objs.size+1+1+1+1,rfl,rfl,rfl,by kernel_rfl,by kernel_rfl,by kernel_rfl,by kernel_rfl⟩))
 ·intro C hC N' i d hd
  refine CR (pick3 i d hd) λl r st zz1 hi e1 e2 e3 e4=>?_;obtain rfl:=zz1
  refine C6 _ _ e4 ?_ (BH N' 0) ?_
  ·exact λj b=>ek
  ·refine CI (hseen i l r st e1 e2 e3) (room.le (by rwa[])) hk F.f49 (BU F.T hk F.g49) (Ab (Ay (d:=.str l) (Ay (d:=B7 (AA L)) (Aa 2) Ai (by decide) (by decide) rfl) (Aa 0) (by rwa[]) (by rwa[hi]) ?_)
    (Ab (Ay (d:=.str r) (Ay (d:=B7 (AA R)) (Aa 2) Ai (by decide) (by decide) rfl) (Aa 0) (by rwa[]) (by rwa[hi]) ?_)
    (Ab (A7 (ds:=[.int 4,.int 4,.int 10]) (d:=.int st) (Aa 1) (Aa 0) (by rwa[]) (by rwa[hi]) ?_) Ah)))
   ·rw[ku,kc,e1];rfl
   ·rw[ku,kc,e2];rfl
   ·rw[ku,show([.int 4,.int 4,.int 10]:List jQ)=([4,4,10]:List Int).map .int from rfl,kc,e3];rfl
 refine Af T.ex λps1 hP1 _=>?_
 have hP2:=Aw k2 _ _ hP1
 have t3:=ZZ t2 hP2 hO1
 have T2:DX s2.heap (Ap.has (("",PT)::O1)) Eo Oi:=T.keeps (λo e=>Aw k2 _ _ e) (λb o e _=>Aw k2 _ _ e) λ_ _ _ h=>h
 refine W6 (Γ:=CF pw w A (A6 s PT) s (Az 50 pm cd doc dv kdv) a Q7 O) N1 (ds:=AN 0 3 1) (rs:=[.list ((ops 0).map Da),.list ((ops 1).map Da),.list ((ops 2).map Da)]) (cl:=[(jB "steps",s.heap.objs.size+1+1+1+1+1),(jB "due",s.heap.objs.size+1+1+1)]) (ns:=["k","due","steps"])
  (σ0:=[none,some (.val (.py (.list [B7 (AA L),B7 (AA R)]))),some (.val (.py (.tuple [.int 4,.int 4,.int 10])))])
  (BS.of (by decide +kernel) rfl (iB (show(s.heap.objs.size+1+1+1+1+1:Nat)≠s.heap.objs.size+1+1+1 by rwa[])) (show([jB "steps",jB "due"]:List jZ).Nodup by decide +kernel) ?_ ?_)
  (Ga N1 hh (A1 xV.T xN) Ai (by decide +kernel)) (by rw[r3];rfl) (jV rfl) ?_ t3 (.head _) T2 λy s4 al4 kp4 r4 hP4=>?_
 ·intro x c h
  rcases jI.mp h with e|h
  ·cases e;kernel_rfl
  ·obtain e:=jJ.mp h
   cases e;kernel_rfl
 ·exact λC=>sn (fE (⟨5,_,s.heap.objs.size+1+1+1,rfl,rfl,rfl,by kernel_rfl,by kernel_rfl,by kernel_rfl,by kernel_rfl⟩) (⟨7,_,s.heap.objs.size+1+1+1+1+1,rfl,rfl,rfl,by kernel_rfl,by kernel_rfl,by kernel_rfl,by kernel_rfl⟩))
 ·intro C O' Z hC N' hPT' hZ i d hd
  refine CR (pick3 i d hd) λl r st zz1 hi e1 e2 e3 e4=>?_;obtain rfl:=zz1
  refine C6 _ _ e4 ?_ (BH N' 0) ?_
  ·exact λj b=>ek
  ·obtain⟨stn,hst,hst0,hst1⟩:∃n:Nat,st=(n:Int)/\0<n/\n<1000:=by
    exact jb (P:=λ_ st=>∃n:Nat,st=(n:Int)/\0<n/\n<1000) ⟨4,rfl,by decide,by decide⟩ ⟨4,rfl,by decide,by decide⟩ ⟨10,rfl,by decide,by decide⟩ i st e3
   subst hst
   refine Vb rfl N' (show jB ""∉([jB "k",jB "due",jB "steps"]:List jZ) by decide +kernel) xV B room xN A3 l r stn hst0 hst1 (lens l (.inl (kx e1))) (lens r (.inr (kx e2))) (ops i) (told i l r stn e1 e2 e3) (BU xV.T xN xV.g48) (Ay (d:=.str l) (Ay (d:=B7 (AA L)) (Aa 1) Ai (by decide) (by decide) rfl) (Aa 0) (by rwa[]) (by rwa[hi]) ?_)
    (Ay (d:=.str r) (Ay (d:=B7 (AA R)) (Aa 1) Ai (by decide) (by decide) rfl) (Aa 0) (by rwa[]) (by rwa[hi]) ?_)
    (A7 (ds:=[.int 4,.int 4,.int 10]) (d:=.int stn) (Aa 2) (Aa 0) (by rwa[]) (by rwa[hi]) ?_) O' hPT' Z hZ
   ·rw[ku,kc,e1];rfl
   ·rw[ku,kc,e2];rfl
   ·rw[ku,show([.int 4,.int 4,.int 10]:List jQ)=([4,4,10]:List Int).map .int from rfl,kc,e3];rfl
 ·refine Af r2 λfx rx qx=>?_
  refine Af r4 λfy ry qy=>?_
  have rx4:Ak s4.heap x _ fx:=Bo (L:=PT) (λb hb o e=>kp4 b o hb e) (by
   rintro o e ⟨_,vs,n,hd⟩
   (replace e:=CQ hP2 e;subst e);cases hd) rx (DO hP2 rx)
  refine SeqAt.compareEq_shaped (rx4.lib (pE shD)) (ry.lib (pE shD)) shD shD hu ?_
  rw[eqD]
  exact q s4 ((Bc k2).tr al4) (λb o hb e=>kp4 b o hb (Aw k2 b o e)) hP4
noncomputable abbrev PQ (s:jG):Prop:=s.heap.get? PT=some (qk #[])
theorem Iw{s:jG}(hP:PQ s){a:jN}{o:nJ}(e:s.heap.get? a=some o)(h:∀fs,o.data=.fields fs->fs≠#[]):(A6 s PT).heap.get? a=some o:=
 (Bj λz=>by rw[z,hP] at e;(replace e:=si e;subst e);exact h _ rfl rfl).trans e
theorem N8{s:jG}(hP:PQ s){a:jN}{m:jZ->Option jD}(n:s.heap.Ns a m):(A6 s PT).heap.Ns a m:=by
 refine Ec n λo es ep e hd r=>?_
 exact Pw o es ep (Iw hP e (λfs h=>by rw[hd] at h;exact jU h)) hd r
theorem KE{s:jG}(hP:PQ s){c:jD}{q:jZ}(x:s.heap.CodeRec c q):(A6 s PT).heap.CodeRec c q:=by
 refine Cz x λa o vs t h1 h2 h3 h4=>?_
 refine GR a o vs t h1 (Iw hP h2 (λfs h z=>?_)) h3 h4
 rw[h3] at h
 cases h
 rw[z] at h4
 exact B6 h4
theorem Av.hide{s:jG}(hP:PQ s){i:Nat}{a:jN}{dv kdv:jD}(F:Av s.heap i a dv kdv):Av (A6 s PT).heap i a dv kdv:=by
 refine E7 F.ex λo pm cd doc h1 h2 h3=>?_
 exact⟨o,pm,cd,doc,Iw hP h1 (λfs h=>by rw[h2] at h;exact jU h),h2,KE hP h3⟩
theorem Fh.hide{s:jG}(hP:PQ s){dv:jD}{items:Array jD}(F:Fh s.heap dv items):Fh (A6 s PT).heap dv items:=by
 refine Ec F λa o n e h1 h2=>?_
 exact Pw a o n e (Iw hP h1 (λfs h=>by rw[h2] at h;exact jU h)) h2
theorem Br.hide{s:jG}(hP:PQ s){mg mb:jZ->Option jD}(T:Br mg mb s.heap):Br mg mb (A6 s PT).heap:=
 ⟨⟨N8 hP T.gl.g,N8 hP T.gl.b,T.gl.bt,Af T.gl.nolimit λmc n e=>(Ac mc (N8 hP n) e)⟩,T.none⟩
noncomputable def Jq.hide {w:jY} {mg mb:jZ->Option jD} {s:jG} (hP:PQ s) (F:Jq w mg mb s.heap):Jq w mg mb (A6 s PT).heap:=
 {F with
  T:=F.T.hide hP
  f41:=F.f41.hide hP
  f42:=F.f42.hide hP
  f43:=F.f43.hide hP
  f44:=F.f44.hide hP
  f45:=F.f45.hide hP
  f46:=F.f46.hide hP
  f47:=F.f47.hide hP
  f48:=F.f48.hide hP
  f49:=F.f49.hide hP
  f18:=F.f18.hide hP
  f39:=F.f39.hide hP
  rtb:=Bo (L:=PT) (λb hb o e=>(Bj hb).trans e) (by intro o e zz1;refine Cg zz1 λ_ zr0=>B1 zr0 λvs n hd=>?_;(replace e:=CQ hP e;subst e);cases hd) F.rtb (λh=>nomatch h)
  f7:=F.f7.hide hP
  f8:=F.f8.hide hP
  f10:=F.f10.hide hP
  f12:=F.f12.hide hP
  e12:=F.e12.hide hP
  f15:=F.f15.hide hP
  e15:=F.e15.hide hP
  f16:=F.f16.hide hP}
theorem ZY{w:jY}{s:jG}(K:Bn w s.heap):PQ s:=K.get 386 (by kernel_rfl)
theorem YF{w:jY}{s:jG}{mg mb:jZ->Option jD}(K:Bn w s.heap)(G:Gl mg mb s.heap):Iy mg (A6 s PT).heap 389 where
 fn:=⟨Ie w.params,(kX (jB "law_rt0115_01") 737),jF,(Bj (by decide)).trans (K.get 389 (by kernel_rfl)),by kernel_rfl,KE (ZY K) ⟨388,Du w.params,_,824,rfl,K.get 388 (by kernel_rfl),by unfold Du;rfl,by kernel_rfl⟩⟩
 hd:=⟨Du w.params,_,"/claim/cut.py",827,3,0,true,181,0,(Bj (by decide)).trans (K.get 388 (by kernel_rfl)),by kernel_rfl,by unfold Du;rfl,by kernel_rfl,by kernel_rfl,by kernel_rfl,by kernel_rfl,by kernel_rfl,by kernel_rfl,by decide⟩
 bi:=⟨4,{cls:=.type "module",dict:=some 0},K.mg G.g _ (by kernel_rfl),by decide,by decide,by decide,(Bj (by decide)).trans (K.get 4 (by kernel_rfl)),by kernel_rfl,by kernel_rfl,by kernel_rfl⟩
 noP:=A3
theorem TM{x y:jZ}(h:x.cps.toList=y.cps.toList):x=y:=by
 obtain⟨a⟩:=x;obtain⟨b⟩:=y
 exact congrArg Str.mk (ng.mp h)
theorem PD(l:List Nat):(DA (l.map λc=>⟨#[c]⟩)).cps.toList=l:=by
 unfold DA
 show((l.map λc=>(⟨#[c]⟩:jZ)).flatMap (·.cps.toList)).toArray.toList=l
 induction l with
 | nil=>rfl
 | cons c l ih=>simp only[kO,lu];simpa using ih
theorem Ei(b:Array UInt8):(Gs b).cps.toList=b.toList.map (·.toNat):=by
 unfold Gs
 rw[D8]
 have:=PD (b.toList.map (·.toNat))
 rw[mw] at this
 exact this
theorem Vk{row:List Int}{N w size k:Nat}(hN:FH row=N)(hw:B3 row size=w):Fv row size (k:Nat)=((N*2^w/2^(size*k)%2^size:Nat):Int):=by
 unfold Fv
 rw[hN,hw]
 have e1:((N:Int)*2^((w:Int)).toNat)=((N*2^w:Nat):Int):=by push_cast;simp
 have e2:((2:Int)^((size:Int)*(k:Int)).toNat)=((2^(size*k):Nat):Int):=by
  rw[show((size:Int)*(k:Int)).toNat=size*k by rw[<-xF,ku]]
  push_cast;rfl
 have e3:((2:Int)^((size:Int)).toNat)=((2^size:Nat):Int):=by rw[ku];push_cast;rfl
 rw[e1,e2,e3,kF _ (oH _),kT _ (oH _)]
 push_cast;rfl
theorem KJ{row:List Int}{N w size c p:Nat}(signs:jZ)(hN:FH row=N)(hw:B3 row size=w)(hc:AC row size=c)(hp:(-(c:Int)).fmod 4=p):(Ff row size signs).cps.toList=(kf c).map (λi=>signs.cps.getD (N*2^w/2^(size*(c-1-i))%2^size) 0)++lg p 61:=by
 have e1:Cv row size signs=((kf c).map λi=>signs.cps.getD (N*2^w/2^(size*(c-1-i))%2^size) 0).map λx=>⟨#[x]⟩:=by
  unfold Cv
  rw[hc,ku,mw]
  refine l3 λi hi=>?_
  have hi:=mv.mp hi
  have:((c:Int)-1-(i:Nat))=((c-1-i:Nat):Int):=by rwa[hi]
  rw[this,Vk hN hw,ku]
  rfl
 have e2:∀n:Nat,(lg n (jB "=").cps).foldl (·++·) #[]=(lg n 61).toArray:=by
  have:∀(n:Nat) (a:Array Nat),(lg n (jB "=").cps).foldl (·++·) a=a++(lg n 61).toArray:=by
   intro n
   induction n with
   | zero=>intro a;simp
   | succ n ih=>
    intro a
    rw[wb,mY,ih]
    rw[wb]
    apply ng.mp
    have:(jB "=").cps=#[61]:=by decide
    rw[this]
    simp
  intro n
  rw[this];simp
 unfold Ff
 rw[D8,e1,hc,hp,ku,e2]
 show((DA _).cps++(lg p 61).toArray).toList=_
 rw[pe,PD]
theorem I4{α β:Type}{f g:α->List β}:∀{l:List α},(∀x∈l,f x=g x)->l.flatMap f=l.flatMap g
 | [],_=>rfl
 | x::l,h=>by rw[lu,lu,h x (.head _),I4 λy hy=>h y (.tail _ hy)]
noncomputable def F3 (xs:List Nat):List Int:=xs.map λx:Nat=>(x:Int)
theorem TU{row:List Int}(ok:Ca row):∃xs:List Nat,row=F3 xs/\xs.length<=3/\∀x∈xs,x<65536:=by
 refine Ba (row.map (·.toNat)) ?_ (by rw[jK];exact ok.len) λx hx=>?_
 ·unfold F3
  rw[mw]
  conv=>lhs;rw[<-List.map_id row]
  refine l3 λm hm=>?_
  have:=ok.el m hm
  show m=((m.toNat:Nat):Int);rwa[this]
 ·obtain⟨m,hm,rfl⟩:=kq.mp hx
  have:=ok.el m hm
  rwa[this]
noncomputable def BY (xs:List Nat):List Nat:=xs.flatMap λx=>[x/256,x%256]
theorem TZ(xs:List Nat):AD (F3 xs)=(BY xs).map λx:Nat=>(x:Int):=by
 induction xs with
 | nil=>rfl
 | cons x xs ih=>
  show AD ((x:Int)::F3 xs)=(([x/256,x%256]:List Nat)++BY xs).map _
  unfold AD at ih ⊢
  rw[lu,ih,kB]
  rw[kF _ (by decide),kT _ (by decide)]
  rfl
theorem IR{xs:List Nat}(h:∀x∈xs,x<65536):∀o∈BY xs,o<256:=by
 intro o ho
 refine Af (lw.mp ho) λx hx ho=>?_
 have:=h x hx
 simp at ho
 rwa[this,ho]
theorem Ht{ns:List Nat}(h:∀o∈ns,o<256):(byteArr (ns.map λx:Nat=>(x:Int))).toList.map (·.toNat)=ns:=by
 unfold byteArr
 simp only[mw]
 conv=>rhs;rw[<-List.map_id ns]
 refine l3 λo ho=>?_
 have:=h o ho
 show((o:Int).toNat.toUInt8).toNat=o
 rw[ku]
 simp[Nat.toUInt8,UInt8.toNat,UInt8.ofNat,p7 this]
theorem eG:∀d:Fin 16,(qQ (mz d.val).toUInt8).toNat=TR.cps.getD d.val 0:=by decide +kernel
theorem Rq{ns:List Nat}(h:∀o∈ns,o<256):(H4 (byteArr (ns.map λx:Nat=>(x:Int)))).toList.map (·.toNat)=ns.flatMap λo=>[TR.cps.getD (o/16) 0,TR.cps.getD (o%16) 0]:=by
 unfold H4
 simp only[pR,mw]
 have hb:=Ht h
 generalize (byteArr (ns.map λx:Nat=>(x:Int))).toList=b at *
 subst hb
 unfold Cs
 rw[List.flatMap_map,wT]
 refine I4 λc hc=>?_
 have hc2:=h c.toNat (kq.mpr (Ac c hc rfl))
 have h1:=eG ⟨c.toNat/16,by rwa[hc2]⟩
 have h2:=eG ⟨c.toNat%16,by omega⟩
 simp only[kO,qw,Function.comp]
 rw[<-h1,<-h2]
noncomputable def Yp (xs:List Nat):Nat:=xs.foldl (λn m=>n*65536+m) 0
theorem T0(xs:List Nat):FH (F3 xs)=(Yp xs:Nat):=by
 have:∀(xs:List Nat) (n:Nat),(F3 xs).foldl (λ(n:Int) m=>n*65536+m) (n:Int)=((xs.foldl (λn m=>n*65536+m) n:Nat):Int):=by
  intro xs
  induction xs with
  | nil=>intro n;rfl
  | cons x xs ih=>
   intro n
   have e:(n:Int)*65536+(x:Int)=((n*65536+x:Nat):Int):=by rwa[]
   show(F3 xs).foldl _ ((n:Int)*65536+(x:Int))=_
   rw[e];exact ih _
 exact this xs 0
theorem OV(xs:List Nat):(F3 xs).length=xs.length:=jK _
theorem Pi(b:Nat)(hb:0<b):∀(ys:List Nat) (n:Nat),(∀y∈ys,y<b)->∃r,r<b^ys.length/\ys.foldl (λn d=>n*b+d) n=r+n*b^ys.length
 | [],n,_=>⟨0,v7,by simp⟩
 | y::ys,n,h=>by
  refine Af (Pi b hb ys (n*b+y) λz hz=>h z (.tail _ hz)) λr h1 h2=>?_
  refine Ac (r+y*b^ys.length) ?_ ?_
  ·rw[j9,Nat.pow_succ,pK (b^ys.length)]
   have:=v8 (b^ys.length) (h y (.head _))
   rw[tE] at this
   exact mR (o9 r _▸sM h1 _) this
  ·rw[mY,h2,j9,Nat.pow_succ,pK (b^ys.length),wa,p9,Nat.add_assoc,o9 (n*_)]
theorem Py(b:Nat)(hb:0<b):∀(ds:List Nat) (n i:Nat) (hi:i<ds.length),(∀y∈ds,y<b)->ds.foldl (λn d=>n*b+d) n/b^(ds.length-1-i)%b=ds[i]
 | d::r,n,0,_,h=>by
  refine Af (Pi b hb r (n*b+d) λz hz=>h z (.tail _ hz)) λx h1 h2=>?_
  show(r.foldl _ (n*b+d))/b^r.length%b=d
  rw[h2,Nat.add_mul_div_right _ _ (Nat.pow_pos hb),uf h1,tD,pK n b,uB,p7 (h d (.head _))]
 | d::r,n,i+1,hi,h=>by
  have:=Py b hb r (n*b+d) i (vH hi) λz hz=>h z (.tail _ hz)
  rw[List.getElem_cons_succ,<-this,mY,j9,Nat.succ_sub_one,o9 i 1,Nat.sub_sub]
theorem H6(k:Nat){ds:List Nat}{c N:Nat}(hc:ds.length=c)(hN:ds.foldl (λn d=>n*2^k+d) 0=N)(h:∀d∈ds,d<2^k):ds=(kf c).map λi=>N/2^(k*(c-1-i))%2^k:=by
 subst hc hN
 refine wU (by rw[jK,lI]) λi h1 h2=>?_
 rw[List.getElem_map,po,Nat.pow_mul]
 exact(Py (2^k) (Nat.pow_pos (by decide)) ds 0 i h1 h).symm
theorem Ua:∀xs:List Nat,((BY xs).flatMap λo=>[o/16,o%16]).length=4*xs.length
 | []=>rfl
 | x::xs=>by
  have:=Ua xs
  unfold BY at this ⊢
  rw[lu,mG,j7,this,j9,Nat.mul_succ,o9]
  rfl
theorem T9:∀(xs:List Nat) (n:Nat),((BY xs).flatMap λo=>[o/16,o%16]).foldl (λn d=>n*2^4+d) n=xs.foldl (λn m=>n*65536+m) n
 | [],_=>rfl
 | x::xs,n=>by
  have e:(((n*16+x/256/16)*16+x/256%16)*16+x%256/16)*16+x%256%16=n*65536+x:=by rwa[]
  have:=T9 xs (n*65536+x)
  unfold BY at this ⊢
  rw[lu,mG,ms,mY,<-this]
  congr 1
theorem Pl{row:List Int}(ok:Ca row):Gs (H4 (byteArr (AD row)))=Ff row 4 TR:=by
 refine Bu (TU ok) λxs zz1 hl hx=>?_;obtain rfl:=zz1
 refine TM ?_
 rw[Ei,TZ,Rq (IR hx)]
 have hw:B3 (F3 xs) 4=((0:Nat):Int):=by
  unfold B3;rw[OV,kT _ (by decide)];rwa[]
 have hc:AC (F3 xs) 4=((4*xs.length:Nat):Int):=by
  unfold AC;rw[hw,OV,kF _ (by decide)];rwa[]
 refine Eq.trans ?_ (KJ (size:=4) (p:=0) TR (T0 xs) hw hc (by rw[kT _ (by decide)];rwa[])).symm
 have dl:(BY xs).flatMap (λo=>[o/16,o%16])=(kf (4*xs.length)).map λi=>Yp xs*2^0/2^(4*(4*xs.length-1-i))%2^4:=by
  rw[Nat.pow_zero,Nat.mul_one]
  refine H6 4 (Ua xs) (T9 xs 0) λd hd=>?_
  refine Af (lw.mp hd) λo ho hd=>?_
  have:=IR hx o ho
  rcases jI.mp hd with rfl|hd
  ·exact qf this
  ·rw[jJ.mp hd];exact pv _ (by decide)
 have e1:(BY xs).flatMap (λo=>[TR.cps.getD (o/16) 0,TR.cps.getD (o%16) 0])=((BY xs).flatMap (λo=>[o/16,o%16])).map λd=>TR.cps.getD d 0:=by
  rw[wT];rfl
 rw[e1,dl,mw]
 show _=_++[]
 rw[kH]
 rfl
noncomputable def dg (n:Nat):Int:=OJ (n:Int)
noncomputable def BZ (lc b:Nat):Nat:=(lc*256+b)%65536
theorem Oh(lc b:Nat)(hb:b<256):ke (oz ((lc:Int)*2^(8:Int).toNat) (b:Int)) 65535=(BZ lc b:Nat):=by
 have e1:(lc:Int)*2^(8:Int).toNat=((lc*256:Nat):Int):=by
  show(lc:Int)*256=_
  omega
 have e2:lc*256|||b=lc*256+b:=by
  have:=Nat.shiftLeft_add_eq_or_of_lt (i:=8) (b:=b) (by omega) lc
  rw[xj] at this
  exact this.symm
 rw[e1,KI,e2,bitAnd_m16]
 unfold BZ
 omega
theorem Os(lc k:Nat):OJ (ke ((lc:Int).fdiv ((2:Int)^k)) 63)=dg (lc/2^k%64):=by
 rw[bitAnd_m6,kF _ (oX (by decide))]
 unfold dg
 congr 1
theorem IM(lc b:Nat)(out:List Int)(hb:b<256):AZ ((lc:Int),0,out) (b:Int)=(((BZ lc b:Nat):Int),2,out++[dg (BZ lc b/4%64)]):=by
 unfold AZ
 dsimp only
 rw[Oh lc b hb]
 rw[show CV ((BZ lc b:Nat):Int) 3 (0+8) out=(2,out++[OJ (ke (((BZ lc b:Nat):Int).fdiv ((2:Int)^2)) 63)]) from rfl,Os]
theorem N6(lc b:Nat)(out:List Int)(hb:b<256):AZ ((lc:Int),2,out) (b:Int)=(((BZ lc b:Nat):Int),4,out++[dg (BZ lc b/16%64)]):=by
 unfold AZ
 dsimp only
 rw[Oh lc b hb]
 rw[show CV ((BZ lc b:Nat):Int) 3 (2+8) out=(4,out++[OJ (ke (((BZ lc b:Nat):Int).fdiv ((2:Int)^4)) 63)]) from rfl,Os]
theorem Q2(lc b:Nat)(out:List Int)(hb:b<256):AZ ((lc:Int),4,out) (b:Int)=(((BZ lc b:Nat):Int),0,out++[dg (BZ lc b/64%64),dg (BZ lc b/1%64)]):=by
 unfold AZ
 dsimp only
 rw[Oh lc b hb]
 rw[show CV ((BZ lc b:Nat):Int) 3 (4+8) out=(0,(out++[OJ (ke (((BZ lc b:Nat):Int).fdiv ((2:Int)^6)) 63)])++[OJ (ke (((BZ lc b:Nat):Int).fdiv ((2:Int)^0)) 63)]) from rfl,Os,Os,l8]
 rfl
theorem ZX(lc:Nat)(out:List Int):BR ((lc:Int),2,out)=[dg (lc%4*16),61,61]:=by
 unfold BR
 rw[if_pos rfl]
 dsimp only
 rw[bitAnd_m2]
 have:(lc:Int)%4*2^(4:Int).toNat=((lc%4*16:Nat):Int):=by show(lc:Int)%4*16=_;omega
 rw[this];rfl
theorem ZW(lc:Nat)(out:List Int):BR ((lc:Int),4,out)=[dg (lc%16*4),61]:=by
 unfold BR
 rw[if_neg (by show ¬(4:Int)=2;decide),if_pos rfl]
 dsimp only
 rw[bitAnd_m4]
 have:(lc:Int)%16*2^(2:Int).toNat=((lc%16*4:Nat):Int):=by show(lc:Int)%16*4=_;omega
 rw[this];rfl
theorem Ui:∀d:Fin 64,dg d.val=((X9.cps.getD d.val 0:Nat):Int)/\X9.cps.getD d.val 0<256:=by decide +kernel
noncomputable def Fy:List Nat->List Nat×Nat
 | [o0,o1]=>([BZ 0 o0/4%64,BZ (BZ 0 o0) o1/16%64,BZ (BZ 0 o0) o1%16*4],1)
 | [o0,o1,o2,o3]=>([BZ 0 o0/4%64,BZ (BZ 0 o0) o1/16%64,BZ (BZ (BZ 0 o0) o1) o2/64%64,BZ (BZ (BZ 0 o0) o1) o2/1%64,BZ (BZ (BZ (BZ 0 o0) o1) o2) o3/4%64,BZ (BZ (BZ (BZ 0 o0) o1) o2) o3%4*16],2)
 | [o0,o1,o2,o3,o4,o5]=>([BZ 0 o0/4%64,BZ (BZ 0 o0) o1/16%64,BZ (BZ (BZ 0 o0) o1) o2/64%64,BZ (BZ (BZ 0 o0) o1) o2/1%64,BZ (BZ (BZ (BZ 0 o0) o1) o2) o3/4%64,BZ (BZ (BZ (BZ (BZ 0 o0) o1) o2) o3) o4/16%64,BZ (BZ (BZ (BZ (BZ (BZ 0 o0) o1) o2) o3) o4) o5/64%64,BZ (BZ (BZ (BZ (BZ (BZ 0 o0) o1) o2) o3) o4) o5/1%64],0)
 | _=>([],0)
theorem Xg{xs:List Nat}(hl:xs.length<=3)(hx:∀x∈xs,x<65536):EG ((BY xs).map λx:Nat=>(x:Int))=((Fy (BY xs)).1.map dg)++lg (Fy (BY xs)).2 61:=by
 have ho:=IR hx
 match xs,hl with
 | [],_=>rfl
 | [a],_=>
  have h1:=ho (a/256) (by simp[BY])
  have h2:=ho (a%256) (by simp[BY])
  show(AZ (AZ (((0:Nat):Int),0,[]) (((a/256:Nat)):Int)) (((a%256:Nat)):Int)).2.2++BR (AZ (AZ (((0:Nat):Int),0,[]) (((a/256:Nat)):Int)) (((a%256:Nat)):Int))=_
  rw[IM _ _ _ h1,N6 _ _ _ h2,ZW]
  rfl
 | [a,b],_=>
  have h1:=ho (a/256) (by simp[BY])
  have h2:=ho (a%256) (by simp[BY])
  have h3:=ho (b/256) (by simp[BY])
  have h4:=ho (b%256) (by simp[BY])
  show(AZ (AZ (AZ (AZ (((0:Nat):Int),0,[]) (((a/256:Nat)):Int)) (((a%256:Nat)):Int)) (((b/256:Nat)):Int)) (((b%256:Nat)):Int)).2.2++BR (AZ (AZ (AZ (AZ (((0:Nat):Int),0,[]) (((a/256:Nat)):Int)) (((a%256:Nat)):Int)) (((b/256:Nat)):Int)) (((b%256:Nat)):Int))=_
  rw[IM _ _ _ h1,N6 _ _ _ h2,Q2 _ _ _ h3,IM _ _ _ h4,ZX]
  rfl
 | [a,b,c],_=>
  have h1:=ho (a/256) (by simp[BY])
  have h2:=ho (a%256) (by simp[BY])
  have h3:=ho (b/256) (by simp[BY])
  have h4:=ho (b%256) (by simp[BY])
  have h5:=ho (c/256) (by simp[BY])
  have h6:=ho (c%256) (by simp[BY])
  show(AZ (AZ (AZ (AZ (AZ (AZ (((0:Nat):Int),0,[]) (((a/256:Nat)):Int)) (((a%256:Nat)):Int)) (((b/256:Nat)):Int)) (((b%256:Nat)):Int)) (((c/256:Nat)):Int)) (((c%256:Nat)):Int)).2.2++BR (AZ (AZ (AZ (AZ (AZ (AZ (((0:Nat):Int),0,[]) (((a/256:Nat)):Int)) (((a%256:Nat)):Int)) (((b/256:Nat)):Int)) (((b%256:Nat)):Int)) (((c/256:Nat)):Int)) (((c%256:Nat)):Int))=_
  rw[IM _ _ _ h1,N6 _ _ _ h2,Q2 _ _ _ h3,IM _ _ _ h4,N6 _ _ _ h5,Q2 _ _ _ h6]
  rfl
theorem TG{row:List Int}{n:Nat}(h:row.length=n):B3 row 6=-16*(n:Int)%6:=by unfold B3;rw[h,kT _ (by decide)]
theorem Rw{row:List Int}{n:Nat}(h:row.length=n):AC row 6=(16*(n:Int)+-16*(n:Int)%6)/6:=by unfold AC;rw[TG h,h,kF _ (by decide)]
theorem nx(lc q m k:Nat)(h:m*k=256):BZ lc q%m=q%m:=by
 unfold BZ
 rw[qR _ ⟨k*256,by rw[<-p9,h]⟩,<-h,pK lc,p9,uB]
theorem iV(x k j:Nat){q:Nat}(hq:q<256)(h:256*k*j=65536):BZ x q%(256*k)=256*(x%k)+q:=by
 unfold BZ
 rw[qR _ ⟨j,h.symm⟩,Nat.mod_mul,pK x,uB,uC (by decide),uf hq,p7 hq,tG,o9]
theorem q4(lc:Nat){b:Nat}(hb:b<256):BZ lc b/4%64=b/4:=by
 rw[<-nt,nx lc b (4*64) 1 rfl,p7 hb]
theorem fH(lc p:Nat){q:Nat}(hq:q<256):BZ (BZ lc p) q/16%64=p%4*16+q/16:=by
 rw[<-nt,show 16*64=256*4 from rfl,iV _ 4 64 hq rfl,nx lc p 4 64 rfl,show 256=16*16 from rfl,p9,uC (by decide),pK 16]
theorem gH(lc p:Nat){q:Nat}(hq:q<256):BZ (BZ lc p) q/64%64=p%16*4+q/64:=by
 rw[<-nt,show 64*64=256*16 from rfl,iV _ 16 16 hq rfl,nx lc p 16 16 rfl,show 256=64*4 from rfl,p9,uC (by decide),pK 4]
theorem q1(lc q:Nat):BZ lc q/1%64=q%64:=by rw[Nat.div_one,nx lc q 64 4 rfl]
theorem t4(lc q:Nat):BZ lc q%16*4=q%16*4:=by rw[nx lc q 16 16 rfl]
theorem jh(lc q:Nat):BZ lc q%4*16=q%4*16:=by rw[nx lc q 4 64 rfl]
theorem Ri(n p q r:Nat):(((n*2^6+p/4)*2^6+(p%4*16+q/16))*2^6+(q%16*4+r/64))*2^6+r%64=((n*256+p)*256+q)*256+r:=by
 have a:=pn p 4
 have b:=pn q 16
 have c:=pn r 64
 generalize p/4=x at *
 generalize p%4=x' at *
 generalize q/16=y at *
 generalize q%16=y' at *
 generalize r/64=z at *
 generalize r%64=z' at *
 rw[<-a,<-b,<-c]
 grind
theorem iw(n p q:Nat):((n*2^6+p/4)*2^6+(p%4*16+q/16))*2^6+q%16*4=(n*65536+(p*256+q))*2^2:=by
 have a:=pn p 4
 have b:=pn q 16
 generalize p/4=x at *
 generalize p%4=x' at *
 generalize q/16=y at *
 generalize q%16=y' at *
 rw[<-a,<-b]
 grind
theorem iz(n p q:Nat):((n*256+p)*2^6+q/4)*2^6+q%4*16=(n*65536+(p*256+q))*2^4:=by
 have b:=pn q 4
 generalize q/4=y at *
 generalize q%4=y' at *
 rw[<-b]
 grind
theorem It(n a:Nat):(n*256+a/256)*256+a%256=n*65536+a:=by
 rw[wa,p9,Nat.add_assoc,ug]
theorem l4{b:Nat}(hb:b<256):b/4<64:=qf hb
theorem iY{x y m n k:Nat}(hx:x<m)(hy:y<n)(h:m*n=k):x*n+y<k:=by
 rw[<-h]
 exact mR (sM hy _) (tE x n▸v8 n hx)
theorem eF(p:Nat){q:Nat}(hq:q<256):p%4*16+q/16<64:=iY (pv p (by decide)) (qf hq) rfl
theorem fL(p:Nat){q:Nat}(hq:q<256):p%16*4+q/64<64:=iY (pv p (by decide)) (qf hq) rfl
theorem gO(p:Nat):p%16*4<64:=fL p (q:=0) (by decide)
theorem gQ(p:Nat):p%4*16<64:=eF p (q:=0) (by decide)
theorem KD{xs:List Nat}(hl:xs.length<=3)(hx:∀x∈xs,x<65536):(∀d∈(Fy (BY xs)).1,d<2^6)/\∃w c:Nat,B3 (F3 xs) 6=w/\AC (F3 xs) 6=c/\(-(c:Int)).fmod 4=((Fy (BY xs)).2:Nat)/\
 (Fy (BY xs)).1.length=c/\(Fy (BY xs)).1.foldl (λn d=>n*2^6+d) 0=Yp xs*2^w:=by
 have ho:=IR hx
 match xs,hl with
 | [],_=>exact⟨λd h=>(nomatch h),0,0,rfl,rfl,rfl,rfl,rfl⟩
 | [a],_=>
  have h1:=ho (a/256) (.head _)
  have h2:=ho (a%256) (.tail _ (.head _))
  have e:(Fy (BY [a])).1=[a/256/4,a/256%4*16+a%256/16,a%256%16*4]:=by
   show [_,_,_]=_
   rw[q4 _ h1,fH _ _ h2,t4]
  rw[e]
  refine⟨?_,2,3,TG (n:=1) rfl,Rw (n:=1) rfl,rfl,rfl,?_⟩
  ·simp only[sh]
   exact⟨l4 h1,eF _ h2,gO _,λ_ h=>nomatch h⟩
  ·show((0*2^6+_)*2^6+_)*2^6+_=(0*65536+a)*2^2
   rw[iw,ug]
 | [a,b],_=>
  have h1:=ho (a/256) (.head _)
  have h2:=ho (a%256) (.tail _ (.head _))
  have h3:=ho (b/256) (.tail _ (.tail _ (.head _)))
  have h4:=ho (b%256) (.tail _ (.tail _ (.tail _ (.head _))))
  have e:(Fy (BY [a,b])).1=[a/256/4,a/256%4*16+a%256/16,a%256%16*4+b/256/64,b/256%64,b%256/4,b%256%4*16]:=by
   show [_,_,_,_,_,_]=_
   rw[q4 _ h1,fH _ _ h2,gH _ _ h3,q1,q4 _ h4,jh]
  rw[e]
  refine⟨?_,4,6,TG (n:=2) rfl,Rw (n:=2) rfl,rfl,rfl,?_⟩
  ·simp only[sh]
   exact⟨l4 h1,eF _ h2,fL _ h3,pv _ (by decide),l4 h4,gQ _,λ_ h=>nomatch h⟩
  ·show(((((0*2^6+_)*2^6+_)*2^6+_)*2^6+_)*2^6+_)*2^6+_=((0*65536+a)*65536+b)*2^4
   rw[Ri,It,iz,ug]
 | [a,b,c],_=>
  have h1:=ho (a/256) (.head _)
  have h2:=ho (a%256) (.tail _ (.head _))
  have h3:=ho (b/256) (.tail _ (.tail _ (.head _)))
  have h4:=ho (b%256) (.tail _ (.tail _ (.tail _ (.head _))))
  have h5:=ho (c/256) (.tail _ (.tail _ (.tail _ (.tail _ (.head _)))))
  have h6:=ho (c%256) (.tail _ (.tail _ (.tail _ (.tail _ (.tail _ (.head _))))))
  have e:(Fy (BY [a,b,c])).1=[a/256/4,a/256%4*16+a%256/16,a%256%16*4+b/256/64,b/256%64,b%256/4,b%256%4*16+c/256/16,c/256%16*4+c%256/64,c%256%64]:=by
   show [_,_,_,_,_,_,_,_]=_
   rw[q4 _ h1,fH _ _ h2,gH _ _ h3,q1,q4 _ h4,fH _ _ h5,gH _ _ h6,q1]
  rw[e]
  refine⟨?_,0,8,TG (n:=3) rfl,Rw (n:=3) rfl,rfl,rfl,?_⟩
  ·simp only[sh]
   exact⟨l4 h1,eF _ h2,fL _ h3,pv _ (by decide),l4 h4,eF _ h5,fL _ h6,pv _ (by decide),λ_ h=>nomatch h⟩
  ·show(((((((0*2^6+_)*2^6+_)*2^6+_)*2^6+_)*2^6+_)*2^6+_)*2^6+_)*2^6+_=(((0*65536+a)*65536+b)*65536+c)*2^0
   rw[Ri,Ri,It,It,It,Nat.pow_zero,Nat.mul_one]
theorem ZI{xs:List Nat}(hl:xs.length<=3)(hx:∀x∈xs,x<65536):∀d∈(Fy (BY xs)).1,d<64:=(KD hl hx).1
theorem eZ{xs:List Nat}(hl:xs.length<=3)(hx:∀x∈xs,x<65536):∃w c:Nat,B3 (F3 xs) 6=w/\AC (F3 xs) 6=c/\(-(c:Int)).fmod 4=((Fy (BY xs)).2:Nat)/\
 (Fy (BY xs)).1=(kf c).map λi=>Yp xs*2^w/2^(6*(c-1-i))%2^6:=by
 refine Cg (KD hl hx) λh zr0=>C9 zr0 λw c e1 e2 e3 e4 e5=>?_
 exact C6 w c e1 e2 e3 (H6 6 e4 e5 h)
theorem Km{row:List Int}(ok:Ca row):Gs (byteArr (EG (B9 (byteArr (AD row)))))=Ff row 6 X9:=by
 refine Bu (TU ok) λxs zz1 hl hx=>?_;obtain rfl:=zz1
 refine TM ?_
 refine E8 (eZ hl hx) λw c hw hc hp hd=>?_
 have hb:B9 (byteArr (AD (F3 xs)))=(BY xs).map λx:Nat=>(x:Int):=by
  unfold B9
  rw[TZ]
  have:=congrArg (qM λx:Nat=>(x:Int)) (Ht (IR hx))
  rw[mw] at this
  exact this
 rw[Ei,hb,Xg hl hx]
 have e:(Fy (BY xs)).1.map dg++lg (Fy (BY xs)).2 (61:Int)=(((Fy (BY xs)).1.map λd=>X9.cps.getD d 0)++lg (Fy (BY xs)).2 61).map λx:Nat=>(x:Int):=by
  rw[kB,mw,List.map_replicate]
  congr 1
  refine l3 λd hd=>?_
  exact(Ui ⟨d,ZI hl hx d hd⟩).1
 rw[e,Ht]
 ·refine Eq.trans ?_ (KJ (size:=6) X9 (T0 xs) hw hc hp).symm
  rw[hd,mw]
  rfl
 ·intro o ho
  rcases jW.mp ho with ho|ho
  ·obtain⟨d,hd,rfl⟩:=kq.mp ho
   exact(Ui ⟨d,ZI hl hx d hd⟩).2
  ·rw[(List.mem_replicate.mp ho).2];decide
theorem OM{row:List Int}(ok:Ca row):ER row=AA row:=by
 unfold ER AA
 rw[Pl ok,Km ok,V0 row ok]
noncomputable def DT:Nat->jQ->Bool
 | _,.none=>true
 | _,.bool _=>true
 | _,.int _=>true
 | _,.str x=>lX x
 | n+1,.list xs=>xs.all (DT n)
 | n+1,.tuple xs=>xs.all (DT n)
 | _,_=>false
theorem YS:∀(n:Nat) (d:jQ),DT n d=true->d.canLay0=true/\d.depth<=n:=by
 have all:∀(n:Nat),(∀d,DT n d=true->d.canLay0=true/\d.depth<=n)->∀xs:List jQ,xs.all (DT n)=true->qO xs=true/\wA xs<=n:=by
  intro n ih xs
  induction xs with
  | nil=>intro _;exact⟨rfl,kh _⟩
  | cons x xs ihx=>
   intro h
   rw[lE,kL] at h
   obtain⟨h1,h2⟩:=ih x h.1
   obtain⟨h3,h4⟩:=ihx h.2
   exact⟨by simp[qO,h1,h3],by simp only[wA];lia⟩
 intro n
 induction n with
 | zero=>
  intro d h
  cases d<;>first|exact⟨rfl,jP _⟩|exact⟨h,jP _⟩|exact(ll h).elim
 | succ n ih=>
  intro d h
  cases d with
  | list xs=>
   obtain⟨h1,h2⟩:=all n ih xs h
   exact⟨h1,by simp only[xz];rwa[h2]⟩
  | tuple xs=>
   obtain⟨h1,h2⟩:=all n ih xs h
   exact⟨h1,by simp only[xz];rwa[h2]⟩
  | dict _=>exact(ll h).elim
  | str x=>exact⟨h,kh _⟩
  | _=>exact⟨rfl,kh _⟩
theorem HY{n:Nat}{d:jQ}(hn:n<=64)(h:DT n d=true):pD d=true/\ui d d=true:=by
 obtain⟨h1,h2⟩:=YS n d h
 exact⟨by unfold pD;rw[h1,sO];exact decide_eq_true (by rwa[hn,h2]),SeqAt.eqv_refl d h1⟩
theorem Wo(c:AM)(h:lX c.1=true):DT 1 (Da c)=true:=by
 show([oP c.1,.int c.2.1,.int c.2.2.1,.int c.2.2.2.1,.int c.2.2.2.2].all (DT 0))=true
 show(lX c.1&&true)=true
 rw[h];rfl
theorem WR{e b:Nat×Nat}{c:AM}(h:c∈AH e b):lX c.1=true:=by
 unfold AH at h
 split at h
 ·cases h
 ·rw[jJ.mp h]
  show lX (BL e b)=true
  unfold BL
  split<;>split<;>decide +kernel
theorem OZ:∀(l:List A9) (e:Nat×Nat),∀c∈JZ e l,lX c.1=true
 | [],_=>λ_ h=>(nomatch h)
 | t::r,e=>λc hc=>by
  rcases jW.mp hc with hc|hc
  ·rcases jW.mp hc with hc|hc
   ·exact WR hc
   ·unfold B5 at hc
    split at hc
    ·cases hc
    ·rw[jJ.mp hc]
     exact(show lX (jB "equal")=true by decide +kernel)
  ·exact OZ r _ c hc
theorem Wr(l:List A9):DT 2 (.list ((E0 l).map Da))=true:=by
 show((E0 l).map Da).all (DT 1)=true
 rw[TY,kA]
 intro d hd
 obtain⟨c,hc,rfl⟩:=kq.mp hd
 exact Wo c (OZ l _ c hc)
theorem Jg(x y:jZ):(x++y).cps.toList=x.cps.toList++y.cps.toList:=by
 show(x.cps++y.cps).toList=_
 rw[pe]
theorem Vl:∀a b:Fin 10,(jB (toString ((a.val:Nat):Int))).cps.toList=(jB (toString ((b.val:Nat):Int))).cps.toList->a=b:=by decide +kernel
theorem Pa{st i j c c':Nat}(hst:st=4\/st=10):HT st i c=HT st j c'↔c=c'/\i%st=j%st:=by
 have hm:∀k:Nat,((k:Nat):Int).fmod (st:Nat)=((k%st:Nat):Int):=λk=>by rw[kT _ (oH _)];lia
 have hlt:∀k:Nat,k%st<10:=λk=>by rcases hst with rfl|rfl<;>rwa[]
 constructor
 ·intro h
  have h:=congrArg (λx:jZ=>x.cps.toList) h
  unfold HT at h
  rw[Jg,Jg,hm,hm] at h
  have h:c::(jB (toString ((i%st:Nat):Int))).cps.toList=c'::(jB (toString ((j%st:Nat):Int))).cps.toList:=h
  obtain⟨h1,h2⟩:=wn h
  have:=Vl ⟨i%st,hlt i⟩ ⟨j%st,hlt j⟩ h2
  exact⟨h1,congrArg Fin.val this⟩
 ·rintro⟨rfl,h⟩
  unfold HT
  rw[hm,hm,h]
theorem ah(l r:jZ){st:Nat}(hst:st=4\/st=10):RN (Bp l st) (Bp r st) l.cps.toList r.cps.toList st:=by
 refine⟨BE l st,BE r st,λi j=>?_⟩
 unfold Dt Bp
 rw[oW,oW]
 constructor
 ·intro zz1;refine Af zz1 λx h1 h2=>?_
  refine Af (j8.mp h1) λc hc e1=>?_
  refine Af (j8.mp h2) λc' hc' e2=>?_
  obtain⟨h3,h4⟩:=(Pa hst).mp (e1.trans e2.symm)
  exact⟨⟨c,hc,h3▸hc'⟩,h4⟩
 ·rintro⟨⟨c,h1,h2⟩,h3⟩
  exact⟨HT st i c,by rw[h1];rfl,by rw[h2];exact congrArg some ((Pa hst).mpr ⟨rfl,h3⟩).symm⟩
noncomputable def Gz (l r:jZ) (st:Nat):List AM:=E0 (Gg (Bp l st) (Bp r st))
theorem XS(l r:jZ){st:Nat}(hst:st=4\/st=10)(hl:l.length<1000)(hr:r.length<1000):XF l.length r.length (Dm l.cps.toList r.cps.toList st (l.length+1) 0 l.length 0 r.length) (Gz l r st):=by
 delta l r st at hst hl hr
 have e:=Oz (ah l r hst) hst (l.length+1) 0 l.length 0 r.length (jP _) (jP _) (kh _) (kh _)
 have row:=GV (Bp l st) (Bp r st)
 unfold bl at row
 rw[BE,BE,vG,e] at row
 have:=XR row hl hr
 unfold Gz Gg bl
 rw[BE,BE,vG,e]
 exact this
theorem DF{x:jZ}:lX x=true↔∀c∈x.cps.toList,c<0x110000:=by
 unfold lX
 rw[<-Array.all_toList,kA]
 exact⟨λh c hc=>of_decide_eq_true (h c hc),λh c hc=>decide_eq_true (h c hc)⟩
theorem IF(b:Array UInt8):lX (Gs b)=true:=by
 rw[DF,Ei]
 intro c hc
 obtain⟨u,_,rfl⟩:=kq.mp hc
 have:=u.toNat_lt
 rwa[this]
theorem OO(b:Array UInt8):(Gs b).length=b.size:=by
 show(Gs b).cps.size=b.size
 rw[<-kn,Ei,jK,kn]
theorem UG{ys:List jZ}(h:∀y∈ys,lX y=true):lX (DA ys)=true:=by
 rw[DF]
 intro c hc
 unfold DA at hc
 have hc:c∈ys.flatMap (·.cps.toList):=hc
 obtain⟨y,hy,hc⟩:=lw.mp hc
 exact DF.mp (h y hy) c hc
theorem Fj{x:jZ}(h:lX x=true)(i:Int):lX (F1 x i)=true:=by
 rw[DF]
 intro c hc
 unfold F1 at hc
 have hc:c∈[x.cps.getD i.toNat 0]:=hc
 rw[jJ.mp hc]
 by_cases hi:i.toNat<x.cps.size
 ·have:=DF.mp h (x.cps[i.toNat]) (by rw[<-Array.mem_def];exact wo hi)
  simpa[we,hi] using this
 ·simp[we,hi]
theorem OQ(m:Int):∀y∈Cp m,lX y=true:=by
 intro y hy
 have k:∀m k,∀y∈Cd m k,lX y=true:=λm k y hy=>by
  unfold Cd at hy
  simp only[jI,oa,or_false] at hy
  rcases hy with rfl|rfl|rfl
  ·exact Fj (by decide +kernel) _
  ·exact Fj (by decide +kernel) _
  ·refine Fj ?_ _
   split<;>decide +kernel
 unfold Cp at hy
 rcases jI.mp hy with rfl|hy
 ·exact Fj (by decide +kernel) _
 ·obtain⟨j,_,hy⟩:=lw.mp hy
  exact k m j y hy
theorem Ru{row:List Int}(ok:Ca row):∀x∈AA row,x.length<=30/\lX x=true:=by
 delta row at ok
 have ol:(byteArr (AD row)).size<=6:=by rw[DV,CL];have:=ok.len;rwa[this]
 intro x hx
 unfold AA at hx
 simp only[jI,oa,or_false] at hx
 rcases hx with rfl|rfl|rfl
 ·rw[<-Pl ok]
  refine⟨?_,IF _⟩
  rw[OO]
  unfold H4
  rw[kK,jK,kn,qH,kK,Ck,kn]
  rwa[ol]
 ·rw[<-Km ok]
  refine⟨?_,IF _⟩
  rw[OO,DV]
  have h1:=(G8 (B9 (byteArr (AD row)))).len
  have h2:(B9 (byteArr (AD row))).length=(byteArr (AD row)).size:=by simp[B9]
  unfold EG
  rw[j7]
  have h3:∀st,(BR st).length<=3:=λst=>by
   unfold BR
   split
   ·exact jP _
   ·split
    ·show 2<=3;decide
    ·show 0<=3;decide
  have:=h3 (DG (B9 (byteArr (AD row))))
  rwa[ol,h1,h2,this]
 ·rw[D8]
  constructor
  ·have:DA (AB row)=V1 (DA (AB row)).cps.toList:=by unfold V1;rw[p8]
   show(DA (AB row)).cps.size<=30
   unfold DA
   rw[kK,List.length_flatMap]
   have:(AB row).map (λx=>x.cps.toList.length)=(AB row).map λ_=>1:=l3 λx hx=>by
    unfold AB at hx
    obtain⟨m,_,hx⟩:=lw.mp hx
    unfold Cp at hx
    rcases jI.mp hx with rfl|hx
    ·rfl
    ·obtain⟨j,_,hx⟩:=lw.mp hx
     unfold Cd at hx
     simp only[jI,oa,or_false] at hx
     rcases hx with rfl|rfl|rfl<;>rfl
   rw[this,show((AB row).map λ_=>1)=lg (AB row).length 1 from rN ..,nc,Dc]
   have:=ok.len
   rwa[this]
  ·refine UG λy hy=>?_
   unfold AB at hy
   obtain⟨m,_,hy⟩:=lw.mp hy
   exact OQ m y hy
theorem Rt{L R:List Int}(oL:Ca L)(oR:Ca R):pD (.list [B7 (AA L),B7 (AA R)])=true/\ui (.list [B7 (AA L),B7 (AA R)]) (.list [B7 (AA L),B7 (AA R)])=true:=by
 refine HY (n:=2) (by decide) ?_
 have k:∀{row:List Int},Ca row->DT 1 (B7 (AA row))=true:=λ{row} ok=>by
  show((AA row).map oP).all (DT 0)=true
  rw[kA]
  intro d hd
  obtain⟨x,hx,rfl⟩:=kq.mp hd
  exact(Ru ok x hx).2
 show([B7 (AA L),B7 (AA R)].all (DT 1))=true
 simp[k oL,k oR]
noncomputable def DN (k:Nat):Nat:=if k=2 then 10 else 4
theorem TO{k:Nat}{st:Int}(h:([4,4,10]:List Int)[k]?=some st):st=(DN k:Nat)/\(DN k=4\/DN k=10):=by
 match k,h with
 | 0,h=>cases h;exact⟨rfl,.inl rfl⟩
 | 1,h=>cases h;exact⟨rfl,.inl rfl⟩
 | 2,h=>cases h;exact⟨rfl,.inr rfl⟩
theorem aW(pm cd doc v:jD):l6 (Az 50 pm cd doc .none .none) ⟨[v],[]⟩=pure [((jB "script"),v)]:=by rfl
theorem YA{w:jY}{A:kC}{s:jG}{mg mb:jZ->Option jD}{script:List Int}{v:jD}{Q:jD->jG->Prop}{E:jD->jG->Prop}(hs:script.length<=63)(K:Bn w s.heap)(G:Gl mg mb s.heap)(room:A0 A 100)(rv:VR [] s.heap (.py (Cr script)) v)
 (q:∀s',AI s s'->(∀b o,b≠PT->s.heap.get? b=some o->s'.heap.get? b=some o)->(∃ps,s'.heap.get? PT=some (qk ps))->Q (.bool true) s'):wpAny (model pw w) A (call (.ref 399) [v]) Q E s:=by
 delta w A s mg mb script v Q E at hs K G room rv q
 have hP:s.heap.get? PT=some (qk #[]):=ZY K
 refine E7 ((gS K).ex) λo pm cd doc h1 h2 h3=>?_
 obtain⟨okL,okR⟩:=Yc script
 have new0:s.heap.get? s.heap.objs.size=none:=Bk (jP _)
 have lP:s.heap.objs.size≠PT:=λz=>by rw[<-z,new0] at hP;exact B6 hP
 refine Jc (s₀:=s) (O:=[]) (args:=⟨[v],[]⟩) (vs:=[v]) (gb pm cd doc .none .none) h1 h2 (YD K G).T.gl.nolimit h3 room (λ_ _ e=>e) ⟨uI,λp hp=>(nomatch hp)⟩ (λ_ _ e=>e) (λp hp=>(nomatch hp))
  (.of_eq (aW _ _ _ v)) rfl (avs:=[.py (Cr script)]) ⟨rv,trivial⟩ (λN rm s1 E' t k1=>?_)
 have ed:Am (stm 50)=(Am (stm 50)).take 7++(Am (stm 50)).drop 7:=(pP 7 _).symm
 rw[ed]
 obtain⟨sh1,sh2⟩:=Rt okL okR
 refine N4 t (YB (YD K G) (λ_ _ e=>e) script hs 10 (jP _) okL okR (OM okL) (OM okR) sh1 sh2 N (rm.le (by rwa[]))) ?_
 rintro O1 σ' s2 fx t2 rfl
 have hP2:s2.heap.get? PT=some (qk #[]):=t2.keep _ _ hP
 have hO1:¬O1.has PT:=λh=>by
  rcases fx.own PT h with⟨p,hp,e⟩|z
  ·obtain rfl:=jJ.mp hp
   exact lP e
  ·exact B0 z (Aw k1 _ _ hP)
 generalize hL:(Bs script).1=L at *
 generalize hR:(Bs script).2=R at *
 have lens:∀l,l∈AA L\/l∈AA R->l.length<=30:=λl h=>h.elim (λh=>(Ru okL l h).1) λh=>(Ru okR l h).1
 have opE:∀(k:Nat) (l r:jZ),(AA L)[k]?=some l->(AA R)[k]?=some r->Gz ((AA L).getD k "") ((AA R).getD k "") (DN k)=Gz l r (DN k):=λk l r e1 e2=>by
  rw[mW,mW,e1,e2];rfl
 have fl:=λk=>Wr (Gg (Bp ((AA L).getD k "") (DN k)) (Bp ((AA R).getD k "") (DN k)))
 obtain⟨sd,ed⟩:=HY (n:=3) (d:=.list [.list ((Gz ((AA L).getD 0 "") ((AA R).getD 0 "") (DN 0)).map Da),.list ((Gz ((AA L).getD 1 "") ((AA R).getD 1 "") (DN 1)).map Da),.list ((Gz ((AA L).getD 2 "") ((AA R).getD 2 "") (DN 2)).map Da)]) (by decide) (by
  show(List.all _ (DT 2))=true
  simp only[lE,vp,oI,kL]
  exact⟨fl 0,fl 1,fl 2⟩)
 refine YC (YD K G) (λ_ _ e=>e) ((YD K G).hide hP) (λ_ _ e=>e) (YF K G) script L R (λk=>Gz ((AA L).getD k "") ((AA R).getD k "") (DN k)) lens (λk l r st e1 e2 e3=>?_) (λk l r st e1 e2 e3=>?_) sd ed N (rm.le (by rwa[])) (λ⟨p,hp,_⟩=>nomatch hp) (Ag _ hP) t2
  ⟨#[],hP2,trivial,.inl rfl⟩ hO1 λs' al kp hP'=>?_
 ·obtain⟨h4,h5⟩:=TO e3
  obtain rfl:st=DN k:=by rwa[h4]
  have l1:=lens l (.inl (kx e1))
  have l2:=lens r (.inr (kx e2))
  have:=XS l r h5 (by rwa[l1]) (by rwa[l2])
  rw[<-opE k l r e1 e2] at this
  exact this
 ·obtain⟨h4,h5⟩:=TO e3
  subst h4
  have l1:=lens l (.inl (kx e1))
  have l2:=lens r (.inr (kx e2))
  have:=X8 (w:=w) K (ej K G) (K.mg G.g "Match" (by kernel_rfl)) (K.mg G.g "SequenceMatcher" (by kernel_rfl)) (eJ K) l r (DN k) (by rcases h5 with h|h<;>rwa[h]) (by rcases h5 with h|h<;>rwa[h]) (by rwa[l1]) (by rwa[l2])
  show Fn pw w s.heap 11 (.ref 394) [] _ [] (.py (.list ((Gz ((AA L).getD k "") ((AA R).getD k "") (DN k)).map Da)))
  rw[opE k l r e1 e2]
  exact this
 ·exact q s' ((Bc k1).tr (fx.alike.tr al)) (λb o hb e=>kp b o hb (t2.keep b o e)) hP'
section
set_option tactic.hygienic true
theorem YZ{w:jY}{h:j6}(K:Bn w h):CodeHd h CT PT:=
 ⟨Du w.params,_,"/claim/cut.py",827,3,0,true,181,0,K.get 388 (by kernel_rfl),by kernel_rfl,by unfold Du;rfl,by kernel_rfl,by kernel_rfl,by kernel_rfl,by kernel_rfl,by kernel_rfl,by kernel_rfl,by decide⟩
theorem fQ:pq.Holds:=by
 refine gR λd kwd hd=>?_
 intro w s₀ xL mg mb G Y a o pm cd doc dV kV ho hdd hcd hD hmg hg args vals as hpre hlay hrd hwl hlo
 have K:Bn w xL.heap:=⟨Y⟩
 have T:=G.T
 have gl:Gl mg mb xL.heap:=⟨T.g,T.b,T.builtins,T.nolimit⟩
 obtain rfl:a=399:=by
  have e:=defOf_name hd
  rw[e,K.mg T.g _ (r:=some (.ref 399)) (by kernel_rfl)] at hmg
  cases hmg;rfl
 clear ho hdd hcd hD hmg
 wrow_args hpre hlay hrd hwl hlo
 rename_i script _ _ _ _ _ _ _ l lv _ hl ra _ r0 hI _ hlen _
 have r0:Ak xL.heap (.ref l) (Cr script) (l::[]):=by
  refine Bu hl λo ho hc zr0=>AR zr0 λn hd=>?_
  exact .list ho hc hd (QY hI)
 have hP:xL.heap.get? PT=some (qk #[]):=ZY K
 refine YA (A:=callerA) (script:=script) (by rwa[hlen]) K gl ⟨rfl,by decide,by decide⟩ (Ac _ r0 λa _ hh=>(by obtain⟨p,hp,_⟩:=hh;cases hp)) λs' al kp hP'=>?_
 refine B1 al λh' tk zz1=>?_;obtain rfl:=zz1
 obtain⟨ps,hP'⟩:=hP'
 have C:=YZ K
 have C':CodeHd h' CT PT:=by
  obtain⟨o,vs,file,tf,flags,tg,inF,text,tt,e,r⟩:=C
  exact⟨o,vs,file,tf,flags,tg,inF,text,tt,kp _ _ (by decide) e,r⟩
 have old:OldK xL.heap h':=(OldK.refl xL.heap).step_table (C.tab hP) (C.tab hP) (more:=ps) (C'.tab (by rw[wg];exact hP')) (λb o hb e=>kp b o hb e) (by decide)
 refine⟨.inl (KB (.bool true) (.bool true) [] rfl ?_ (.bool true) ?_ ?_),old,rfl,.of_eq hg⟩
 ·intro cls;rfl
 ·wrow_post
 ·intro _;exact⟨uI,λa h=>(nomatch h)⟩
end
end Mine
end
theorem PySem.Challenge.cw_rt0115_01_holds : PySem.Challenge.rw_rt0115_01.Holds :=
  Mine.fQ
